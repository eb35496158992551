import JvmDerived
import JvmDerived.Pilot.@@N@@Statement
import JvmDerived.Pilot.@@N@@Code
set_option linter.unusedVariables false
set_option linter.unusedSimpArgs false
namespace Jvm.RoadKit
open Sem ClassFile Op Lib Jvm.Stand Jvm.Free Jvm.LawKit
section Own
variable {p : Program} {l : Launch} {e : Env} {R : Room} {s : State} {m : MethodId} {args : Array Value} {below : List Frame} {meth : Method} {c : Code} {T : State} {locs : List Loc} {cells slots : Nat} {Z : State} {h h' : Heap} {a b : Addr}
/-- from the state U the method runs to its end, and what it leaves is as G says -/
def own_Go (p : Program) (e : Env) (below : List Frame) (G : Outcome → State → Prop) (U : State) : Prop := ∃ s₂ o, Steps p.tables e below U s₂ ∧ s₂.status = .running ∧ Ended s₂ below o ∧ G o s₂
def own_G (s : State) (Q : Option Value → Heap → List Loc → Prop) (C N : Nat) : Outcome → State → Prop := fun o U' => ∃ v L, o = .returned v ∧ Q v U'.heap L ∧ FrameEnd s o U' L C N
theorem own_st {G : Outcome → State → Prop} {U V : State} (hs : ∀ t, Steps p.tables e below V t → Steps p.tables e below U t) (k : own_Go p e below G V) : own_Go p e below G U := by
  obtain ⟨s₂, o, h1, h2⟩ := k
  exact ⟨s₂, o, hs _ h1, h2⟩
theorem own_retI (X : Stand p l e R s m args below meth c T locs cells slots) (hx : p.tables.exec = Jvm.exec) (hlocks : meth.locks = false) {pc : Nat} {Ls : Array Slot} {z : Int32} {rest : List Value} (hret : meth.sig.returnType = some .int) (hd : decode c.code pc = .ok (.ireturn, 1)) {Q : Option Value → Heap → List Loc → Prop} {C N : Nat}
    (hQ : Q (some (.int z)) T.heap locs) (hC : cells ≤ C) (hN : slots ≤ N) : own_Go p e below (own_G s Q C N) (T.setTop (mkF m pc Ls (.int z :: rest))) := by
  obtain ⟨fs, hr, hrun, hended, hW, hsame⟩ := X.leave (v := some (.int z)) (fun h => by rw [hret] at h; cases h)
  refine ⟨_, _, ?_, hrun, hended, _, _, rfl, hQ, ⟨_, rfl⟩, hW, hsame.mono hC hN⟩
  have hm' : T.vm.method? m = some meth := X.method'
  have hn : narrow .int (.int z) = .int z := rfl
  show Steps p.tables e below (T.setTop { method := m, pc := pc, locals := Ls, stack := _ :: rest, locked := none }) _
  jvm_step X.here [X.here.top, hx, hd, hm', hret, hn]
  first | (intro acts; rw [hr _ acts rfl rfl rfl]) | rw [hr _ _ rfl rfl rfl]
  exact Steps.refl _
theorem own_retN (X : Stand p l e R s m args below meth c T locs cells slots) (hx : p.tables.exec = Jvm.exec) (hlocks : meth.locks = false) {pc : Nat} {Ls : Array Slot} {z z' : Int32} {t : FieldType} {rest : List Value} (hret : meth.sig.returnType = some t) (ht : t = .boolean ∨ t = .byte ∨ t = .char ∨ t = .short) (hz : nar t z = z') (hd : decode c.code pc = .ok (.ireturn, 1)) {Q : Option Value → Heap → List Loc → Prop} {C N : Nat}
    (hQ : Q (some (.int z')) T.heap locs) (hC : cells ≤ C) (hN : slots ≤ N) : own_Go p e below (own_G s Q C N) (T.setTop (mkF m pc Ls (.int z :: rest))) := by
  subst hz
  obtain ⟨fs, hr, hrun, hended, hW, hsame⟩ := X.leave (v := some (.int (nar t z))) (fun h => by rw [hret] at h; cases h)
  exact ⟨_, _, retN X hx hret ht hd hr, hrun, hended, _, _, rfl, hQ, ⟨_, rfl⟩, hW, hsame.mono hC hN⟩
theorem own_retJ (X : Stand p l e R s m args below meth c T locs cells slots) (hx : p.tables.exec = Jvm.exec) (hlocks : meth.locks = false) {pc : Nat} {Ls : Array Slot} {z : Int64} (hret : meth.sig.returnType = some .long) (hd : decode c.code pc = .ok (.lreturn, 1)) {Q : Option Value → Heap → List Loc → Prop} {C N : Nat}
    (hQ : Q (some (.long z)) T.heap locs) (hC : cells ≤ C) (hN : slots ≤ N) : own_Go p e below (own_G s Q C N) (T.setTop (mkF m pc Ls [.long z])) := by
  obtain ⟨fs, hr, hrun, hended, hW, hsame⟩ := X.leave (v := some (.long z)) (fun h => by rw [hret] at h; cases h)
  exact ⟨_, _, X.lreturnOut hx hret hd hr, hrun, hended, _, _, rfl, hQ, ⟨_, rfl⟩, hW, hsame.mono hC hN⟩
theorem own_ret0 (X : Stand p l e R s m args below meth c T locs cells slots) (hx : p.tables.exec = Jvm.exec) (hlocks : meth.locks = false) {pc : Nat} {Ls : Array Slot} (hret : meth.sig.returnType = none) (hd : decode c.code pc = .ok (.return_, 1)) {Q : Option Value → Heap → List Loc → Prop} {C N : Nat}
    (hQ : Q none T.heap locs) (hC : cells ≤ C) (hN : slots ≤ N) : own_Go p e below (own_G s Q C N) (T.setTop (mkF m pc Ls [])) := by
  obtain ⟨fs, hr, hrun, hended, hW, hsame⟩ := X.leave (v := none) (fun _ => rfl)
  exact ⟨_, _, X.returnOut hx hret hd hr, hrun, hended, _, _, rfl, hQ, ⟨_, rfl⟩, hW, hsame.mono hC hN⟩
theorem own_cast {locs' : List Loc} {cells' slots' : Nat} (X : Stand p l e R s m args below meth c T locs cells slots) (e1 : locs = locs') (e2 : cells = cells') (e3 : slots = slots') : Stand p l e R s m args below meth c T locs' cells' slots' := by
  subst e1 e2 e3; exact X
theorem own_z0 {i j : Nat} (q : i = 0) : i ≤ j := q ▸ Nat.zero_le j
/-! arrays of ints (or bytes), of longs: their length and their elements by a plain function -/
def own_Ai (Z : State) (h : Heap) (a : Addr) (ty : FieldType) (n : Nat) (f : Nat → Int32) : Prop := ∃ c : Cell, Arr Z h a c ty ∧ c.slots.size = n ∧ ∀ i, i < n → c.slots[i]? = some (.int (f i))
def own_Aj (Z : State) (h : Heap) (a : Addr) (ty : FieldType) (n : Nat) (f : Nat → Int64) : Prop := ∃ c : Cell, Arr Z h a c ty ∧ c.slots.size = n ∧ ∀ i, i < n → c.slots[i]? = some (.long (f i))
def own_up (f : Nat → Int32) (k : Nat) (x : Int32) : Nat → Int32 := fun i => if i = k then x else f i
def own_upJ (f : Nat → Int64) (k : Nat) (x : Int64) : Nat → Int64 := fun i => if i = k then x else f i
theorem own_up_at (f : Nat → Int32) (k : Nat) (x : Int32) (i : Nat) : own_up f k x i = if i = k then x else f i := rfl
theorem own_upJ_at (f : Nat → Int64) (k : Nat) (x : Int64) (i : Nat) : own_upJ f k x i = if i = k then x else f i := rfl
variable {ty : FieldType} {n : Nat} {f : Nat → Int32} {fj : Nat → Int64} {ws : List Addr} {sl : Nat} {v : Value}
theorem own_Ai.lt (F : own_Ai Z h a ty n f) : a < h.size := by obtain ⟨c, A, -⟩ := F; exact A.lt
theorem own_Aj.lt (F : own_Aj Z h a ty n fj) : a < h.size := by obtain ⟨c, A, -⟩ := F; exact A.lt
theorem own_Ai.ext (F : own_Ai Z h a ty n f) (E : Ext h h') : own_Ai Z h' a ty n f := by obtain ⟨c, A, r⟩ := F; exact ⟨c, A.ext E, r⟩
theorem own_Aj.ext (F : own_Aj Z h a ty n fj) (E : Ext h h') : own_Aj Z h' a ty n fj := by obtain ⟨c, A, r⟩ := F; exact ⟨c, A.ext E, r⟩
theorem own_Ai.other (F : own_Ai Z h b ty n f) (W : Wr h h' a sl v) (q : b ≠ a) : own_Ai Z h' b ty n f := by obtain ⟨c, A, r⟩ := F; exact ⟨c, A.other W q, r⟩
theorem own_Aj.other (F : own_Aj Z h b ty n fj) (W : Wr h h' a sl v) (q : b ≠ a) : own_Aj Z h' b ty n fj := by obtain ⟨c, A, r⟩ := F; exact ⟨c, A.other W q, r⟩
theorem own_Ai.keep (F : own_Ai Z h a ty n f) (K : Keep h h' ws) (q : a ∉ ws) : own_Ai Z h' a ty n f := by obtain ⟨c, A, r⟩ := F; exact ⟨c, ⟨K.2.1 a c A.1 q, A.2⟩, r⟩
theorem own_Aj.keep (F : own_Aj Z h a ty n fj) (K : Keep h h' ws) (q : a ∉ ws) : own_Aj Z h' a ty n fj := by obtain ⟨c, A, r⟩ := F; exact ⟨c, ⟨K.2.1 a c A.1 q, A.2⟩, r⟩
theorem own_Ai.neq {a0 : Array Value} {k : Nat} {C : String} (F : own_Ai Z h b ty n f) (E : Exa Z h a C) (wi : (Cond.instantiable C k).before a0 Z = true) : a ≠ b := by obtain ⟨c, A, -⟩ := F; exact ne_arr E wi A
theorem own_Aj.neq {a0 : Array Value} {k : Nat} {C : String} (F : own_Aj Z h b ty n fj) (E : Exa Z h a C) (wi : (Cond.instantiable C k).before a0 Z = true) : a ≠ b := by obtain ⟨c, A, -⟩ := F; exact ne_arr E wi A
theorem own_nat {j : Int32} {k : Nat} (hj : j.toInt = k) : j.toNatClampNeg = k := by simp only [Int32.toNatClampNeg, hj]; rfl
theorem own_in {j : Int32} {k n : Nat} (hj : j.toInt = k) (hk : k < n) : ¬ (j < 0 ∨ n ≤ j.toNatClampNeg) := by
  rw [own_nat hj, Int32.lt_iff_toInt_lt, hj, show (0 : Int32).toInt = 0 from rfl]; omega
theorem own_len {z : Int32} (hz : z.toInt = n) : n.toInt32 = z := by
  have := Int32.toInt_lt z
  exact Int32.toInt_inj.mp (by rw [Int32.toInt_ofNat_small (by omega), hz])
theorem own_iaload (X : Stand p l e R s m args below meth c T locs cells slots) (hx : p.tables.exec = Jvm.exec) (hZ : Z.Warmed39 s.vm) (eT : T.heap = h) (A : own_Ai Z h a .int n f) {j : Int32} {k : Nat} (hj : j.toInt = k) (hk : k < n) {g : JFrame} (hg : g.method = m) {rest : List Value} (hs : g.stack = .int j :: .ref a :: rest) (hd : decode c.code g.pc = .ok (.iaload, 1)) {target : State}
    (hr : Steps p.tables e below (T.setTop { g with pc := g.pc + 1, stack := .int (f k) :: rest }) target) : Steps p.tables e below (T.setTop g) target := by
  obtain ⟨cl, A, S, H⟩ := A
  exact X.iaload hx (j := j) (v := .int (f k)) (by rw [eT]; exact A.1) (State.isArrayOf_alike hZ.alike A.2.1) A.2.2 (by rw [S]; exact own_in hj hk) (by rw [own_nat hj]; exact H k hk) hg hs hd _ hr
theorem own_baload (X : Stand p l e R s m args below meth c T locs cells slots) (hx : p.tables.exec = Jvm.exec) (hZ : Z.Warmed39 s.vm) (eT : T.heap = h) (A : own_Ai Z h a .byte n f) {j : Int32} {k : Nat} (hj : j.toInt = k) (hk : k < n) {g : JFrame} (hg : g.method = m) {rest : List Value} (hs : g.stack = .int j :: .ref a :: rest) (hd : decode c.code g.pc = .ok (.baload, 1)) {target : State}
    (hr : Steps p.tables e below (T.setTop { g with pc := g.pc + 1, stack := .int (f k) :: rest }) target) : Steps p.tables e below (T.setTop g) target := by
  obtain ⟨cl, A, S, H⟩ := A
  exact X.baloadBytes hx (j := j) (v := .int (f k)) (by rw [eT]; exact A.1) (State.isArrayOf_alike hZ.alike A.2.1) A.2.2 (by rw [S]; exact own_in hj hk) (by rw [own_nat hj]; exact H k hk) hg hs hd _ hr
theorem own_laload (X : Stand p l e R s m args below meth c T locs cells slots) (hx : p.tables.exec = Jvm.exec) (hZ : Z.Warmed39 s.vm) (eT : T.heap = h) (A : own_Aj Z h a .long n fj) {j : Int32} {k : Nat} (hj : j.toInt = k) (hk : k < n) {g : JFrame} (hg : g.method = m) {rest : List Value} (hs : g.stack = .int j :: .ref a :: rest) (hd : decode c.code g.pc = .ok (.laload, 1)) {target : State}
    (hr : Steps p.tables e below (T.setTop { g with pc := g.pc + 1, stack := .long (fj k) :: rest }) target) : Steps p.tables e below (T.setTop g) target := by
  obtain ⟨cl, A, S, H⟩ := A
  exact X.laload hx (j := j) (v := .long (fj k)) (by rw [eT]; exact A.1) (State.isArrayOf_alike hZ.alike A.2.1) A.2.2 (by rw [S]; exact own_in hj hk) (by rw [own_nat hj]; exact H k hk) hg hs hd _ hr
theorem own_alen (X : Stand p l e R s m args below meth c T locs cells slots) (hx : p.tables.exec = Jvm.exec) (hZ : Z.Warmed39 s.vm) (eT : T.heap = h) (A : own_Ai Z h a ty n f) {z : Int32} (hz : z.toInt = n) {g : JFrame} (hg : g.method = m) {rest : List Value} (hs : g.stack = .ref a :: rest) (hd : decode c.code g.pc = .ok (.arraylength, 1)) {target : State}
    (hr : Steps p.tables e below (T.setTop { g with pc := g.pc + 1, stack := .int z :: rest }) target) : Steps p.tables e below (T.setTop g) target := by
  obtain ⟨cl, A, S, H⟩ := A
  refine X.arraylength hx (by rw [eT]; exact A.1) (State.isArrayOf_alike hZ.alike A.2.1) hg hs hd _ ?_
  rw [S, own_len hz]; exact hr
theorem own_Ai.set (F : own_Ai Z h a ty n f) {j : Nat} {x : Int32} (W : Wr h h' a j (.int x)) : own_Ai Z h' a ty n (own_up f j x) := by
  obtain ⟨cl, A, S, H⟩ := F
  refine ⟨_, A.same W, by rw [sz_set]; exact S, fun i hi => ?_⟩
  rw [own_up_at]
  by_cases q : i = j
  · subst q
    rw [if_pos rfl]
    simp [Cell.setSlot, S, hi]
  · rw [if_neg q, show (cl.setSlot j (.int x)).slots[i]? = cl.slots[i]? from Array.getElem?_setIfInBounds_ne (Ne.symm q)]
    exact H i hi
theorem own_Aj.set (F : own_Aj Z h a ty n fj) {j : Nat} {x : Int64} (W : Wr h h' a j (.long x)) : own_Aj Z h' a ty n (own_upJ fj j x) := by
  obtain ⟨cl, A, S, H⟩ := F
  refine ⟨_, A.same W, by rw [sz_set]; exact S, fun i hi => ?_⟩
  rw [own_upJ_at]
  by_cases q : i = j
  · subst q
    rw [if_pos rfl]
    simp [Cell.setSlot, S, hi]
  · rw [if_neg q, show (cl.setSlot j (.long x)).slots[i]? = cl.slots[i]? from Array.getElem?_setIfInBounds_ne (Ne.symm q)]
    exact H i hi
theorem own_iastore (X : Stand p l e R s m args below meth c T locs cells slots) (hx : p.tables.exec = Jvm.exec) (hZ : Z.Warmed39 s.vm) (eT : T.heap = h) (A : own_Ai Z h a .int n f) {j x : Int32} {k : Nat} (hj : j.toInt = k) (hk : k < n) {g : JFrame} (hg : g.method = m) {rest : List Value} (hs : g.stack = .int x :: .int j :: .ref a :: rest) (hd : decode c.code g.pc = .ok (.iastore, 1)) :
    ∃ T' h', Stand p l e R s m args below meth c T' (locs ++ [⟨a, k⟩]) cells slots ∧ T'.heap = h' ∧ Wr h h' a k (.int x) ∧ own_Ai Z h' a .int n (own_up f k x) ∧ ∀ target, Steps p.tables e below (T'.setTop { g with pc := g.pc + 1, stack := rest }) target → Steps p.tables e below (T.setTop g) target := by
  obtain ⟨cl, B, S, H⟩ := id A
  obtain ⟨T', h', X', e', W, st⟩ := stI X hx hZ eT B (j := j) (x := x) (by rw [S]; exact own_in hj hk) hg hs hd
  rw [own_nat hj] at X' W
  exact ⟨T', h', X', e', W, A.set W, st⟩
theorem own_bastore (X : Stand p l e R s m args below meth c T locs cells slots) (hx : p.tables.exec = Jvm.exec) (hZ : Z.Warmed39 s.vm) (eT : T.heap = h) (A : own_Ai Z h a .byte n f) {j x : Int32} {k : Nat} (hj : j.toInt = k) (hk : k < n) {g : JFrame} (hg : g.method = m) {rest : List Value} (hs : g.stack = .int x :: .int j :: .ref a :: rest) (hd : decode c.code g.pc = .ok (.bastore, 1)) :
    ∃ T' h', Stand p l e R s m args below meth c T' (locs ++ [⟨a, k⟩]) cells slots ∧ T'.heap = h' ∧ Wr h h' a k (.int x.toInt8.toInt32) ∧ own_Ai Z h' a .byte n (own_up f k x.toInt8.toInt32) ∧ ∀ target, Steps p.tables e below (T'.setTop { g with pc := g.pc + 1, stack := rest }) target → Steps p.tables e below (T.setTop g) target := by
  obtain ⟨cl, B, S, H⟩ := id A
  obtain ⟨T', h', X', e', W, st⟩ := stB X hx hZ eT B (j := j) (x := x) (by rw [S]; exact own_in hj hk) hg hs hd
  rw [own_nat hj] at X' W
  exact ⟨T', h', X', e', W, A.set W, st⟩
theorem own_lastore (X : Stand p l e R s m args below meth c T locs cells slots) (hx : p.tables.exec = Jvm.exec) (hZ : Z.Warmed39 s.vm) (eT : T.heap = h) (A : own_Aj Z h a .long n fj) {j : Int32} {x : Int64} {k : Nat} (hj : j.toInt = k) (hk : k < n) {g : JFrame} (hg : g.method = m) {rest : List Value} (hs : g.stack = .long x :: .int j :: .ref a :: rest) (hd : decode c.code g.pc = .ok (.lastore, 1)) :
    ∃ T' h', Stand p l e R s m args below meth c T' (locs ++ [⟨a, k⟩]) cells slots ∧ T'.heap = h' ∧ Wr h h' a k (.long x) ∧ own_Aj Z h' a .long n (own_upJ fj k x) ∧ ∀ target, Steps p.tables e below (T'.setTop { g with pc := g.pc + 1, stack := rest }) target → Steps p.tables e below (T.setTop g) target := by
  obtain ⟨cl, B, S, H⟩ := id A
  obtain ⟨T', h', X', e', W, st⟩ := stJ X hx hZ eT B (j := j) (x := x) (by rw [S]; exact own_in hj hk) hg hs hd
  rw [own_nat hj] at X' W
  exact ⟨T', h', X', e', W, A.set W, st⟩
theorem own_newarr (X : Stand p l e R s m args below meth c T locs cells slots) (hx : p.tables.exec = Jvm.exec) (hZ : Z.Warmed39 s.vm) {a0 : Array Value} {aty : ArrayType} (w : (Cond.arrayClass (newarray.typeOf aty)).before a0 Z = true) (eT : T.heap = h) {g : JFrame} (hg : g.method = m) (hd : decode c.code g.pc = .ok (.newarray aty, 2)) {z : Int32} {rest : List Value} (hs : g.stack = .int z :: rest) {k : Nat}
    (hz : z.toInt = k) {cap : Nat} (hcap : k ≤ cap) (hb : cap * 8 ≤ 536870912) (hc : cells + 1 ≤ R.cells) (hl : slots + cap ≤ R.slots) :
    ∃ T' h' cl, Stand p l e R s m args below meth c T' locs (cells + 1) (slots + cap) ∧ T'.heap = h' ∧ Ext h h' ∧ (Arr Z h' h.size cl (newarray.typeOf aty) ∧ cl.slots = Array.replicate k (defaultValue (newarray.typeOf aty))) ∧
      ∀ target, Steps p.tables e below (T'.setTop { g with pc := g.pc + 2, stack := .ref h.size :: rest }) target → Steps p.tables e below (T.setTop g) target := by
  have hn : ¬ z < 0 := by rw [Int32.lt_iff_toInt_lt, hz, show (0 : Int32).toInt = 0 from rfl]; omega
  obtain ⟨T', h', cA, X', e', E, A, st⟩ := newP X hx hZ w eT hg hd hs hn (by rw [own_nat hz]; exact hcap) hb hc hl
  exact ⟨T', h', _, X', e', E, ⟨A, by simp [newA, own_nat hz]⟩, st⟩
theorem own_Ai.new {cl : Cell} {k : Nat} (A : Arr Z h a cl ty ∧ cl.slots = Array.replicate k (.int 0)) : own_Ai Z h a ty k (fun _ => 0) :=
  ⟨cl, A.1, by rw [A.2]; simp, fun i hi => by rw [A.2]; simp [hi]⟩
theorem own_Aj.new {cl : Cell} {k : Nat} (A : Arr Z h a cl ty ∧ cl.slots = Array.replicate k (.long 0)) : own_Aj Z h a ty k (fun _ => 0) :=
  ⟨cl, A.1, by rw [A.2]; simp, fun i hi => by rw [A.2]; simp [hi]⟩
theorem own_l_lt (x y : Int64) {b : Bool} (h : if_icmp.holds .lt (lcmpW x y) 0 = b) : ifCond.holds .lt (lcmpW x y) = b := (if0 _ _).trans h
end Own
end Jvm.RoadKit
namespace Jvm.Pilot.@@N@@
open Jvm Jvm.ClassFile Sem Op Lib Jvm.Free Jvm.Stand Jvm.LawKit Jvm.RoadKit Bundle Jvm.Pilot.@@N@@.Jvm.D
def own_Gb (b : Int32) : Nat → Int32 := (own_up (own_up (own_up (own_up (own_up (own_up (own_up (own_up (own_up (fun _ => 0) 0 b.toInt8.toInt32) 1 b.toInt8.toInt32) 2 b.toInt8.toInt32) 3 b.toInt8.toInt32) 4 b.toInt8.toInt32) 5 b.toInt8.toInt32) 6 b.toInt8.toInt32) 7 b.toInt8.toInt32) 8 b.toInt8.toInt32)
def own_W (nb : Int64) (ff : Nat → Int32) : Nat → Int32 := (own_up (own_up (own_up (own_up (own_up (own_up (own_up ff 0 ((48 + (((nb / (12 : Int64)).toInt32) / 1000)).toInt8.toInt32).toInt8.toInt32) 1 ((48 + ((((nb / (12 : Int64)).toInt32) / 100) % 10)).toInt8.toInt32).toInt8.toInt32) 2 ((48 + ((((nb / (12 : Int64)).toInt32) / 10) % 10)).toInt8.toInt32).toInt8.toInt32) 3 ((48 + (((nb / (12 : Int64)).toInt32) % 10)).toInt8.toInt32).toInt8.toInt32) 4 ((45 : Int32).toInt8.toInt32)) 5 ((48 + ((((nb - (nb / (12 : Int64)) * (12 : Int64)).toInt32) + (1 : Int32)) / 10)).toInt8.toInt32).toInt8.toInt32) 6 ((48 + ((((nb - (nb / (12 : Int64)) * (12 : Int64)).toInt32) + (1 : Int32)) % 10)).toInt8.toInt32).toInt8.toInt32)
def own_dg (v : Int32) : Int32 := if v < 48 then 0 else if 57 < v then 0 else 1
theorem own_b8 (z : Int32) (h1 : -128 ≤ z.toInt) (h2 : z.toInt < 128) : z.toInt8.toInt32 = z := by
  have q := c_i2b z
  exact Int32.toInt_inj.mp (by omega)
theorem own_Gk (b : Int32) (h : b.toInt8.toInt32 = b) (k : Nat) (hk : k < 9) : own_Gb b k = b := by
  unfold own_Gb; rw [h]; simp only [own_up]
  have : k = 0 ∨ k = 1 ∨ k = 2 ∨ k = 3 ∨ k = 4 ∨ k = 5 ∨ k = 6 ∨ k = 7 ∨ k = 8 := by omega
  rcases this with h | h | h | h | h | h | h | h | h <;> subst h <;> rfl
theorem own_yr (nb : Int64) (h0 : 0 ≤ nb.toInt) (h1 : nb.toInt < 120000) : ((nb / (12 : Int64)).toInt32).toInt = nb.toInt / 12 := by
  have q1 := (c_ldiv nb 12 12 (by decide) (by decide)).1 h0
  have q2 := c_l2i (nb / 12)
  have q3 := rng32 ((nb / 12).toInt32)
  rw [q1] at q2
  omega
theorem own_mo (nb : Int64) (h0 : 0 ≤ nb.toInt) (h1 : nb.toInt < 120000) : (((nb - (nb / (12 : Int64)) * (12 : Int64)).toInt32) + (1 : Int32)).toInt = nb.toInt % 12 + 1 := by
  have q1 := (c_lrem nb 12 12 (by decide)).1 h0
  have q2 := c_l2i (nb - (nb / 12) * 12)
  have q3 := rng32 ((nb - (nb / 12) * 12).toInt32)
  rw [q1] at q2
  have q4 := c_iadd ((nb - (nb / 12) * 12).toInt32) 1
  have q5 := rng32 (((nb - (nb / 12) * 12).toInt32) + 1)
  have e1 : (1 : Int32).toInt = 1 := by decide
  rw [e1] at q4
  omega
theorem own_d48 (v : Int32) (h0 : 0 ≤ v.toInt) (h1 : v.toInt < 10) : (((48 + v).toInt8.toInt32).toInt8.toInt32).toInt = 48 + v.toInt := by
  have e : (48 : Int32).toInt = 48 := by decide
  have q := c_iadd 48 v
  have r := rng32 (48 + v)
  rw [e] at q
  have h : (48 + v).toInt = 48 + v.toInt := by omega
  rw [own_b8 (48 + v) (by omega) (by omega), own_b8 (48 + v) (by omega) (by omega), h]
theorem own_W0 (nb : Int64) (ff : Nat → Int32) (h0 : 0 ≤ nb.toInt) (h1 : nb.toInt < 120000) : (own_W nb ff 0).toInt = 48 + nb.toInt / 12 / 1000 := by
  have y := own_yr nb h0 h1
  have q := (c_idiv ((nb / (12 : Int64)).toInt32) 1000 1000 (by decide) (by decide)).1 (by omega)
  rw [y] at q
  exact (own_d48 (((nb / (12 : Int64)).toInt32) / 1000) (by omega) (by omega)).trans (by rw [q])
theorem own_W1 (nb : Int64) (ff : Nat → Int32) (h0 : 0 ≤ nb.toInt) (h1 : nb.toInt < 120000) : (own_W nb ff 1).toInt = 48 + nb.toInt / 12 / 100 % 10 := by
  have y := own_yr nb h0 h1
  have q0 := (c_idiv ((nb / (12 : Int64)).toInt32) 100 100 (by decide) (by decide)).1 (by omega)
  have q := (c_irem (((nb / (12 : Int64)).toInt32) / 100) 10 10 (by decide)).1 (by omega)
  rw [q0] at q
  rw [y] at q
  exact (own_d48 ((((nb / (12 : Int64)).toInt32) / 100) % 10) (by omega) (by omega)).trans (by rw [q])
theorem own_W2 (nb : Int64) (ff : Nat → Int32) (h0 : 0 ≤ nb.toInt) (h1 : nb.toInt < 120000) : (own_W nb ff 2).toInt = 48 + nb.toInt / 12 / 10 % 10 := by
  have y := own_yr nb h0 h1
  have q0 := (c_idiv ((nb / (12 : Int64)).toInt32) 10 10 (by decide) (by decide)).1 (by omega)
  have q := (c_irem (((nb / (12 : Int64)).toInt32) / 10) 10 10 (by decide)).1 (by omega)
  rw [q0] at q
  rw [y] at q
  exact (own_d48 ((((nb / (12 : Int64)).toInt32) / 10) % 10) (by omega) (by omega)).trans (by rw [q])
theorem own_W3 (nb : Int64) (ff : Nat → Int32) (h0 : 0 ≤ nb.toInt) (h1 : nb.toInt < 120000) : (own_W nb ff 3).toInt = 48 + nb.toInt / 12 % 10 := by
  have y := own_yr nb h0 h1
  have q := (c_irem ((nb / (12 : Int64)).toInt32) 10 10 (by decide)).1 (by omega)
  rw [y] at q
  exact (own_d48 (((nb / (12 : Int64)).toInt32) % 10) (by omega) (by omega)).trans (by rw [q])
theorem own_W5 (nb : Int64) (ff : Nat → Int32) (h0 : 0 ≤ nb.toInt) (h1 : nb.toInt < 120000) : (own_W nb ff 5).toInt = 48 + (nb.toInt % 12 + 1) / 10 := by
  have y := own_mo nb h0 h1
  have q := (c_idiv (((nb - (nb / (12 : Int64)) * (12 : Int64)).toInt32) + (1 : Int32)) 10 10 (by decide) (by decide)).1 (by omega)
  rw [y] at q
  exact (own_d48 ((((nb - (nb / (12 : Int64)) * (12 : Int64)).toInt32) + (1 : Int32)) / 10) (by omega) (by omega)).trans (by rw [q])
theorem own_W6 (nb : Int64) (ff : Nat → Int32) (h0 : 0 ≤ nb.toInt) (h1 : nb.toInt < 120000) : (own_W nb ff 6).toInt = 48 + (nb.toInt % 12 + 1) % 10 := by
  have y := own_mo nb h0 h1
  have q := (c_irem (((nb - (nb / (12 : Int64)) * (12 : Int64)).toInt32) + (1 : Int32)) 10 10 (by decide)).1 (by omega)
  rw [y] at q
  exact (own_d48 ((((nb - (nb / (12 : Int64)) * (12 : Int64)).toInt32) + (1 : Int32)) % 10) (by omega) (by omega)).trans (by rw [q])
theorem own_dg1 (v : Int32) (h0 : 48 ≤ v.toInt) (h1 : v.toInt ≤ 57) : ¬ (own_dg v = 0) := by
  have e1 : (48 : Int32).toInt = 48 := by decide
  have e2 : (57 : Int32).toInt = 57 := by decide
  unfold own_dg
  rw [if_neg (by rw [Int32.lt_iff_toInt_lt, e1]; omega), if_neg (by rw [Int32.lt_iff_toInt_lt, e2]; omega)]
  decide
theorem own_s48 (v : Int32) (d : Int) (h : v.toInt = 48 + d) (h0 : 0 ≤ d) (h1 : d < 10) : (v - 48).toInt = d := by
  have e1 : (48 : Int32).toInt = 48 := by decide
  have q := c_isub v 48
  have r := rng32 (v - 48)
  rw [e1] at q
  omega
theorem own_year (a b c d : Int32) (ha : 0 ≤ a.toInt ∧ a.toInt < 10) (hb : 0 ≤ b.toInt ∧ b.toInt < 10) (hc : 0 ≤ c.toInt ∧ c.toInt < 10) (hd : 0 ≤ d.toInt ∧ d.toInt < 10) :
    ((((a.toInt64) * (1000 : Int64)) + ((b.toInt64) * (100 : Int64))) + ((c.toInt64) * (10 : Int64)) + (d.toInt64)).toInt = a.toInt * 1000 + b.toInt * 100 + c.toInt * 10 + d.toInt := by
  have e1 : (1000 : Int64).toInt = 1000 := by decide
  have e2 : (100 : Int64).toInt = 100 := by decide
  have e3 : (10 : Int64).toInt = 10 := by decide
  have m1 := c_lmul a.toInt64 1000
  have m2 := c_lmul b.toInt64 100
  have m3 := c_lmul c.toInt64 10
  rw [c_i2l, e1] at m1
  rw [c_i2l, e2] at m2
  rw [c_i2l, e3] at m3
  have r1 := rng64 (a.toInt64 * 1000)
  have r2 := rng64 (b.toInt64 * 100)
  have r3 := rng64 (c.toInt64 * 10)
  have s1 := c_ladd (a.toInt64 * 1000) (b.toInt64 * 100)
  have s2 := c_ladd (a.toInt64 * 1000 + b.toInt64 * 100) (c.toInt64 * 10)
  have s3 := c_ladd (a.toInt64 * 1000 + b.toInt64 * 100 + c.toInt64 * 10) d.toInt64
  rw [c_i2l] at s3
  have t1 := rng64 (a.toInt64 * 1000 + b.toInt64 * 100)
  have t2 := rng64 (a.toInt64 * 1000 + b.toInt64 * 100 + c.toInt64 * 10)
  have t3 := rng64 (a.toInt64 * 1000 + b.toInt64 * 100 + c.toInt64 * 10 + d.toInt64)
  omega
theorem own_month (a b : Int32) (ha : 0 ≤ a.toInt ∧ a.toInt < 10) (hb : 0 ≤ b.toInt ∧ b.toInt < 10) : ((a * (10 : Int32)) + b).toInt = a.toInt * 10 + b.toInt := by
  have e3 : (10 : Int32).toInt = 10 := by decide
  have m1 := c_imul a 10
  rw [e3] at m1
  have r1 := rng32 (a * 10)
  have s1 := c_iadd (a * 10) b
  have t1 := rng32 (a * 10 + b)
  omega
theorem own_last (y n : Int64) (mo : Int32) (h0 : 0 ≤ n.toInt) (h1 : n.toInt < 120000) (hy : y.toInt = n.toInt / 12) (hm : mo.toInt = n.toInt % 12 + 1) : (((y * (12 : Int64)) + (mo.toInt64)) - (1 : Int64)) = n := by
  have e1 : (12 : Int64).toInt = 12 := by decide
  have e2 : (1 : Int64).toInt = 1 := by decide
  have m1 := c_lmul y 12
  rw [e1] at m1
  have r1 := rng64 (y * 12)
  have s1 := c_ladd (y * 12) mo.toInt64
  rw [c_i2l] at s1
  have r2 := rng64 (y * 12 + mo.toInt64)
  have s2 := c_lsub (y * 12 + mo.toInt64) 1
  rw [e2] at s2
  have r3 := rng64 (y * 12 + mo.toInt64 - 1)
  exact Int64.toInt_inj.mp (by omega)
theorem own_W4 (nb : Int64) (ff : Nat → Int32) : own_W nb ff 4 = 45 := by
  unfold own_W
  rw [own_up_at, if_neg (by decide), own_up_at, if_neg (by decide), own_up_at, if_pos rfl]
  decide
theorem own_W7 (nb : Int64) (ff : Nat → Int32) (k : Nat) (hk : 6 < k) : own_W nb ff k = ff k := by
  unfold own_W
  rw [own_up_at, if_neg (by omega), own_up_at, if_neg (by omega), own_up_at, if_neg (by omega), own_up_at, if_neg (by omega), own_up_at, if_neg (by omega), own_up_at, if_neg (by omega), own_up_at, if_neg (by omega)]
theorem own_dig (N : Int) : N / 12 / 1000 * 1000 + N / 12 / 100 % 10 * 100 + N / 12 / 10 % 10 * 10 + N / 12 % 10 = N / 12 := by
  generalize N / 12 = Y
  omega
theorem own_dig2 (N : Int) : (N % 12 + 1) / 10 * 10 + (N % 12 + 1) % 10 = N % 12 + 1 := by omega
theorem own_pos64 (a : Int64) : 0 ≤ (a &&& 9223372036854775807).toInt := by
  rw [c_maskL a 9223372036854775807 63 (by decide) (by decide)]; omega
theorem d2_0 : decode method_3_code 0 = .ok (.iload_n 0, 1) := by decide +kernel
theorem d2_1 : decode method_3_code 1 = .ok (.bipush 48, 2) := by decide +kernel
theorem d2_3 : decode method_3_code 3 = .ok (.if_icmp .lt 13, 3) := by decide +kernel
theorem d2_6 : decode method_3_code 6 = .ok (.iload_n 0, 1) := by decide +kernel
theorem d2_7 : decode method_3_code 7 = .ok (.bipush 57, 2) := by decide +kernel
theorem d2_9 : decode method_3_code 9 = .ok (.if_icmp .gt 7, 3) := by decide +kernel
theorem d2_12 : decode method_3_code 12 = .ok (.iconst 1, 1) := by decide +kernel
theorem d2_13 : decode method_3_code 13 = .ok (.goto 4, 3) := by decide +kernel
theorem d2_16 : decode method_3_code 16 = .ok (.iconst 0, 1) := by decide +kernel
theorem d2_17 : decode method_3_code 17 = .ok (.ireturn, 1) := by decide +kernel
theorem pn_2 : plainName "com/example/vestwright/vestwright/census/CensusValuesWriteMonthPinLaw" = true := by first | (simp [plainName, overriddenIn]; done) | decide +kernel
theorem ef_2 (m : MethodId) (x0 : Int32) : entryFrame m #[(.int x0)] 1 = mkF m 0 #[.val (.int x0)] [] := by first | (simp [entryFrame, mkF, argsToLocals, Value.category]; done) | rfl
def Q2 (Z : State) (xv : Int32) (h0 : Heap) (n0 : Nat) (v : Option Value) (h : Heap) (L : List Loc) : Prop := v = some (.int (own_dg xv)) ∧ Fr n0 L ∧ h = h0
set_option maxRecDepth 65536 in
set_option maxHeartbeats 40000000 in
theorem rm2 (l : Launch) (Z : State) (a0 : Array Value) (hw : ∀ d ∈ tables_1, d.before a0 Z = true) (ws : List Jvm.Cond) (xv : Int32) (h0 : Heap) (n0 : Nat) (Z0 : n0 ≤ h0.size) :
    MetFree l (⟨"com/example/vestwright/vestwright/census/CensusValuesWriteMonthPinLaw", "digit", "(B)Z"⟩ : MethodName) (head1 (Jvm.Cond.code (⟨"com/example/vestwright/vestwright/census/CensusValuesWriteMonthPinLaw", "digit", "(B)Z"⟩ : MethodName) method_3_code 1 (some .boolean) :: ws) ({ frames := 0, cells := 0, slots := 0, locals := 0 } : Room)) (fun a U => a = #[(.int xv)] ∧ Z.Warmed39 U.vm ∧ U.heap = h0) (fun _ _ _ _ _ => True) (fun _ U o U' => ∃ v L, o = .returned v ∧ Q2 Z xv h0 n0 v U'.heap L ∧ FrameEnd U o U' L ({ frames := 0, cells := 0, slots := 0, locals := 0 } : Room).cells ({ frames := 0, cells := 0, slots := 0, locals := 0 } : Room).slots) := by
  refine MetFree.of_bodySF (plainFor_of_name pn_2) hisR ?_
  intro p e s m args below meth c s₁ Bd hml0 hP hK
  obtain ⟨rfl, hZ, hh⟩ := hP
  have hx := Bd.exec
  have hby := Bd.bytes
  have hlk : meth.locks = false := BodyLoose.notSynchronized Bd
  have hml : c.maxLocals = 1 := hml0
  have hown : s.vm.findClass "com/example/vestwright/vestwright/census/CensusValuesWriteMonthPinLaw" = some m.cls := findClass_of_methodNamed Bd.named
  have hnm := (name_of_methodNamed Bd.named Bd.method).1
  have X0 : Stand p l e ({ frames := 0, cells := 0, slots := 0, locals := 0 } : Room) s m #[(.int xv)] below meth c s₁ [] 0 0 := Stand.of_body Bd
  have e0 : s₁.heap = h0 := by rw [← hh, Bd.state]; rfl
  have N0 := Fr.nil n0
  show own_Go p e below (own_G s (Q2 Z xv h0 n0) ({ frames := 0, cells := 0, slots := 0, locals := 0 } : Room).cells ({ frames := 0, cells := 0, slots := 0, locals := 0 } : Room).slots) (s₁.setTop (entryFrame m #[(.int xv)] 1))
  refine own_st (fun tgt k => castTop (ef_2 m xv) k) ?_
  show own_Go p e below _ (s₁.setTop (mkF m 0 #[.val (.int xv)] []))
  refine own_st (V := s₁.setTop (mkF m 3 #[.val (.int xv)] [(.int (48 : Int32)), (.int xv)])) (fun tgt k => ?_) ?_
  · show Steps p.tables e below (s₁.setTop (mkF m 0 #[.val (.int xv)] [])) tgt
    refine XS.iloadN X0.here hx rfl (hb hby d2_0) rfl ?_
    show Steps p.tables e below (s₁.setTop (mkF m 1 #[.val (.int xv)] [(.int xv)])) tgt
    refine XS.bipush X0.here hx rfl (hb hby d2_1) ?_
    exact k
  by_cases hc3 : xv < (48 : Int32)
  · skip
    refine own_st (V := s₁.setTop (mkF m 17 #[.val (.int xv)] [(.int (0 : Int32))])) (fun tgt k => ?_) ?_
    · show Steps p.tables e below (s₁.setTop (mkF m 3 #[.val (.int xv)] [(.int (48 : Int32)), (.int xv)])) tgt
      refine XS.icmpYes X0.here hx rfl (pc0 := 3) (pc' := 16) rfl (hb hby d2_3) rfl (tlt hc3).1 (by decide) (by decide) ?_
      show Steps p.tables e below (s₁.setTop (mkF m 16 #[.val (.int xv)] [])) tgt
      refine XS.iconst X0.here hx rfl (hb hby d2_16) ?_
      exact k
    refine own_retN X0 hx hlk (t := .boolean) (z' := (0 : Int32)) Bd.returns (by simp) rfl (hb hby d2_17) ?_ (by decide) (by decide)
    show Q2 Z xv h0 n0 (some (.int (0 : Int32))) s₁.heap _
    rw [e0]
    refine ⟨?_, N0, rfl⟩
    exact congrArg (fun q => some (Value.int q)) (by unfold own_dg; rw [if_pos hc3])
  · skip
    refine own_st (V := s₁.setTop (mkF m 9 #[.val (.int xv)] [(.int (57 : Int32)), (.int xv)])) (fun tgt k => ?_) ?_
    · show Steps p.tables e below (s₁.setTop (mkF m 3 #[.val (.int xv)] [(.int (48 : Int32)), (.int xv)])) tgt
      refine XS.icmpNo X0.here hx rfl (hb hby d2_3) rfl (flt hc3).1 ?_
      show Steps p.tables e below (s₁.setTop (mkF m 6 #[.val (.int xv)] [])) tgt
      refine XS.iloadN X0.here hx rfl (hb hby d2_6) rfl ?_
      show Steps p.tables e below (s₁.setTop (mkF m 7 #[.val (.int xv)] [(.int xv)])) tgt
      refine XS.bipush X0.here hx rfl (hb hby d2_7) ?_
      exact k
    by_cases hc9 : (57 : Int32) < xv
    · skip
      refine own_st (V := s₁.setTop (mkF m 17 #[.val (.int xv)] [(.int (0 : Int32))])) (fun tgt k => ?_) ?_
      · show Steps p.tables e below (s₁.setTop (mkF m 9 #[.val (.int xv)] [(.int (57 : Int32)), (.int xv)])) tgt
        refine XS.icmpYes X0.here hx rfl (pc0 := 9) (pc' := 16) rfl (hb hby d2_9) rfl (tlt hc9).2.2.1 (by decide) (by decide) ?_
        show Steps p.tables e below (s₁.setTop (mkF m 16 #[.val (.int xv)] [])) tgt
        refine XS.iconst X0.here hx rfl (hb hby d2_16) ?_
        exact k
      refine own_retN X0 hx hlk (t := .boolean) (z' := (0 : Int32)) Bd.returns (by simp) rfl (hb hby d2_17) ?_ (by decide) (by decide)
      show Q2 Z xv h0 n0 (some (.int (0 : Int32))) s₁.heap _
      rw [e0]
      refine ⟨?_, N0, rfl⟩
      exact congrArg (fun q => some (Value.int q)) (by unfold own_dg; rw [if_neg hc3, if_pos hc9])
    · skip
      refine own_st (V := s₁.setTop (mkF m 17 #[.val (.int xv)] [(.int (1 : Int32))])) (fun tgt k => ?_) ?_
      · show Steps p.tables e below (s₁.setTop (mkF m 9 #[.val (.int xv)] [(.int (57 : Int32)), (.int xv)])) tgt
        refine XS.icmpNo X0.here hx rfl (hb hby d2_9) rfl (flt hc9).2.2.1 ?_
        show Steps p.tables e below (s₁.setTop (mkF m 12 #[.val (.int xv)] [])) tgt
        refine XS.iconst X0.here hx rfl (hb hby d2_12) ?_
        show Steps p.tables e below (s₁.setTop (mkF m 13 #[.val (.int xv)] [(.int (1 : Int32))])) tgt
        refine XS.goto X0.here hx rfl (pc0 := 13) (pc' := 17) rfl (hb hby d2_13) (by decide) (by decide) ?_
        exact k
      refine own_retN X0 hx hlk (t := .boolean) (z' := (1 : Int32)) Bd.returns (by simp) rfl (hb hby d2_17) ?_ (by decide) (by decide)
      show Q2 Z xv h0 n0 (some (.int (1 : Int32))) s₁.heap _
      rw [e0]
      refine ⟨?_, N0, rfl⟩
      exact congrArg (fun q => some (Value.int q)) (by unfold own_dg; rw [if_neg hc3, if_neg hc9])
theorem d1n_0 : decode prog_3_method_14_code 0 = .ok (.lload_n 0, 1) := by decide +kernel
theorem d1n_1 : decode prog_3_method_14_code 1 = .ok (.ldc2_w 168, 3) := by decide +kernel
theorem d1n_4 : decode prog_3_method_14_code 4 = .ok (.lcmp, 1) := by decide +kernel
theorem d1n_5 : decode prog_3_method_14_code 5 = .ok (.ifCond .lt 5, 3) := by decide +kernel
theorem d1n_8 : decode prog_3_method_14_code 8 = .ok (.iconst 0, 1) := by decide +kernel
theorem d1n_9 : decode prog_3_method_14_code 9 = .ok (.ireturn, 1) := by decide +kernel
theorem pn_1n : plainName "com/example/vestwright/vestwright/census/CensusValues" = true := by first | (simp [plainName, overriddenIn]; done) | decide +kernel
theorem ef_1n (m : MethodId) (x0 : Int64) (x1 : Addr) : entryFrame m #[(.long x0), (.ref x1)] 5 = mkF m 0 #[.val (.long x0), .second, .val (.ref x1), .unset, .unset] [] := by first | (simp [entryFrame, mkF, argsToLocals, Value.category]; done) | rfl
def Q1n (Z : State) (nb : Int64) (into : Addr) (ff : Nat → Int32) (h0 : Heap) (n0 : Nat) (v : Option Value) (h : Heap) (L : List Loc) : Prop := v = some (.int (0 : Int32)) ∧ Fr n0 L ∧ h = h0
set_option maxRecDepth 65536 in
set_option maxHeartbeats 40000000 in
theorem rm1n (l : Launch) (Z : State) (a0 : Array Value) (hw : ∀ d ∈ tables_1, d.before a0 Z = true) (ws : List Jvm.Cond) (nb : Int64) (into : Addr) (ff : Nat → Int32) (h0 : Heap) (n0 : Nat) (Z0 : n0 ≤ h0.size) (A1 : own_Ai Z h0 into .byte 9 ff) (G1 : n0 ≤ into) (HB : ¬ (nb < (120000 : Int64))) :
    MetFree l (⟨"com/example/vestwright/vestwright/census/CensusValues", "writeMonth", "(J[B)Z"⟩ : MethodName) (head1 (Jvm.Cond.code (⟨"com/example/vestwright/vestwright/census/CensusValues", "writeMonth", "(J[B)Z"⟩ : MethodName) prog_3_method_14_code 5 (some .boolean) :: ws) ({ frames := 0, cells := 0, slots := 0, locals := 0 } : Room)) (fun a U => a = #[(.long nb), (.ref into)] ∧ Z.Warmed39 U.vm ∧ U.heap = h0) (fun _ _ _ _ _ => True) (fun _ U o U' => ∃ v L, o = .returned v ∧ Q1n Z nb into ff h0 n0 v U'.heap L ∧ FrameEnd U o U' L ({ frames := 0, cells := 0, slots := 0, locals := 0 } : Room).cells ({ frames := 0, cells := 0, slots := 0, locals := 0 } : Room).slots) := by
  refine MetFree.of_bodySF (plainFor_of_name pn_1n) hisR ?_
  intro p e s m args below meth c s₁ Bd hml0 hP hK
  obtain ⟨rfl, hZ, hh⟩ := hP
  have hx := Bd.exec
  have hby := Bd.bytes
  have hlk : meth.locks = false := BodyLoose.notSynchronized Bd
  have hml : c.maxLocals = 5 := hml0
  have hown : s.vm.findClass "com/example/vestwright/vestwright/census/CensusValues" = some m.cls := findClass_of_methodNamed Bd.named
  have hnm := (name_of_methodNamed Bd.named Bd.method).1
  have X0 : Stand p l e ({ frames := 0, cells := 0, slots := 0, locals := 0 } : Room) s m #[(.long nb), (.ref into)] below meth c s₁ [] 0 0 := Stand.of_body Bd
  have e0 : s₁.heap = h0 := by rw [← hh, Bd.state]; rfl
  have N0 := Fr.nil n0
  show own_Go p e below (own_G s (Q1n Z nb into ff h0 n0) ({ frames := 0, cells := 0, slots := 0, locals := 0 } : Room).cells ({ frames := 0, cells := 0, slots := 0, locals := 0 } : Room).slots) (s₁.setTop (entryFrame m #[(.long nb), (.ref into)] 5))
  refine own_st (fun tgt k => castTop (ef_1n m nb into) k) ?_
  show own_Go p e below _ (s₁.setTop (mkF m 0 #[.val (.long nb), .second, .val (.ref into), .unset, .unset] []))
  refine own_st (V := s₁.setTop (mkF m 9 #[.val (.long nb), .second, .val (.ref into), .unset, .unset] [(.int (0 : Int32))])) (fun tgt k => ?_) ?_
  · show Steps p.tables e below (s₁.setTop (mkF m 0 #[.val (.long nb), .second, .val (.ref into), .unset, .unset] [])) tgt
    refine XS.lloadN X0.here hx rfl (hb hby d1n_0) rfl ?_
    show Steps p.tables e below (s₁.setTop (mkF m 1 #[.val (.long nb), .second, .val (.ref into), .unset, .unset] [(.long nb)])) tgt
    refine X0.ldc2Long hx hown (mvT hZ (hw _ (List.mem_of_getElem? (i := 8) rfl))) (g := (mkF m 1 #[.val (.long nb), .second, .val (.ref into), .unset, .unset] [(.long nb)])) rfl (hb hby d1n_1) _ ?_
    show Steps p.tables e below (s₁.setTop (mkF m 4 #[.val (.long nb), .second, .val (.ref into), .unset, .unset] [(.long (120000 : Int64)), (.long nb)])) tgt
    refine XS.lcmp X0.here hx rfl (hb hby d1n_4) rfl ?_
    show Steps p.tables e below (s₁.setTop (mkF m 5 #[.val (.long nb), .second, .val (.ref into), .unset, .unset] [(.int (lcmpW nb (120000 : Int64)))])) tgt
    refine XS.ifNo X0.here hx rfl (hb hby d1n_5) rfl ((if0 _ _).trans (flt (fun q => HB ((lw_lt nb (120000 : Int64)).mp q))).1) ?_
    show Steps p.tables e below (s₁.setTop (mkF m 8 #[.val (.long nb), .second, .val (.ref into), .unset, .unset] [])) tgt
    refine XS.iconst X0.here hx rfl (hb hby d1n_8) ?_
    exact k
  refine own_retN X0 hx hlk (t := .boolean) (z' := (0 : Int32)) Bd.returns (by simp) rfl (hb hby d1n_9) ?_ (by decide) (by decide)
  show Q1n Z nb into ff h0 n0 (some (.int (0 : Int32))) s₁.heap _
  rw [e0]
  exact ⟨rfl, N0, rfl⟩
theorem d1y_0 : decode prog_3_method_14_code 0 = .ok (.lload_n 0, 1) := by decide +kernel
theorem d1y_1 : decode prog_3_method_14_code 1 = .ok (.ldc2_w 168, 3) := by decide +kernel
theorem d1y_4 : decode prog_3_method_14_code 4 = .ok (.lcmp, 1) := by decide +kernel
theorem d1y_5 : decode prog_3_method_14_code 5 = .ok (.ifCond .lt 5, 3) := by decide +kernel
theorem d1y_10 : decode prog_3_method_14_code 10 = .ok (.lload_n 0, 1) := by decide +kernel
theorem d1y_11 : decode prog_3_method_14_code 11 = .ok (.ldc2_w 158, 3) := by decide +kernel
theorem d1y_14 : decode prog_3_method_14_code 14 = .ok (.ldiv, 1) := by decide +kernel
theorem d1y_15 : decode prog_3_method_14_code 15 = .ok (.l2i, 1) := by decide +kernel
theorem d1y_16 : decode prog_3_method_14_code 16 = .ok (.istore_n 3, 1) := by decide +kernel
theorem d1y_17 : decode prog_3_method_14_code 17 = .ok (.lload_n 0, 1) := by decide +kernel
theorem d1y_18 : decode prog_3_method_14_code 18 = .ok (.ldc2_w 158, 3) := by decide +kernel
theorem d1y_21 : decode prog_3_method_14_code 21 = .ok (.lrem, 1) := by decide +kernel
theorem d1y_22 : decode prog_3_method_14_code 22 = .ok (.l2i, 1) := by decide +kernel
theorem d1y_23 : decode prog_3_method_14_code 23 = .ok (.iconst 1, 1) := by decide +kernel
theorem d1y_24 : decode prog_3_method_14_code 24 = .ok (.iadd, 1) := by decide +kernel
theorem d1y_25 : decode prog_3_method_14_code 25 = .ok (.istore 4, 2) := by decide +kernel
theorem d1y_27 : decode prog_3_method_14_code 27 = .ok (.aload_n 2, 1) := by decide +kernel
theorem d1y_28 : decode prog_3_method_14_code 28 = .ok (.iconst 0, 1) := by decide +kernel
theorem d1y_29 : decode prog_3_method_14_code 29 = .ok (.bipush 48, 2) := by decide +kernel
theorem d1y_31 : decode prog_3_method_14_code 31 = .ok (.iload_n 3, 1) := by decide +kernel
theorem d1y_32 : decode prog_3_method_14_code 32 = .ok (.sipush 1000, 3) := by decide +kernel
theorem d1y_35 : decode prog_3_method_14_code 35 = .ok (.idiv, 1) := by decide +kernel
theorem d1y_36 : decode prog_3_method_14_code 36 = .ok (.iadd, 1) := by decide +kernel
theorem d1y_37 : decode prog_3_method_14_code 37 = .ok (.i2b, 1) := by decide +kernel
theorem d1y_38 : decode prog_3_method_14_code 38 = .ok (.bastore, 1) := by decide +kernel
theorem d1y_39 : decode prog_3_method_14_code 39 = .ok (.aload_n 2, 1) := by decide +kernel
theorem d1y_40 : decode prog_3_method_14_code 40 = .ok (.iconst 1, 1) := by decide +kernel
theorem d1y_41 : decode prog_3_method_14_code 41 = .ok (.bipush 48, 2) := by decide +kernel
theorem d1y_43 : decode prog_3_method_14_code 43 = .ok (.iload_n 3, 1) := by decide +kernel
theorem d1y_44 : decode prog_3_method_14_code 44 = .ok (.bipush 100, 2) := by decide +kernel
theorem d1y_46 : decode prog_3_method_14_code 46 = .ok (.idiv, 1) := by decide +kernel
theorem d1y_47 : decode prog_3_method_14_code 47 = .ok (.bipush 10, 2) := by decide +kernel
theorem d1y_49 : decode prog_3_method_14_code 49 = .ok (.irem, 1) := by decide +kernel
theorem d1y_50 : decode prog_3_method_14_code 50 = .ok (.iadd, 1) := by decide +kernel
theorem d1y_51 : decode prog_3_method_14_code 51 = .ok (.i2b, 1) := by decide +kernel
theorem d1y_52 : decode prog_3_method_14_code 52 = .ok (.bastore, 1) := by decide +kernel
theorem d1y_53 : decode prog_3_method_14_code 53 = .ok (.aload_n 2, 1) := by decide +kernel
theorem d1y_54 : decode prog_3_method_14_code 54 = .ok (.iconst 2, 1) := by decide +kernel
theorem d1y_55 : decode prog_3_method_14_code 55 = .ok (.bipush 48, 2) := by decide +kernel
theorem d1y_57 : decode prog_3_method_14_code 57 = .ok (.iload_n 3, 1) := by decide +kernel
theorem d1y_58 : decode prog_3_method_14_code 58 = .ok (.bipush 10, 2) := by decide +kernel
theorem d1y_60 : decode prog_3_method_14_code 60 = .ok (.idiv, 1) := by decide +kernel
theorem d1y_61 : decode prog_3_method_14_code 61 = .ok (.bipush 10, 2) := by decide +kernel
theorem d1y_63 : decode prog_3_method_14_code 63 = .ok (.irem, 1) := by decide +kernel
theorem d1y_64 : decode prog_3_method_14_code 64 = .ok (.iadd, 1) := by decide +kernel
theorem d1y_65 : decode prog_3_method_14_code 65 = .ok (.i2b, 1) := by decide +kernel
theorem d1y_66 : decode prog_3_method_14_code 66 = .ok (.bastore, 1) := by decide +kernel
theorem d1y_67 : decode prog_3_method_14_code 67 = .ok (.aload_n 2, 1) := by decide +kernel
theorem d1y_68 : decode prog_3_method_14_code 68 = .ok (.iconst 3, 1) := by decide +kernel
theorem d1y_69 : decode prog_3_method_14_code 69 = .ok (.bipush 48, 2) := by decide +kernel
theorem d1y_71 : decode prog_3_method_14_code 71 = .ok (.iload_n 3, 1) := by decide +kernel
theorem d1y_72 : decode prog_3_method_14_code 72 = .ok (.bipush 10, 2) := by decide +kernel
theorem d1y_74 : decode prog_3_method_14_code 74 = .ok (.irem, 1) := by decide +kernel
theorem d1y_75 : decode prog_3_method_14_code 75 = .ok (.iadd, 1) := by decide +kernel
theorem d1y_76 : decode prog_3_method_14_code 76 = .ok (.i2b, 1) := by decide +kernel
theorem d1y_77 : decode prog_3_method_14_code 77 = .ok (.bastore, 1) := by decide +kernel
theorem d1y_78 : decode prog_3_method_14_code 78 = .ok (.aload_n 2, 1) := by decide +kernel
theorem d1y_79 : decode prog_3_method_14_code 79 = .ok (.iconst 4, 1) := by decide +kernel
theorem d1y_80 : decode prog_3_method_14_code 80 = .ok (.bipush 45, 2) := by decide +kernel
theorem d1y_82 : decode prog_3_method_14_code 82 = .ok (.bastore, 1) := by decide +kernel
theorem d1y_83 : decode prog_3_method_14_code 83 = .ok (.aload_n 2, 1) := by decide +kernel
theorem d1y_84 : decode prog_3_method_14_code 84 = .ok (.iconst 5, 1) := by decide +kernel
theorem d1y_85 : decode prog_3_method_14_code 85 = .ok (.bipush 48, 2) := by decide +kernel
theorem d1y_87 : decode prog_3_method_14_code 87 = .ok (.iload 4, 2) := by decide +kernel
theorem d1y_89 : decode prog_3_method_14_code 89 = .ok (.bipush 10, 2) := by decide +kernel
theorem d1y_91 : decode prog_3_method_14_code 91 = .ok (.idiv, 1) := by decide +kernel
theorem d1y_92 : decode prog_3_method_14_code 92 = .ok (.iadd, 1) := by decide +kernel
theorem d1y_93 : decode prog_3_method_14_code 93 = .ok (.i2b, 1) := by decide +kernel
theorem d1y_94 : decode prog_3_method_14_code 94 = .ok (.bastore, 1) := by decide +kernel
theorem d1y_95 : decode prog_3_method_14_code 95 = .ok (.aload_n 2, 1) := by decide +kernel
theorem d1y_96 : decode prog_3_method_14_code 96 = .ok (.bipush 6, 2) := by decide +kernel
theorem d1y_98 : decode prog_3_method_14_code 98 = .ok (.bipush 48, 2) := by decide +kernel
theorem d1y_100 : decode prog_3_method_14_code 100 = .ok (.iload 4, 2) := by decide +kernel
theorem d1y_102 : decode prog_3_method_14_code 102 = .ok (.bipush 10, 2) := by decide +kernel
theorem d1y_104 : decode prog_3_method_14_code 104 = .ok (.irem, 1) := by decide +kernel
theorem d1y_105 : decode prog_3_method_14_code 105 = .ok (.iadd, 1) := by decide +kernel
theorem d1y_106 : decode prog_3_method_14_code 106 = .ok (.i2b, 1) := by decide +kernel
theorem d1y_107 : decode prog_3_method_14_code 107 = .ok (.bastore, 1) := by decide +kernel
theorem d1y_108 : decode prog_3_method_14_code 108 = .ok (.iconst 1, 1) := by decide +kernel
theorem d1y_109 : decode prog_3_method_14_code 109 = .ok (.ireturn, 1) := by decide +kernel
theorem pn_1y : plainName "com/example/vestwright/vestwright/census/CensusValues" = true := by first | (simp [plainName, overriddenIn]; done) | decide +kernel
theorem ef_1y (m : MethodId) (x0 : Int64) (x1 : Addr) : entryFrame m #[(.long x0), (.ref x1)] 5 = mkF m 0 #[.val (.long x0), .second, .val (.ref x1), .unset, .unset] [] := by first | (simp [entryFrame, mkF, argsToLocals, Value.category]; done) | rfl
def Q1y (Z : State) (nb : Int64) (into : Addr) (ff : Nat → Int32) (h0 : Heap) (n0 : Nat) (v : Option Value) (h : Heap) (L : List Loc) : Prop := v = some (.int (1 : Int32)) ∧ Fr n0 L ∧ Keep h0 h [into] ∧ (own_Ai Z h into .byte 9 (own_W nb ff))
set_option maxRecDepth 65536 in
set_option maxHeartbeats 40000000 in
theorem rm1y (l : Launch) (Z : State) (a0 : Array Value) (hw : ∀ d ∈ tables_1, d.before a0 Z = true) (ws : List Jvm.Cond) (nb : Int64) (into : Addr) (ff : Nat → Int32) (h0 : Heap) (n0 : Nat) (Z0 : n0 ≤ h0.size) (A1 : own_Ai Z h0 into .byte 9 ff) (G1 : n0 ≤ into) (HB : nb < (120000 : Int64)) :
    MetFree l (⟨"com/example/vestwright/vestwright/census/CensusValues", "writeMonth", "(J[B)Z"⟩ : MethodName) (head1 (Jvm.Cond.code (⟨"com/example/vestwright/vestwright/census/CensusValues", "writeMonth", "(J[B)Z"⟩ : MethodName) prog_3_method_14_code 5 (some .boolean) :: ws) ({ frames := 0, cells := 0, slots := 0, locals := 0 } : Room)) (fun a U => a = #[(.long nb), (.ref into)] ∧ Z.Warmed39 U.vm ∧ U.heap = h0) (fun _ _ _ _ _ => True) (fun _ U o U' => ∃ v L, o = .returned v ∧ Q1y Z nb into ff h0 n0 v U'.heap L ∧ FrameEnd U o U' L ({ frames := 0, cells := 0, slots := 0, locals := 0 } : Room).cells ({ frames := 0, cells := 0, slots := 0, locals := 0 } : Room).slots) := by
  refine MetFree.of_bodySF (plainFor_of_name pn_1y) hisR ?_
  intro p e s m args below meth c s₁ Bd hml0 hP hK
  obtain ⟨rfl, hZ, hh⟩ := hP
  have hx := Bd.exec
  have hby := Bd.bytes
  have hlk : meth.locks = false := BodyLoose.notSynchronized Bd
  have hml : c.maxLocals = 5 := hml0
  have hown : s.vm.findClass "com/example/vestwright/vestwright/census/CensusValues" = some m.cls := findClass_of_methodNamed Bd.named
  have hnm := (name_of_methodNamed Bd.named Bd.method).1
  have X0 : Stand p l e ({ frames := 0, cells := 0, slots := 0, locals := 0 } : Room) s m #[(.long nb), (.ref into)] below meth c s₁ [] 0 0 := Stand.of_body Bd
  have e0 : s₁.heap = h0 := by rw [← hh, Bd.state]; rfl
  have N0 := Fr.nil n0
  have K0 : Keep h0 h0 [into] := Keep.refl _ _
  show own_Go p e below (own_G s (Q1y Z nb into ff h0 n0) ({ frames := 0, cells := 0, slots := 0, locals := 0 } : Room).cells ({ frames := 0, cells := 0, slots := 0, locals := 0 } : Room).slots) (s₁.setTop (entryFrame m #[(.long nb), (.ref into)] 5))
  refine own_st (fun tgt k => castTop (ef_1y m nb into) k) ?_
  show own_Go p e below _ (s₁.setTop (mkF m 0 #[.val (.long nb), .second, .val (.ref into), .unset, .unset] []))
  refine own_st (V := s₁.setTop (mkF m 38 #[.val (.long nb), .second, .val (.ref into), .val (.int ((nb / (12 : Int64)).toInt32)), .val (.int (((nb - (nb / (12 : Int64)) * (12 : Int64)).toInt32) + (1 : Int32)))] [(.int (((48 : Int32) + (((nb / (12 : Int64)).toInt32) / (1000 : Int32))).toInt8.toInt32)), (.int (0 : Int32)), (.ref into)])) (fun tgt k => ?_) ?_
  · show Steps p.tables e below (s₁.setTop (mkF m 0 #[.val (.long nb), .second, .val (.ref into), .unset, .unset] [])) tgt
    refine XS.lloadN X0.here hx rfl (hb hby d1y_0) rfl ?_
    show Steps p.tables e below (s₁.setTop (mkF m 1 #[.val (.long nb), .second, .val (.ref into), .unset, .unset] [(.long nb)])) tgt
    refine X0.ldc2Long hx hown (mvT hZ (hw _ (List.mem_of_getElem? (i := 8) rfl))) (g := (mkF m 1 #[.val (.long nb), .second, .val (.ref into), .unset, .unset] [(.long nb)])) rfl (hb hby d1y_1) _ ?_
    show Steps p.tables e below (s₁.setTop (mkF m 4 #[.val (.long nb), .second, .val (.ref into), .unset, .unset] [(.long (120000 : Int64)), (.long nb)])) tgt
    refine XS.lcmp X0.here hx rfl (hb hby d1y_4) rfl ?_
    show Steps p.tables e below (s₁.setTop (mkF m 5 #[.val (.long nb), .second, .val (.ref into), .unset, .unset] [(.int (lcmpW nb (120000 : Int64)))])) tgt
    refine XS.ifYes X0.here hx rfl (pc0 := 5) (pc' := 10) rfl (hb hby d1y_5) rfl ((if0 _ _).trans (tlt ((lw_lt nb (120000 : Int64)).mpr HB)).1) (by decide) (by decide) ?_
    show Steps p.tables e below (s₁.setTop (mkF m 10 #[.val (.long nb), .second, .val (.ref into), .unset, .unset] [])) tgt
    refine XS.lloadN X0.here hx rfl (hb hby d1y_10) rfl ?_
    show Steps p.tables e below (s₁.setTop (mkF m 11 #[.val (.long nb), .second, .val (.ref into), .unset, .unset] [(.long nb)])) tgt
    refine X0.ldc2Long hx hown (mvT hZ (hw _ (List.mem_of_getElem? (i := 9) rfl))) (g := (mkF m 11 #[.val (.long nb), .second, .val (.ref into), .unset, .unset] [(.long nb)])) rfl (hb hby d1y_11) _ ?_
    show Steps p.tables e below (s₁.setTop (mkF m 14 #[.val (.long nb), .second, .val (.ref into), .unset, .unset] [(.long (12 : Int64)), (.long nb)])) tgt
    refine XS.ldiv X0.here hx rfl (hb hby d1y_14) rfl (by decide) ?_
    show Steps p.tables e below (s₁.setTop (mkF m 15 #[.val (.long nb), .second, .val (.ref into), .unset, .unset] [(.long (nb / (12 : Int64)))])) tgt
    refine XS.l2i X0.here hx rfl (hb hby d1y_15) rfl ?_
    show Steps p.tables e below (s₁.setTop (mkF m 16 #[.val (.long nb), .second, .val (.ref into), .unset, .unset] [(.int ((nb / (12 : Int64)).toInt32))])) tgt
    refine XS.istoreN X0.here hx rfl (hb hby d1y_16) rfl (l' := #[.val (.long nb), .second, .val (.ref into), .val (.int ((nb / (12 : Int64)).toInt32)), .unset]) rfl ?_
    show Steps p.tables e below (s₁.setTop (mkF m 17 #[.val (.long nb), .second, .val (.ref into), .val (.int ((nb / (12 : Int64)).toInt32)), .unset] [])) tgt
    refine XS.lloadN X0.here hx rfl (hb hby d1y_17) rfl ?_
    show Steps p.tables e below (s₁.setTop (mkF m 18 #[.val (.long nb), .second, .val (.ref into), .val (.int ((nb / (12 : Int64)).toInt32)), .unset] [(.long nb)])) tgt
    refine X0.ldc2Long hx hown (mvT hZ (hw _ (List.mem_of_getElem? (i := 9) rfl))) (g := (mkF m 18 #[.val (.long nb), .second, .val (.ref into), .val (.int ((nb / (12 : Int64)).toInt32)), .unset] [(.long nb)])) rfl (hb hby d1y_18) _ ?_
    show Steps p.tables e below (s₁.setTop (mkF m 21 #[.val (.long nb), .second, .val (.ref into), .val (.int ((nb / (12 : Int64)).toInt32)), .unset] [(.long (12 : Int64)), (.long nb)])) tgt
    refine XS.lrem X0.here hx rfl (hb hby d1y_21) rfl (by decide) ?_
    show Steps p.tables e below (s₁.setTop (mkF m 22 #[.val (.long nb), .second, .val (.ref into), .val (.int ((nb / (12 : Int64)).toInt32)), .unset] [(.long (nb - (nb / (12 : Int64)) * (12 : Int64)))])) tgt
    refine XS.l2i X0.here hx rfl (hb hby d1y_22) rfl ?_
    show Steps p.tables e below (s₁.setTop (mkF m 23 #[.val (.long nb), .second, .val (.ref into), .val (.int ((nb / (12 : Int64)).toInt32)), .unset] [(.int ((nb - (nb / (12 : Int64)) * (12 : Int64)).toInt32))])) tgt
    refine XS.iconst X0.here hx rfl (hb hby d1y_23) ?_
    show Steps p.tables e below (s₁.setTop (mkF m 24 #[.val (.long nb), .second, .val (.ref into), .val (.int ((nb / (12 : Int64)).toInt32)), .unset] [(.int (1 : Int32)), (.int ((nb - (nb / (12 : Int64)) * (12 : Int64)).toInt32))])) tgt
    refine XS.iadd X0.here hx rfl (hb hby d1y_24) rfl ?_
    show Steps p.tables e below (s₁.setTop (mkF m 25 #[.val (.long nb), .second, .val (.ref into), .val (.int ((nb / (12 : Int64)).toInt32)), .unset] [(.int (((nb - (nb / (12 : Int64)) * (12 : Int64)).toInt32) + (1 : Int32)))])) tgt
    refine XS.istore X0.here hx rfl (hb hby d1y_25) rfl (l' := #[.val (.long nb), .second, .val (.ref into), .val (.int ((nb / (12 : Int64)).toInt32)), .val (.int (((nb - (nb / (12 : Int64)) * (12 : Int64)).toInt32) + (1 : Int32)))]) rfl ?_
    show Steps p.tables e below (s₁.setTop (mkF m 27 #[.val (.long nb), .second, .val (.ref into), .val (.int ((nb / (12 : Int64)).toInt32)), .val (.int (((nb - (nb / (12 : Int64)) * (12 : Int64)).toInt32) + (1 : Int32)))] [])) tgt
    refine XS.aloadN X0.here hx rfl (hb hby d1y_27) rfl rfl ?_
    show Steps p.tables e below (s₁.setTop (mkF m 28 #[.val (.long nb), .second, .val (.ref into), .val (.int ((nb / (12 : Int64)).toInt32)), .val (.int (((nb - (nb / (12 : Int64)) * (12 : Int64)).toInt32) + (1 : Int32)))] [(.ref into)])) tgt
    refine XS.iconst X0.here hx rfl (hb hby d1y_28) ?_
    show Steps p.tables e below (s₁.setTop (mkF m 29 #[.val (.long nb), .second, .val (.ref into), .val (.int ((nb / (12 : Int64)).toInt32)), .val (.int (((nb - (nb / (12 : Int64)) * (12 : Int64)).toInt32) + (1 : Int32)))] [(.int (0 : Int32)), (.ref into)])) tgt
    refine XS.bipush X0.here hx rfl (hb hby d1y_29) ?_
    show Steps p.tables e below (s₁.setTop (mkF m 31 #[.val (.long nb), .second, .val (.ref into), .val (.int ((nb / (12 : Int64)).toInt32)), .val (.int (((nb - (nb / (12 : Int64)) * (12 : Int64)).toInt32) + (1 : Int32)))] [(.int (48 : Int32)), (.int (0 : Int32)), (.ref into)])) tgt
    refine XS.iloadN X0.here hx rfl (hb hby d1y_31) rfl ?_
    show Steps p.tables e below (s₁.setTop (mkF m 32 #[.val (.long nb), .second, .val (.ref into), .val (.int ((nb / (12 : Int64)).toInt32)), .val (.int (((nb - (nb / (12 : Int64)) * (12 : Int64)).toInt32) + (1 : Int32)))] [(.int ((nb / (12 : Int64)).toInt32)), (.int (48 : Int32)), (.int (0 : Int32)), (.ref into)])) tgt
    refine XS.sipush X0.here hx rfl (hb hby d1y_32) ?_
    show Steps p.tables e below (s₁.setTop (mkF m 35 #[.val (.long nb), .second, .val (.ref into), .val (.int ((nb / (12 : Int64)).toInt32)), .val (.int (((nb - (nb / (12 : Int64)) * (12 : Int64)).toInt32) + (1 : Int32)))] [(.int (1000 : Int32)), (.int ((nb / (12 : Int64)).toInt32)), (.int (48 : Int32)), (.int (0 : Int32)), (.ref into)])) tgt
    refine XS.idiv X0.here hx rfl (hb hby d1y_35) rfl (by decide) ?_
    show Steps p.tables e below (s₁.setTop (mkF m 36 #[.val (.long nb), .second, .val (.ref into), .val (.int ((nb / (12 : Int64)).toInt32)), .val (.int (((nb - (nb / (12 : Int64)) * (12 : Int64)).toInt32) + (1 : Int32)))] [(.int (((nb / (12 : Int64)).toInt32) / (1000 : Int32))), (.int (48 : Int32)), (.int (0 : Int32)), (.ref into)])) tgt
    refine XS.iadd X0.here hx rfl (hb hby d1y_36) rfl ?_
    show Steps p.tables e below (s₁.setTop (mkF m 37 #[.val (.long nb), .second, .val (.ref into), .val (.int ((nb / (12 : Int64)).toInt32)), .val (.int (((nb - (nb / (12 : Int64)) * (12 : Int64)).toInt32) + (1 : Int32)))] [(.int ((48 : Int32) + (((nb / (12 : Int64)).toInt32) / (1000 : Int32)))), (.int (0 : Int32)), (.ref into)])) tgt
    refine XS.i2b X0.here hx rfl (hb hby d1y_37) rfl ?_
    exact k
  obtain ⟨T1, h1, X1, e1, W1, A_into_1, st1⟩ := own_bastore X0 hx hZ e0 A1 (j := (0 : Int32)) (k := 0) rfl (by decide) (g := (mkF m 38 #[.val (.long nb), .second, .val (.ref into), .val (.int ((nb / (12 : Int64)).toInt32)), .val (.int (((nb - (nb / (12 : Int64)) * (12 : Int64)).toInt32) + (1 : Int32)))] [(.int (((48 : Int32) + (((nb / (12 : Int64)).toInt32) / (1000 : Int32))).toInt8.toInt32)), (.int (0 : Int32)), (.ref into)])) rfl rfl (hb hby d1y_38)
  have N1 := Fr.snoc X1 N0 G1
  have Zs1 : n0 ≤ h1.size := Nat.le_trans Z0 (Keep.of_wr W1).1
  have Kp1 := K0.wr W1 (Or.inl (List.mem_of_getElem? (i := 0) rfl))
  refine own_st st1 ?_
  show own_Go p e below _ (T1.setTop (mkF m 39 #[.val (.long nb), .second, .val (.ref into), .val (.int ((nb / (12 : Int64)).toInt32)), .val (.int (((nb - (nb / (12 : Int64)) * (12 : Int64)).toInt32) + (1 : Int32)))] []))
  refine own_st (V := T1.setTop (mkF m 52 #[.val (.long nb), .second, .val (.ref into), .val (.int ((nb / (12 : Int64)).toInt32)), .val (.int (((nb - (nb / (12 : Int64)) * (12 : Int64)).toInt32) + (1 : Int32)))] [(.int (((48 : Int32) + ((((nb / (12 : Int64)).toInt32) / (100 : Int32)) % (10 : Int32))).toInt8.toInt32)), (.int (1 : Int32)), (.ref into)])) (fun tgt k => ?_) ?_
  · show Steps p.tables e below (T1.setTop (mkF m 39 #[.val (.long nb), .second, .val (.ref into), .val (.int ((nb / (12 : Int64)).toInt32)), .val (.int (((nb - (nb / (12 : Int64)) * (12 : Int64)).toInt32) + (1 : Int32)))] [])) tgt
    refine XS.aloadN X1.here hx rfl (hb hby d1y_39) rfl rfl ?_
    show Steps p.tables e below (T1.setTop (mkF m 40 #[.val (.long nb), .second, .val (.ref into), .val (.int ((nb / (12 : Int64)).toInt32)), .val (.int (((nb - (nb / (12 : Int64)) * (12 : Int64)).toInt32) + (1 : Int32)))] [(.ref into)])) tgt
    refine XS.iconst X1.here hx rfl (hb hby d1y_40) ?_
    show Steps p.tables e below (T1.setTop (mkF m 41 #[.val (.long nb), .second, .val (.ref into), .val (.int ((nb / (12 : Int64)).toInt32)), .val (.int (((nb - (nb / (12 : Int64)) * (12 : Int64)).toInt32) + (1 : Int32)))] [(.int (1 : Int32)), (.ref into)])) tgt
    refine XS.bipush X1.here hx rfl (hb hby d1y_41) ?_
    show Steps p.tables e below (T1.setTop (mkF m 43 #[.val (.long nb), .second, .val (.ref into), .val (.int ((nb / (12 : Int64)).toInt32)), .val (.int (((nb - (nb / (12 : Int64)) * (12 : Int64)).toInt32) + (1 : Int32)))] [(.int (48 : Int32)), (.int (1 : Int32)), (.ref into)])) tgt
    refine XS.iloadN X1.here hx rfl (hb hby d1y_43) rfl ?_
    show Steps p.tables e below (T1.setTop (mkF m 44 #[.val (.long nb), .second, .val (.ref into), .val (.int ((nb / (12 : Int64)).toInt32)), .val (.int (((nb - (nb / (12 : Int64)) * (12 : Int64)).toInt32) + (1 : Int32)))] [(.int ((nb / (12 : Int64)).toInt32)), (.int (48 : Int32)), (.int (1 : Int32)), (.ref into)])) tgt
    refine XS.bipush X1.here hx rfl (hb hby d1y_44) ?_
    show Steps p.tables e below (T1.setTop (mkF m 46 #[.val (.long nb), .second, .val (.ref into), .val (.int ((nb / (12 : Int64)).toInt32)), .val (.int (((nb - (nb / (12 : Int64)) * (12 : Int64)).toInt32) + (1 : Int32)))] [(.int (100 : Int32)), (.int ((nb / (12 : Int64)).toInt32)), (.int (48 : Int32)), (.int (1 : Int32)), (.ref into)])) tgt
    refine XS.idiv X1.here hx rfl (hb hby d1y_46) rfl (by decide) ?_
    show Steps p.tables e below (T1.setTop (mkF m 47 #[.val (.long nb), .second, .val (.ref into), .val (.int ((nb / (12 : Int64)).toInt32)), .val (.int (((nb - (nb / (12 : Int64)) * (12 : Int64)).toInt32) + (1 : Int32)))] [(.int (((nb / (12 : Int64)).toInt32) / (100 : Int32))), (.int (48 : Int32)), (.int (1 : Int32)), (.ref into)])) tgt
    refine XS.bipush X1.here hx rfl (hb hby d1y_47) ?_
    show Steps p.tables e below (T1.setTop (mkF m 49 #[.val (.long nb), .second, .val (.ref into), .val (.int ((nb / (12 : Int64)).toInt32)), .val (.int (((nb - (nb / (12 : Int64)) * (12 : Int64)).toInt32) + (1 : Int32)))] [(.int (10 : Int32)), (.int (((nb / (12 : Int64)).toInt32) / (100 : Int32))), (.int (48 : Int32)), (.int (1 : Int32)), (.ref into)])) tgt
    refine iremM X1 hx rfl (hb hby d1y_49) rfl (by decide) ?_
    show Steps p.tables e below (T1.setTop (mkF m 50 #[.val (.long nb), .second, .val (.ref into), .val (.int ((nb / (12 : Int64)).toInt32)), .val (.int (((nb - (nb / (12 : Int64)) * (12 : Int64)).toInt32) + (1 : Int32)))] [(.int ((((nb / (12 : Int64)).toInt32) / (100 : Int32)) % (10 : Int32))), (.int (48 : Int32)), (.int (1 : Int32)), (.ref into)])) tgt
    refine XS.iadd X1.here hx rfl (hb hby d1y_50) rfl ?_
    show Steps p.tables e below (T1.setTop (mkF m 51 #[.val (.long nb), .second, .val (.ref into), .val (.int ((nb / (12 : Int64)).toInt32)), .val (.int (((nb - (nb / (12 : Int64)) * (12 : Int64)).toInt32) + (1 : Int32)))] [(.int ((48 : Int32) + ((((nb / (12 : Int64)).toInt32) / (100 : Int32)) % (10 : Int32)))), (.int (1 : Int32)), (.ref into)])) tgt
    refine XS.i2b X1.here hx rfl (hb hby d1y_51) rfl ?_
    exact k
  obtain ⟨T2, h2, X2, e2, W2, A_into_2, st2⟩ := own_bastore X1 hx hZ e1 A_into_1 (j := (1 : Int32)) (k := 1) rfl (by decide) (g := (mkF m 52 #[.val (.long nb), .second, .val (.ref into), .val (.int ((nb / (12 : Int64)).toInt32)), .val (.int (((nb - (nb / (12 : Int64)) * (12 : Int64)).toInt32) + (1 : Int32)))] [(.int (((48 : Int32) + ((((nb / (12 : Int64)).toInt32) / (100 : Int32)) % (10 : Int32))).toInt8.toInt32)), (.int (1 : Int32)), (.ref into)])) rfl rfl (hb hby d1y_52)
  have N2 := Fr.snoc X2 N1 G1
  have Zs2 : n0 ≤ h2.size := Nat.le_trans Zs1 (Keep.of_wr W2).1
  have Kp2 := Kp1.wr W2 (Or.inl (List.mem_of_getElem? (i := 0) rfl))
  refine own_st st2 ?_
  show own_Go p e below _ (T2.setTop (mkF m 53 #[.val (.long nb), .second, .val (.ref into), .val (.int ((nb / (12 : Int64)).toInt32)), .val (.int (((nb - (nb / (12 : Int64)) * (12 : Int64)).toInt32) + (1 : Int32)))] []))
  refine own_st (V := T2.setTop (mkF m 66 #[.val (.long nb), .second, .val (.ref into), .val (.int ((nb / (12 : Int64)).toInt32)), .val (.int (((nb - (nb / (12 : Int64)) * (12 : Int64)).toInt32) + (1 : Int32)))] [(.int (((48 : Int32) + ((((nb / (12 : Int64)).toInt32) / (10 : Int32)) % (10 : Int32))).toInt8.toInt32)), (.int (2 : Int32)), (.ref into)])) (fun tgt k => ?_) ?_
  · show Steps p.tables e below (T2.setTop (mkF m 53 #[.val (.long nb), .second, .val (.ref into), .val (.int ((nb / (12 : Int64)).toInt32)), .val (.int (((nb - (nb / (12 : Int64)) * (12 : Int64)).toInt32) + (1 : Int32)))] [])) tgt
    refine XS.aloadN X2.here hx rfl (hb hby d1y_53) rfl rfl ?_
    show Steps p.tables e below (T2.setTop (mkF m 54 #[.val (.long nb), .second, .val (.ref into), .val (.int ((nb / (12 : Int64)).toInt32)), .val (.int (((nb - (nb / (12 : Int64)) * (12 : Int64)).toInt32) + (1 : Int32)))] [(.ref into)])) tgt
    refine XS.iconst X2.here hx rfl (hb hby d1y_54) ?_
    show Steps p.tables e below (T2.setTop (mkF m 55 #[.val (.long nb), .second, .val (.ref into), .val (.int ((nb / (12 : Int64)).toInt32)), .val (.int (((nb - (nb / (12 : Int64)) * (12 : Int64)).toInt32) + (1 : Int32)))] [(.int (2 : Int32)), (.ref into)])) tgt
    refine XS.bipush X2.here hx rfl (hb hby d1y_55) ?_
    show Steps p.tables e below (T2.setTop (mkF m 57 #[.val (.long nb), .second, .val (.ref into), .val (.int ((nb / (12 : Int64)).toInt32)), .val (.int (((nb - (nb / (12 : Int64)) * (12 : Int64)).toInt32) + (1 : Int32)))] [(.int (48 : Int32)), (.int (2 : Int32)), (.ref into)])) tgt
    refine XS.iloadN X2.here hx rfl (hb hby d1y_57) rfl ?_
    show Steps p.tables e below (T2.setTop (mkF m 58 #[.val (.long nb), .second, .val (.ref into), .val (.int ((nb / (12 : Int64)).toInt32)), .val (.int (((nb - (nb / (12 : Int64)) * (12 : Int64)).toInt32) + (1 : Int32)))] [(.int ((nb / (12 : Int64)).toInt32)), (.int (48 : Int32)), (.int (2 : Int32)), (.ref into)])) tgt
    refine XS.bipush X2.here hx rfl (hb hby d1y_58) ?_
    show Steps p.tables e below (T2.setTop (mkF m 60 #[.val (.long nb), .second, .val (.ref into), .val (.int ((nb / (12 : Int64)).toInt32)), .val (.int (((nb - (nb / (12 : Int64)) * (12 : Int64)).toInt32) + (1 : Int32)))] [(.int (10 : Int32)), (.int ((nb / (12 : Int64)).toInt32)), (.int (48 : Int32)), (.int (2 : Int32)), (.ref into)])) tgt
    refine XS.idiv X2.here hx rfl (hb hby d1y_60) rfl (by decide) ?_
    show Steps p.tables e below (T2.setTop (mkF m 61 #[.val (.long nb), .second, .val (.ref into), .val (.int ((nb / (12 : Int64)).toInt32)), .val (.int (((nb - (nb / (12 : Int64)) * (12 : Int64)).toInt32) + (1 : Int32)))] [(.int (((nb / (12 : Int64)).toInt32) / (10 : Int32))), (.int (48 : Int32)), (.int (2 : Int32)), (.ref into)])) tgt
    refine XS.bipush X2.here hx rfl (hb hby d1y_61) ?_
    show Steps p.tables e below (T2.setTop (mkF m 63 #[.val (.long nb), .second, .val (.ref into), .val (.int ((nb / (12 : Int64)).toInt32)), .val (.int (((nb - (nb / (12 : Int64)) * (12 : Int64)).toInt32) + (1 : Int32)))] [(.int (10 : Int32)), (.int (((nb / (12 : Int64)).toInt32) / (10 : Int32))), (.int (48 : Int32)), (.int (2 : Int32)), (.ref into)])) tgt
    refine iremM X2 hx rfl (hb hby d1y_63) rfl (by decide) ?_
    show Steps p.tables e below (T2.setTop (mkF m 64 #[.val (.long nb), .second, .val (.ref into), .val (.int ((nb / (12 : Int64)).toInt32)), .val (.int (((nb - (nb / (12 : Int64)) * (12 : Int64)).toInt32) + (1 : Int32)))] [(.int ((((nb / (12 : Int64)).toInt32) / (10 : Int32)) % (10 : Int32))), (.int (48 : Int32)), (.int (2 : Int32)), (.ref into)])) tgt
    refine XS.iadd X2.here hx rfl (hb hby d1y_64) rfl ?_
    show Steps p.tables e below (T2.setTop (mkF m 65 #[.val (.long nb), .second, .val (.ref into), .val (.int ((nb / (12 : Int64)).toInt32)), .val (.int (((nb - (nb / (12 : Int64)) * (12 : Int64)).toInt32) + (1 : Int32)))] [(.int ((48 : Int32) + ((((nb / (12 : Int64)).toInt32) / (10 : Int32)) % (10 : Int32)))), (.int (2 : Int32)), (.ref into)])) tgt
    refine XS.i2b X2.here hx rfl (hb hby d1y_65) rfl ?_
    exact k
  obtain ⟨T3, h3, X3, e3, W3, A_into_3, st3⟩ := own_bastore X2 hx hZ e2 A_into_2 (j := (2 : Int32)) (k := 2) rfl (by decide) (g := (mkF m 66 #[.val (.long nb), .second, .val (.ref into), .val (.int ((nb / (12 : Int64)).toInt32)), .val (.int (((nb - (nb / (12 : Int64)) * (12 : Int64)).toInt32) + (1 : Int32)))] [(.int (((48 : Int32) + ((((nb / (12 : Int64)).toInt32) / (10 : Int32)) % (10 : Int32))).toInt8.toInt32)), (.int (2 : Int32)), (.ref into)])) rfl rfl (hb hby d1y_66)
  have N3 := Fr.snoc X3 N2 G1
  have Zs3 : n0 ≤ h3.size := Nat.le_trans Zs2 (Keep.of_wr W3).1
  have Kp3 := Kp2.wr W3 (Or.inl (List.mem_of_getElem? (i := 0) rfl))
  refine own_st st3 ?_
  show own_Go p e below _ (T3.setTop (mkF m 67 #[.val (.long nb), .second, .val (.ref into), .val (.int ((nb / (12 : Int64)).toInt32)), .val (.int (((nb - (nb / (12 : Int64)) * (12 : Int64)).toInt32) + (1 : Int32)))] []))
  refine own_st (V := T3.setTop (mkF m 77 #[.val (.long nb), .second, .val (.ref into), .val (.int ((nb / (12 : Int64)).toInt32)), .val (.int (((nb - (nb / (12 : Int64)) * (12 : Int64)).toInt32) + (1 : Int32)))] [(.int (((48 : Int32) + (((nb / (12 : Int64)).toInt32) % (10 : Int32))).toInt8.toInt32)), (.int (3 : Int32)), (.ref into)])) (fun tgt k => ?_) ?_
  · show Steps p.tables e below (T3.setTop (mkF m 67 #[.val (.long nb), .second, .val (.ref into), .val (.int ((nb / (12 : Int64)).toInt32)), .val (.int (((nb - (nb / (12 : Int64)) * (12 : Int64)).toInt32) + (1 : Int32)))] [])) tgt
    refine XS.aloadN X3.here hx rfl (hb hby d1y_67) rfl rfl ?_
    show Steps p.tables e below (T3.setTop (mkF m 68 #[.val (.long nb), .second, .val (.ref into), .val (.int ((nb / (12 : Int64)).toInt32)), .val (.int (((nb - (nb / (12 : Int64)) * (12 : Int64)).toInt32) + (1 : Int32)))] [(.ref into)])) tgt
    refine XS.iconst X3.here hx rfl (hb hby d1y_68) ?_
    show Steps p.tables e below (T3.setTop (mkF m 69 #[.val (.long nb), .second, .val (.ref into), .val (.int ((nb / (12 : Int64)).toInt32)), .val (.int (((nb - (nb / (12 : Int64)) * (12 : Int64)).toInt32) + (1 : Int32)))] [(.int (3 : Int32)), (.ref into)])) tgt
    refine XS.bipush X3.here hx rfl (hb hby d1y_69) ?_
    show Steps p.tables e below (T3.setTop (mkF m 71 #[.val (.long nb), .second, .val (.ref into), .val (.int ((nb / (12 : Int64)).toInt32)), .val (.int (((nb - (nb / (12 : Int64)) * (12 : Int64)).toInt32) + (1 : Int32)))] [(.int (48 : Int32)), (.int (3 : Int32)), (.ref into)])) tgt
    refine XS.iloadN X3.here hx rfl (hb hby d1y_71) rfl ?_
    show Steps p.tables e below (T3.setTop (mkF m 72 #[.val (.long nb), .second, .val (.ref into), .val (.int ((nb / (12 : Int64)).toInt32)), .val (.int (((nb - (nb / (12 : Int64)) * (12 : Int64)).toInt32) + (1 : Int32)))] [(.int ((nb / (12 : Int64)).toInt32)), (.int (48 : Int32)), (.int (3 : Int32)), (.ref into)])) tgt
    refine XS.bipush X3.here hx rfl (hb hby d1y_72) ?_
    show Steps p.tables e below (T3.setTop (mkF m 74 #[.val (.long nb), .second, .val (.ref into), .val (.int ((nb / (12 : Int64)).toInt32)), .val (.int (((nb - (nb / (12 : Int64)) * (12 : Int64)).toInt32) + (1 : Int32)))] [(.int (10 : Int32)), (.int ((nb / (12 : Int64)).toInt32)), (.int (48 : Int32)), (.int (3 : Int32)), (.ref into)])) tgt
    refine iremM X3 hx rfl (hb hby d1y_74) rfl (by decide) ?_
    show Steps p.tables e below (T3.setTop (mkF m 75 #[.val (.long nb), .second, .val (.ref into), .val (.int ((nb / (12 : Int64)).toInt32)), .val (.int (((nb - (nb / (12 : Int64)) * (12 : Int64)).toInt32) + (1 : Int32)))] [(.int (((nb / (12 : Int64)).toInt32) % (10 : Int32))), (.int (48 : Int32)), (.int (3 : Int32)), (.ref into)])) tgt
    refine XS.iadd X3.here hx rfl (hb hby d1y_75) rfl ?_
    show Steps p.tables e below (T3.setTop (mkF m 76 #[.val (.long nb), .second, .val (.ref into), .val (.int ((nb / (12 : Int64)).toInt32)), .val (.int (((nb - (nb / (12 : Int64)) * (12 : Int64)).toInt32) + (1 : Int32)))] [(.int ((48 : Int32) + (((nb / (12 : Int64)).toInt32) % (10 : Int32)))), (.int (3 : Int32)), (.ref into)])) tgt
    refine XS.i2b X3.here hx rfl (hb hby d1y_76) rfl ?_
    exact k
  obtain ⟨T4, h4, X4, e4, W4, A_into_4, st4⟩ := own_bastore X3 hx hZ e3 A_into_3 (j := (3 : Int32)) (k := 3) rfl (by decide) (g := (mkF m 77 #[.val (.long nb), .second, .val (.ref into), .val (.int ((nb / (12 : Int64)).toInt32)), .val (.int (((nb - (nb / (12 : Int64)) * (12 : Int64)).toInt32) + (1 : Int32)))] [(.int (((48 : Int32) + (((nb / (12 : Int64)).toInt32) % (10 : Int32))).toInt8.toInt32)), (.int (3 : Int32)), (.ref into)])) rfl rfl (hb hby d1y_77)
  have N4 := Fr.snoc X4 N3 G1
  have Zs4 : n0 ≤ h4.size := Nat.le_trans Zs3 (Keep.of_wr W4).1
  have Kp4 := Kp3.wr W4 (Or.inl (List.mem_of_getElem? (i := 0) rfl))
  refine own_st st4 ?_
  show own_Go p e below _ (T4.setTop (mkF m 78 #[.val (.long nb), .second, .val (.ref into), .val (.int ((nb / (12 : Int64)).toInt32)), .val (.int (((nb - (nb / (12 : Int64)) * (12 : Int64)).toInt32) + (1 : Int32)))] []))
  refine own_st (V := T4.setTop (mkF m 82 #[.val (.long nb), .second, .val (.ref into), .val (.int ((nb / (12 : Int64)).toInt32)), .val (.int (((nb - (nb / (12 : Int64)) * (12 : Int64)).toInt32) + (1 : Int32)))] [(.int (45 : Int32)), (.int (4 : Int32)), (.ref into)])) (fun tgt k => ?_) ?_
  · show Steps p.tables e below (T4.setTop (mkF m 78 #[.val (.long nb), .second, .val (.ref into), .val (.int ((nb / (12 : Int64)).toInt32)), .val (.int (((nb - (nb / (12 : Int64)) * (12 : Int64)).toInt32) + (1 : Int32)))] [])) tgt
    refine XS.aloadN X4.here hx rfl (hb hby d1y_78) rfl rfl ?_
    show Steps p.tables e below (T4.setTop (mkF m 79 #[.val (.long nb), .second, .val (.ref into), .val (.int ((nb / (12 : Int64)).toInt32)), .val (.int (((nb - (nb / (12 : Int64)) * (12 : Int64)).toInt32) + (1 : Int32)))] [(.ref into)])) tgt
    refine XS.iconst X4.here hx rfl (hb hby d1y_79) ?_
    show Steps p.tables e below (T4.setTop (mkF m 80 #[.val (.long nb), .second, .val (.ref into), .val (.int ((nb / (12 : Int64)).toInt32)), .val (.int (((nb - (nb / (12 : Int64)) * (12 : Int64)).toInt32) + (1 : Int32)))] [(.int (4 : Int32)), (.ref into)])) tgt
    refine XS.bipush X4.here hx rfl (hb hby d1y_80) ?_
    exact k
  obtain ⟨T5, h5, X5, e5, W5, A_into_5, st5⟩ := own_bastore X4 hx hZ e4 A_into_4 (j := (4 : Int32)) (k := 4) rfl (by decide) (g := (mkF m 82 #[.val (.long nb), .second, .val (.ref into), .val (.int ((nb / (12 : Int64)).toInt32)), .val (.int (((nb - (nb / (12 : Int64)) * (12 : Int64)).toInt32) + (1 : Int32)))] [(.int (45 : Int32)), (.int (4 : Int32)), (.ref into)])) rfl rfl (hb hby d1y_82)
  have N5 := Fr.snoc X5 N4 G1
  have Zs5 : n0 ≤ h5.size := Nat.le_trans Zs4 (Keep.of_wr W5).1
  have Kp5 := Kp4.wr W5 (Or.inl (List.mem_of_getElem? (i := 0) rfl))
  refine own_st st5 ?_
  show own_Go p e below _ (T5.setTop (mkF m 83 #[.val (.long nb), .second, .val (.ref into), .val (.int ((nb / (12 : Int64)).toInt32)), .val (.int (((nb - (nb / (12 : Int64)) * (12 : Int64)).toInt32) + (1 : Int32)))] []))
  refine own_st (V := T5.setTop (mkF m 94 #[.val (.long nb), .second, .val (.ref into), .val (.int ((nb / (12 : Int64)).toInt32)), .val (.int (((nb - (nb / (12 : Int64)) * (12 : Int64)).toInt32) + (1 : Int32)))] [(.int (((48 : Int32) + ((((nb - (nb / (12 : Int64)) * (12 : Int64)).toInt32) + (1 : Int32)) / (10 : Int32))).toInt8.toInt32)), (.int (5 : Int32)), (.ref into)])) (fun tgt k => ?_) ?_
  · show Steps p.tables e below (T5.setTop (mkF m 83 #[.val (.long nb), .second, .val (.ref into), .val (.int ((nb / (12 : Int64)).toInt32)), .val (.int (((nb - (nb / (12 : Int64)) * (12 : Int64)).toInt32) + (1 : Int32)))] [])) tgt
    refine XS.aloadN X5.here hx rfl (hb hby d1y_83) rfl rfl ?_
    show Steps p.tables e below (T5.setTop (mkF m 84 #[.val (.long nb), .second, .val (.ref into), .val (.int ((nb / (12 : Int64)).toInt32)), .val (.int (((nb - (nb / (12 : Int64)) * (12 : Int64)).toInt32) + (1 : Int32)))] [(.ref into)])) tgt
    refine XS.iconst X5.here hx rfl (hb hby d1y_84) ?_
    show Steps p.tables e below (T5.setTop (mkF m 85 #[.val (.long nb), .second, .val (.ref into), .val (.int ((nb / (12 : Int64)).toInt32)), .val (.int (((nb - (nb / (12 : Int64)) * (12 : Int64)).toInt32) + (1 : Int32)))] [(.int (5 : Int32)), (.ref into)])) tgt
    refine XS.bipush X5.here hx rfl (hb hby d1y_85) ?_
    show Steps p.tables e below (T5.setTop (mkF m 87 #[.val (.long nb), .second, .val (.ref into), .val (.int ((nb / (12 : Int64)).toInt32)), .val (.int (((nb - (nb / (12 : Int64)) * (12 : Int64)).toInt32) + (1 : Int32)))] [(.int (48 : Int32)), (.int (5 : Int32)), (.ref into)])) tgt
    refine XS.iload X5.here hx rfl (hb hby d1y_87) rfl ?_
    show Steps p.tables e below (T5.setTop (mkF m 89 #[.val (.long nb), .second, .val (.ref into), .val (.int ((nb / (12 : Int64)).toInt32)), .val (.int (((nb - (nb / (12 : Int64)) * (12 : Int64)).toInt32) + (1 : Int32)))] [(.int (((nb - (nb / (12 : Int64)) * (12 : Int64)).toInt32) + (1 : Int32))), (.int (48 : Int32)), (.int (5 : Int32)), (.ref into)])) tgt
    refine XS.bipush X5.here hx rfl (hb hby d1y_89) ?_
    show Steps p.tables e below (T5.setTop (mkF m 91 #[.val (.long nb), .second, .val (.ref into), .val (.int ((nb / (12 : Int64)).toInt32)), .val (.int (((nb - (nb / (12 : Int64)) * (12 : Int64)).toInt32) + (1 : Int32)))] [(.int (10 : Int32)), (.int (((nb - (nb / (12 : Int64)) * (12 : Int64)).toInt32) + (1 : Int32))), (.int (48 : Int32)), (.int (5 : Int32)), (.ref into)])) tgt
    refine XS.idiv X5.here hx rfl (hb hby d1y_91) rfl (by decide) ?_
    show Steps p.tables e below (T5.setTop (mkF m 92 #[.val (.long nb), .second, .val (.ref into), .val (.int ((nb / (12 : Int64)).toInt32)), .val (.int (((nb - (nb / (12 : Int64)) * (12 : Int64)).toInt32) + (1 : Int32)))] [(.int ((((nb - (nb / (12 : Int64)) * (12 : Int64)).toInt32) + (1 : Int32)) / (10 : Int32))), (.int (48 : Int32)), (.int (5 : Int32)), (.ref into)])) tgt
    refine XS.iadd X5.here hx rfl (hb hby d1y_92) rfl ?_
    show Steps p.tables e below (T5.setTop (mkF m 93 #[.val (.long nb), .second, .val (.ref into), .val (.int ((nb / (12 : Int64)).toInt32)), .val (.int (((nb - (nb / (12 : Int64)) * (12 : Int64)).toInt32) + (1 : Int32)))] [(.int ((48 : Int32) + ((((nb - (nb / (12 : Int64)) * (12 : Int64)).toInt32) + (1 : Int32)) / (10 : Int32)))), (.int (5 : Int32)), (.ref into)])) tgt
    refine XS.i2b X5.here hx rfl (hb hby d1y_93) rfl ?_
    exact k
  obtain ⟨T6, h6, X6, e6, W6, A_into_6, st6⟩ := own_bastore X5 hx hZ e5 A_into_5 (j := (5 : Int32)) (k := 5) rfl (by decide) (g := (mkF m 94 #[.val (.long nb), .second, .val (.ref into), .val (.int ((nb / (12 : Int64)).toInt32)), .val (.int (((nb - (nb / (12 : Int64)) * (12 : Int64)).toInt32) + (1 : Int32)))] [(.int (((48 : Int32) + ((((nb - (nb / (12 : Int64)) * (12 : Int64)).toInt32) + (1 : Int32)) / (10 : Int32))).toInt8.toInt32)), (.int (5 : Int32)), (.ref into)])) rfl rfl (hb hby d1y_94)
  have N6 := Fr.snoc X6 N5 G1
  have Zs6 : n0 ≤ h6.size := Nat.le_trans Zs5 (Keep.of_wr W6).1
  have Kp6 := Kp5.wr W6 (Or.inl (List.mem_of_getElem? (i := 0) rfl))
  refine own_st st6 ?_
  show own_Go p e below _ (T6.setTop (mkF m 95 #[.val (.long nb), .second, .val (.ref into), .val (.int ((nb / (12 : Int64)).toInt32)), .val (.int (((nb - (nb / (12 : Int64)) * (12 : Int64)).toInt32) + (1 : Int32)))] []))
  refine own_st (V := T6.setTop (mkF m 107 #[.val (.long nb), .second, .val (.ref into), .val (.int ((nb / (12 : Int64)).toInt32)), .val (.int (((nb - (nb / (12 : Int64)) * (12 : Int64)).toInt32) + (1 : Int32)))] [(.int (((48 : Int32) + ((((nb - (nb / (12 : Int64)) * (12 : Int64)).toInt32) + (1 : Int32)) % (10 : Int32))).toInt8.toInt32)), (.int (6 : Int32)), (.ref into)])) (fun tgt k => ?_) ?_
  · show Steps p.tables e below (T6.setTop (mkF m 95 #[.val (.long nb), .second, .val (.ref into), .val (.int ((nb / (12 : Int64)).toInt32)), .val (.int (((nb - (nb / (12 : Int64)) * (12 : Int64)).toInt32) + (1 : Int32)))] [])) tgt
    refine XS.aloadN X6.here hx rfl (hb hby d1y_95) rfl rfl ?_
    show Steps p.tables e below (T6.setTop (mkF m 96 #[.val (.long nb), .second, .val (.ref into), .val (.int ((nb / (12 : Int64)).toInt32)), .val (.int (((nb - (nb / (12 : Int64)) * (12 : Int64)).toInt32) + (1 : Int32)))] [(.ref into)])) tgt
    refine XS.bipush X6.here hx rfl (hb hby d1y_96) ?_
    show Steps p.tables e below (T6.setTop (mkF m 98 #[.val (.long nb), .second, .val (.ref into), .val (.int ((nb / (12 : Int64)).toInt32)), .val (.int (((nb - (nb / (12 : Int64)) * (12 : Int64)).toInt32) + (1 : Int32)))] [(.int (6 : Int32)), (.ref into)])) tgt
    refine XS.bipush X6.here hx rfl (hb hby d1y_98) ?_
    show Steps p.tables e below (T6.setTop (mkF m 100 #[.val (.long nb), .second, .val (.ref into), .val (.int ((nb / (12 : Int64)).toInt32)), .val (.int (((nb - (nb / (12 : Int64)) * (12 : Int64)).toInt32) + (1 : Int32)))] [(.int (48 : Int32)), (.int (6 : Int32)), (.ref into)])) tgt
    refine XS.iload X6.here hx rfl (hb hby d1y_100) rfl ?_
    show Steps p.tables e below (T6.setTop (mkF m 102 #[.val (.long nb), .second, .val (.ref into), .val (.int ((nb / (12 : Int64)).toInt32)), .val (.int (((nb - (nb / (12 : Int64)) * (12 : Int64)).toInt32) + (1 : Int32)))] [(.int (((nb - (nb / (12 : Int64)) * (12 : Int64)).toInt32) + (1 : Int32))), (.int (48 : Int32)), (.int (6 : Int32)), (.ref into)])) tgt
    refine XS.bipush X6.here hx rfl (hb hby d1y_102) ?_
    show Steps p.tables e below (T6.setTop (mkF m 104 #[.val (.long nb), .second, .val (.ref into), .val (.int ((nb / (12 : Int64)).toInt32)), .val (.int (((nb - (nb / (12 : Int64)) * (12 : Int64)).toInt32) + (1 : Int32)))] [(.int (10 : Int32)), (.int (((nb - (nb / (12 : Int64)) * (12 : Int64)).toInt32) + (1 : Int32))), (.int (48 : Int32)), (.int (6 : Int32)), (.ref into)])) tgt
    refine iremM X6 hx rfl (hb hby d1y_104) rfl (by decide) ?_
    show Steps p.tables e below (T6.setTop (mkF m 105 #[.val (.long nb), .second, .val (.ref into), .val (.int ((nb / (12 : Int64)).toInt32)), .val (.int (((nb - (nb / (12 : Int64)) * (12 : Int64)).toInt32) + (1 : Int32)))] [(.int ((((nb - (nb / (12 : Int64)) * (12 : Int64)).toInt32) + (1 : Int32)) % (10 : Int32))), (.int (48 : Int32)), (.int (6 : Int32)), (.ref into)])) tgt
    refine XS.iadd X6.here hx rfl (hb hby d1y_105) rfl ?_
    show Steps p.tables e below (T6.setTop (mkF m 106 #[.val (.long nb), .second, .val (.ref into), .val (.int ((nb / (12 : Int64)).toInt32)), .val (.int (((nb - (nb / (12 : Int64)) * (12 : Int64)).toInt32) + (1 : Int32)))] [(.int ((48 : Int32) + ((((nb - (nb / (12 : Int64)) * (12 : Int64)).toInt32) + (1 : Int32)) % (10 : Int32)))), (.int (6 : Int32)), (.ref into)])) tgt
    refine XS.i2b X6.here hx rfl (hb hby d1y_106) rfl ?_
    exact k
  obtain ⟨T7, h7, X7, e7, W7, A_into_7, st7⟩ := own_bastore X6 hx hZ e6 A_into_6 (j := (6 : Int32)) (k := 6) rfl (by decide) (g := (mkF m 107 #[.val (.long nb), .second, .val (.ref into), .val (.int ((nb / (12 : Int64)).toInt32)), .val (.int (((nb - (nb / (12 : Int64)) * (12 : Int64)).toInt32) + (1 : Int32)))] [(.int (((48 : Int32) + ((((nb - (nb / (12 : Int64)) * (12 : Int64)).toInt32) + (1 : Int32)) % (10 : Int32))).toInt8.toInt32)), (.int (6 : Int32)), (.ref into)])) rfl rfl (hb hby d1y_107)
  have N7 := Fr.snoc X7 N6 G1
  have Zs7 : n0 ≤ h7.size := Nat.le_trans Zs6 (Keep.of_wr W7).1
  have Kp7 := Kp6.wr W7 (Or.inl (List.mem_of_getElem? (i := 0) rfl))
  refine own_st st7 ?_
  show own_Go p e below _ (T7.setTop (mkF m 108 #[.val (.long nb), .second, .val (.ref into), .val (.int ((nb / (12 : Int64)).toInt32)), .val (.int (((nb - (nb / (12 : Int64)) * (12 : Int64)).toInt32) + (1 : Int32)))] []))
  have Af_into_8 := A_into_7
  rw [show (own_up (own_up (own_up (own_up (own_up (own_up (own_up ff 0 (((48 : Int32) + (((nb / (12 : Int64)).toInt32) / (1000 : Int32))).toInt8.toInt32).toInt8.toInt32) 1 (((48 : Int32) + ((((nb / (12 : Int64)).toInt32) / (100 : Int32)) % (10 : Int32))).toInt8.toInt32).toInt8.toInt32) 2 (((48 : Int32) + ((((nb / (12 : Int64)).toInt32) / (10 : Int32)) % (10 : Int32))).toInt8.toInt32).toInt8.toInt32) 3 (((48 : Int32) + (((nb / (12 : Int64)).toInt32) % (10 : Int32))).toInt8.toInt32).toInt8.toInt32) 4 (45 : Int32).toInt8.toInt32) 5 (((48 : Int32) + ((((nb - (nb / (12 : Int64)) * (12 : Int64)).toInt32) + (1 : Int32)) / (10 : Int32))).toInt8.toInt32).toInt8.toInt32) 6 (((48 : Int32) + ((((nb - (nb / (12 : Int64)) * (12 : Int64)).toInt32) + (1 : Int32)) % (10 : Int32))).toInt8.toInt32).toInt8.toInt32) = (own_W nb ff) from rfl] at Af_into_8
  refine own_st (V := T7.setTop (mkF m 109 #[.val (.long nb), .second, .val (.ref into), .val (.int ((nb / (12 : Int64)).toInt32)), .val (.int (((nb - (nb / (12 : Int64)) * (12 : Int64)).toInt32) + (1 : Int32)))] [(.int (1 : Int32))])) (fun tgt k => ?_) ?_
  · show Steps p.tables e below (T7.setTop (mkF m 108 #[.val (.long nb), .second, .val (.ref into), .val (.int ((nb / (12 : Int64)).toInt32)), .val (.int (((nb - (nb / (12 : Int64)) * (12 : Int64)).toInt32) + (1 : Int32)))] [])) tgt
    refine XS.iconst X7.here hx rfl (hb hby d1y_108) ?_
    exact k
  refine own_retN X7 hx hlk (t := .boolean) (z' := (1 : Int32)) Bd.returns (by simp) rfl (hb hby d1y_109) ?_ (by decide) (by decide)
  show Q1y Z nb into ff h0 n0 (some (.int (1 : Int32))) T7.heap _
  rw [e7]
  exact ⟨rfl, N7, Kp7, Af_into_8⟩
theorem pn_0 : plainName "com/example/vestwright/vestwright/census/CensusValuesWriteMonthPinLaw" = true := by first | (simp [plainName, overriddenIn]; done) | decide +kernel
theorem pd_0_0 : parseMethodDescriptor "(J[B)Z" = some ⟨[.long, (.array .byte)], some .boolean⟩ := by decide +kernel
theorem pd_0_1 : parseMethodDescriptor "(B)Z" = some ⟨[.byte], some .boolean⟩ := by decide +kernel
theorem ef_0 (m : MethodId) (x0 : Int64) (x1 : Int32) (x2 : Int32) : entryFrame m #[(.long x0), (.int x1), (.int x2)] maxLocals = mkF m 0 #[.val (.long x0), .second, .val (.int x1), .val (.int x2), .unset, .unset, .unset, .unset, .unset, .unset, .unset, .unset, .unset, .unset, .unset] [] := by first | (simp [entryFrame, mkF, argsToLocals, Value.category, maxLocals]; done) | rfl
def Q0 (Z : State) (xn : Int64) (md : Int32) (fl : Int32) (h0 : Heap) (n0 : Nat) (v : Option Value) (h : Heap) (L : List Loc) : Prop := v = some (.int (1 : Int32)) ∧ Fr n0 L
set_option maxRecDepth 65536 in
set_option maxHeartbeats 40000000 in
theorem rm0 (l : Launch) (Z : State) (a0 : Array Value) (hw : ∀ d ∈ tables_1, d.before a0 Z = true) (ws : List Jvm.Cond) (xn : Int64) (md : Int32) (fl : Int32) (h0 : Heap) (n0 : Nat) (Z0 : n0 ≤ h0.size) :
    MetFree l x (head1 (Jvm.Cond.code x code maxLocals ret :: ws) room_1) (fun a U => a = #[(.long xn), (.int md), (.int fl)] ∧ Z.Warmed39 U.vm ∧ U.heap = h0) (fun _ _ _ _ _ => True) (fun _ U o U' => ∃ v L, o = .returned v ∧ Q0 Z xn md fl h0 n0 v U'.heap L ∧ FrameEnd U o U' L 16 128) := by
  refine MetFree.of_bodySF (plainFor_of_name pn_0) hisR ?_
  intro p e s m args below meth c s₁ Bd hml0 hP hK
  obtain ⟨rfl, hZ, hh⟩ := hP
  have hx := Bd.exec
  have hby := Bd.bytes
  have hlk : meth.locks = false := BodyLoose.notSynchronized Bd
  have hml : c.maxLocals = 15 := hml0
  have hown : s.vm.findClass "com/example/vestwright/vestwright/census/CensusValuesWriteMonthPinLaw" = some m.cls := findClass_of_methodNamed Bd.named
  have hnm := (name_of_methodNamed Bd.named Bd.method).1
  have X0 : Stand p l e room_1 s m #[(.long xn), (.int md), (.int fl)] below meth c s₁ [] 0 0 := Stand.of_body Bd
  have e0 : s₁.heap = h0 := by rw [← hh, Bd.state]; rfl
  have N0 := Fr.nil n0
  show own_Go p e below (own_G s (Q0 Z xn md fl h0 n0) 16 128) (s₁.setTop (entryFrame m #[(.long xn), (.int md), (.int fl)] maxLocals))
  refine own_st (fun tgt k => castTop (ef_0 m xn md fl) k) ?_
  show own_Go p e below _ (s₁.setTop (mkF m 0 #[.val (.long xn), .second, .val (.int md), .val (.int fl), .unset, .unset, .unset, .unset, .unset, .unset, .unset, .unset, .unset, .unset, .unset] []))
  refine own_st (V := s₁.setTop (mkF m 7 #[.val (.long xn), .second, .val (.int md), .val (.int fl), .val (.long (xn &&& (9223372036854775807 : Int64))), .second, .unset, .unset, .unset, .unset, .unset, .unset, .unset, .unset, .unset] [])) (fun tgt k => ?_) ?_
  · show Steps p.tables e below (s₁.setTop (mkF m 0 #[.val (.long xn), .second, .val (.int md), .val (.int fl), .unset, .unset, .unset, .unset, .unset, .unset, .unset, .unset, .unset, .unset, .unset] [])) tgt
    refine XS.lloadN X0.here hx rfl (hb hby at_0) rfl ?_
    show Steps p.tables e below (s₁.setTop (mkF m 1 #[.val (.long xn), .second, .val (.int md), .val (.int fl), .unset, .unset, .unset, .unset, .unset, .unset, .unset, .unset, .unset, .unset, .unset] [(.long xn)])) tgt
    refine X0.ldc2Long hx hown (mvT hZ (hw _ (List.mem_of_getElem? (i := 0) rfl))) (g := (mkF m 1 #[.val (.long xn), .second, .val (.int md), .val (.int fl), .unset, .unset, .unset, .unset, .unset, .unset, .unset, .unset, .unset, .unset, .unset] [(.long xn)])) rfl (hb hby at_1) _ ?_
    show Steps p.tables e below (s₁.setTop (mkF m 4 #[.val (.long xn), .second, .val (.int md), .val (.int fl), .unset, .unset, .unset, .unset, .unset, .unset, .unset, .unset, .unset, .unset, .unset] [(.long (9223372036854775807 : Int64)), (.long xn)])) tgt
    refine XS.land X0.here hx rfl (hb hby at_4) rfl ?_
    show Steps p.tables e below (s₁.setTop (mkF m 5 #[.val (.long xn), .second, .val (.int md), .val (.int fl), .unset, .unset, .unset, .unset, .unset, .unset, .unset, .unset, .unset, .unset, .unset] [(.long (xn &&& (9223372036854775807 : Int64)))])) tgt
    refine XS.lstore X0.here hx rfl (hb hby at_5) rfl (l' := #[.val (.long xn), .second, .val (.int md), .val (.int fl), .val (.long (xn &&& (9223372036854775807 : Int64))), .second, .unset, .unset, .unset, .unset, .unset, .unset, .unset, .unset, .unset]) rfl ?_
    exact k
  obtain ⟨wv, hwv⟩ : ∃ z : Int64, z = (xn &&& (9223372036854775807 : Int64)) := ⟨_, rfl⟩
  rw [← hwv]
  have hw0 : 0 ≤ wv.toInt := by rw [hwv]; exact own_pos64 xn
  refine own_st (V := s₁.setTop (mkF m 12 #[.val (.long xn), .second, .val (.int md), .val (.int fl), .val (.long wv), .second, .val (.int (md &&& (3 : Int32))), .unset, .unset, .unset, .unset, .unset, .unset, .unset, .unset] [])) (fun tgt k => ?_) ?_
  · show Steps p.tables e below (s₁.setTop (mkF m 7 #[.val (.long xn), .second, .val (.int md), .val (.int fl), .val (.long wv), .second, .unset, .unset, .unset, .unset, .unset, .unset, .unset, .unset, .unset] [])) tgt
    refine XS.iloadN X0.here hx rfl (hb hby at_7) rfl ?_
    show Steps p.tables e below (s₁.setTop (mkF m 8 #[.val (.long xn), .second, .val (.int md), .val (.int fl), .val (.long wv), .second, .unset, .unset, .unset, .unset, .unset, .unset, .unset, .unset, .unset] [(.int md)])) tgt
    refine XS.iconst X0.here hx rfl (hb hby at_8) ?_
    show Steps p.tables e below (s₁.setTop (mkF m 9 #[.val (.long xn), .second, .val (.int md), .val (.int fl), .val (.long wv), .second, .unset, .unset, .unset, .unset, .unset, .unset, .unset, .unset, .unset] [(.int (3 : Int32)), (.int md)])) tgt
    refine XS.iand X0.here hx rfl (hb hby at_9) rfl ?_
    show Steps p.tables e below (s₁.setTop (mkF m 10 #[.val (.long xn), .second, .val (.int md), .val (.int fl), .val (.long wv), .second, .unset, .unset, .unset, .unset, .unset, .unset, .unset, .unset, .unset] [(.int (md &&& (3 : Int32)))])) tgt
    refine XS.istore X0.here hx rfl (hb hby at_10) rfl (l' := #[.val (.long xn), .second, .val (.int md), .val (.int fl), .val (.long wv), .second, .val (.int (md &&& (3 : Int32))), .unset, .unset, .unset, .unset, .unset, .unset, .unset, .unset]) rfl ?_
    exact k
  obtain ⟨mm, hmm⟩ : ∃ z : Int32, z = (md &&& (3 : Int32)) := ⟨_, rfl⟩
  rw [← hmm]
  refine own_st (V := s₁.setTop (mkF m 14 #[.val (.long xn), .second, .val (.int md), .val (.int fl), .val (.long wv), .second, .val (.int mm), .unset, .unset, .unset, .unset, .unset, .unset, .unset, .unset] [(.int mm)])) (fun tgt k => ?_) ?_
  · show Steps p.tables e below (s₁.setTop (mkF m 12 #[.val (.long xn), .second, .val (.int md), .val (.int fl), .val (.long wv), .second, .val (.int mm), .unset, .unset, .unset, .unset, .unset, .unset, .unset, .unset] [])) tgt
    refine XS.iload X0.here hx rfl (hb hby at_12) rfl ?_
    exact k
  obtain ⟨nv, hnv⟩ : ∃ z : Int64, z = (if mm = (0 : Int32) then wv else (if mm = (1 : Int32) then (wv - (wv / (120000 : Int64)) * (120000 : Int64)) else (if mm = (2 : Int32) then ((119990 : Int64) + (wv - (wv / (20 : Int64)) * (20 : Int64))) else (wv - (wv / (240 : Int64)) * (240 : Int64))))) := ⟨_, rfl⟩
  refine own_st (V := s₁.setTop (mkF m 70 #[.val (.long xn), .second, .val (.int md), .val (.int fl), .val (.long wv), .second, .val (.int mm), .val (.long nv), .second, .unset, .unset, .unset, .unset, .unset, .unset] [])) (fun tgt k => ?_) ?_
  · skip
    by_cases hc14_2 : mm = (0 : Int32)
    · skip
      rw [if_pos hc14_2] at hnv
      show Steps p.tables e below (s₁.setTop (mkF m 14 #[.val (.long xn), .second, .val (.int md), .val (.int fl), .val (.long wv), .second, .val (.int mm), .unset, .unset, .unset, .unset, .unset, .unset, .unset, .unset] [(.int mm)])) tgt
      refine XS.ifNo X0.here hx rfl (hb hby at_14) rfl ((if0 _ _).trans (teq hc14_2).2) ?_
      show Steps p.tables e below (s₁.setTop (mkF m 17 #[.val (.long xn), .second, .val (.int md), .val (.int fl), .val (.long wv), .second, .val (.int mm), .unset, .unset, .unset, .unset, .unset, .unset, .unset, .unset] [])) tgt
      refine XS.lload X0.here hx rfl (hb hby at_17) rfl ?_
      show Steps p.tables e below (s₁.setTop (mkF m 19 #[.val (.long xn), .second, .val (.int md), .val (.int fl), .val (.long wv), .second, .val (.int mm), .unset, .unset, .unset, .unset, .unset, .unset, .unset, .unset] [(.long wv)])) tgt
      refine XS.lstore X0.here hx rfl (hb hby at_19) rfl (l' := #[.val (.long xn), .second, .val (.int md), .val (.int fl), .val (.long wv), .second, .val (.int mm), .val (.long wv), .second, .unset, .unset, .unset, .unset, .unset, .unset]) rfl ?_
      show Steps p.tables e below (s₁.setTop (mkF m 21 #[.val (.long xn), .second, .val (.int md), .val (.int fl), .val (.long wv), .second, .val (.int mm), .val (.long wv), .second, .unset, .unset, .unset, .unset, .unset, .unset] [])) tgt
      refine XS.goto X0.here hx rfl (pc0 := 21) (pc' := 70) rfl (hb hby at_21) (by decide) (by decide) ?_
      rw [hnv] at k
      exact k
    · skip
      rw [if_neg hc14_2] at hnv
      show Steps p.tables e below (s₁.setTop (mkF m 14 #[.val (.long xn), .second, .val (.int md), .val (.int fl), .val (.long wv), .second, .val (.int mm), .unset, .unset, .unset, .unset, .unset, .unset, .unset, .unset] [(.int mm)])) tgt
      refine XS.ifYes X0.here hx rfl (pc0 := 14) (pc' := 24) rfl (hb hby at_14) rfl ((if0 _ _).trans (feq hc14_2).2) (by decide) (by decide) ?_
      show Steps p.tables e below (s₁.setTop (mkF m 24 #[.val (.long xn), .second, .val (.int md), .val (.int fl), .val (.long wv), .second, .val (.int mm), .unset, .unset, .unset, .unset, .unset, .unset, .unset, .unset] [])) tgt
      refine XS.iload X0.here hx rfl (hb hby at_24) rfl ?_
      show Steps p.tables e below (s₁.setTop (mkF m 26 #[.val (.long xn), .second, .val (.int md), .val (.int fl), .val (.long wv), .second, .val (.int mm), .unset, .unset, .unset, .unset, .unset, .unset, .unset, .unset] [(.int mm)])) tgt
      refine XS.iconst X0.here hx rfl (hb hby at_26) ?_
      by_cases hc27 : mm = (1 : Int32)
      · skip
        rw [if_pos hc27] at hnv
        show Steps p.tables e below (s₁.setTop (mkF m 27 #[.val (.long xn), .second, .val (.int md), .val (.int fl), .val (.long wv), .second, .val (.int mm), .unset, .unset, .unset, .unset, .unset, .unset, .unset, .unset] [(.int (1 : Int32)), (.int mm)])) tgt
        refine XS.icmpNo X0.here hx rfl (hb hby at_27) rfl (teq hc27).2 ?_
        show Steps p.tables e below (s₁.setTop (mkF m 30 #[.val (.long xn), .second, .val (.int md), .val (.int fl), .val (.long wv), .second, .val (.int mm), .unset, .unset, .unset, .unset, .unset, .unset, .unset, .unset] [])) tgt
        refine XS.lload X0.here hx rfl (hb hby at_30) rfl ?_
        show Steps p.tables e below (s₁.setTop (mkF m 32 #[.val (.long xn), .second, .val (.int md), .val (.int fl), .val (.long wv), .second, .val (.int mm), .unset, .unset, .unset, .unset, .unset, .unset, .unset, .unset] [(.long wv)])) tgt
        refine X0.ldc2Long hx hown (mvT hZ (hw _ (List.mem_of_getElem? (i := 10) rfl))) (g := (mkF m 32 #[.val (.long xn), .second, .val (.int md), .val (.int fl), .val (.long wv), .second, .val (.int mm), .unset, .unset, .unset, .unset, .unset, .unset, .unset, .unset] [(.long wv)])) rfl (hb hby at_32) _ ?_
        show Steps p.tables e below (s₁.setTop (mkF m 35 #[.val (.long xn), .second, .val (.int md), .val (.int fl), .val (.long wv), .second, .val (.int mm), .unset, .unset, .unset, .unset, .unset, .unset, .unset, .unset] [(.long (120000 : Int64)), (.long wv)])) tgt
        refine XS.lrem X0.here hx rfl (hb hby at_35) rfl (by decide) ?_
        show Steps p.tables e below (s₁.setTop (mkF m 36 #[.val (.long xn), .second, .val (.int md), .val (.int fl), .val (.long wv), .second, .val (.int mm), .unset, .unset, .unset, .unset, .unset, .unset, .unset, .unset] [(.long (wv - (wv / (120000 : Int64)) * (120000 : Int64)))])) tgt
        refine XS.lstore X0.here hx rfl (hb hby at_36) rfl (l' := #[.val (.long xn), .second, .val (.int md), .val (.int fl), .val (.long wv), .second, .val (.int mm), .val (.long (wv - (wv / (120000 : Int64)) * (120000 : Int64))), .second, .unset, .unset, .unset, .unset, .unset, .unset]) rfl ?_
        show Steps p.tables e below (s₁.setTop (mkF m 38 #[.val (.long xn), .second, .val (.int md), .val (.int fl), .val (.long wv), .second, .val (.int mm), .val (.long (wv - (wv / (120000 : Int64)) * (120000 : Int64))), .second, .unset, .unset, .unset, .unset, .unset, .unset] [])) tgt
        refine XS.goto X0.here hx rfl (pc0 := 38) (pc' := 70) rfl (hb hby at_38) (by decide) (by decide) ?_
        rw [hnv] at k
        exact k
      · skip
        rw [if_neg hc27] at hnv
        show Steps p.tables e below (s₁.setTop (mkF m 27 #[.val (.long xn), .second, .val (.int md), .val (.int fl), .val (.long wv), .second, .val (.int mm), .unset, .unset, .unset, .unset, .unset, .unset, .unset, .unset] [(.int (1 : Int32)), (.int mm)])) tgt
        refine XS.icmpYes X0.here hx rfl (pc0 := 27) (pc' := 41) rfl (hb hby at_27) rfl (feq hc27).2 (by decide) (by decide) ?_
        show Steps p.tables e below (s₁.setTop (mkF m 41 #[.val (.long xn), .second, .val (.int md), .val (.int fl), .val (.long wv), .second, .val (.int mm), .unset, .unset, .unset, .unset, .unset, .unset, .unset, .unset] [])) tgt
        refine XS.iload X0.here hx rfl (hb hby at_41) rfl ?_
        show Steps p.tables e below (s₁.setTop (mkF m 43 #[.val (.long xn), .second, .val (.int md), .val (.int fl), .val (.long wv), .second, .val (.int mm), .unset, .unset, .unset, .unset, .unset, .unset, .unset, .unset] [(.int mm)])) tgt
        refine XS.iconst X0.here hx rfl (hb hby at_43) ?_
        by_cases hc44 : mm = (2 : Int32)
        · skip
          rw [if_pos hc44] at hnv
          show Steps p.tables e below (s₁.setTop (mkF m 44 #[.val (.long xn), .second, .val (.int md), .val (.int fl), .val (.long wv), .second, .val (.int mm), .unset, .unset, .unset, .unset, .unset, .unset, .unset, .unset] [(.int (2 : Int32)), (.int mm)])) tgt
          refine XS.icmpNo X0.here hx rfl (hb hby at_44) rfl (teq hc44).2 ?_
          show Steps p.tables e below (s₁.setTop (mkF m 47 #[.val (.long xn), .second, .val (.int md), .val (.int fl), .val (.long wv), .second, .val (.int mm), .unset, .unset, .unset, .unset, .unset, .unset, .unset, .unset] [])) tgt
          refine X0.ldc2Long hx hown (mvT hZ (hw _ (List.mem_of_getElem? (i := 1) rfl))) (g := (mkF m 47 #[.val (.long xn), .second, .val (.int md), .val (.int fl), .val (.long wv), .second, .val (.int mm), .unset, .unset, .unset, .unset, .unset, .unset, .unset, .unset] [])) rfl (hb hby at_47) _ ?_
          show Steps p.tables e below (s₁.setTop (mkF m 50 #[.val (.long xn), .second, .val (.int md), .val (.int fl), .val (.long wv), .second, .val (.int mm), .unset, .unset, .unset, .unset, .unset, .unset, .unset, .unset] [(.long (119990 : Int64))])) tgt
          refine XS.lload X0.here hx rfl (hb hby at_50) rfl ?_
          show Steps p.tables e below (s₁.setTop (mkF m 52 #[.val (.long xn), .second, .val (.int md), .val (.int fl), .val (.long wv), .second, .val (.int mm), .unset, .unset, .unset, .unset, .unset, .unset, .unset, .unset] [(.long wv), (.long (119990 : Int64))])) tgt
          refine X0.ldc2Long hx hown (mvT hZ (hw _ (List.mem_of_getElem? (i := 2) rfl))) (g := (mkF m 52 #[.val (.long xn), .second, .val (.int md), .val (.int fl), .val (.long wv), .second, .val (.int mm), .unset, .unset, .unset, .unset, .unset, .unset, .unset, .unset] [(.long wv), (.long (119990 : Int64))])) rfl (hb hby at_52) _ ?_
          show Steps p.tables e below (s₁.setTop (mkF m 55 #[.val (.long xn), .second, .val (.int md), .val (.int fl), .val (.long wv), .second, .val (.int mm), .unset, .unset, .unset, .unset, .unset, .unset, .unset, .unset] [(.long (20 : Int64)), (.long wv), (.long (119990 : Int64))])) tgt
          refine XS.lrem X0.here hx rfl (hb hby at_55) rfl (by decide) ?_
          show Steps p.tables e below (s₁.setTop (mkF m 56 #[.val (.long xn), .second, .val (.int md), .val (.int fl), .val (.long wv), .second, .val (.int mm), .unset, .unset, .unset, .unset, .unset, .unset, .unset, .unset] [(.long (wv - (wv / (20 : Int64)) * (20 : Int64))), (.long (119990 : Int64))])) tgt
          refine XS.ladd X0.here hx rfl (hb hby at_56) rfl ?_
          show Steps p.tables e below (s₁.setTop (mkF m 57 #[.val (.long xn), .second, .val (.int md), .val (.int fl), .val (.long wv), .second, .val (.int mm), .unset, .unset, .unset, .unset, .unset, .unset, .unset, .unset] [(.long ((119990 : Int64) + (wv - (wv / (20 : Int64)) * (20 : Int64))))])) tgt
          refine XS.lstore X0.here hx rfl (hb hby at_57) rfl (l' := #[.val (.long xn), .second, .val (.int md), .val (.int fl), .val (.long wv), .second, .val (.int mm), .val (.long ((119990 : Int64) + (wv - (wv / (20 : Int64)) * (20 : Int64)))), .second, .unset, .unset, .unset, .unset, .unset, .unset]) rfl ?_
          show Steps p.tables e below (s₁.setTop (mkF m 59 #[.val (.long xn), .second, .val (.int md), .val (.int fl), .val (.long wv), .second, .val (.int mm), .val (.long ((119990 : Int64) + (wv - (wv / (20 : Int64)) * (20 : Int64)))), .second, .unset, .unset, .unset, .unset, .unset, .unset] [])) tgt
          refine XS.goto X0.here hx rfl (pc0 := 59) (pc' := 70) rfl (hb hby at_59) (by decide) (by decide) ?_
          rw [hnv] at k
          exact k
        · skip
          rw [if_neg hc44] at hnv
          show Steps p.tables e below (s₁.setTop (mkF m 44 #[.val (.long xn), .second, .val (.int md), .val (.int fl), .val (.long wv), .second, .val (.int mm), .unset, .unset, .unset, .unset, .unset, .unset, .unset, .unset] [(.int (2 : Int32)), (.int mm)])) tgt
          refine XS.icmpYes X0.here hx rfl (pc0 := 44) (pc' := 62) rfl (hb hby at_44) rfl (feq hc44).2 (by decide) (by decide) ?_
          show Steps p.tables e below (s₁.setTop (mkF m 62 #[.val (.long xn), .second, .val (.int md), .val (.int fl), .val (.long wv), .second, .val (.int mm), .unset, .unset, .unset, .unset, .unset, .unset, .unset, .unset] [])) tgt
          refine XS.lload X0.here hx rfl (hb hby at_62) rfl ?_
          show Steps p.tables e below (s₁.setTop (mkF m 64 #[.val (.long xn), .second, .val (.int md), .val (.int fl), .val (.long wv), .second, .val (.int mm), .unset, .unset, .unset, .unset, .unset, .unset, .unset, .unset] [(.long wv)])) tgt
          refine X0.ldc2Long hx hown (mvT hZ (hw _ (List.mem_of_getElem? (i := 19) rfl))) (g := (mkF m 64 #[.val (.long xn), .second, .val (.int md), .val (.int fl), .val (.long wv), .second, .val (.int mm), .unset, .unset, .unset, .unset, .unset, .unset, .unset, .unset] [(.long wv)])) rfl (hb hby at_64) _ ?_
          show Steps p.tables e below (s₁.setTop (mkF m 67 #[.val (.long xn), .second, .val (.int md), .val (.int fl), .val (.long wv), .second, .val (.int mm), .unset, .unset, .unset, .unset, .unset, .unset, .unset, .unset] [(.long (240 : Int64)), (.long wv)])) tgt
          refine XS.lrem X0.here hx rfl (hb hby at_67) rfl (by decide) ?_
          show Steps p.tables e below (s₁.setTop (mkF m 68 #[.val (.long xn), .second, .val (.int md), .val (.int fl), .val (.long wv), .second, .val (.int mm), .unset, .unset, .unset, .unset, .unset, .unset, .unset, .unset] [(.long (wv - (wv / (240 : Int64)) * (240 : Int64)))])) tgt
          refine XS.lstore X0.here hx rfl (hb hby at_68) rfl (l' := #[.val (.long xn), .second, .val (.int md), .val (.int fl), .val (.long wv), .second, .val (.int mm), .val (.long (wv - (wv / (240 : Int64)) * (240 : Int64))), .second, .unset, .unset, .unset, .unset, .unset, .unset]) rfl ?_
          rw [hnv] at k
          exact k
  have hn0 : 0 ≤ nv.toInt := by
    have q1 := (c_lrem wv 120000 120000 (by decide)).1 hw0
    have q2 := (c_lrem wv 20 20 (by decide)).1 hw0
    have q3 := (c_lrem wv 240 240 (by decide)).1 hw0
    have q4 := c_ladd 119990 (wv - (wv / 20) * 20)
    have q5 := rng64 (119990 + (wv - (wv / 20) * 20))
    have e1 : (119990 : Int64).toInt = 119990 := by decide
    rw [e1, q2] at q4
    rw [hnv]; split
    · exact hw0
    · split
      · rw [q1]; omega
      · split
        · omega
        · rw [q3]; omega
  refine own_st (V := s₁.setTop (mkF m 74 #[.val (.long xn), .second, .val (.int md), .val (.int fl), .val (.long wv), .second, .val (.int mm), .val (.long nv), .second, .val (.int (fl.toInt8.toInt32)), .unset, .unset, .unset, .unset, .unset] [])) (fun tgt k => ?_) ?_
  · show Steps p.tables e below (s₁.setTop (mkF m 70 #[.val (.long xn), .second, .val (.int md), .val (.int fl), .val (.long wv), .second, .val (.int mm), .val (.long nv), .second, .unset, .unset, .unset, .unset, .unset, .unset] [])) tgt
    refine XS.iloadN X0.here hx rfl (hb hby at_70) rfl ?_
    show Steps p.tables e below (s₁.setTop (mkF m 71 #[.val (.long xn), .second, .val (.int md), .val (.int fl), .val (.long wv), .second, .val (.int mm), .val (.long nv), .second, .unset, .unset, .unset, .unset, .unset, .unset] [(.int fl)])) tgt
    refine XS.i2b X0.here hx rfl (hb hby at_71) rfl ?_
    show Steps p.tables e below (s₁.setTop (mkF m 72 #[.val (.long xn), .second, .val (.int md), .val (.int fl), .val (.long wv), .second, .val (.int mm), .val (.long nv), .second, .unset, .unset, .unset, .unset, .unset, .unset] [(.int (fl.toInt8.toInt32))])) tgt
    refine XS.istore X0.here hx rfl (hb hby at_72) rfl (l' := #[.val (.long xn), .second, .val (.int md), .val (.int fl), .val (.long wv), .second, .val (.int mm), .val (.long nv), .second, .val (.int (fl.toInt8.toInt32)), .unset, .unset, .unset, .unset, .unset]) rfl ?_
    exact k
  obtain ⟨bv, hbv⟩ : ∃ z : Int32, z = (fl.toInt8.toInt32) := ⟨_, rfl⟩
  rw [← hbv]
  have hbb : bv.toInt8.toInt32 = bv := by rw [hbv]; have q := c_i2b fl; exact own_b8 _ q.2.1 q.2.2
  refine own_st (V := s₁.setTop (mkF m 76 #[.val (.long xn), .second, .val (.int md), .val (.int fl), .val (.long wv), .second, .val (.int mm), .val (.long nv), .second, .val (.int bv), .unset, .unset, .unset, .unset, .unset] [(.int (9 : Int32))])) (fun tgt k => ?_) ?_
  · show Steps p.tables e below (s₁.setTop (mkF m 74 #[.val (.long xn), .second, .val (.int md), .val (.int fl), .val (.long wv), .second, .val (.int mm), .val (.long nv), .second, .val (.int bv), .unset, .unset, .unset, .unset, .unset] [])) tgt
    refine XS.bipush X0.here hx rfl (hb hby at_74) ?_
    exact k
  obtain ⟨T1, h1, c1, X1, e1, E1, A1, st1⟩ := own_newarr X0 hx hZ (hw _ (List.mem_of_getElem? (i := 3) rfl)) e0 (g := (mkF m 76 #[.val (.long xn), .second, .val (.int md), .val (.int fl), .val (.long wv), .second, .val (.int mm), .val (.long nv), .second, .val (.int bv), .unset, .unset, .unset, .unset, .unset] [(.int (9 : Int32))])) rfl (hb hby at_76) rfl (k := 9) rfl (cap := 9) (by decide) (by decide) (by decide) (by decide)
  obtain ⟨ia, g1⟩ : ∃ z, z = h0.size := ⟨_, rfl⟩
  rw [← g1] at A1 st1
  have g_ia : n0 ≤ ia := Nat.le_trans Z0 (Nat.le_of_eq g1.symm)
  have A_ia_1 : own_Ai Z h1 ia .byte 9 (fun _ => 0) := own_Ai.new A1
  have Zs1 : n0 ≤ h1.size := Nat.le_trans Z0 E1.1
  refine own_st st1 ?_
  show own_Go p e below _ (T1.setTop (mkF m 78 #[.val (.long xn), .second, .val (.int md), .val (.int fl), .val (.long wv), .second, .val (.int mm), .val (.long nv), .second, .val (.int bv), .unset, .unset, .unset, .unset, .unset] [(.ref ia)]))
  refine own_st (V := T1.setTop (mkF m 82 #[.val (.long xn), .second, .val (.int md), .val (.int fl), .val (.long wv), .second, .val (.int mm), .val (.long nv), .second, .val (.int bv), .unset, .unset, .unset, .unset, .unset] [(.int bv), (.int (0 : Int32)), (.ref ia), (.ref ia)])) (fun tgt k => ?_) ?_
  · show Steps p.tables e below (T1.setTop (mkF m 78 #[.val (.long xn), .second, .val (.int md), .val (.int fl), .val (.long wv), .second, .val (.int mm), .val (.long nv), .second, .val (.int bv), .unset, .unset, .unset, .unset, .unset] [(.ref ia)])) tgt
    refine XS.dup X1.here hx rfl (hb hby at_78) rfl rfl ?_
    show Steps p.tables e below (T1.setTop (mkF m 79 #[.val (.long xn), .second, .val (.int md), .val (.int fl), .val (.long wv), .second, .val (.int mm), .val (.long nv), .second, .val (.int bv), .unset, .unset, .unset, .unset, .unset] [(.ref ia), (.ref ia)])) tgt
    refine XS.iconst X1.here hx rfl (hb hby at_79) ?_
    show Steps p.tables e below (T1.setTop (mkF m 80 #[.val (.long xn), .second, .val (.int md), .val (.int fl), .val (.long wv), .second, .val (.int mm), .val (.long nv), .second, .val (.int bv), .unset, .unset, .unset, .unset, .unset] [(.int (0 : Int32)), (.ref ia), (.ref ia)])) tgt
    refine XS.iload X1.here hx rfl (hb hby at_80) rfl ?_
    exact k
  obtain ⟨T2, h2, X2, e2, W2, A_ia_2, st2⟩ := own_bastore X1 hx hZ e1 A_ia_1 (j := (0 : Int32)) (k := 0) rfl (by decide) (g := (mkF m 82 #[.val (.long xn), .second, .val (.int md), .val (.int fl), .val (.long wv), .second, .val (.int mm), .val (.long nv), .second, .val (.int bv), .unset, .unset, .unset, .unset, .unset] [(.int bv), (.int (0 : Int32)), (.ref ia), (.ref ia)])) rfl rfl (hb hby at_82)
  have N2 := Fr.snoc X2 N0 g_ia
  have Zs2 : n0 ≤ h2.size := Nat.le_trans Zs1 (Keep.of_wr W2).1
  refine own_st st2 ?_
  show own_Go p e below _ (T2.setTop (mkF m 83 #[.val (.long xn), .second, .val (.int md), .val (.int fl), .val (.long wv), .second, .val (.int mm), .val (.long nv), .second, .val (.int bv), .unset, .unset, .unset, .unset, .unset] [(.ref ia)]))
  refine own_st (V := T2.setTop (mkF m 87 #[.val (.long xn), .second, .val (.int md), .val (.int fl), .val (.long wv), .second, .val (.int mm), .val (.long nv), .second, .val (.int bv), .unset, .unset, .unset, .unset, .unset] [(.int bv), (.int (1 : Int32)), (.ref ia), (.ref ia)])) (fun tgt k => ?_) ?_
  · show Steps p.tables e below (T2.setTop (mkF m 83 #[.val (.long xn), .second, .val (.int md), .val (.int fl), .val (.long wv), .second, .val (.int mm), .val (.long nv), .second, .val (.int bv), .unset, .unset, .unset, .unset, .unset] [(.ref ia)])) tgt
    refine XS.dup X2.here hx rfl (hb hby at_83) rfl rfl ?_
    show Steps p.tables e below (T2.setTop (mkF m 84 #[.val (.long xn), .second, .val (.int md), .val (.int fl), .val (.long wv), .second, .val (.int mm), .val (.long nv), .second, .val (.int bv), .unset, .unset, .unset, .unset, .unset] [(.ref ia), (.ref ia)])) tgt
    refine XS.iconst X2.here hx rfl (hb hby at_84) ?_
    show Steps p.tables e below (T2.setTop (mkF m 85 #[.val (.long xn), .second, .val (.int md), .val (.int fl), .val (.long wv), .second, .val (.int mm), .val (.long nv), .second, .val (.int bv), .unset, .unset, .unset, .unset, .unset] [(.int (1 : Int32)), (.ref ia), (.ref ia)])) tgt
    refine XS.iload X2.here hx rfl (hb hby at_85) rfl ?_
    exact k
  obtain ⟨T3, h3, X3, e3, W3, A_ia_3, st3⟩ := own_bastore X2 hx hZ e2 A_ia_2 (j := (1 : Int32)) (k := 1) rfl (by decide) (g := (mkF m 87 #[.val (.long xn), .second, .val (.int md), .val (.int fl), .val (.long wv), .second, .val (.int mm), .val (.long nv), .second, .val (.int bv), .unset, .unset, .unset, .unset, .unset] [(.int bv), (.int (1 : Int32)), (.ref ia), (.ref ia)])) rfl rfl (hb hby at_87)
  have N3 := Fr.snoc X3 N2 g_ia
  have Zs3 : n0 ≤ h3.size := Nat.le_trans Zs2 (Keep.of_wr W3).1
  refine own_st st3 ?_
  show own_Go p e below _ (T3.setTop (mkF m 88 #[.val (.long xn), .second, .val (.int md), .val (.int fl), .val (.long wv), .second, .val (.int mm), .val (.long nv), .second, .val (.int bv), .unset, .unset, .unset, .unset, .unset] [(.ref ia)]))
  refine own_st (V := T3.setTop (mkF m 92 #[.val (.long xn), .second, .val (.int md), .val (.int fl), .val (.long wv), .second, .val (.int mm), .val (.long nv), .second, .val (.int bv), .unset, .unset, .unset, .unset, .unset] [(.int bv), (.int (2 : Int32)), (.ref ia), (.ref ia)])) (fun tgt k => ?_) ?_
  · show Steps p.tables e below (T3.setTop (mkF m 88 #[.val (.long xn), .second, .val (.int md), .val (.int fl), .val (.long wv), .second, .val (.int mm), .val (.long nv), .second, .val (.int bv), .unset, .unset, .unset, .unset, .unset] [(.ref ia)])) tgt
    refine XS.dup X3.here hx rfl (hb hby at_88) rfl rfl ?_
    show Steps p.tables e below (T3.setTop (mkF m 89 #[.val (.long xn), .second, .val (.int md), .val (.int fl), .val (.long wv), .second, .val (.int mm), .val (.long nv), .second, .val (.int bv), .unset, .unset, .unset, .unset, .unset] [(.ref ia), (.ref ia)])) tgt
    refine XS.iconst X3.here hx rfl (hb hby at_89) ?_
    show Steps p.tables e below (T3.setTop (mkF m 90 #[.val (.long xn), .second, .val (.int md), .val (.int fl), .val (.long wv), .second, .val (.int mm), .val (.long nv), .second, .val (.int bv), .unset, .unset, .unset, .unset, .unset] [(.int (2 : Int32)), (.ref ia), (.ref ia)])) tgt
    refine XS.iload X3.here hx rfl (hb hby at_90) rfl ?_
    exact k
  obtain ⟨T4, h4, X4, e4, W4, A_ia_4, st4⟩ := own_bastore X3 hx hZ e3 A_ia_3 (j := (2 : Int32)) (k := 2) rfl (by decide) (g := (mkF m 92 #[.val (.long xn), .second, .val (.int md), .val (.int fl), .val (.long wv), .second, .val (.int mm), .val (.long nv), .second, .val (.int bv), .unset, .unset, .unset, .unset, .unset] [(.int bv), (.int (2 : Int32)), (.ref ia), (.ref ia)])) rfl rfl (hb hby at_92)
  have N4 := Fr.snoc X4 N3 g_ia
  have Zs4 : n0 ≤ h4.size := Nat.le_trans Zs3 (Keep.of_wr W4).1
  refine own_st st4 ?_
  show own_Go p e below _ (T4.setTop (mkF m 93 #[.val (.long xn), .second, .val (.int md), .val (.int fl), .val (.long wv), .second, .val (.int mm), .val (.long nv), .second, .val (.int bv), .unset, .unset, .unset, .unset, .unset] [(.ref ia)]))
  refine own_st (V := T4.setTop (mkF m 97 #[.val (.long xn), .second, .val (.int md), .val (.int fl), .val (.long wv), .second, .val (.int mm), .val (.long nv), .second, .val (.int bv), .unset, .unset, .unset, .unset, .unset] [(.int bv), (.int (3 : Int32)), (.ref ia), (.ref ia)])) (fun tgt k => ?_) ?_
  · show Steps p.tables e below (T4.setTop (mkF m 93 #[.val (.long xn), .second, .val (.int md), .val (.int fl), .val (.long wv), .second, .val (.int mm), .val (.long nv), .second, .val (.int bv), .unset, .unset, .unset, .unset, .unset] [(.ref ia)])) tgt
    refine XS.dup X4.here hx rfl (hb hby at_93) rfl rfl ?_
    show Steps p.tables e below (T4.setTop (mkF m 94 #[.val (.long xn), .second, .val (.int md), .val (.int fl), .val (.long wv), .second, .val (.int mm), .val (.long nv), .second, .val (.int bv), .unset, .unset, .unset, .unset, .unset] [(.ref ia), (.ref ia)])) tgt
    refine XS.iconst X4.here hx rfl (hb hby at_94) ?_
    show Steps p.tables e below (T4.setTop (mkF m 95 #[.val (.long xn), .second, .val (.int md), .val (.int fl), .val (.long wv), .second, .val (.int mm), .val (.long nv), .second, .val (.int bv), .unset, .unset, .unset, .unset, .unset] [(.int (3 : Int32)), (.ref ia), (.ref ia)])) tgt
    refine XS.iload X4.here hx rfl (hb hby at_95) rfl ?_
    exact k
  obtain ⟨T5, h5, X5, e5, W5, A_ia_5, st5⟩ := own_bastore X4 hx hZ e4 A_ia_4 (j := (3 : Int32)) (k := 3) rfl (by decide) (g := (mkF m 97 #[.val (.long xn), .second, .val (.int md), .val (.int fl), .val (.long wv), .second, .val (.int mm), .val (.long nv), .second, .val (.int bv), .unset, .unset, .unset, .unset, .unset] [(.int bv), (.int (3 : Int32)), (.ref ia), (.ref ia)])) rfl rfl (hb hby at_97)
  have N5 := Fr.snoc X5 N4 g_ia
  have Zs5 : n0 ≤ h5.size := Nat.le_trans Zs4 (Keep.of_wr W5).1
  refine own_st st5 ?_
  show own_Go p e below _ (T5.setTop (mkF m 98 #[.val (.long xn), .second, .val (.int md), .val (.int fl), .val (.long wv), .second, .val (.int mm), .val (.long nv), .second, .val (.int bv), .unset, .unset, .unset, .unset, .unset] [(.ref ia)]))
  refine own_st (V := T5.setTop (mkF m 102 #[.val (.long xn), .second, .val (.int md), .val (.int fl), .val (.long wv), .second, .val (.int mm), .val (.long nv), .second, .val (.int bv), .unset, .unset, .unset, .unset, .unset] [(.int bv), (.int (4 : Int32)), (.ref ia), (.ref ia)])) (fun tgt k => ?_) ?_
  · show Steps p.tables e below (T5.setTop (mkF m 98 #[.val (.long xn), .second, .val (.int md), .val (.int fl), .val (.long wv), .second, .val (.int mm), .val (.long nv), .second, .val (.int bv), .unset, .unset, .unset, .unset, .unset] [(.ref ia)])) tgt
    refine XS.dup X5.here hx rfl (hb hby at_98) rfl rfl ?_
    show Steps p.tables e below (T5.setTop (mkF m 99 #[.val (.long xn), .second, .val (.int md), .val (.int fl), .val (.long wv), .second, .val (.int mm), .val (.long nv), .second, .val (.int bv), .unset, .unset, .unset, .unset, .unset] [(.ref ia), (.ref ia)])) tgt
    refine XS.iconst X5.here hx rfl (hb hby at_99) ?_
    show Steps p.tables e below (T5.setTop (mkF m 100 #[.val (.long xn), .second, .val (.int md), .val (.int fl), .val (.long wv), .second, .val (.int mm), .val (.long nv), .second, .val (.int bv), .unset, .unset, .unset, .unset, .unset] [(.int (4 : Int32)), (.ref ia), (.ref ia)])) tgt
    refine XS.iload X5.here hx rfl (hb hby at_100) rfl ?_
    exact k
  obtain ⟨T6, h6, X6, e6, W6, A_ia_6, st6⟩ := own_bastore X5 hx hZ e5 A_ia_5 (j := (4 : Int32)) (k := 4) rfl (by decide) (g := (mkF m 102 #[.val (.long xn), .second, .val (.int md), .val (.int fl), .val (.long wv), .second, .val (.int mm), .val (.long nv), .second, .val (.int bv), .unset, .unset, .unset, .unset, .unset] [(.int bv), (.int (4 : Int32)), (.ref ia), (.ref ia)])) rfl rfl (hb hby at_102)
  have N6 := Fr.snoc X6 N5 g_ia
  have Zs6 : n0 ≤ h6.size := Nat.le_trans Zs5 (Keep.of_wr W6).1
  refine own_st st6 ?_
  show own_Go p e below _ (T6.setTop (mkF m 103 #[.val (.long xn), .second, .val (.int md), .val (.int fl), .val (.long wv), .second, .val (.int mm), .val (.long nv), .second, .val (.int bv), .unset, .unset, .unset, .unset, .unset] [(.ref ia)]))
  refine own_st (V := T6.setTop (mkF m 107 #[.val (.long xn), .second, .val (.int md), .val (.int fl), .val (.long wv), .second, .val (.int mm), .val (.long nv), .second, .val (.int bv), .unset, .unset, .unset, .unset, .unset] [(.int bv), (.int (5 : Int32)), (.ref ia), (.ref ia)])) (fun tgt k => ?_) ?_
  · show Steps p.tables e below (T6.setTop (mkF m 103 #[.val (.long xn), .second, .val (.int md), .val (.int fl), .val (.long wv), .second, .val (.int mm), .val (.long nv), .second, .val (.int bv), .unset, .unset, .unset, .unset, .unset] [(.ref ia)])) tgt
    refine XS.dup X6.here hx rfl (hb hby at_103) rfl rfl ?_
    show Steps p.tables e below (T6.setTop (mkF m 104 #[.val (.long xn), .second, .val (.int md), .val (.int fl), .val (.long wv), .second, .val (.int mm), .val (.long nv), .second, .val (.int bv), .unset, .unset, .unset, .unset, .unset] [(.ref ia), (.ref ia)])) tgt
    refine XS.iconst X6.here hx rfl (hb hby at_104) ?_
    show Steps p.tables e below (T6.setTop (mkF m 105 #[.val (.long xn), .second, .val (.int md), .val (.int fl), .val (.long wv), .second, .val (.int mm), .val (.long nv), .second, .val (.int bv), .unset, .unset, .unset, .unset, .unset] [(.int (5 : Int32)), (.ref ia), (.ref ia)])) tgt
    refine XS.iload X6.here hx rfl (hb hby at_105) rfl ?_
    exact k
  obtain ⟨T7, h7, X7, e7, W7, A_ia_7, st7⟩ := own_bastore X6 hx hZ e6 A_ia_6 (j := (5 : Int32)) (k := 5) rfl (by decide) (g := (mkF m 107 #[.val (.long xn), .second, .val (.int md), .val (.int fl), .val (.long wv), .second, .val (.int mm), .val (.long nv), .second, .val (.int bv), .unset, .unset, .unset, .unset, .unset] [(.int bv), (.int (5 : Int32)), (.ref ia), (.ref ia)])) rfl rfl (hb hby at_107)
  have N7 := Fr.snoc X7 N6 g_ia
  have Zs7 : n0 ≤ h7.size := Nat.le_trans Zs6 (Keep.of_wr W7).1
  refine own_st st7 ?_
  show own_Go p e below _ (T7.setTop (mkF m 108 #[.val (.long xn), .second, .val (.int md), .val (.int fl), .val (.long wv), .second, .val (.int mm), .val (.long nv), .second, .val (.int bv), .unset, .unset, .unset, .unset, .unset] [(.ref ia)]))
  refine own_st (V := T7.setTop (mkF m 113 #[.val (.long xn), .second, .val (.int md), .val (.int fl), .val (.long wv), .second, .val (.int mm), .val (.long nv), .second, .val (.int bv), .unset, .unset, .unset, .unset, .unset] [(.int bv), (.int (6 : Int32)), (.ref ia), (.ref ia)])) (fun tgt k => ?_) ?_
  · show Steps p.tables e below (T7.setTop (mkF m 108 #[.val (.long xn), .second, .val (.int md), .val (.int fl), .val (.long wv), .second, .val (.int mm), .val (.long nv), .second, .val (.int bv), .unset, .unset, .unset, .unset, .unset] [(.ref ia)])) tgt
    refine XS.dup X7.here hx rfl (hb hby at_108) rfl rfl ?_
    show Steps p.tables e below (T7.setTop (mkF m 109 #[.val (.long xn), .second, .val (.int md), .val (.int fl), .val (.long wv), .second, .val (.int mm), .val (.long nv), .second, .val (.int bv), .unset, .unset, .unset, .unset, .unset] [(.ref ia), (.ref ia)])) tgt
    refine XS.bipush X7.here hx rfl (hb hby at_109) ?_
    show Steps p.tables e below (T7.setTop (mkF m 111 #[.val (.long xn), .second, .val (.int md), .val (.int fl), .val (.long wv), .second, .val (.int mm), .val (.long nv), .second, .val (.int bv), .unset, .unset, .unset, .unset, .unset] [(.int (6 : Int32)), (.ref ia), (.ref ia)])) tgt
    refine XS.iload X7.here hx rfl (hb hby at_111) rfl ?_
    exact k
  obtain ⟨T8, h8, X8, e8, W8, A_ia_8, st8⟩ := own_bastore X7 hx hZ e7 A_ia_7 (j := (6 : Int32)) (k := 6) rfl (by decide) (g := (mkF m 113 #[.val (.long xn), .second, .val (.int md), .val (.int fl), .val (.long wv), .second, .val (.int mm), .val (.long nv), .second, .val (.int bv), .unset, .unset, .unset, .unset, .unset] [(.int bv), (.int (6 : Int32)), (.ref ia), (.ref ia)])) rfl rfl (hb hby at_113)
  have N8 := Fr.snoc X8 N7 g_ia
  have Zs8 : n0 ≤ h8.size := Nat.le_trans Zs7 (Keep.of_wr W8).1
  refine own_st st8 ?_
  show own_Go p e below _ (T8.setTop (mkF m 114 #[.val (.long xn), .second, .val (.int md), .val (.int fl), .val (.long wv), .second, .val (.int mm), .val (.long nv), .second, .val (.int bv), .unset, .unset, .unset, .unset, .unset] [(.ref ia)]))
  refine own_st (V := T8.setTop (mkF m 119 #[.val (.long xn), .second, .val (.int md), .val (.int fl), .val (.long wv), .second, .val (.int mm), .val (.long nv), .second, .val (.int bv), .unset, .unset, .unset, .unset, .unset] [(.int bv), (.int (7 : Int32)), (.ref ia), (.ref ia)])) (fun tgt k => ?_) ?_
  · show Steps p.tables e below (T8.setTop (mkF m 114 #[.val (.long xn), .second, .val (.int md), .val (.int fl), .val (.long wv), .second, .val (.int mm), .val (.long nv), .second, .val (.int bv), .unset, .unset, .unset, .unset, .unset] [(.ref ia)])) tgt
    refine XS.dup X8.here hx rfl (hb hby at_114) rfl rfl ?_
    show Steps p.tables e below (T8.setTop (mkF m 115 #[.val (.long xn), .second, .val (.int md), .val (.int fl), .val (.long wv), .second, .val (.int mm), .val (.long nv), .second, .val (.int bv), .unset, .unset, .unset, .unset, .unset] [(.ref ia), (.ref ia)])) tgt
    refine XS.bipush X8.here hx rfl (hb hby at_115) ?_
    show Steps p.tables e below (T8.setTop (mkF m 117 #[.val (.long xn), .second, .val (.int md), .val (.int fl), .val (.long wv), .second, .val (.int mm), .val (.long nv), .second, .val (.int bv), .unset, .unset, .unset, .unset, .unset] [(.int (7 : Int32)), (.ref ia), (.ref ia)])) tgt
    refine XS.iload X8.here hx rfl (hb hby at_117) rfl ?_
    exact k
  obtain ⟨T9, h9, X9, e9, W9, A_ia_9, st9⟩ := own_bastore X8 hx hZ e8 A_ia_8 (j := (7 : Int32)) (k := 7) rfl (by decide) (g := (mkF m 119 #[.val (.long xn), .second, .val (.int md), .val (.int fl), .val (.long wv), .second, .val (.int mm), .val (.long nv), .second, .val (.int bv), .unset, .unset, .unset, .unset, .unset] [(.int bv), (.int (7 : Int32)), (.ref ia), (.ref ia)])) rfl rfl (hb hby at_119)
  have N9 := Fr.snoc X9 N8 g_ia
  have Zs9 : n0 ≤ h9.size := Nat.le_trans Zs8 (Keep.of_wr W9).1
  refine own_st st9 ?_
  show own_Go p e below _ (T9.setTop (mkF m 120 #[.val (.long xn), .second, .val (.int md), .val (.int fl), .val (.long wv), .second, .val (.int mm), .val (.long nv), .second, .val (.int bv), .unset, .unset, .unset, .unset, .unset] [(.ref ia)]))
  refine own_st (V := T9.setTop (mkF m 125 #[.val (.long xn), .second, .val (.int md), .val (.int fl), .val (.long wv), .second, .val (.int mm), .val (.long nv), .second, .val (.int bv), .unset, .unset, .unset, .unset, .unset] [(.int bv), (.int (8 : Int32)), (.ref ia), (.ref ia)])) (fun tgt k => ?_) ?_
  · show Steps p.tables e below (T9.setTop (mkF m 120 #[.val (.long xn), .second, .val (.int md), .val (.int fl), .val (.long wv), .second, .val (.int mm), .val (.long nv), .second, .val (.int bv), .unset, .unset, .unset, .unset, .unset] [(.ref ia)])) tgt
    refine XS.dup X9.here hx rfl (hb hby at_120) rfl rfl ?_
    show Steps p.tables e below (T9.setTop (mkF m 121 #[.val (.long xn), .second, .val (.int md), .val (.int fl), .val (.long wv), .second, .val (.int mm), .val (.long nv), .second, .val (.int bv), .unset, .unset, .unset, .unset, .unset] [(.ref ia), (.ref ia)])) tgt
    refine XS.bipush X9.here hx rfl (hb hby at_121) ?_
    show Steps p.tables e below (T9.setTop (mkF m 123 #[.val (.long xn), .second, .val (.int md), .val (.int fl), .val (.long wv), .second, .val (.int mm), .val (.long nv), .second, .val (.int bv), .unset, .unset, .unset, .unset, .unset] [(.int (8 : Int32)), (.ref ia), (.ref ia)])) tgt
    refine XS.iload X9.here hx rfl (hb hby at_123) rfl ?_
    exact k
  obtain ⟨T10, h10, X10, e10, W10, A_ia_10, st10⟩ := own_bastore X9 hx hZ e9 A_ia_9 (j := (8 : Int32)) (k := 8) rfl (by decide) (g := (mkF m 125 #[.val (.long xn), .second, .val (.int md), .val (.int fl), .val (.long wv), .second, .val (.int mm), .val (.long nv), .second, .val (.int bv), .unset, .unset, .unset, .unset, .unset] [(.int bv), (.int (8 : Int32)), (.ref ia), (.ref ia)])) rfl rfl (hb hby at_125)
  have N10 := Fr.snoc X10 N9 g_ia
  have Zs10 : n0 ≤ h10.size := Nat.le_trans Zs9 (Keep.of_wr W10).1
  refine own_st st10 ?_
  show own_Go p e below _ (T10.setTop (mkF m 126 #[.val (.long xn), .second, .val (.int md), .val (.int fl), .val (.long wv), .second, .val (.int mm), .val (.long nv), .second, .val (.int bv), .unset, .unset, .unset, .unset, .unset] [(.ref ia)]))
  have Af_ia_11 := A_ia_10
  rw [show (own_up (own_up (own_up (own_up (own_up (own_up (own_up (own_up (own_up (fun _ => 0) 0 bv.toInt8.toInt32) 1 bv.toInt8.toInt32) 2 bv.toInt8.toInt32) 3 bv.toInt8.toInt32) 4 bv.toInt8.toInt32) 5 bv.toInt8.toInt32) 6 bv.toInt8.toInt32) 7 bv.toInt8.toInt32) 8 bv.toInt8.toInt32) = (own_Gb bv) from rfl] at Af_ia_11
  refine own_st (V := T10.setTop (mkF m 132 #[.val (.long xn), .second, .val (.int md), .val (.int fl), .val (.long wv), .second, .val (.int mm), .val (.long nv), .second, .val (.int bv), .val (.ref ia), .unset, .unset, .unset, .unset] [(.ref ia), (.long nv)])) (fun tgt k => ?_) ?_
  · show Steps p.tables e below (T10.setTop (mkF m 126 #[.val (.long xn), .second, .val (.int md), .val (.int fl), .val (.long wv), .second, .val (.int mm), .val (.long nv), .second, .val (.int bv), .unset, .unset, .unset, .unset, .unset] [(.ref ia)])) tgt
    refine XS.astore X10.here hx rfl (hb hby at_126) rfl rfl (l' := #[.val (.long xn), .second, .val (.int md), .val (.int fl), .val (.long wv), .second, .val (.int mm), .val (.long nv), .second, .val (.int bv), .val (.ref ia), .unset, .unset, .unset, .unset]) rfl ?_
    show Steps p.tables e below (T10.setTop (mkF m 128 #[.val (.long xn), .second, .val (.int md), .val (.int fl), .val (.long wv), .second, .val (.int mm), .val (.long nv), .second, .val (.int bv), .val (.ref ia), .unset, .unset, .unset, .unset] [])) tgt
    refine XS.lload X10.here hx rfl (hb hby at_128) rfl ?_
    show Steps p.tables e below (T10.setTop (mkF m 130 #[.val (.long xn), .second, .val (.int md), .val (.int fl), .val (.long wv), .second, .val (.int mm), .val (.long nv), .second, .val (.int bv), .val (.ref ia), .unset, .unset, .unset, .unset] [(.long nv)])) tgt
    refine XS.aload X10.here hx rfl (hb hby at_130) rfl rfl ?_
    exact k
  by_cases hN : nv < (120000 : Int64)
  · skip
    have hl : nv.toInt < 120000 := Int64.lt_iff_toInt_lt.mp hN
    have w0 := own_W0 nv (own_Gb bv) hn0 hl
    have w1 := own_W1 nv (own_Gb bv) hn0 hl
    have w2 := own_W2 nv (own_Gb bv) hn0 hl
    have w3 := own_W3 nv (own_Gb bv) hn0 hl
    have w5 := own_W5 nv (own_Gb bv) hn0 hl
    have w6 := own_W6 nv (own_Gb bv) hn0 hl
    have z0 := own_s48 _ _ w0 (by omega) (by omega)
    have z1 := own_s48 _ _ w1 (by omega) (by omega)
    have z2 := own_s48 _ _ w2 (by omega) (by omega)
    have z3 := own_s48 _ _ w3 (by omega) (by omega)
    have z5 := own_s48 _ _ w5 (by omega) (by omega)
    have z6 := own_s48 _ _ w6 (by omega) (by omega)
    obtain ⟨v12, _, ⟨T12, L12, k12, n12⟩, -, Xc12, ⟨Lc12, hQ12, l12, y12, z12⟩, st12⟩ := Jvm.LawKit.callS X10 hx (y := (⟨"com/example/vestwright/vestwright/census/CensusValues", "writeMonth", "(J[B)Z"⟩ : MethodName)) hown (mvT hZ (hw _ (List.mem_of_getElem? (i := 4) rfl))) (mvT hZ (hw _ (List.mem_of_getElem? (i := 5) rfl))) (mvT hZ (hw _ (List.mem_of_getElem? (i := 6) rfl))) (mvT hZ (hw _ (List.mem_of_getElem? (i := 7) rfl))) (by decide) (backOf (W := 0) (rm1y l Z a0 hw [] nv ia (own_Gb bv) h10 n0 Zs10 Af_ia_11 g_ia (by first | assumption | decide | rfl)) hZ (hw _ (List.mem_of_getElem? (i := 7) rfl)) (hw _ (List.mem_of_getElem? (i := 6) rfl)) (by decide) (by decide)) (g := (mkF m 132 #[.val (.long xn), .second, .val (.int md), .val (.int fl), .val (.long wv), .second, .val (.int mm), .val (.long nv), .second, .val (.int bv), .val (.ref ia), .unset, .unset, .unset, .unset] [(.ref ia), (.long nv)])) rfl (by rw [hml]; rfl) (argsL := [(.long nv), (.ref ia)]) (rest := []) (lenOf pd_0_0 rfl) rfl (by show 2 * 0 + _ ≤ _; exact Nat.le_of_eq rfl) (hb hby at_132) (fun _ _ => ⟨rfl, e10, (by decide : 1 + 0 ≤ _), (by decide : 9 + 0 ≤ _)⟩)
    dsimp only [Pt.U, Pt.locs, Pt.cells, Pt.slots] at Xc12 l12 y12 z12 st12 hQ12
    have X12 := own_cast Xc12 l12 y12 z12
    obtain ⟨ev12, N12q, K12, g12_0⟩ := hQ12
    rw [ev12] at st12
    have N12 := Fr.app N10 N12q
    have Zs12 : n0 ≤ T12.heap.size := Nat.le_trans Zs10 K12.1
    refine own_st st12 ?_
    show own_Go p e below _ (T12.setTop (mkF m 135 #[.val (.long xn), .second, .val (.int md), .val (.int fl), .val (.long wv), .second, .val (.int mm), .val (.long nv), .second, .val (.int bv), .val (.ref ia), .unset, .unset, .unset, .unset] [(.int (1 : Int32))]))
    refine own_st (V := T12.setTop (mkF m 276 #[.val (.long xn), .second, .val (.int md), .val (.int fl), .val (.long wv), .second, .val (.int mm), .val (.long nv), .second, .val (.int bv), .val (.ref ia), .val (.int (1 : Int32)), .unset, .unset, .unset] [(.int ((own_W nv (own_Gb bv)) 0))])) (fun tgt k => ?_) ?_
    · show Steps p.tables e below (T12.setTop (mkF m 135 #[.val (.long xn), .second, .val (.int md), .val (.int fl), .val (.long wv), .second, .val (.int mm), .val (.long nv), .second, .val (.int bv), .val (.ref ia), .unset, .unset, .unset, .unset] [(.int (1 : Int32))])) tgt
      refine XS.istore X12.here hx rfl (hb hby at_135) rfl (l' := #[.val (.long xn), .second, .val (.int md), .val (.int fl), .val (.long wv), .second, .val (.int mm), .val (.long nv), .second, .val (.int bv), .val (.ref ia), .val (.int (1 : Int32)), .unset, .unset, .unset]) rfl ?_
      show Steps p.tables e below (T12.setTop (mkF m 137 #[.val (.long xn), .second, .val (.int md), .val (.int fl), .val (.long wv), .second, .val (.int mm), .val (.long nv), .second, .val (.int bv), .val (.ref ia), .val (.int (1 : Int32)), .unset, .unset, .unset] [])) tgt
      refine XS.lload X12.here hx rfl (hb hby at_137) rfl ?_
      show Steps p.tables e below (T12.setTop (mkF m 139 #[.val (.long xn), .second, .val (.int md), .val (.int fl), .val (.long wv), .second, .val (.int mm), .val (.long nv), .second, .val (.int bv), .val (.ref ia), .val (.int (1 : Int32)), .unset, .unset, .unset] [(.long nv)])) tgt
      refine X12.ldc2Long hx hown (mvT hZ (hw _ (List.mem_of_getElem? (i := 10) rfl))) (g := (mkF m 139 #[.val (.long xn), .second, .val (.int md), .val (.int fl), .val (.long wv), .second, .val (.int mm), .val (.long nv), .second, .val (.int bv), .val (.ref ia), .val (.int (1 : Int32)), .unset, .unset, .unset] [(.long nv)])) rfl (hb hby at_139) _ ?_
      show Steps p.tables e below (T12.setTop (mkF m 142 #[.val (.long xn), .second, .val (.int md), .val (.int fl), .val (.long wv), .second, .val (.int mm), .val (.long nv), .second, .val (.int bv), .val (.ref ia), .val (.int (1 : Int32)), .unset, .unset, .unset] [(.long (120000 : Int64)), (.long nv)])) tgt
      refine XS.lcmp X12.here hx rfl (hb hby at_142) rfl ?_
      show Steps p.tables e below (T12.setTop (mkF m 143 #[.val (.long xn), .second, .val (.int md), .val (.int fl), .val (.long wv), .second, .val (.int mm), .val (.long nv), .second, .val (.int bv), .val (.ref ia), .val (.int (1 : Int32)), .unset, .unset, .unset] [(.int (lcmpW nv (120000 : Int64)))])) tgt
      refine XS.ifYes X12.here hx rfl (pc0 := 143) (pc' := 243) rfl (hb hby at_143) rfl ((if0 _ _).trans (tlt ((lw_lt nv (120000 : Int64)).mpr hN)).1) (by decide) (by decide) ?_
      show Steps p.tables e below (T12.setTop (mkF m 243 #[.val (.long xn), .second, .val (.int md), .val (.int fl), .val (.long wv), .second, .val (.int mm), .val (.long nv), .second, .val (.int bv), .val (.ref ia), .val (.int (1 : Int32)), .unset, .unset, .unset] [])) tgt
      refine XS.iload X12.here hx rfl (hb hby at_243) rfl ?_
      show Steps p.tables e below (T12.setTop (mkF m 245 #[.val (.long xn), .second, .val (.int md), .val (.int fl), .val (.long wv), .second, .val (.int mm), .val (.long nv), .second, .val (.int bv), .val (.ref ia), .val (.int (1 : Int32)), .unset, .unset, .unset] [(.int (1 : Int32))])) tgt
      refine XS.ifYes X12.here hx rfl (pc0 := 245) (pc' := 250) rfl (hb hby at_245) rfl ((if0 _ _).trans (feq (by decide : ¬ ((1 : Int32) = (0 : Int32)))).2) (by decide) (by decide) ?_
      show Steps p.tables e below (T12.setTop (mkF m 250 #[.val (.long xn), .second, .val (.int md), .val (.int fl), .val (.long wv), .second, .val (.int mm), .val (.long nv), .second, .val (.int bv), .val (.ref ia), .val (.int (1 : Int32)), .unset, .unset, .unset] [])) tgt
      refine XS.aload X12.here hx rfl (hb hby at_250) rfl rfl ?_
      show Steps p.tables e below (T12.setTop (mkF m 252 #[.val (.long xn), .second, .val (.int md), .val (.int fl), .val (.long wv), .second, .val (.int mm), .val (.long nv), .second, .val (.int bv), .val (.ref ia), .val (.int (1 : Int32)), .unset, .unset, .unset] [(.ref ia)])) tgt
      refine XS.bipush X12.here hx rfl (hb hby at_252) ?_
      show Steps p.tables e below (T12.setTop (mkF m 254 #[.val (.long xn), .second, .val (.int md), .val (.int fl), .val (.long wv), .second, .val (.int mm), .val (.long nv), .second, .val (.int bv), .val (.ref ia), .val (.int (1 : Int32)), .unset, .unset, .unset] [(.int (7 : Int32)), (.ref ia)])) tgt
      refine own_baload X12 hx hZ rfl g12_0 (j := (7 : Int32)) (k := 7) rfl (by decide) (g := (mkF m 254 #[.val (.long xn), .second, .val (.int md), .val (.int fl), .val (.long wv), .second, .val (.int mm), .val (.long nv), .second, .val (.int bv), .val (.ref ia), .val (.int (1 : Int32)), .unset, .unset, .unset] [(.int (7 : Int32)), (.ref ia)])) rfl rfl (hb hby at_254) ?_
      show Steps p.tables e below (T12.setTop (mkF m 255 #[.val (.long xn), .second, .val (.int md), .val (.int fl), .val (.long wv), .second, .val (.int mm), .val (.long nv), .second, .val (.int bv), .val (.ref ia), .val (.int (1 : Int32)), .unset, .unset, .unset] [(.int ((own_W nv (own_Gb bv)) 7))])) tgt
      refine XS.iload X12.here hx rfl (hb hby at_255) rfl ?_
      show Steps p.tables e below (T12.setTop (mkF m 257 #[.val (.long xn), .second, .val (.int md), .val (.int fl), .val (.long wv), .second, .val (.int mm), .val (.long nv), .second, .val (.int bv), .val (.ref ia), .val (.int (1 : Int32)), .unset, .unset, .unset] [(.int bv), (.int ((own_W nv (own_Gb bv)) 7))])) tgt
      refine XS.icmpNo X12.here hx rfl (hb hby at_257) rfl (teq ((own_W7 _ _ 7 (by decide)).trans (own_Gk bv hbb 7 (by decide)))).2 ?_
      show Steps p.tables e below (T12.setTop (mkF m 260 #[.val (.long xn), .second, .val (.int md), .val (.int fl), .val (.long wv), .second, .val (.int mm), .val (.long nv), .second, .val (.int bv), .val (.ref ia), .val (.int (1 : Int32)), .unset, .unset, .unset] [])) tgt
      refine XS.aload X12.here hx rfl (hb hby at_260) rfl rfl ?_
      show Steps p.tables e below (T12.setTop (mkF m 262 #[.val (.long xn), .second, .val (.int md), .val (.int fl), .val (.long wv), .second, .val (.int mm), .val (.long nv), .second, .val (.int bv), .val (.ref ia), .val (.int (1 : Int32)), .unset, .unset, .unset] [(.ref ia)])) tgt
      refine XS.bipush X12.here hx rfl (hb hby at_262) ?_
      show Steps p.tables e below (T12.setTop (mkF m 264 #[.val (.long xn), .second, .val (.int md), .val (.int fl), .val (.long wv), .second, .val (.int mm), .val (.long nv), .second, .val (.int bv), .val (.ref ia), .val (.int (1 : Int32)), .unset, .unset, .unset] [(.int (8 : Int32)), (.ref ia)])) tgt
      refine own_baload X12 hx hZ rfl g12_0 (j := (8 : Int32)) (k := 8) rfl (by decide) (g := (mkF m 264 #[.val (.long xn), .second, .val (.int md), .val (.int fl), .val (.long wv), .second, .val (.int mm), .val (.long nv), .second, .val (.int bv), .val (.ref ia), .val (.int (1 : Int32)), .unset, .unset, .unset] [(.int (8 : Int32)), (.ref ia)])) rfl rfl (hb hby at_264) ?_
      show Steps p.tables e below (T12.setTop (mkF m 265 #[.val (.long xn), .second, .val (.int md), .val (.int fl), .val (.long wv), .second, .val (.int mm), .val (.long nv), .second, .val (.int bv), .val (.ref ia), .val (.int (1 : Int32)), .unset, .unset, .unset] [(.int ((own_W nv (own_Gb bv)) 8))])) tgt
      refine XS.iload X12.here hx rfl (hb hby at_265) rfl ?_
      show Steps p.tables e below (T12.setTop (mkF m 267 #[.val (.long xn), .second, .val (.int md), .val (.int fl), .val (.long wv), .second, .val (.int mm), .val (.long nv), .second, .val (.int bv), .val (.ref ia), .val (.int (1 : Int32)), .unset, .unset, .unset] [(.int bv), (.int ((own_W nv (own_Gb bv)) 8))])) tgt
      refine XS.icmpYes X12.here hx rfl (pc0 := 267) (pc' := 272) rfl (hb hby at_267) rfl (teq ((own_W7 _ _ 8 (by decide)).trans (own_Gk bv hbb 8 (by decide)))).1 (by decide) (by decide) ?_
      show Steps p.tables e below (T12.setTop (mkF m 272 #[.val (.long xn), .second, .val (.int md), .val (.int fl), .val (.long wv), .second, .val (.int mm), .val (.long nv), .second, .val (.int bv), .val (.ref ia), .val (.int (1 : Int32)), .unset, .unset, .unset] [])) tgt
      refine XS.aload X12.here hx rfl (hb hby at_272) rfl rfl ?_
      show Steps p.tables e below (T12.setTop (mkF m 274 #[.val (.long xn), .second, .val (.int md), .val (.int fl), .val (.long wv), .second, .val (.int mm), .val (.long nv), .second, .val (.int bv), .val (.ref ia), .val (.int (1 : Int32)), .unset, .unset, .unset] [(.ref ia)])) tgt
      refine XS.iconst X12.here hx rfl (hb hby at_274) ?_
      show Steps p.tables e below (T12.setTop (mkF m 275 #[.val (.long xn), .second, .val (.int md), .val (.int fl), .val (.long wv), .second, .val (.int mm), .val (.long nv), .second, .val (.int bv), .val (.ref ia), .val (.int (1 : Int32)), .unset, .unset, .unset] [(.int (0 : Int32)), (.ref ia)])) tgt
      refine own_baload X12 hx hZ rfl g12_0 (j := (0 : Int32)) (k := 0) rfl (by decide) (g := (mkF m 275 #[.val (.long xn), .second, .val (.int md), .val (.int fl), .val (.long wv), .second, .val (.int mm), .val (.long nv), .second, .val (.int bv), .val (.ref ia), .val (.int (1 : Int32)), .unset, .unset, .unset] [(.int (0 : Int32)), (.ref ia)])) rfl rfl (hb hby at_275) ?_
      exact k
    obtain ⟨v13, _, ⟨T13, L13, k13, n13⟩, -, Xc13, ⟨Lc13, hQ13, l13, y13, z13⟩, st13⟩ := Jvm.LawKit.callS X12 hx (y := (⟨"com/example/vestwright/vestwright/census/CensusValuesWriteMonthPinLaw", "digit", "(B)Z"⟩ : MethodName)) hown (mvT hZ (hw _ (List.mem_of_getElem? (i := 11) rfl))) (mvT hZ (hw _ (List.mem_of_getElem? (i := 12) rfl))) (mvT hZ (hw _ (List.mem_of_getElem? (i := 13) rfl))) (mvT hZ (hw _ (List.mem_of_getElem? (i := 14) rfl))) (by decide) (backOf (W := 0) (rm2 l Z a0 hw [] ((own_W nv (own_Gb bv)) 0) T12.heap n0 Zs12 ) hZ (hw _ (List.mem_of_getElem? (i := 14) rfl)) (hw _ (List.mem_of_getElem? (i := 13) rfl)) (by decide) (by decide)) (g := (mkF m 276 #[.val (.long xn), .second, .val (.int md), .val (.int fl), .val (.long wv), .second, .val (.int mm), .val (.long nv), .second, .val (.int bv), .val (.ref ia), .val (.int (1 : Int32)), .unset, .unset, .unset] [(.int ((own_W nv (own_Gb bv)) 0))])) rfl (by rw [hml]; rfl) (argsL := [(.int ((own_W nv (own_Gb bv)) 0))]) (rest := []) (lenOf pd_0_1 rfl) rfl (by show 2 * 0 + _ ≤ _; exact Nat.le_of_eq rfl) (hb hby at_276) (fun _ _ => ⟨rfl, rfl, (by decide : 1 + 0 ≤ _), (by decide : 9 + 0 ≤ _)⟩)
    dsimp only [Pt.U, Pt.locs, Pt.cells, Pt.slots] at Xc13 l13 y13 z13 st13 hQ13
    have X13 := own_cast Xc13 l13 y13 z13
    obtain ⟨ev13, N13q, K13⟩ := hQ13
    rw [ev13] at st13
    have N13 := Fr.app N12 N13q
    refine own_st st13 ?_
    show own_Go p e below _ (T13.setTop (mkF m 279 #[.val (.long xn), .second, .val (.int md), .val (.int fl), .val (.long wv), .second, .val (.int mm), .val (.long nv), .second, .val (.int bv), .val (.ref ia), .val (.int (1 : Int32)), .unset, .unset, .unset] [(.int (own_dg ((own_W nv (own_Gb bv)) 0)))]))
    refine own_st (V := T13.setTop (mkF m 286 #[.val (.long xn), .second, .val (.int md), .val (.int fl), .val (.long wv), .second, .val (.int mm), .val (.long nv), .second, .val (.int bv), .val (.ref ia), .val (.int (1 : Int32)), .unset, .unset, .unset] [(.int ((own_W nv (own_Gb bv)) 1))])) (fun tgt k => ?_) ?_
    · show Steps p.tables e below (T13.setTop (mkF m 279 #[.val (.long xn), .second, .val (.int md), .val (.int fl), .val (.long wv), .second, .val (.int mm), .val (.long nv), .second, .val (.int bv), .val (.ref ia), .val (.int (1 : Int32)), .unset, .unset, .unset] [(.int (own_dg ((own_W nv (own_Gb bv)) 0)))])) tgt
      refine XS.ifNo X13.here hx rfl (hb hby at_279) rfl ((if0 _ _).trans (feq (own_dg1 _ (by omega) (by omega))).1) ?_
      show Steps p.tables e below (T13.setTop (mkF m 282 #[.val (.long xn), .second, .val (.int md), .val (.int fl), .val (.long wv), .second, .val (.int mm), .val (.long nv), .second, .val (.int bv), .val (.ref ia), .val (.int (1 : Int32)), .unset, .unset, .unset] [])) tgt
      refine XS.aload X13.here hx rfl (hb hby at_282) rfl rfl ?_
      show Steps p.tables e below (T13.setTop (mkF m 284 #[.val (.long xn), .second, .val (.int md), .val (.int fl), .val (.long wv), .second, .val (.int mm), .val (.long nv), .second, .val (.int bv), .val (.ref ia), .val (.int (1 : Int32)), .unset, .unset, .unset] [(.ref ia)])) tgt
      refine XS.iconst X13.here hx rfl (hb hby at_284) ?_
      show Steps p.tables e below (T13.setTop (mkF m 285 #[.val (.long xn), .second, .val (.int md), .val (.int fl), .val (.long wv), .second, .val (.int mm), .val (.long nv), .second, .val (.int bv), .val (.ref ia), .val (.int (1 : Int32)), .unset, .unset, .unset] [(.int (1 : Int32)), (.ref ia)])) tgt
      refine own_baload X13 hx hZ K13 g12_0 (j := (1 : Int32)) (k := 1) rfl (by decide) (g := (mkF m 285 #[.val (.long xn), .second, .val (.int md), .val (.int fl), .val (.long wv), .second, .val (.int mm), .val (.long nv), .second, .val (.int bv), .val (.ref ia), .val (.int (1 : Int32)), .unset, .unset, .unset] [(.int (1 : Int32)), (.ref ia)])) rfl rfl (hb hby at_285) ?_
      exact k
    obtain ⟨v14, _, ⟨T14, L14, k14, n14⟩, -, Xc14, ⟨Lc14, hQ14, l14, y14, z14⟩, st14⟩ := Jvm.LawKit.callS X13 hx (y := (⟨"com/example/vestwright/vestwright/census/CensusValuesWriteMonthPinLaw", "digit", "(B)Z"⟩ : MethodName)) hown (mvT hZ (hw _ (List.mem_of_getElem? (i := 11) rfl))) (mvT hZ (hw _ (List.mem_of_getElem? (i := 12) rfl))) (mvT hZ (hw _ (List.mem_of_getElem? (i := 13) rfl))) (mvT hZ (hw _ (List.mem_of_getElem? (i := 14) rfl))) (by decide) (backOf (W := 0) (rm2 l Z a0 hw [] ((own_W nv (own_Gb bv)) 1) T12.heap n0 Zs12 ) hZ (hw _ (List.mem_of_getElem? (i := 14) rfl)) (hw _ (List.mem_of_getElem? (i := 13) rfl)) (by decide) (by decide)) (g := (mkF m 286 #[.val (.long xn), .second, .val (.int md), .val (.int fl), .val (.long wv), .second, .val (.int mm), .val (.long nv), .second, .val (.int bv), .val (.ref ia), .val (.int (1 : Int32)), .unset, .unset, .unset] [(.int ((own_W nv (own_Gb bv)) 1))])) rfl (by rw [hml]; rfl) (argsL := [(.int ((own_W nv (own_Gb bv)) 1))]) (rest := []) (lenOf pd_0_1 rfl) rfl (by show 2 * 0 + _ ≤ _; exact Nat.le_of_eq rfl) (hb hby at_286) (fun _ _ => ⟨rfl, K13, (by decide : 1 + 0 ≤ _), (by decide : 9 + 0 ≤ _)⟩)
    dsimp only [Pt.U, Pt.locs, Pt.cells, Pt.slots] at Xc14 l14 y14 z14 st14 hQ14
    have X14 := own_cast Xc14 l14 y14 z14
    obtain ⟨ev14, N14q, K14⟩ := hQ14
    rw [ev14] at st14
    have N14 := Fr.app N13 N14q
    refine own_st st14 ?_
    show own_Go p e below _ (T14.setTop (mkF m 289 #[.val (.long xn), .second, .val (.int md), .val (.int fl), .val (.long wv), .second, .val (.int mm), .val (.long nv), .second, .val (.int bv), .val (.ref ia), .val (.int (1 : Int32)), .unset, .unset, .unset] [(.int (own_dg ((own_W nv (own_Gb bv)) 1)))]))
    refine own_st (V := T14.setTop (mkF m 296 #[.val (.long xn), .second, .val (.int md), .val (.int fl), .val (.long wv), .second, .val (.int mm), .val (.long nv), .second, .val (.int bv), .val (.ref ia), .val (.int (1 : Int32)), .unset, .unset, .unset] [(.int ((own_W nv (own_Gb bv)) 2))])) (fun tgt k => ?_) ?_
    · show Steps p.tables e below (T14.setTop (mkF m 289 #[.val (.long xn), .second, .val (.int md), .val (.int fl), .val (.long wv), .second, .val (.int mm), .val (.long nv), .second, .val (.int bv), .val (.ref ia), .val (.int (1 : Int32)), .unset, .unset, .unset] [(.int (own_dg ((own_W nv (own_Gb bv)) 1)))])) tgt
      refine XS.ifNo X14.here hx rfl (hb hby at_289) rfl ((if0 _ _).trans (feq (own_dg1 _ (by omega) (by omega))).1) ?_
      show Steps p.tables e below (T14.setTop (mkF m 292 #[.val (.long xn), .second, .val (.int md), .val (.int fl), .val (.long wv), .second, .val (.int mm), .val (.long nv), .second, .val (.int bv), .val (.ref ia), .val (.int (1 : Int32)), .unset, .unset, .unset] [])) tgt
      refine XS.aload X14.here hx rfl (hb hby at_292) rfl rfl ?_
      show Steps p.tables e below (T14.setTop (mkF m 294 #[.val (.long xn), .second, .val (.int md), .val (.int fl), .val (.long wv), .second, .val (.int mm), .val (.long nv), .second, .val (.int bv), .val (.ref ia), .val (.int (1 : Int32)), .unset, .unset, .unset] [(.ref ia)])) tgt
      refine XS.iconst X14.here hx rfl (hb hby at_294) ?_
      show Steps p.tables e below (T14.setTop (mkF m 295 #[.val (.long xn), .second, .val (.int md), .val (.int fl), .val (.long wv), .second, .val (.int mm), .val (.long nv), .second, .val (.int bv), .val (.ref ia), .val (.int (1 : Int32)), .unset, .unset, .unset] [(.int (2 : Int32)), (.ref ia)])) tgt
      refine own_baload X14 hx hZ K14 g12_0 (j := (2 : Int32)) (k := 2) rfl (by decide) (g := (mkF m 295 #[.val (.long xn), .second, .val (.int md), .val (.int fl), .val (.long wv), .second, .val (.int mm), .val (.long nv), .second, .val (.int bv), .val (.ref ia), .val (.int (1 : Int32)), .unset, .unset, .unset] [(.int (2 : Int32)), (.ref ia)])) rfl rfl (hb hby at_295) ?_
      exact k
    obtain ⟨v15, _, ⟨T15, L15, k15, n15⟩, -, Xc15, ⟨Lc15, hQ15, l15, y15, z15⟩, st15⟩ := Jvm.LawKit.callS X14 hx (y := (⟨"com/example/vestwright/vestwright/census/CensusValuesWriteMonthPinLaw", "digit", "(B)Z"⟩ : MethodName)) hown (mvT hZ (hw _ (List.mem_of_getElem? (i := 11) rfl))) (mvT hZ (hw _ (List.mem_of_getElem? (i := 12) rfl))) (mvT hZ (hw _ (List.mem_of_getElem? (i := 13) rfl))) (mvT hZ (hw _ (List.mem_of_getElem? (i := 14) rfl))) (by decide) (backOf (W := 0) (rm2 l Z a0 hw [] ((own_W nv (own_Gb bv)) 2) T12.heap n0 Zs12 ) hZ (hw _ (List.mem_of_getElem? (i := 14) rfl)) (hw _ (List.mem_of_getElem? (i := 13) rfl)) (by decide) (by decide)) (g := (mkF m 296 #[.val (.long xn), .second, .val (.int md), .val (.int fl), .val (.long wv), .second, .val (.int mm), .val (.long nv), .second, .val (.int bv), .val (.ref ia), .val (.int (1 : Int32)), .unset, .unset, .unset] [(.int ((own_W nv (own_Gb bv)) 2))])) rfl (by rw [hml]; rfl) (argsL := [(.int ((own_W nv (own_Gb bv)) 2))]) (rest := []) (lenOf pd_0_1 rfl) rfl (by show 2 * 0 + _ ≤ _; exact Nat.le_of_eq rfl) (hb hby at_296) (fun _ _ => ⟨rfl, K14, (by decide : 1 + 0 ≤ _), (by decide : 9 + 0 ≤ _)⟩)
    dsimp only [Pt.U, Pt.locs, Pt.cells, Pt.slots] at Xc15 l15 y15 z15 st15 hQ15
    have X15 := own_cast Xc15 l15 y15 z15
    obtain ⟨ev15, N15q, K15⟩ := hQ15
    rw [ev15] at st15
    have N15 := Fr.app N14 N15q
    refine own_st st15 ?_
    show own_Go p e below _ (T15.setTop (mkF m 299 #[.val (.long xn), .second, .val (.int md), .val (.int fl), .val (.long wv), .second, .val (.int mm), .val (.long nv), .second, .val (.int bv), .val (.ref ia), .val (.int (1 : Int32)), .unset, .unset, .unset] [(.int (own_dg ((own_W nv (own_Gb bv)) 2)))]))
    refine own_st (V := T15.setTop (mkF m 306 #[.val (.long xn), .second, .val (.int md), .val (.int fl), .val (.long wv), .second, .val (.int mm), .val (.long nv), .second, .val (.int bv), .val (.ref ia), .val (.int (1 : Int32)), .unset, .unset, .unset] [(.int ((own_W nv (own_Gb bv)) 3))])) (fun tgt k => ?_) ?_
    · show Steps p.tables e below (T15.setTop (mkF m 299 #[.val (.long xn), .second, .val (.int md), .val (.int fl), .val (.long wv), .second, .val (.int mm), .val (.long nv), .second, .val (.int bv), .val (.ref ia), .val (.int (1 : Int32)), .unset, .unset, .unset] [(.int (own_dg ((own_W nv (own_Gb bv)) 2)))])) tgt
      refine XS.ifNo X15.here hx rfl (hb hby at_299) rfl ((if0 _ _).trans (feq (own_dg1 _ (by omega) (by omega))).1) ?_
      show Steps p.tables e below (T15.setTop (mkF m 302 #[.val (.long xn), .second, .val (.int md), .val (.int fl), .val (.long wv), .second, .val (.int mm), .val (.long nv), .second, .val (.int bv), .val (.ref ia), .val (.int (1 : Int32)), .unset, .unset, .unset] [])) tgt
      refine XS.aload X15.here hx rfl (hb hby at_302) rfl rfl ?_
      show Steps p.tables e below (T15.setTop (mkF m 304 #[.val (.long xn), .second, .val (.int md), .val (.int fl), .val (.long wv), .second, .val (.int mm), .val (.long nv), .second, .val (.int bv), .val (.ref ia), .val (.int (1 : Int32)), .unset, .unset, .unset] [(.ref ia)])) tgt
      refine XS.iconst X15.here hx rfl (hb hby at_304) ?_
      show Steps p.tables e below (T15.setTop (mkF m 305 #[.val (.long xn), .second, .val (.int md), .val (.int fl), .val (.long wv), .second, .val (.int mm), .val (.long nv), .second, .val (.int bv), .val (.ref ia), .val (.int (1 : Int32)), .unset, .unset, .unset] [(.int (3 : Int32)), (.ref ia)])) tgt
      refine own_baload X15 hx hZ K15 g12_0 (j := (3 : Int32)) (k := 3) rfl (by decide) (g := (mkF m 305 #[.val (.long xn), .second, .val (.int md), .val (.int fl), .val (.long wv), .second, .val (.int mm), .val (.long nv), .second, .val (.int bv), .val (.ref ia), .val (.int (1 : Int32)), .unset, .unset, .unset] [(.int (3 : Int32)), (.ref ia)])) rfl rfl (hb hby at_305) ?_
      exact k
    obtain ⟨v16, _, ⟨T16, L16, k16, n16⟩, -, Xc16, ⟨Lc16, hQ16, l16, y16, z16⟩, st16⟩ := Jvm.LawKit.callS X15 hx (y := (⟨"com/example/vestwright/vestwright/census/CensusValuesWriteMonthPinLaw", "digit", "(B)Z"⟩ : MethodName)) hown (mvT hZ (hw _ (List.mem_of_getElem? (i := 11) rfl))) (mvT hZ (hw _ (List.mem_of_getElem? (i := 12) rfl))) (mvT hZ (hw _ (List.mem_of_getElem? (i := 13) rfl))) (mvT hZ (hw _ (List.mem_of_getElem? (i := 14) rfl))) (by decide) (backOf (W := 0) (rm2 l Z a0 hw [] ((own_W nv (own_Gb bv)) 3) T12.heap n0 Zs12 ) hZ (hw _ (List.mem_of_getElem? (i := 14) rfl)) (hw _ (List.mem_of_getElem? (i := 13) rfl)) (by decide) (by decide)) (g := (mkF m 306 #[.val (.long xn), .second, .val (.int md), .val (.int fl), .val (.long wv), .second, .val (.int mm), .val (.long nv), .second, .val (.int bv), .val (.ref ia), .val (.int (1 : Int32)), .unset, .unset, .unset] [(.int ((own_W nv (own_Gb bv)) 3))])) rfl (by rw [hml]; rfl) (argsL := [(.int ((own_W nv (own_Gb bv)) 3))]) (rest := []) (lenOf pd_0_1 rfl) rfl (by show 2 * 0 + _ ≤ _; exact Nat.le_of_eq rfl) (hb hby at_306) (fun _ _ => ⟨rfl, K15, (by decide : 1 + 0 ≤ _), (by decide : 9 + 0 ≤ _)⟩)
    dsimp only [Pt.U, Pt.locs, Pt.cells, Pt.slots] at Xc16 l16 y16 z16 st16 hQ16
    have X16 := own_cast Xc16 l16 y16 z16
    obtain ⟨ev16, N16q, K16⟩ := hQ16
    rw [ev16] at st16
    have N16 := Fr.app N15 N16q
    refine own_st st16 ?_
    show own_Go p e below _ (T16.setTop (mkF m 309 #[.val (.long xn), .second, .val (.int md), .val (.int fl), .val (.long wv), .second, .val (.int mm), .val (.long nv), .second, .val (.int bv), .val (.ref ia), .val (.int (1 : Int32)), .unset, .unset, .unset] [(.int (own_dg ((own_W nv (own_Gb bv)) 3)))]))
    refine own_st (V := T16.setTop (mkF m 316 #[.val (.long xn), .second, .val (.int md), .val (.int fl), .val (.long wv), .second, .val (.int mm), .val (.long nv), .second, .val (.int bv), .val (.ref ia), .val (.int (1 : Int32)), .unset, .unset, .unset] [(.int ((own_W nv (own_Gb bv)) 5))])) (fun tgt k => ?_) ?_
    · show Steps p.tables e below (T16.setTop (mkF m 309 #[.val (.long xn), .second, .val (.int md), .val (.int fl), .val (.long wv), .second, .val (.int mm), .val (.long nv), .second, .val (.int bv), .val (.ref ia), .val (.int (1 : Int32)), .unset, .unset, .unset] [(.int (own_dg ((own_W nv (own_Gb bv)) 3)))])) tgt
      refine XS.ifNo X16.here hx rfl (hb hby at_309) rfl ((if0 _ _).trans (feq (own_dg1 _ (by omega) (by omega))).1) ?_
      show Steps p.tables e below (T16.setTop (mkF m 312 #[.val (.long xn), .second, .val (.int md), .val (.int fl), .val (.long wv), .second, .val (.int mm), .val (.long nv), .second, .val (.int bv), .val (.ref ia), .val (.int (1 : Int32)), .unset, .unset, .unset] [])) tgt
      refine XS.aload X16.here hx rfl (hb hby at_312) rfl rfl ?_
      show Steps p.tables e below (T16.setTop (mkF m 314 #[.val (.long xn), .second, .val (.int md), .val (.int fl), .val (.long wv), .second, .val (.int mm), .val (.long nv), .second, .val (.int bv), .val (.ref ia), .val (.int (1 : Int32)), .unset, .unset, .unset] [(.ref ia)])) tgt
      refine XS.iconst X16.here hx rfl (hb hby at_314) ?_
      show Steps p.tables e below (T16.setTop (mkF m 315 #[.val (.long xn), .second, .val (.int md), .val (.int fl), .val (.long wv), .second, .val (.int mm), .val (.long nv), .second, .val (.int bv), .val (.ref ia), .val (.int (1 : Int32)), .unset, .unset, .unset] [(.int (5 : Int32)), (.ref ia)])) tgt
      refine own_baload X16 hx hZ K16 g12_0 (j := (5 : Int32)) (k := 5) rfl (by decide) (g := (mkF m 315 #[.val (.long xn), .second, .val (.int md), .val (.int fl), .val (.long wv), .second, .val (.int mm), .val (.long nv), .second, .val (.int bv), .val (.ref ia), .val (.int (1 : Int32)), .unset, .unset, .unset] [(.int (5 : Int32)), (.ref ia)])) rfl rfl (hb hby at_315) ?_
      exact k
    obtain ⟨v17, _, ⟨T17, L17, k17, n17⟩, -, Xc17, ⟨Lc17, hQ17, l17, y17, z17⟩, st17⟩ := Jvm.LawKit.callS X16 hx (y := (⟨"com/example/vestwright/vestwright/census/CensusValuesWriteMonthPinLaw", "digit", "(B)Z"⟩ : MethodName)) hown (mvT hZ (hw _ (List.mem_of_getElem? (i := 11) rfl))) (mvT hZ (hw _ (List.mem_of_getElem? (i := 12) rfl))) (mvT hZ (hw _ (List.mem_of_getElem? (i := 13) rfl))) (mvT hZ (hw _ (List.mem_of_getElem? (i := 14) rfl))) (by decide) (backOf (W := 0) (rm2 l Z a0 hw [] ((own_W nv (own_Gb bv)) 5) T12.heap n0 Zs12 ) hZ (hw _ (List.mem_of_getElem? (i := 14) rfl)) (hw _ (List.mem_of_getElem? (i := 13) rfl)) (by decide) (by decide)) (g := (mkF m 316 #[.val (.long xn), .second, .val (.int md), .val (.int fl), .val (.long wv), .second, .val (.int mm), .val (.long nv), .second, .val (.int bv), .val (.ref ia), .val (.int (1 : Int32)), .unset, .unset, .unset] [(.int ((own_W nv (own_Gb bv)) 5))])) rfl (by rw [hml]; rfl) (argsL := [(.int ((own_W nv (own_Gb bv)) 5))]) (rest := []) (lenOf pd_0_1 rfl) rfl (by show 2 * 0 + _ ≤ _; exact Nat.le_of_eq rfl) (hb hby at_316) (fun _ _ => ⟨rfl, K16, (by decide : 1 + 0 ≤ _), (by decide : 9 + 0 ≤ _)⟩)
    dsimp only [Pt.U, Pt.locs, Pt.cells, Pt.slots] at Xc17 l17 y17 z17 st17 hQ17
    have X17 := own_cast Xc17 l17 y17 z17
    obtain ⟨ev17, N17q, K17⟩ := hQ17
    rw [ev17] at st17
    have N17 := Fr.app N16 N17q
    refine own_st st17 ?_
    show own_Go p e below _ (T17.setTop (mkF m 319 #[.val (.long xn), .second, .val (.int md), .val (.int fl), .val (.long wv), .second, .val (.int mm), .val (.long nv), .second, .val (.int bv), .val (.ref ia), .val (.int (1 : Int32)), .unset, .unset, .unset] [(.int (own_dg ((own_W nv (own_Gb bv)) 5)))]))
    refine own_st (V := T17.setTop (mkF m 327 #[.val (.long xn), .second, .val (.int md), .val (.int fl), .val (.long wv), .second, .val (.int mm), .val (.long nv), .second, .val (.int bv), .val (.ref ia), .val (.int (1 : Int32)), .unset, .unset, .unset] [(.int ((own_W nv (own_Gb bv)) 6))])) (fun tgt k => ?_) ?_
    · show Steps p.tables e below (T17.setTop (mkF m 319 #[.val (.long xn), .second, .val (.int md), .val (.int fl), .val (.long wv), .second, .val (.int mm), .val (.long nv), .second, .val (.int bv), .val (.ref ia), .val (.int (1 : Int32)), .unset, .unset, .unset] [(.int (own_dg ((own_W nv (own_Gb bv)) 5)))])) tgt
      refine XS.ifNo X17.here hx rfl (hb hby at_319) rfl ((if0 _ _).trans (feq (own_dg1 _ (by omega) (by omega))).1) ?_
      show Steps p.tables e below (T17.setTop (mkF m 322 #[.val (.long xn), .second, .val (.int md), .val (.int fl), .val (.long wv), .second, .val (.int mm), .val (.long nv), .second, .val (.int bv), .val (.ref ia), .val (.int (1 : Int32)), .unset, .unset, .unset] [])) tgt
      refine XS.aload X17.here hx rfl (hb hby at_322) rfl rfl ?_
      show Steps p.tables e below (T17.setTop (mkF m 324 #[.val (.long xn), .second, .val (.int md), .val (.int fl), .val (.long wv), .second, .val (.int mm), .val (.long nv), .second, .val (.int bv), .val (.ref ia), .val (.int (1 : Int32)), .unset, .unset, .unset] [(.ref ia)])) tgt
      refine XS.bipush X17.here hx rfl (hb hby at_324) ?_
      show Steps p.tables e below (T17.setTop (mkF m 326 #[.val (.long xn), .second, .val (.int md), .val (.int fl), .val (.long wv), .second, .val (.int mm), .val (.long nv), .second, .val (.int bv), .val (.ref ia), .val (.int (1 : Int32)), .unset, .unset, .unset] [(.int (6 : Int32)), (.ref ia)])) tgt
      refine own_baload X17 hx hZ K17 g12_0 (j := (6 : Int32)) (k := 6) rfl (by decide) (g := (mkF m 326 #[.val (.long xn), .second, .val (.int md), .val (.int fl), .val (.long wv), .second, .val (.int mm), .val (.long nv), .second, .val (.int bv), .val (.ref ia), .val (.int (1 : Int32)), .unset, .unset, .unset] [(.int (6 : Int32)), (.ref ia)])) rfl rfl (hb hby at_326) ?_
      exact k
    obtain ⟨v18, _, ⟨T18, L18, k18, n18⟩, -, Xc18, ⟨Lc18, hQ18, l18, y18, z18⟩, st18⟩ := Jvm.LawKit.callS X17 hx (y := (⟨"com/example/vestwright/vestwright/census/CensusValuesWriteMonthPinLaw", "digit", "(B)Z"⟩ : MethodName)) hown (mvT hZ (hw _ (List.mem_of_getElem? (i := 11) rfl))) (mvT hZ (hw _ (List.mem_of_getElem? (i := 12) rfl))) (mvT hZ (hw _ (List.mem_of_getElem? (i := 13) rfl))) (mvT hZ (hw _ (List.mem_of_getElem? (i := 14) rfl))) (by decide) (backOf (W := 0) (rm2 l Z a0 hw [] ((own_W nv (own_Gb bv)) 6) T12.heap n0 Zs12 ) hZ (hw _ (List.mem_of_getElem? (i := 14) rfl)) (hw _ (List.mem_of_getElem? (i := 13) rfl)) (by decide) (by decide)) (g := (mkF m 327 #[.val (.long xn), .second, .val (.int md), .val (.int fl), .val (.long wv), .second, .val (.int mm), .val (.long nv), .second, .val (.int bv), .val (.ref ia), .val (.int (1 : Int32)), .unset, .unset, .unset] [(.int ((own_W nv (own_Gb bv)) 6))])) rfl (by rw [hml]; rfl) (argsL := [(.int ((own_W nv (own_Gb bv)) 6))]) (rest := []) (lenOf pd_0_1 rfl) rfl (by show 2 * 0 + _ ≤ _; exact Nat.le_of_eq rfl) (hb hby at_327) (fun _ _ => ⟨rfl, K17, (by decide : 1 + 0 ≤ _), (by decide : 9 + 0 ≤ _)⟩)
    dsimp only [Pt.U, Pt.locs, Pt.cells, Pt.slots] at Xc18 l18 y18 z18 st18 hQ18
    have X18 := own_cast Xc18 l18 y18 z18
    obtain ⟨ev18, N18q, K18⟩ := hQ18
    rw [ev18] at st18
    have N18 := Fr.app N17 N18q
    refine own_st st18 ?_
    show own_Go p e below _ (T18.setTop (mkF m 330 #[.val (.long xn), .second, .val (.int md), .val (.int fl), .val (.long wv), .second, .val (.int mm), .val (.long nv), .second, .val (.int bv), .val (.ref ia), .val (.int (1 : Int32)), .unset, .unset, .unset] [(.int (own_dg ((own_W nv (own_Gb bv)) 6)))]))
    refine own_st (V := T18.setTop (mkF m 395 #[.val (.long xn), .second, .val (.int md), .val (.int fl), .val (.long wv), .second, .val (.int mm), .val (.long nv), .second, .val (.int bv), .val (.ref ia), .val (.int (1 : Int32)), .val (.long ((((((((own_W nv (own_Gb bv)) 0) - (48 : Int32)).toInt64) * (1000 : Int64)) + (((((own_W nv (own_Gb bv)) 1) - (48 : Int32)).toInt64) * (100 : Int64))) + (((((own_W nv (own_Gb bv)) 2) - (48 : Int32)).toInt64) * (10 : Int64))) + ((((own_W nv (own_Gb bv)) 3) - (48 : Int32)).toInt64))), .second, .unset] [])) (fun tgt k => ?_) ?_
    · show Steps p.tables e below (T18.setTop (mkF m 330 #[.val (.long xn), .second, .val (.int md), .val (.int fl), .val (.long wv), .second, .val (.int mm), .val (.long nv), .second, .val (.int bv), .val (.ref ia), .val (.int (1 : Int32)), .unset, .unset, .unset] [(.int (own_dg ((own_W nv (own_Gb bv)) 6)))])) tgt
      refine XS.ifYes X18.here hx rfl (pc0 := 330) (pc' := 335) rfl (hb hby at_330) rfl ((if0 _ _).trans (feq (own_dg1 _ (by omega) (by omega))).2) (by decide) (by decide) ?_
      show Steps p.tables e below (T18.setTop (mkF m 335 #[.val (.long xn), .second, .val (.int md), .val (.int fl), .val (.long wv), .second, .val (.int mm), .val (.long nv), .second, .val (.int bv), .val (.ref ia), .val (.int (1 : Int32)), .unset, .unset, .unset] [])) tgt
      refine XS.aload X18.here hx rfl (hb hby at_335) rfl rfl ?_
      show Steps p.tables e below (T18.setTop (mkF m 337 #[.val (.long xn), .second, .val (.int md), .val (.int fl), .val (.long wv), .second, .val (.int mm), .val (.long nv), .second, .val (.int bv), .val (.ref ia), .val (.int (1 : Int32)), .unset, .unset, .unset] [(.ref ia)])) tgt
      refine XS.iconst X18.here hx rfl (hb hby at_337) ?_
      show Steps p.tables e below (T18.setTop (mkF m 338 #[.val (.long xn), .second, .val (.int md), .val (.int fl), .val (.long wv), .second, .val (.int mm), .val (.long nv), .second, .val (.int bv), .val (.ref ia), .val (.int (1 : Int32)), .unset, .unset, .unset] [(.int (4 : Int32)), (.ref ia)])) tgt
      refine own_baload X18 hx hZ K18 g12_0 (j := (4 : Int32)) (k := 4) rfl (by decide) (g := (mkF m 338 #[.val (.long xn), .second, .val (.int md), .val (.int fl), .val (.long wv), .second, .val (.int mm), .val (.long nv), .second, .val (.int bv), .val (.ref ia), .val (.int (1 : Int32)), .unset, .unset, .unset] [(.int (4 : Int32)), (.ref ia)])) rfl rfl (hb hby at_338) ?_
      show Steps p.tables e below (T18.setTop (mkF m 339 #[.val (.long xn), .second, .val (.int md), .val (.int fl), .val (.long wv), .second, .val (.int mm), .val (.long nv), .second, .val (.int bv), .val (.ref ia), .val (.int (1 : Int32)), .unset, .unset, .unset] [(.int ((own_W nv (own_Gb bv)) 4))])) tgt
      refine XS.bipush X18.here hx rfl (hb hby at_339) ?_
      show Steps p.tables e below (T18.setTop (mkF m 341 #[.val (.long xn), .second, .val (.int md), .val (.int fl), .val (.long wv), .second, .val (.int mm), .val (.long nv), .second, .val (.int bv), .val (.ref ia), .val (.int (1 : Int32)), .unset, .unset, .unset] [(.int (45 : Int32)), (.int ((own_W nv (own_Gb bv)) 4))])) tgt
      refine XS.icmpYes X18.here hx rfl (pc0 := 341) (pc' := 346) rfl (hb hby at_341) rfl (teq (own_W4 _ _)).1 (by decide) (by decide) ?_
      show Steps p.tables e below (T18.setTop (mkF m 346 #[.val (.long xn), .second, .val (.int md), .val (.int fl), .val (.long wv), .second, .val (.int mm), .val (.long nv), .second, .val (.int bv), .val (.ref ia), .val (.int (1 : Int32)), .unset, .unset, .unset] [])) tgt
      refine XS.aload X18.here hx rfl (hb hby at_346) rfl rfl ?_
      show Steps p.tables e below (T18.setTop (mkF m 348 #[.val (.long xn), .second, .val (.int md), .val (.int fl), .val (.long wv), .second, .val (.int mm), .val (.long nv), .second, .val (.int bv), .val (.ref ia), .val (.int (1 : Int32)), .unset, .unset, .unset] [(.ref ia)])) tgt
      refine XS.iconst X18.here hx rfl (hb hby at_348) ?_
      show Steps p.tables e below (T18.setTop (mkF m 349 #[.val (.long xn), .second, .val (.int md), .val (.int fl), .val (.long wv), .second, .val (.int mm), .val (.long nv), .second, .val (.int bv), .val (.ref ia), .val (.int (1 : Int32)), .unset, .unset, .unset] [(.int (0 : Int32)), (.ref ia)])) tgt
      refine own_baload X18 hx hZ K18 g12_0 (j := (0 : Int32)) (k := 0) rfl (by decide) (g := (mkF m 349 #[.val (.long xn), .second, .val (.int md), .val (.int fl), .val (.long wv), .second, .val (.int mm), .val (.long nv), .second, .val (.int bv), .val (.ref ia), .val (.int (1 : Int32)), .unset, .unset, .unset] [(.int (0 : Int32)), (.ref ia)])) rfl rfl (hb hby at_349) ?_
      show Steps p.tables e below (T18.setTop (mkF m 350 #[.val (.long xn), .second, .val (.int md), .val (.int fl), .val (.long wv), .second, .val (.int mm), .val (.long nv), .second, .val (.int bv), .val (.ref ia), .val (.int (1 : Int32)), .unset, .unset, .unset] [(.int ((own_W nv (own_Gb bv)) 0))])) tgt
      refine XS.bipush X18.here hx rfl (hb hby at_350) ?_
      show Steps p.tables e below (T18.setTop (mkF m 352 #[.val (.long xn), .second, .val (.int md), .val (.int fl), .val (.long wv), .second, .val (.int mm), .val (.long nv), .second, .val (.int bv), .val (.ref ia), .val (.int (1 : Int32)), .unset, .unset, .unset] [(.int (48 : Int32)), (.int ((own_W nv (own_Gb bv)) 0))])) tgt
      refine XS.isub X18.here hx rfl (hb hby at_352) rfl ?_
      show Steps p.tables e below (T18.setTop (mkF m 353 #[.val (.long xn), .second, .val (.int md), .val (.int fl), .val (.long wv), .second, .val (.int mm), .val (.long nv), .second, .val (.int bv), .val (.ref ia), .val (.int (1 : Int32)), .unset, .unset, .unset] [(.int (((own_W nv (own_Gb bv)) 0) - (48 : Int32)))])) tgt
      refine XS.i2l X18.here hx rfl (hb hby at_353) rfl ?_
      show Steps p.tables e below (T18.setTop (mkF m 354 #[.val (.long xn), .second, .val (.int md), .val (.int fl), .val (.long wv), .second, .val (.int mm), .val (.long nv), .second, .val (.int bv), .val (.ref ia), .val (.int (1 : Int32)), .unset, .unset, .unset] [(.long ((((own_W nv (own_Gb bv)) 0) - (48 : Int32)).toInt64))])) tgt
      refine X18.ldc2Long hx hown (mvT hZ (hw _ (List.mem_of_getElem? (i := 15) rfl))) (g := (mkF m 354 #[.val (.long xn), .second, .val (.int md), .val (.int fl), .val (.long wv), .second, .val (.int mm), .val (.long nv), .second, .val (.int bv), .val (.ref ia), .val (.int (1 : Int32)), .unset, .unset, .unset] [(.long ((((own_W nv (own_Gb bv)) 0) - (48 : Int32)).toInt64))])) rfl (hb hby at_354) _ ?_
      show Steps p.tables e below (T18.setTop (mkF m 357 #[.val (.long xn), .second, .val (.int md), .val (.int fl), .val (.long wv), .second, .val (.int mm), .val (.long nv), .second, .val (.int bv), .val (.ref ia), .val (.int (1 : Int32)), .unset, .unset, .unset] [(.long (1000 : Int64)), (.long ((((own_W nv (own_Gb bv)) 0) - (48 : Int32)).toInt64))])) tgt
      refine XS.lmul X18.here hx rfl (hb hby at_357) rfl ?_
      show Steps p.tables e below (T18.setTop (mkF m 358 #[.val (.long xn), .second, .val (.int md), .val (.int fl), .val (.long wv), .second, .val (.int mm), .val (.long nv), .second, .val (.int bv), .val (.ref ia), .val (.int (1 : Int32)), .unset, .unset, .unset] [(.long (((((own_W nv (own_Gb bv)) 0) - (48 : Int32)).toInt64) * (1000 : Int64)))])) tgt
      refine XS.aload X18.here hx rfl (hb hby at_358) rfl rfl ?_
      show Steps p.tables e below (T18.setTop (mkF m 360 #[.val (.long xn), .second, .val (.int md), .val (.int fl), .val (.long wv), .second, .val (.int mm), .val (.long nv), .second, .val (.int bv), .val (.ref ia), .val (.int (1 : Int32)), .unset, .unset, .unset] [(.ref ia), (.long (((((own_W nv (own_Gb bv)) 0) - (48 : Int32)).toInt64) * (1000 : Int64)))])) tgt
      refine XS.iconst X18.here hx rfl (hb hby at_360) ?_
      show Steps p.tables e below (T18.setTop (mkF m 361 #[.val (.long xn), .second, .val (.int md), .val (.int fl), .val (.long wv), .second, .val (.int mm), .val (.long nv), .second, .val (.int bv), .val (.ref ia), .val (.int (1 : Int32)), .unset, .unset, .unset] [(.int (1 : Int32)), (.ref ia), (.long (((((own_W nv (own_Gb bv)) 0) - (48 : Int32)).toInt64) * (1000 : Int64)))])) tgt
      refine own_baload X18 hx hZ K18 g12_0 (j := (1 : Int32)) (k := 1) rfl (by decide) (g := (mkF m 361 #[.val (.long xn), .second, .val (.int md), .val (.int fl), .val (.long wv), .second, .val (.int mm), .val (.long nv), .second, .val (.int bv), .val (.ref ia), .val (.int (1 : Int32)), .unset, .unset, .unset] [(.int (1 : Int32)), (.ref ia), (.long (((((own_W nv (own_Gb bv)) 0) - (48 : Int32)).toInt64) * (1000 : Int64)))])) rfl rfl (hb hby at_361) ?_
      show Steps p.tables e below (T18.setTop (mkF m 362 #[.val (.long xn), .second, .val (.int md), .val (.int fl), .val (.long wv), .second, .val (.int mm), .val (.long nv), .second, .val (.int bv), .val (.ref ia), .val (.int (1 : Int32)), .unset, .unset, .unset] [(.int ((own_W nv (own_Gb bv)) 1)), (.long (((((own_W nv (own_Gb bv)) 0) - (48 : Int32)).toInt64) * (1000 : Int64)))])) tgt
      refine XS.bipush X18.here hx rfl (hb hby at_362) ?_
      show Steps p.tables e below (T18.setTop (mkF m 364 #[.val (.long xn), .second, .val (.int md), .val (.int fl), .val (.long wv), .second, .val (.int mm), .val (.long nv), .second, .val (.int bv), .val (.ref ia), .val (.int (1 : Int32)), .unset, .unset, .unset] [(.int (48 : Int32)), (.int ((own_W nv (own_Gb bv)) 1)), (.long (((((own_W nv (own_Gb bv)) 0) - (48 : Int32)).toInt64) * (1000 : Int64)))])) tgt
      refine XS.isub X18.here hx rfl (hb hby at_364) rfl ?_
      show Steps p.tables e below (T18.setTop (mkF m 365 #[.val (.long xn), .second, .val (.int md), .val (.int fl), .val (.long wv), .second, .val (.int mm), .val (.long nv), .second, .val (.int bv), .val (.ref ia), .val (.int (1 : Int32)), .unset, .unset, .unset] [(.int (((own_W nv (own_Gb bv)) 1) - (48 : Int32))), (.long (((((own_W nv (own_Gb bv)) 0) - (48 : Int32)).toInt64) * (1000 : Int64)))])) tgt
      refine XS.i2l X18.here hx rfl (hb hby at_365) rfl ?_
      show Steps p.tables e below (T18.setTop (mkF m 366 #[.val (.long xn), .second, .val (.int md), .val (.int fl), .val (.long wv), .second, .val (.int mm), .val (.long nv), .second, .val (.int bv), .val (.ref ia), .val (.int (1 : Int32)), .unset, .unset, .unset] [(.long ((((own_W nv (own_Gb bv)) 1) - (48 : Int32)).toInt64)), (.long (((((own_W nv (own_Gb bv)) 0) - (48 : Int32)).toInt64) * (1000 : Int64)))])) tgt
      refine X18.ldc2Long hx hown (mvT hZ (hw _ (List.mem_of_getElem? (i := 16) rfl))) (g := (mkF m 366 #[.val (.long xn), .second, .val (.int md), .val (.int fl), .val (.long wv), .second, .val (.int mm), .val (.long nv), .second, .val (.int bv), .val (.ref ia), .val (.int (1 : Int32)), .unset, .unset, .unset] [(.long ((((own_W nv (own_Gb bv)) 1) - (48 : Int32)).toInt64)), (.long (((((own_W nv (own_Gb bv)) 0) - (48 : Int32)).toInt64) * (1000 : Int64)))])) rfl (hb hby at_366) _ ?_
      show Steps p.tables e below (T18.setTop (mkF m 369 #[.val (.long xn), .second, .val (.int md), .val (.int fl), .val (.long wv), .second, .val (.int mm), .val (.long nv), .second, .val (.int bv), .val (.ref ia), .val (.int (1 : Int32)), .unset, .unset, .unset] [(.long (100 : Int64)), (.long ((((own_W nv (own_Gb bv)) 1) - (48 : Int32)).toInt64)), (.long (((((own_W nv (own_Gb bv)) 0) - (48 : Int32)).toInt64) * (1000 : Int64)))])) tgt
      refine XS.lmul X18.here hx rfl (hb hby at_369) rfl ?_
      show Steps p.tables e below (T18.setTop (mkF m 370 #[.val (.long xn), .second, .val (.int md), .val (.int fl), .val (.long wv), .second, .val (.int mm), .val (.long nv), .second, .val (.int bv), .val (.ref ia), .val (.int (1 : Int32)), .unset, .unset, .unset] [(.long (((((own_W nv (own_Gb bv)) 1) - (48 : Int32)).toInt64) * (100 : Int64))), (.long (((((own_W nv (own_Gb bv)) 0) - (48 : Int32)).toInt64) * (1000 : Int64)))])) tgt
      refine XS.ladd X18.here hx rfl (hb hby at_370) rfl ?_
      show Steps p.tables e below (T18.setTop (mkF m 371 #[.val (.long xn), .second, .val (.int md), .val (.int fl), .val (.long wv), .second, .val (.int mm), .val (.long nv), .second, .val (.int bv), .val (.ref ia), .val (.int (1 : Int32)), .unset, .unset, .unset] [(.long ((((((own_W nv (own_Gb bv)) 0) - (48 : Int32)).toInt64) * (1000 : Int64)) + (((((own_W nv (own_Gb bv)) 1) - (48 : Int32)).toInt64) * (100 : Int64))))])) tgt
      refine XS.aload X18.here hx rfl (hb hby at_371) rfl rfl ?_
      show Steps p.tables e below (T18.setTop (mkF m 373 #[.val (.long xn), .second, .val (.int md), .val (.int fl), .val (.long wv), .second, .val (.int mm), .val (.long nv), .second, .val (.int bv), .val (.ref ia), .val (.int (1 : Int32)), .unset, .unset, .unset] [(.ref ia), (.long ((((((own_W nv (own_Gb bv)) 0) - (48 : Int32)).toInt64) * (1000 : Int64)) + (((((own_W nv (own_Gb bv)) 1) - (48 : Int32)).toInt64) * (100 : Int64))))])) tgt
      refine XS.iconst X18.here hx rfl (hb hby at_373) ?_
      show Steps p.tables e below (T18.setTop (mkF m 374 #[.val (.long xn), .second, .val (.int md), .val (.int fl), .val (.long wv), .second, .val (.int mm), .val (.long nv), .second, .val (.int bv), .val (.ref ia), .val (.int (1 : Int32)), .unset, .unset, .unset] [(.int (2 : Int32)), (.ref ia), (.long ((((((own_W nv (own_Gb bv)) 0) - (48 : Int32)).toInt64) * (1000 : Int64)) + (((((own_W nv (own_Gb bv)) 1) - (48 : Int32)).toInt64) * (100 : Int64))))])) tgt
      refine own_baload X18 hx hZ K18 g12_0 (j := (2 : Int32)) (k := 2) rfl (by decide) (g := (mkF m 374 #[.val (.long xn), .second, .val (.int md), .val (.int fl), .val (.long wv), .second, .val (.int mm), .val (.long nv), .second, .val (.int bv), .val (.ref ia), .val (.int (1 : Int32)), .unset, .unset, .unset] [(.int (2 : Int32)), (.ref ia), (.long ((((((own_W nv (own_Gb bv)) 0) - (48 : Int32)).toInt64) * (1000 : Int64)) + (((((own_W nv (own_Gb bv)) 1) - (48 : Int32)).toInt64) * (100 : Int64))))])) rfl rfl (hb hby at_374) ?_
      show Steps p.tables e below (T18.setTop (mkF m 375 #[.val (.long xn), .second, .val (.int md), .val (.int fl), .val (.long wv), .second, .val (.int mm), .val (.long nv), .second, .val (.int bv), .val (.ref ia), .val (.int (1 : Int32)), .unset, .unset, .unset] [(.int ((own_W nv (own_Gb bv)) 2)), (.long ((((((own_W nv (own_Gb bv)) 0) - (48 : Int32)).toInt64) * (1000 : Int64)) + (((((own_W nv (own_Gb bv)) 1) - (48 : Int32)).toInt64) * (100 : Int64))))])) tgt
      refine XS.bipush X18.here hx rfl (hb hby at_375) ?_
      show Steps p.tables e below (T18.setTop (mkF m 377 #[.val (.long xn), .second, .val (.int md), .val (.int fl), .val (.long wv), .second, .val (.int mm), .val (.long nv), .second, .val (.int bv), .val (.ref ia), .val (.int (1 : Int32)), .unset, .unset, .unset] [(.int (48 : Int32)), (.int ((own_W nv (own_Gb bv)) 2)), (.long ((((((own_W nv (own_Gb bv)) 0) - (48 : Int32)).toInt64) * (1000 : Int64)) + (((((own_W nv (own_Gb bv)) 1) - (48 : Int32)).toInt64) * (100 : Int64))))])) tgt
      refine XS.isub X18.here hx rfl (hb hby at_377) rfl ?_
      show Steps p.tables e below (T18.setTop (mkF m 378 #[.val (.long xn), .second, .val (.int md), .val (.int fl), .val (.long wv), .second, .val (.int mm), .val (.long nv), .second, .val (.int bv), .val (.ref ia), .val (.int (1 : Int32)), .unset, .unset, .unset] [(.int (((own_W nv (own_Gb bv)) 2) - (48 : Int32))), (.long ((((((own_W nv (own_Gb bv)) 0) - (48 : Int32)).toInt64) * (1000 : Int64)) + (((((own_W nv (own_Gb bv)) 1) - (48 : Int32)).toInt64) * (100 : Int64))))])) tgt
      refine XS.i2l X18.here hx rfl (hb hby at_378) rfl ?_
      show Steps p.tables e below (T18.setTop (mkF m 379 #[.val (.long xn), .second, .val (.int md), .val (.int fl), .val (.long wv), .second, .val (.int mm), .val (.long nv), .second, .val (.int bv), .val (.ref ia), .val (.int (1 : Int32)), .unset, .unset, .unset] [(.long ((((own_W nv (own_Gb bv)) 2) - (48 : Int32)).toInt64)), (.long ((((((own_W nv (own_Gb bv)) 0) - (48 : Int32)).toInt64) * (1000 : Int64)) + (((((own_W nv (own_Gb bv)) 1) - (48 : Int32)).toInt64) * (100 : Int64))))])) tgt
      refine X18.ldc2Long hx hown (mvT hZ (hw _ (List.mem_of_getElem? (i := 17) rfl))) (g := (mkF m 379 #[.val (.long xn), .second, .val (.int md), .val (.int fl), .val (.long wv), .second, .val (.int mm), .val (.long nv), .second, .val (.int bv), .val (.ref ia), .val (.int (1 : Int32)), .unset, .unset, .unset] [(.long ((((own_W nv (own_Gb bv)) 2) - (48 : Int32)).toInt64)), (.long ((((((own_W nv (own_Gb bv)) 0) - (48 : Int32)).toInt64) * (1000 : Int64)) + (((((own_W nv (own_Gb bv)) 1) - (48 : Int32)).toInt64) * (100 : Int64))))])) rfl (hb hby at_379) _ ?_
      show Steps p.tables e below (T18.setTop (mkF m 382 #[.val (.long xn), .second, .val (.int md), .val (.int fl), .val (.long wv), .second, .val (.int mm), .val (.long nv), .second, .val (.int bv), .val (.ref ia), .val (.int (1 : Int32)), .unset, .unset, .unset] [(.long (10 : Int64)), (.long ((((own_W nv (own_Gb bv)) 2) - (48 : Int32)).toInt64)), (.long ((((((own_W nv (own_Gb bv)) 0) - (48 : Int32)).toInt64) * (1000 : Int64)) + (((((own_W nv (own_Gb bv)) 1) - (48 : Int32)).toInt64) * (100 : Int64))))])) tgt
      refine XS.lmul X18.here hx rfl (hb hby at_382) rfl ?_
      show Steps p.tables e below (T18.setTop (mkF m 383 #[.val (.long xn), .second, .val (.int md), .val (.int fl), .val (.long wv), .second, .val (.int mm), .val (.long nv), .second, .val (.int bv), .val (.ref ia), .val (.int (1 : Int32)), .unset, .unset, .unset] [(.long (((((own_W nv (own_Gb bv)) 2) - (48 : Int32)).toInt64) * (10 : Int64))), (.long ((((((own_W nv (own_Gb bv)) 0) - (48 : Int32)).toInt64) * (1000 : Int64)) + (((((own_W nv (own_Gb bv)) 1) - (48 : Int32)).toInt64) * (100 : Int64))))])) tgt
      refine XS.ladd X18.here hx rfl (hb hby at_383) rfl ?_
      show Steps p.tables e below (T18.setTop (mkF m 384 #[.val (.long xn), .second, .val (.int md), .val (.int fl), .val (.long wv), .second, .val (.int mm), .val (.long nv), .second, .val (.int bv), .val (.ref ia), .val (.int (1 : Int32)), .unset, .unset, .unset] [(.long (((((((own_W nv (own_Gb bv)) 0) - (48 : Int32)).toInt64) * (1000 : Int64)) + (((((own_W nv (own_Gb bv)) 1) - (48 : Int32)).toInt64) * (100 : Int64))) + (((((own_W nv (own_Gb bv)) 2) - (48 : Int32)).toInt64) * (10 : Int64))))])) tgt
      refine XS.aload X18.here hx rfl (hb hby at_384) rfl rfl ?_
      show Steps p.tables e below (T18.setTop (mkF m 386 #[.val (.long xn), .second, .val (.int md), .val (.int fl), .val (.long wv), .second, .val (.int mm), .val (.long nv), .second, .val (.int bv), .val (.ref ia), .val (.int (1 : Int32)), .unset, .unset, .unset] [(.ref ia), (.long (((((((own_W nv (own_Gb bv)) 0) - (48 : Int32)).toInt64) * (1000 : Int64)) + (((((own_W nv (own_Gb bv)) 1) - (48 : Int32)).toInt64) * (100 : Int64))) + (((((own_W nv (own_Gb bv)) 2) - (48 : Int32)).toInt64) * (10 : Int64))))])) tgt
      refine XS.iconst X18.here hx rfl (hb hby at_386) ?_
      show Steps p.tables e below (T18.setTop (mkF m 387 #[.val (.long xn), .second, .val (.int md), .val (.int fl), .val (.long wv), .second, .val (.int mm), .val (.long nv), .second, .val (.int bv), .val (.ref ia), .val (.int (1 : Int32)), .unset, .unset, .unset] [(.int (3 : Int32)), (.ref ia), (.long (((((((own_W nv (own_Gb bv)) 0) - (48 : Int32)).toInt64) * (1000 : Int64)) + (((((own_W nv (own_Gb bv)) 1) - (48 : Int32)).toInt64) * (100 : Int64))) + (((((own_W nv (own_Gb bv)) 2) - (48 : Int32)).toInt64) * (10 : Int64))))])) tgt
      refine own_baload X18 hx hZ K18 g12_0 (j := (3 : Int32)) (k := 3) rfl (by decide) (g := (mkF m 387 #[.val (.long xn), .second, .val (.int md), .val (.int fl), .val (.long wv), .second, .val (.int mm), .val (.long nv), .second, .val (.int bv), .val (.ref ia), .val (.int (1 : Int32)), .unset, .unset, .unset] [(.int (3 : Int32)), (.ref ia), (.long (((((((own_W nv (own_Gb bv)) 0) - (48 : Int32)).toInt64) * (1000 : Int64)) + (((((own_W nv (own_Gb bv)) 1) - (48 : Int32)).toInt64) * (100 : Int64))) + (((((own_W nv (own_Gb bv)) 2) - (48 : Int32)).toInt64) * (10 : Int64))))])) rfl rfl (hb hby at_387) ?_
      show Steps p.tables e below (T18.setTop (mkF m 388 #[.val (.long xn), .second, .val (.int md), .val (.int fl), .val (.long wv), .second, .val (.int mm), .val (.long nv), .second, .val (.int bv), .val (.ref ia), .val (.int (1 : Int32)), .unset, .unset, .unset] [(.int ((own_W nv (own_Gb bv)) 3)), (.long (((((((own_W nv (own_Gb bv)) 0) - (48 : Int32)).toInt64) * (1000 : Int64)) + (((((own_W nv (own_Gb bv)) 1) - (48 : Int32)).toInt64) * (100 : Int64))) + (((((own_W nv (own_Gb bv)) 2) - (48 : Int32)).toInt64) * (10 : Int64))))])) tgt
      refine XS.bipush X18.here hx rfl (hb hby at_388) ?_
      show Steps p.tables e below (T18.setTop (mkF m 390 #[.val (.long xn), .second, .val (.int md), .val (.int fl), .val (.long wv), .second, .val (.int mm), .val (.long nv), .second, .val (.int bv), .val (.ref ia), .val (.int (1 : Int32)), .unset, .unset, .unset] [(.int (48 : Int32)), (.int ((own_W nv (own_Gb bv)) 3)), (.long (((((((own_W nv (own_Gb bv)) 0) - (48 : Int32)).toInt64) * (1000 : Int64)) + (((((own_W nv (own_Gb bv)) 1) - (48 : Int32)).toInt64) * (100 : Int64))) + (((((own_W nv (own_Gb bv)) 2) - (48 : Int32)).toInt64) * (10 : Int64))))])) tgt
      refine XS.isub X18.here hx rfl (hb hby at_390) rfl ?_
      show Steps p.tables e below (T18.setTop (mkF m 391 #[.val (.long xn), .second, .val (.int md), .val (.int fl), .val (.long wv), .second, .val (.int mm), .val (.long nv), .second, .val (.int bv), .val (.ref ia), .val (.int (1 : Int32)), .unset, .unset, .unset] [(.int (((own_W nv (own_Gb bv)) 3) - (48 : Int32))), (.long (((((((own_W nv (own_Gb bv)) 0) - (48 : Int32)).toInt64) * (1000 : Int64)) + (((((own_W nv (own_Gb bv)) 1) - (48 : Int32)).toInt64) * (100 : Int64))) + (((((own_W nv (own_Gb bv)) 2) - (48 : Int32)).toInt64) * (10 : Int64))))])) tgt
      refine XS.i2l X18.here hx rfl (hb hby at_391) rfl ?_
      show Steps p.tables e below (T18.setTop (mkF m 392 #[.val (.long xn), .second, .val (.int md), .val (.int fl), .val (.long wv), .second, .val (.int mm), .val (.long nv), .second, .val (.int bv), .val (.ref ia), .val (.int (1 : Int32)), .unset, .unset, .unset] [(.long ((((own_W nv (own_Gb bv)) 3) - (48 : Int32)).toInt64)), (.long (((((((own_W nv (own_Gb bv)) 0) - (48 : Int32)).toInt64) * (1000 : Int64)) + (((((own_W nv (own_Gb bv)) 1) - (48 : Int32)).toInt64) * (100 : Int64))) + (((((own_W nv (own_Gb bv)) 2) - (48 : Int32)).toInt64) * (10 : Int64))))])) tgt
      refine XS.ladd X18.here hx rfl (hb hby at_392) rfl ?_
      show Steps p.tables e below (T18.setTop (mkF m 393 #[.val (.long xn), .second, .val (.int md), .val (.int fl), .val (.long wv), .second, .val (.int mm), .val (.long nv), .second, .val (.int bv), .val (.ref ia), .val (.int (1 : Int32)), .unset, .unset, .unset] [(.long ((((((((own_W nv (own_Gb bv)) 0) - (48 : Int32)).toInt64) * (1000 : Int64)) + (((((own_W nv (own_Gb bv)) 1) - (48 : Int32)).toInt64) * (100 : Int64))) + (((((own_W nv (own_Gb bv)) 2) - (48 : Int32)).toInt64) * (10 : Int64))) + ((((own_W nv (own_Gb bv)) 3) - (48 : Int32)).toInt64)))])) tgt
      refine XS.lstore X18.here hx rfl (hb hby at_393) rfl (l' := #[.val (.long xn), .second, .val (.int md), .val (.int fl), .val (.long wv), .second, .val (.int mm), .val (.long nv), .second, .val (.int bv), .val (.ref ia), .val (.int (1 : Int32)), .val (.long ((((((((own_W nv (own_Gb bv)) 0) - (48 : Int32)).toInt64) * (1000 : Int64)) + (((((own_W nv (own_Gb bv)) 1) - (48 : Int32)).toInt64) * (100 : Int64))) + (((((own_W nv (own_Gb bv)) 2) - (48 : Int32)).toInt64) * (10 : Int64))) + ((((own_W nv (own_Gb bv)) 3) - (48 : Int32)).toInt64))), .second, .unset]) rfl ?_
      exact k
    obtain ⟨yy, hyy⟩ : ∃ z : Int64, z = ((((((((own_W nv (own_Gb bv)) 0) - (48 : Int32)).toInt64) * (1000 : Int64)) + (((((own_W nv (own_Gb bv)) 1) - (48 : Int32)).toInt64) * (100 : Int64))) + (((((own_W nv (own_Gb bv)) 2) - (48 : Int32)).toInt64) * (10 : Int64))) + ((((own_W nv (own_Gb bv)) 3) - (48 : Int32)).toInt64)) := ⟨_, rfl⟩
    rw [← hyy]
    have hy : yy.toInt = nv.toInt / 12 := by
      rw [hyy, own_year _ _ _ _ (by omega) (by omega) (by omega) (by omega), z0, z1, z2, z3]; exact own_dig _
    refine own_st (V := T18.setTop (mkF m 416 #[.val (.long xn), .second, .val (.int md), .val (.int fl), .val (.long wv), .second, .val (.int mm), .val (.long nv), .second, .val (.int bv), .val (.ref ia), .val (.int (1 : Int32)), .val (.long yy), .second, .val (.int (((((own_W nv (own_Gb bv)) 5) - (48 : Int32)) * (10 : Int32)) + (((own_W nv (own_Gb bv)) 6) - (48 : Int32))))] [])) (fun tgt k => ?_) ?_
    · show Steps p.tables e below (T18.setTop (mkF m 395 #[.val (.long xn), .second, .val (.int md), .val (.int fl), .val (.long wv), .second, .val (.int mm), .val (.long nv), .second, .val (.int bv), .val (.ref ia), .val (.int (1 : Int32)), .val (.long yy), .second, .unset] [])) tgt
      refine XS.aload X18.here hx rfl (hb hby at_395) rfl rfl ?_
      show Steps p.tables e below (T18.setTop (mkF m 397 #[.val (.long xn), .second, .val (.int md), .val (.int fl), .val (.long wv), .second, .val (.int mm), .val (.long nv), .second, .val (.int bv), .val (.ref ia), .val (.int (1 : Int32)), .val (.long yy), .second, .unset] [(.ref ia)])) tgt
      refine XS.iconst X18.here hx rfl (hb hby at_397) ?_
      show Steps p.tables e below (T18.setTop (mkF m 398 #[.val (.long xn), .second, .val (.int md), .val (.int fl), .val (.long wv), .second, .val (.int mm), .val (.long nv), .second, .val (.int bv), .val (.ref ia), .val (.int (1 : Int32)), .val (.long yy), .second, .unset] [(.int (5 : Int32)), (.ref ia)])) tgt
      refine own_baload X18 hx hZ K18 g12_0 (j := (5 : Int32)) (k := 5) rfl (by decide) (g := (mkF m 398 #[.val (.long xn), .second, .val (.int md), .val (.int fl), .val (.long wv), .second, .val (.int mm), .val (.long nv), .second, .val (.int bv), .val (.ref ia), .val (.int (1 : Int32)), .val (.long yy), .second, .unset] [(.int (5 : Int32)), (.ref ia)])) rfl rfl (hb hby at_398) ?_
      show Steps p.tables e below (T18.setTop (mkF m 399 #[.val (.long xn), .second, .val (.int md), .val (.int fl), .val (.long wv), .second, .val (.int mm), .val (.long nv), .second, .val (.int bv), .val (.ref ia), .val (.int (1 : Int32)), .val (.long yy), .second, .unset] [(.int ((own_W nv (own_Gb bv)) 5))])) tgt
      refine XS.bipush X18.here hx rfl (hb hby at_399) ?_
      show Steps p.tables e below (T18.setTop (mkF m 401 #[.val (.long xn), .second, .val (.int md), .val (.int fl), .val (.long wv), .second, .val (.int mm), .val (.long nv), .second, .val (.int bv), .val (.ref ia), .val (.int (1 : Int32)), .val (.long yy), .second, .unset] [(.int (48 : Int32)), (.int ((own_W nv (own_Gb bv)) 5))])) tgt
      refine XS.isub X18.here hx rfl (hb hby at_401) rfl ?_
      show Steps p.tables e below (T18.setTop (mkF m 402 #[.val (.long xn), .second, .val (.int md), .val (.int fl), .val (.long wv), .second, .val (.int mm), .val (.long nv), .second, .val (.int bv), .val (.ref ia), .val (.int (1 : Int32)), .val (.long yy), .second, .unset] [(.int (((own_W nv (own_Gb bv)) 5) - (48 : Int32)))])) tgt
      refine XS.bipush X18.here hx rfl (hb hby at_402) ?_
      show Steps p.tables e below (T18.setTop (mkF m 404 #[.val (.long xn), .second, .val (.int md), .val (.int fl), .val (.long wv), .second, .val (.int mm), .val (.long nv), .second, .val (.int bv), .val (.ref ia), .val (.int (1 : Int32)), .val (.long yy), .second, .unset] [(.int (10 : Int32)), (.int (((own_W nv (own_Gb bv)) 5) - (48 : Int32)))])) tgt
      refine XS.imul X18.here hx rfl (hb hby at_404) rfl ?_
      show Steps p.tables e below (T18.setTop (mkF m 405 #[.val (.long xn), .second, .val (.int md), .val (.int fl), .val (.long wv), .second, .val (.int mm), .val (.long nv), .second, .val (.int bv), .val (.ref ia), .val (.int (1 : Int32)), .val (.long yy), .second, .unset] [(.int ((((own_W nv (own_Gb bv)) 5) - (48 : Int32)) * (10 : Int32)))])) tgt
      refine XS.aload X18.here hx rfl (hb hby at_405) rfl rfl ?_
      show Steps p.tables e below (T18.setTop (mkF m 407 #[.val (.long xn), .second, .val (.int md), .val (.int fl), .val (.long wv), .second, .val (.int mm), .val (.long nv), .second, .val (.int bv), .val (.ref ia), .val (.int (1 : Int32)), .val (.long yy), .second, .unset] [(.ref ia), (.int ((((own_W nv (own_Gb bv)) 5) - (48 : Int32)) * (10 : Int32)))])) tgt
      refine XS.bipush X18.here hx rfl (hb hby at_407) ?_
      show Steps p.tables e below (T18.setTop (mkF m 409 #[.val (.long xn), .second, .val (.int md), .val (.int fl), .val (.long wv), .second, .val (.int mm), .val (.long nv), .second, .val (.int bv), .val (.ref ia), .val (.int (1 : Int32)), .val (.long yy), .second, .unset] [(.int (6 : Int32)), (.ref ia), (.int ((((own_W nv (own_Gb bv)) 5) - (48 : Int32)) * (10 : Int32)))])) tgt
      refine own_baload X18 hx hZ K18 g12_0 (j := (6 : Int32)) (k := 6) rfl (by decide) (g := (mkF m 409 #[.val (.long xn), .second, .val (.int md), .val (.int fl), .val (.long wv), .second, .val (.int mm), .val (.long nv), .second, .val (.int bv), .val (.ref ia), .val (.int (1 : Int32)), .val (.long yy), .second, .unset] [(.int (6 : Int32)), (.ref ia), (.int ((((own_W nv (own_Gb bv)) 5) - (48 : Int32)) * (10 : Int32)))])) rfl rfl (hb hby at_409) ?_
      show Steps p.tables e below (T18.setTop (mkF m 410 #[.val (.long xn), .second, .val (.int md), .val (.int fl), .val (.long wv), .second, .val (.int mm), .val (.long nv), .second, .val (.int bv), .val (.ref ia), .val (.int (1 : Int32)), .val (.long yy), .second, .unset] [(.int ((own_W nv (own_Gb bv)) 6)), (.int ((((own_W nv (own_Gb bv)) 5) - (48 : Int32)) * (10 : Int32)))])) tgt
      refine XS.bipush X18.here hx rfl (hb hby at_410) ?_
      show Steps p.tables e below (T18.setTop (mkF m 412 #[.val (.long xn), .second, .val (.int md), .val (.int fl), .val (.long wv), .second, .val (.int mm), .val (.long nv), .second, .val (.int bv), .val (.ref ia), .val (.int (1 : Int32)), .val (.long yy), .second, .unset] [(.int (48 : Int32)), (.int ((own_W nv (own_Gb bv)) 6)), (.int ((((own_W nv (own_Gb bv)) 5) - (48 : Int32)) * (10 : Int32)))])) tgt
      refine XS.isub X18.here hx rfl (hb hby at_412) rfl ?_
      show Steps p.tables e below (T18.setTop (mkF m 413 #[.val (.long xn), .second, .val (.int md), .val (.int fl), .val (.long wv), .second, .val (.int mm), .val (.long nv), .second, .val (.int bv), .val (.ref ia), .val (.int (1 : Int32)), .val (.long yy), .second, .unset] [(.int (((own_W nv (own_Gb bv)) 6) - (48 : Int32))), (.int ((((own_W nv (own_Gb bv)) 5) - (48 : Int32)) * (10 : Int32)))])) tgt
      refine XS.iadd X18.here hx rfl (hb hby at_413) rfl ?_
      show Steps p.tables e below (T18.setTop (mkF m 414 #[.val (.long xn), .second, .val (.int md), .val (.int fl), .val (.long wv), .second, .val (.int mm), .val (.long nv), .second, .val (.int bv), .val (.ref ia), .val (.int (1 : Int32)), .val (.long yy), .second, .unset] [(.int (((((own_W nv (own_Gb bv)) 5) - (48 : Int32)) * (10 : Int32)) + (((own_W nv (own_Gb bv)) 6) - (48 : Int32))))])) tgt
      refine XS.istore X18.here hx rfl (hb hby at_414) rfl (l' := #[.val (.long xn), .second, .val (.int md), .val (.int fl), .val (.long wv), .second, .val (.int mm), .val (.long nv), .second, .val (.int bv), .val (.ref ia), .val (.int (1 : Int32)), .val (.long yy), .second, .val (.int (((((own_W nv (own_Gb bv)) 5) - (48 : Int32)) * (10 : Int32)) + (((own_W nv (own_Gb bv)) 6) - (48 : Int32))))]) rfl ?_
      exact k
    obtain ⟨mo, hmo⟩ : ∃ z : Int32, z = (((((own_W nv (own_Gb bv)) 5) - (48 : Int32)) * (10 : Int32)) + (((own_W nv (own_Gb bv)) 6) - (48 : Int32))) := ⟨_, rfl⟩
    rw [← hmo]
    have hm : mo.toInt = nv.toInt % 12 + 1 := by
      rw [hmo, own_month _ _ (by omega) (by omega), z5, z6]; exact own_dig2 _
    refine own_st (V := T18.setTop (mkF m 452 #[.val (.long xn), .second, .val (.int md), .val (.int fl), .val (.long wv), .second, .val (.int mm), .val (.long nv), .second, .val (.int bv), .val (.ref ia), .val (.int (1 : Int32)), .val (.long yy), .second, .val (.int mo)] [(.int (1 : Int32))])) (fun tgt k => ?_) ?_
    · show Steps p.tables e below (T18.setTop (mkF m 416 #[.val (.long xn), .second, .val (.int md), .val (.int fl), .val (.long wv), .second, .val (.int mm), .val (.long nv), .second, .val (.int bv), .val (.ref ia), .val (.int (1 : Int32)), .val (.long yy), .second, .val (.int mo)] [])) tgt
      refine XS.iload X18.here hx rfl (hb hby at_416) rfl ?_
      show Steps p.tables e below (T18.setTop (mkF m 418 #[.val (.long xn), .second, .val (.int md), .val (.int fl), .val (.long wv), .second, .val (.int mm), .val (.long nv), .second, .val (.int bv), .val (.ref ia), .val (.int (1 : Int32)), .val (.long yy), .second, .val (.int mo)] [(.int mo)])) tgt
      refine XS.iconst X18.here hx rfl (hb hby at_418) ?_
      show Steps p.tables e below (T18.setTop (mkF m 419 #[.val (.long xn), .second, .val (.int md), .val (.int fl), .val (.long wv), .second, .val (.int mm), .val (.long nv), .second, .val (.int bv), .val (.ref ia), .val (.int (1 : Int32)), .val (.long yy), .second, .val (.int mo)] [(.int (1 : Int32)), (.int mo)])) tgt
      refine XS.icmpNo X18.here hx rfl (hb hby at_419) rfl (flt (by rw [Int32.lt_iff_toInt_lt, show (1 : Int32).toInt = 1 from rfl]; omega)).1 ?_
      show Steps p.tables e below (T18.setTop (mkF m 422 #[.val (.long xn), .second, .val (.int md), .val (.int fl), .val (.long wv), .second, .val (.int mm), .val (.long nv), .second, .val (.int bv), .val (.ref ia), .val (.int (1 : Int32)), .val (.long yy), .second, .val (.int mo)] [])) tgt
      refine XS.iload X18.here hx rfl (hb hby at_422) rfl ?_
      show Steps p.tables e below (T18.setTop (mkF m 424 #[.val (.long xn), .second, .val (.int md), .val (.int fl), .val (.long wv), .second, .val (.int mm), .val (.long nv), .second, .val (.int bv), .val (.ref ia), .val (.int (1 : Int32)), .val (.long yy), .second, .val (.int mo)] [(.int mo)])) tgt
      refine XS.bipush X18.here hx rfl (hb hby at_424) ?_
      show Steps p.tables e below (T18.setTop (mkF m 426 #[.val (.long xn), .second, .val (.int md), .val (.int fl), .val (.long wv), .second, .val (.int mm), .val (.long nv), .second, .val (.int bv), .val (.ref ia), .val (.int (1 : Int32)), .val (.long yy), .second, .val (.int mo)] [(.int (12 : Int32)), (.int mo)])) tgt
      refine XS.icmpNo X18.here hx rfl (hb hby at_426) rfl (flt (by rw [Int32.lt_iff_toInt_lt, show (12 : Int32).toInt = 12 from rfl]; omega)).2.2.1 ?_
      show Steps p.tables e below (T18.setTop (mkF m 429 #[.val (.long xn), .second, .val (.int md), .val (.int fl), .val (.long wv), .second, .val (.int mm), .val (.long nv), .second, .val (.int bv), .val (.ref ia), .val (.int (1 : Int32)), .val (.long yy), .second, .val (.int mo)] [])) tgt
      refine XS.lload X18.here hx rfl (hb hby at_429) rfl ?_
      show Steps p.tables e below (T18.setTop (mkF m 431 #[.val (.long xn), .second, .val (.int md), .val (.int fl), .val (.long wv), .second, .val (.int mm), .val (.long nv), .second, .val (.int bv), .val (.ref ia), .val (.int (1 : Int32)), .val (.long yy), .second, .val (.int mo)] [(.long yy)])) tgt
      refine X18.ldc2Long hx hown (mvT hZ (hw _ (List.mem_of_getElem? (i := 18) rfl))) (g := (mkF m 431 #[.val (.long xn), .second, .val (.int md), .val (.int fl), .val (.long wv), .second, .val (.int mm), .val (.long nv), .second, .val (.int bv), .val (.ref ia), .val (.int (1 : Int32)), .val (.long yy), .second, .val (.int mo)] [(.long yy)])) rfl (hb hby at_431) _ ?_
      show Steps p.tables e below (T18.setTop (mkF m 434 #[.val (.long xn), .second, .val (.int md), .val (.int fl), .val (.long wv), .second, .val (.int mm), .val (.long nv), .second, .val (.int bv), .val (.ref ia), .val (.int (1 : Int32)), .val (.long yy), .second, .val (.int mo)] [(.long (12 : Int64)), (.long yy)])) tgt
      refine XS.lmul X18.here hx rfl (hb hby at_434) rfl ?_
      show Steps p.tables e below (T18.setTop (mkF m 435 #[.val (.long xn), .second, .val (.int md), .val (.int fl), .val (.long wv), .second, .val (.int mm), .val (.long nv), .second, .val (.int bv), .val (.ref ia), .val (.int (1 : Int32)), .val (.long yy), .second, .val (.int mo)] [(.long (yy * (12 : Int64)))])) tgt
      refine XS.iload X18.here hx rfl (hb hby at_435) rfl ?_
      show Steps p.tables e below (T18.setTop (mkF m 437 #[.val (.long xn), .second, .val (.int md), .val (.int fl), .val (.long wv), .second, .val (.int mm), .val (.long nv), .second, .val (.int bv), .val (.ref ia), .val (.int (1 : Int32)), .val (.long yy), .second, .val (.int mo)] [(.int mo), (.long (yy * (12 : Int64)))])) tgt
      refine XS.i2l X18.here hx rfl (hb hby at_437) rfl ?_
      show Steps p.tables e below (T18.setTop (mkF m 438 #[.val (.long xn), .second, .val (.int md), .val (.int fl), .val (.long wv), .second, .val (.int mm), .val (.long nv), .second, .val (.int bv), .val (.ref ia), .val (.int (1 : Int32)), .val (.long yy), .second, .val (.int mo)] [(.long (mo.toInt64)), (.long (yy * (12 : Int64)))])) tgt
      refine XS.ladd X18.here hx rfl (hb hby at_438) rfl ?_
      show Steps p.tables e below (T18.setTop (mkF m 439 #[.val (.long xn), .second, .val (.int md), .val (.int fl), .val (.long wv), .second, .val (.int mm), .val (.long nv), .second, .val (.int bv), .val (.ref ia), .val (.int (1 : Int32)), .val (.long yy), .second, .val (.int mo)] [(.long ((yy * (12 : Int64)) + (mo.toInt64)))])) tgt
      refine XS.lconst X18.here hx rfl (hb hby at_439) ?_
      show Steps p.tables e below (T18.setTop (mkF m 440 #[.val (.long xn), .second, .val (.int md), .val (.int fl), .val (.long wv), .second, .val (.int mm), .val (.long nv), .second, .val (.int bv), .val (.ref ia), .val (.int (1 : Int32)), .val (.long yy), .second, .val (.int mo)] [(.long (1 : Int64)), (.long ((yy * (12 : Int64)) + (mo.toInt64)))])) tgt
      refine XS.lsub X18.here hx rfl (hb hby at_440) rfl ?_
      show Steps p.tables e below (T18.setTop (mkF m 441 #[.val (.long xn), .second, .val (.int md), .val (.int fl), .val (.long wv), .second, .val (.int mm), .val (.long nv), .second, .val (.int bv), .val (.ref ia), .val (.int (1 : Int32)), .val (.long yy), .second, .val (.int mo)] [(.long (((yy * (12 : Int64)) + (mo.toInt64)) - (1 : Int64)))])) tgt
      refine XS.lload X18.here hx rfl (hb hby at_441) rfl ?_
      show Steps p.tables e below (T18.setTop (mkF m 443 #[.val (.long xn), .second, .val (.int md), .val (.int fl), .val (.long wv), .second, .val (.int mm), .val (.long nv), .second, .val (.int bv), .val (.ref ia), .val (.int (1 : Int32)), .val (.long yy), .second, .val (.int mo)] [(.long nv), (.long (((yy * (12 : Int64)) + (mo.toInt64)) - (1 : Int64)))])) tgt
      refine XS.lcmp X18.here hx rfl (hb hby at_443) rfl ?_
      show Steps p.tables e below (T18.setTop (mkF m 444 #[.val (.long xn), .second, .val (.int md), .val (.int fl), .val (.long wv), .second, .val (.int mm), .val (.long nv), .second, .val (.int bv), .val (.ref ia), .val (.int (1 : Int32)), .val (.long yy), .second, .val (.int mo)] [(.int (lcmpW (((yy * (12 : Int64)) + (mo.toInt64)) - (1 : Int64)) nv))])) tgt
      refine XS.ifNo X18.here hx rfl (hb hby at_444) rfl ((if0 _ _).trans (teq ((lw_eq (((yy * (12 : Int64)) + (mo.toInt64)) - (1 : Int64)) nv).mpr (own_last yy nv mo hn0 hl hy hm))).2) ?_
      show Steps p.tables e below (T18.setTop (mkF m 447 #[.val (.long xn), .second, .val (.int md), .val (.int fl), .val (.long wv), .second, .val (.int mm), .val (.long nv), .second, .val (.int bv), .val (.ref ia), .val (.int (1 : Int32)), .val (.long yy), .second, .val (.int mo)] [])) tgt
      refine XS.iconst X18.here hx rfl (hb hby at_447) ?_
      show Steps p.tables e below (T18.setTop (mkF m 448 #[.val (.long xn), .second, .val (.int md), .val (.int fl), .val (.long wv), .second, .val (.int mm), .val (.long nv), .second, .val (.int bv), .val (.ref ia), .val (.int (1 : Int32)), .val (.long yy), .second, .val (.int mo)] [(.int (1 : Int32))])) tgt
      refine XS.goto X18.here hx rfl (pc0 := 448) (pc' := 452) rfl (hb hby at_448) (by decide) (by decide) ?_
      exact k
    refine own_retN X18 hx hlk (t := .boolean) (z' := (1 : Int32)) Bd.returns (by simp) rfl (hb hby at_452) ?_ (by decide) (by decide)
    show Q0 Z xn md fl h0 n0 (some (.int (1 : Int32))) T18.heap _
    rw [K18]
    exact ⟨rfl, N18⟩
  · skip
    obtain ⟨v20, _, ⟨T20, L20, k20, n20⟩, -, Xc20, ⟨Lc20, hQ20, l20, y20, z20⟩, st20⟩ := Jvm.LawKit.callS X10 hx (y := (⟨"com/example/vestwright/vestwright/census/CensusValues", "writeMonth", "(J[B)Z"⟩ : MethodName)) hown (mvT hZ (hw _ (List.mem_of_getElem? (i := 4) rfl))) (mvT hZ (hw _ (List.mem_of_getElem? (i := 5) rfl))) (mvT hZ (hw _ (List.mem_of_getElem? (i := 6) rfl))) (mvT hZ (hw _ (List.mem_of_getElem? (i := 7) rfl))) (by decide) (backOf (W := 0) (rm1n l Z a0 hw [] nv ia (own_Gb bv) h10 n0 Zs10 Af_ia_11 g_ia (by first | assumption | decide | rfl)) hZ (hw _ (List.mem_of_getElem? (i := 7) rfl)) (hw _ (List.mem_of_getElem? (i := 6) rfl)) (by decide) (by decide)) (g := (mkF m 132 #[.val (.long xn), .second, .val (.int md), .val (.int fl), .val (.long wv), .second, .val (.int mm), .val (.long nv), .second, .val (.int bv), .val (.ref ia), .unset, .unset, .unset, .unset] [(.ref ia), (.long nv)])) rfl (by rw [hml]; rfl) (argsL := [(.long nv), (.ref ia)]) (rest := []) (lenOf pd_0_0 rfl) rfl (by show 2 * 0 + _ ≤ _; exact Nat.le_of_eq rfl) (hb hby at_132) (fun _ _ => ⟨rfl, e10, (by decide : 1 + 0 ≤ _), (by decide : 9 + 0 ≤ _)⟩)
    dsimp only [Pt.U, Pt.locs, Pt.cells, Pt.slots] at Xc20 l20 y20 z20 st20 hQ20
    have X20 := own_cast Xc20 l20 y20 z20
    obtain ⟨ev20, N20q, K20⟩ := hQ20
    rw [ev20] at st20
    have N20 := Fr.app N10 N20q
    refine own_st st20 ?_
    show own_Go p e below _ (T20.setTop (mkF m 135 #[.val (.long xn), .second, .val (.int md), .val (.int fl), .val (.long wv), .second, .val (.int mm), .val (.long nv), .second, .val (.int bv), .val (.ref ia), .unset, .unset, .unset, .unset] [(.int (0 : Int32))]))
    refine own_st (V := T20.setTop (mkF m 242 #[.val (.long xn), .second, .val (.int md), .val (.int fl), .val (.long wv), .second, .val (.int mm), .val (.long nv), .second, .val (.int bv), .val (.ref ia), .val (.int (0 : Int32)), .unset, .unset, .unset] [(.int (1 : Int32))])) (fun tgt k => ?_) ?_
    · show Steps p.tables e below (T20.setTop (mkF m 135 #[.val (.long xn), .second, .val (.int md), .val (.int fl), .val (.long wv), .second, .val (.int mm), .val (.long nv), .second, .val (.int bv), .val (.ref ia), .unset, .unset, .unset, .unset] [(.int (0 : Int32))])) tgt
      refine XS.istore X20.here hx rfl (hb hby at_135) rfl (l' := #[.val (.long xn), .second, .val (.int md), .val (.int fl), .val (.long wv), .second, .val (.int mm), .val (.long nv), .second, .val (.int bv), .val (.ref ia), .val (.int (0 : Int32)), .unset, .unset, .unset]) rfl ?_
      show Steps p.tables e below (T20.setTop (mkF m 137 #[.val (.long xn), .second, .val (.int md), .val (.int fl), .val (.long wv), .second, .val (.int mm), .val (.long nv), .second, .val (.int bv), .val (.ref ia), .val (.int (0 : Int32)), .unset, .unset, .unset] [])) tgt
      refine XS.lload X20.here hx rfl (hb hby at_137) rfl ?_
      show Steps p.tables e below (T20.setTop (mkF m 139 #[.val (.long xn), .second, .val (.int md), .val (.int fl), .val (.long wv), .second, .val (.int mm), .val (.long nv), .second, .val (.int bv), .val (.ref ia), .val (.int (0 : Int32)), .unset, .unset, .unset] [(.long nv)])) tgt
      refine X20.ldc2Long hx hown (mvT hZ (hw _ (List.mem_of_getElem? (i := 10) rfl))) (g := (mkF m 139 #[.val (.long xn), .second, .val (.int md), .val (.int fl), .val (.long wv), .second, .val (.int mm), .val (.long nv), .second, .val (.int bv), .val (.ref ia), .val (.int (0 : Int32)), .unset, .unset, .unset] [(.long nv)])) rfl (hb hby at_139) _ ?_
      show Steps p.tables e below (T20.setTop (mkF m 142 #[.val (.long xn), .second, .val (.int md), .val (.int fl), .val (.long wv), .second, .val (.int mm), .val (.long nv), .second, .val (.int bv), .val (.ref ia), .val (.int (0 : Int32)), .unset, .unset, .unset] [(.long (120000 : Int64)), (.long nv)])) tgt
      refine XS.lcmp X20.here hx rfl (hb hby at_142) rfl ?_
      show Steps p.tables e below (T20.setTop (mkF m 143 #[.val (.long xn), .second, .val (.int md), .val (.int fl), .val (.long wv), .second, .val (.int mm), .val (.long nv), .second, .val (.int bv), .val (.ref ia), .val (.int (0 : Int32)), .unset, .unset, .unset] [(.int (lcmpW nv (120000 : Int64)))])) tgt
      refine XS.ifNo X20.here hx rfl (hb hby at_143) rfl ((if0 _ _).trans (flt (fun q => hN ((lw_lt nv (120000 : Int64)).mp q))).1) ?_
      show Steps p.tables e below (T20.setTop (mkF m 146 #[.val (.long xn), .second, .val (.int md), .val (.int fl), .val (.long wv), .second, .val (.int mm), .val (.long nv), .second, .val (.int bv), .val (.ref ia), .val (.int (0 : Int32)), .unset, .unset, .unset] [])) tgt
      refine XS.iload X20.here hx rfl (hb hby at_146) rfl ?_
      show Steps p.tables e below (T20.setTop (mkF m 148 #[.val (.long xn), .second, .val (.int md), .val (.int fl), .val (.long wv), .second, .val (.int mm), .val (.long nv), .second, .val (.int bv), .val (.ref ia), .val (.int (0 : Int32)), .unset, .unset, .unset] [(.int (0 : Int32))])) tgt
      refine XS.ifYes X20.here hx rfl (pc0 := 148) (pc' := 153) rfl (hb hby at_148) rfl ((if0 _ _).trans (teq (by decide : (0 : Int32) = (0 : Int32))).1) (by decide) (by decide) ?_
      show Steps p.tables e below (T20.setTop (mkF m 153 #[.val (.long xn), .second, .val (.int md), .val (.int fl), .val (.long wv), .second, .val (.int mm), .val (.long nv), .second, .val (.int bv), .val (.ref ia), .val (.int (0 : Int32)), .unset, .unset, .unset] [])) tgt
      refine XS.aload X20.here hx rfl (hb hby at_153) rfl rfl ?_
      show Steps p.tables e below (T20.setTop (mkF m 155 #[.val (.long xn), .second, .val (.int md), .val (.int fl), .val (.long wv), .second, .val (.int mm), .val (.long nv), .second, .val (.int bv), .val (.ref ia), .val (.int (0 : Int32)), .unset, .unset, .unset] [(.ref ia)])) tgt
      refine XS.iconst X20.here hx rfl (hb hby at_155) ?_
      show Steps p.tables e below (T20.setTop (mkF m 156 #[.val (.long xn), .second, .val (.int md), .val (.int fl), .val (.long wv), .second, .val (.int mm), .val (.long nv), .second, .val (.int bv), .val (.ref ia), .val (.int (0 : Int32)), .unset, .unset, .unset] [(.int (0 : Int32)), (.ref ia)])) tgt
      refine own_baload X20 hx hZ K20 Af_ia_11 (j := (0 : Int32)) (k := 0) rfl (by decide) (g := (mkF m 156 #[.val (.long xn), .second, .val (.int md), .val (.int fl), .val (.long wv), .second, .val (.int mm), .val (.long nv), .second, .val (.int bv), .val (.ref ia), .val (.int (0 : Int32)), .unset, .unset, .unset] [(.int (0 : Int32)), (.ref ia)])) rfl rfl (hb hby at_156) ?_
      show Steps p.tables e below (T20.setTop (mkF m 157 #[.val (.long xn), .second, .val (.int md), .val (.int fl), .val (.long wv), .second, .val (.int mm), .val (.long nv), .second, .val (.int bv), .val (.ref ia), .val (.int (0 : Int32)), .unset, .unset, .unset] [(.int ((own_Gb bv) 0))])) tgt
      refine XS.iload X20.here hx rfl (hb hby at_157) rfl ?_
      show Steps p.tables e below (T20.setTop (mkF m 159 #[.val (.long xn), .second, .val (.int md), .val (.int fl), .val (.long wv), .second, .val (.int mm), .val (.long nv), .second, .val (.int bv), .val (.ref ia), .val (.int (0 : Int32)), .unset, .unset, .unset] [(.int bv), (.int ((own_Gb bv) 0))])) tgt
      refine XS.icmpNo X20.here hx rfl (hb hby at_159) rfl (teq (own_Gk bv hbb 0 (by decide))).2 ?_
      show Steps p.tables e below (T20.setTop (mkF m 162 #[.val (.long xn), .second, .val (.int md), .val (.int fl), .val (.long wv), .second, .val (.int mm), .val (.long nv), .second, .val (.int bv), .val (.ref ia), .val (.int (0 : Int32)), .unset, .unset, .unset] [])) tgt
      refine XS.aload X20.here hx rfl (hb hby at_162) rfl rfl ?_
      show Steps p.tables e below (T20.setTop (mkF m 164 #[.val (.long xn), .second, .val (.int md), .val (.int fl), .val (.long wv), .second, .val (.int mm), .val (.long nv), .second, .val (.int bv), .val (.ref ia), .val (.int (0 : Int32)), .unset, .unset, .unset] [(.ref ia)])) tgt
      refine XS.iconst X20.here hx rfl (hb hby at_164) ?_
      show Steps p.tables e below (T20.setTop (mkF m 165 #[.val (.long xn), .second, .val (.int md), .val (.int fl), .val (.long wv), .second, .val (.int mm), .val (.long nv), .second, .val (.int bv), .val (.ref ia), .val (.int (0 : Int32)), .unset, .unset, .unset] [(.int (1 : Int32)), (.ref ia)])) tgt
      refine own_baload X20 hx hZ K20 Af_ia_11 (j := (1 : Int32)) (k := 1) rfl (by decide) (g := (mkF m 165 #[.val (.long xn), .second, .val (.int md), .val (.int fl), .val (.long wv), .second, .val (.int mm), .val (.long nv), .second, .val (.int bv), .val (.ref ia), .val (.int (0 : Int32)), .unset, .unset, .unset] [(.int (1 : Int32)), (.ref ia)])) rfl rfl (hb hby at_165) ?_
      show Steps p.tables e below (T20.setTop (mkF m 166 #[.val (.long xn), .second, .val (.int md), .val (.int fl), .val (.long wv), .second, .val (.int mm), .val (.long nv), .second, .val (.int bv), .val (.ref ia), .val (.int (0 : Int32)), .unset, .unset, .unset] [(.int ((own_Gb bv) 1))])) tgt
      refine XS.iload X20.here hx rfl (hb hby at_166) rfl ?_
      show Steps p.tables e below (T20.setTop (mkF m 168 #[.val (.long xn), .second, .val (.int md), .val (.int fl), .val (.long wv), .second, .val (.int mm), .val (.long nv), .second, .val (.int bv), .val (.ref ia), .val (.int (0 : Int32)), .unset, .unset, .unset] [(.int bv), (.int ((own_Gb bv) 1))])) tgt
      refine XS.icmpNo X20.here hx rfl (hb hby at_168) rfl (teq (own_Gk bv hbb 1 (by decide))).2 ?_
      show Steps p.tables e below (T20.setTop (mkF m 171 #[.val (.long xn), .second, .val (.int md), .val (.int fl), .val (.long wv), .second, .val (.int mm), .val (.long nv), .second, .val (.int bv), .val (.ref ia), .val (.int (0 : Int32)), .unset, .unset, .unset] [])) tgt
      refine XS.aload X20.here hx rfl (hb hby at_171) rfl rfl ?_
      show Steps p.tables e below (T20.setTop (mkF m 173 #[.val (.long xn), .second, .val (.int md), .val (.int fl), .val (.long wv), .second, .val (.int mm), .val (.long nv), .second, .val (.int bv), .val (.ref ia), .val (.int (0 : Int32)), .unset, .unset, .unset] [(.ref ia)])) tgt
      refine XS.iconst X20.here hx rfl (hb hby at_173) ?_
      show Steps p.tables e below (T20.setTop (mkF m 174 #[.val (.long xn), .second, .val (.int md), .val (.int fl), .val (.long wv), .second, .val (.int mm), .val (.long nv), .second, .val (.int bv), .val (.ref ia), .val (.int (0 : Int32)), .unset, .unset, .unset] [(.int (2 : Int32)), (.ref ia)])) tgt
      refine own_baload X20 hx hZ K20 Af_ia_11 (j := (2 : Int32)) (k := 2) rfl (by decide) (g := (mkF m 174 #[.val (.long xn), .second, .val (.int md), .val (.int fl), .val (.long wv), .second, .val (.int mm), .val (.long nv), .second, .val (.int bv), .val (.ref ia), .val (.int (0 : Int32)), .unset, .unset, .unset] [(.int (2 : Int32)), (.ref ia)])) rfl rfl (hb hby at_174) ?_
      show Steps p.tables e below (T20.setTop (mkF m 175 #[.val (.long xn), .second, .val (.int md), .val (.int fl), .val (.long wv), .second, .val (.int mm), .val (.long nv), .second, .val (.int bv), .val (.ref ia), .val (.int (0 : Int32)), .unset, .unset, .unset] [(.int ((own_Gb bv) 2))])) tgt
      refine XS.iload X20.here hx rfl (hb hby at_175) rfl ?_
      show Steps p.tables e below (T20.setTop (mkF m 177 #[.val (.long xn), .second, .val (.int md), .val (.int fl), .val (.long wv), .second, .val (.int mm), .val (.long nv), .second, .val (.int bv), .val (.ref ia), .val (.int (0 : Int32)), .unset, .unset, .unset] [(.int bv), (.int ((own_Gb bv) 2))])) tgt
      refine XS.icmpNo X20.here hx rfl (hb hby at_177) rfl (teq (own_Gk bv hbb 2 (by decide))).2 ?_
      show Steps p.tables e below (T20.setTop (mkF m 180 #[.val (.long xn), .second, .val (.int md), .val (.int fl), .val (.long wv), .second, .val (.int mm), .val (.long nv), .second, .val (.int bv), .val (.ref ia), .val (.int (0 : Int32)), .unset, .unset, .unset] [])) tgt
      refine XS.aload X20.here hx rfl (hb hby at_180) rfl rfl ?_
      show Steps p.tables e below (T20.setTop (mkF m 182 #[.val (.long xn), .second, .val (.int md), .val (.int fl), .val (.long wv), .second, .val (.int mm), .val (.long nv), .second, .val (.int bv), .val (.ref ia), .val (.int (0 : Int32)), .unset, .unset, .unset] [(.ref ia)])) tgt
      refine XS.iconst X20.here hx rfl (hb hby at_182) ?_
      show Steps p.tables e below (T20.setTop (mkF m 183 #[.val (.long xn), .second, .val (.int md), .val (.int fl), .val (.long wv), .second, .val (.int mm), .val (.long nv), .second, .val (.int bv), .val (.ref ia), .val (.int (0 : Int32)), .unset, .unset, .unset] [(.int (3 : Int32)), (.ref ia)])) tgt
      refine own_baload X20 hx hZ K20 Af_ia_11 (j := (3 : Int32)) (k := 3) rfl (by decide) (g := (mkF m 183 #[.val (.long xn), .second, .val (.int md), .val (.int fl), .val (.long wv), .second, .val (.int mm), .val (.long nv), .second, .val (.int bv), .val (.ref ia), .val (.int (0 : Int32)), .unset, .unset, .unset] [(.int (3 : Int32)), (.ref ia)])) rfl rfl (hb hby at_183) ?_
      show Steps p.tables e below (T20.setTop (mkF m 184 #[.val (.long xn), .second, .val (.int md), .val (.int fl), .val (.long wv), .second, .val (.int mm), .val (.long nv), .second, .val (.int bv), .val (.ref ia), .val (.int (0 : Int32)), .unset, .unset, .unset] [(.int ((own_Gb bv) 3))])) tgt
      refine XS.iload X20.here hx rfl (hb hby at_184) rfl ?_
      show Steps p.tables e below (T20.setTop (mkF m 186 #[.val (.long xn), .second, .val (.int md), .val (.int fl), .val (.long wv), .second, .val (.int mm), .val (.long nv), .second, .val (.int bv), .val (.ref ia), .val (.int (0 : Int32)), .unset, .unset, .unset] [(.int bv), (.int ((own_Gb bv) 3))])) tgt
      refine XS.icmpNo X20.here hx rfl (hb hby at_186) rfl (teq (own_Gk bv hbb 3 (by decide))).2 ?_
      show Steps p.tables e below (T20.setTop (mkF m 189 #[.val (.long xn), .second, .val (.int md), .val (.int fl), .val (.long wv), .second, .val (.int mm), .val (.long nv), .second, .val (.int bv), .val (.ref ia), .val (.int (0 : Int32)), .unset, .unset, .unset] [])) tgt
      refine XS.aload X20.here hx rfl (hb hby at_189) rfl rfl ?_
      show Steps p.tables e below (T20.setTop (mkF m 191 #[.val (.long xn), .second, .val (.int md), .val (.int fl), .val (.long wv), .second, .val (.int mm), .val (.long nv), .second, .val (.int bv), .val (.ref ia), .val (.int (0 : Int32)), .unset, .unset, .unset] [(.ref ia)])) tgt
      refine XS.iconst X20.here hx rfl (hb hby at_191) ?_
      show Steps p.tables e below (T20.setTop (mkF m 192 #[.val (.long xn), .second, .val (.int md), .val (.int fl), .val (.long wv), .second, .val (.int mm), .val (.long nv), .second, .val (.int bv), .val (.ref ia), .val (.int (0 : Int32)), .unset, .unset, .unset] [(.int (4 : Int32)), (.ref ia)])) tgt
      refine own_baload X20 hx hZ K20 Af_ia_11 (j := (4 : Int32)) (k := 4) rfl (by decide) (g := (mkF m 192 #[.val (.long xn), .second, .val (.int md), .val (.int fl), .val (.long wv), .second, .val (.int mm), .val (.long nv), .second, .val (.int bv), .val (.ref ia), .val (.int (0 : Int32)), .unset, .unset, .unset] [(.int (4 : Int32)), (.ref ia)])) rfl rfl (hb hby at_192) ?_
      show Steps p.tables e below (T20.setTop (mkF m 193 #[.val (.long xn), .second, .val (.int md), .val (.int fl), .val (.long wv), .second, .val (.int mm), .val (.long nv), .second, .val (.int bv), .val (.ref ia), .val (.int (0 : Int32)), .unset, .unset, .unset] [(.int ((own_Gb bv) 4))])) tgt
      refine XS.iload X20.here hx rfl (hb hby at_193) rfl ?_
      show Steps p.tables e below (T20.setTop (mkF m 195 #[.val (.long xn), .second, .val (.int md), .val (.int fl), .val (.long wv), .second, .val (.int mm), .val (.long nv), .second, .val (.int bv), .val (.ref ia), .val (.int (0 : Int32)), .unset, .unset, .unset] [(.int bv), (.int ((own_Gb bv) 4))])) tgt
      refine XS.icmpNo X20.here hx rfl (hb hby at_195) rfl (teq (own_Gk bv hbb 4 (by decide))).2 ?_
      show Steps p.tables e below (T20.setTop (mkF m 198 #[.val (.long xn), .second, .val (.int md), .val (.int fl), .val (.long wv), .second, .val (.int mm), .val (.long nv), .second, .val (.int bv), .val (.ref ia), .val (.int (0 : Int32)), .unset, .unset, .unset] [])) tgt
      refine XS.aload X20.here hx rfl (hb hby at_198) rfl rfl ?_
      show Steps p.tables e below (T20.setTop (mkF m 200 #[.val (.long xn), .second, .val (.int md), .val (.int fl), .val (.long wv), .second, .val (.int mm), .val (.long nv), .second, .val (.int bv), .val (.ref ia), .val (.int (0 : Int32)), .unset, .unset, .unset] [(.ref ia)])) tgt
      refine XS.iconst X20.here hx rfl (hb hby at_200) ?_
      show Steps p.tables e below (T20.setTop (mkF m 201 #[.val (.long xn), .second, .val (.int md), .val (.int fl), .val (.long wv), .second, .val (.int mm), .val (.long nv), .second, .val (.int bv), .val (.ref ia), .val (.int (0 : Int32)), .unset, .unset, .unset] [(.int (5 : Int32)), (.ref ia)])) tgt
      refine own_baload X20 hx hZ K20 Af_ia_11 (j := (5 : Int32)) (k := 5) rfl (by decide) (g := (mkF m 201 #[.val (.long xn), .second, .val (.int md), .val (.int fl), .val (.long wv), .second, .val (.int mm), .val (.long nv), .second, .val (.int bv), .val (.ref ia), .val (.int (0 : Int32)), .unset, .unset, .unset] [(.int (5 : Int32)), (.ref ia)])) rfl rfl (hb hby at_201) ?_
      show Steps p.tables e below (T20.setTop (mkF m 202 #[.val (.long xn), .second, .val (.int md), .val (.int fl), .val (.long wv), .second, .val (.int mm), .val (.long nv), .second, .val (.int bv), .val (.ref ia), .val (.int (0 : Int32)), .unset, .unset, .unset] [(.int ((own_Gb bv) 5))])) tgt
      refine XS.iload X20.here hx rfl (hb hby at_202) rfl ?_
      show Steps p.tables e below (T20.setTop (mkF m 204 #[.val (.long xn), .second, .val (.int md), .val (.int fl), .val (.long wv), .second, .val (.int mm), .val (.long nv), .second, .val (.int bv), .val (.ref ia), .val (.int (0 : Int32)), .unset, .unset, .unset] [(.int bv), (.int ((own_Gb bv) 5))])) tgt
      refine XS.icmpNo X20.here hx rfl (hb hby at_204) rfl (teq (own_Gk bv hbb 5 (by decide))).2 ?_
      show Steps p.tables e below (T20.setTop (mkF m 207 #[.val (.long xn), .second, .val (.int md), .val (.int fl), .val (.long wv), .second, .val (.int mm), .val (.long nv), .second, .val (.int bv), .val (.ref ia), .val (.int (0 : Int32)), .unset, .unset, .unset] [])) tgt
      refine XS.aload X20.here hx rfl (hb hby at_207) rfl rfl ?_
      show Steps p.tables e below (T20.setTop (mkF m 209 #[.val (.long xn), .second, .val (.int md), .val (.int fl), .val (.long wv), .second, .val (.int mm), .val (.long nv), .second, .val (.int bv), .val (.ref ia), .val (.int (0 : Int32)), .unset, .unset, .unset] [(.ref ia)])) tgt
      refine XS.bipush X20.here hx rfl (hb hby at_209) ?_
      show Steps p.tables e below (T20.setTop (mkF m 211 #[.val (.long xn), .second, .val (.int md), .val (.int fl), .val (.long wv), .second, .val (.int mm), .val (.long nv), .second, .val (.int bv), .val (.ref ia), .val (.int (0 : Int32)), .unset, .unset, .unset] [(.int (6 : Int32)), (.ref ia)])) tgt
      refine own_baload X20 hx hZ K20 Af_ia_11 (j := (6 : Int32)) (k := 6) rfl (by decide) (g := (mkF m 211 #[.val (.long xn), .second, .val (.int md), .val (.int fl), .val (.long wv), .second, .val (.int mm), .val (.long nv), .second, .val (.int bv), .val (.ref ia), .val (.int (0 : Int32)), .unset, .unset, .unset] [(.int (6 : Int32)), (.ref ia)])) rfl rfl (hb hby at_211) ?_
      show Steps p.tables e below (T20.setTop (mkF m 212 #[.val (.long xn), .second, .val (.int md), .val (.int fl), .val (.long wv), .second, .val (.int mm), .val (.long nv), .second, .val (.int bv), .val (.ref ia), .val (.int (0 : Int32)), .unset, .unset, .unset] [(.int ((own_Gb bv) 6))])) tgt
      refine XS.iload X20.here hx rfl (hb hby at_212) rfl ?_
      show Steps p.tables e below (T20.setTop (mkF m 214 #[.val (.long xn), .second, .val (.int md), .val (.int fl), .val (.long wv), .second, .val (.int mm), .val (.long nv), .second, .val (.int bv), .val (.ref ia), .val (.int (0 : Int32)), .unset, .unset, .unset] [(.int bv), (.int ((own_Gb bv) 6))])) tgt
      refine XS.icmpNo X20.here hx rfl (hb hby at_214) rfl (teq (own_Gk bv hbb 6 (by decide))).2 ?_
      show Steps p.tables e below (T20.setTop (mkF m 217 #[.val (.long xn), .second, .val (.int md), .val (.int fl), .val (.long wv), .second, .val (.int mm), .val (.long nv), .second, .val (.int bv), .val (.ref ia), .val (.int (0 : Int32)), .unset, .unset, .unset] [])) tgt
      refine XS.aload X20.here hx rfl (hb hby at_217) rfl rfl ?_
      show Steps p.tables e below (T20.setTop (mkF m 219 #[.val (.long xn), .second, .val (.int md), .val (.int fl), .val (.long wv), .second, .val (.int mm), .val (.long nv), .second, .val (.int bv), .val (.ref ia), .val (.int (0 : Int32)), .unset, .unset, .unset] [(.ref ia)])) tgt
      refine XS.bipush X20.here hx rfl (hb hby at_219) ?_
      show Steps p.tables e below (T20.setTop (mkF m 221 #[.val (.long xn), .second, .val (.int md), .val (.int fl), .val (.long wv), .second, .val (.int mm), .val (.long nv), .second, .val (.int bv), .val (.ref ia), .val (.int (0 : Int32)), .unset, .unset, .unset] [(.int (7 : Int32)), (.ref ia)])) tgt
      refine own_baload X20 hx hZ K20 Af_ia_11 (j := (7 : Int32)) (k := 7) rfl (by decide) (g := (mkF m 221 #[.val (.long xn), .second, .val (.int md), .val (.int fl), .val (.long wv), .second, .val (.int mm), .val (.long nv), .second, .val (.int bv), .val (.ref ia), .val (.int (0 : Int32)), .unset, .unset, .unset] [(.int (7 : Int32)), (.ref ia)])) rfl rfl (hb hby at_221) ?_
      show Steps p.tables e below (T20.setTop (mkF m 222 #[.val (.long xn), .second, .val (.int md), .val (.int fl), .val (.long wv), .second, .val (.int mm), .val (.long nv), .second, .val (.int bv), .val (.ref ia), .val (.int (0 : Int32)), .unset, .unset, .unset] [(.int ((own_Gb bv) 7))])) tgt
      refine XS.iload X20.here hx rfl (hb hby at_222) rfl ?_
      show Steps p.tables e below (T20.setTop (mkF m 224 #[.val (.long xn), .second, .val (.int md), .val (.int fl), .val (.long wv), .second, .val (.int mm), .val (.long nv), .second, .val (.int bv), .val (.ref ia), .val (.int (0 : Int32)), .unset, .unset, .unset] [(.int bv), (.int ((own_Gb bv) 7))])) tgt
      refine XS.icmpNo X20.here hx rfl (hb hby at_224) rfl (teq (own_Gk bv hbb 7 (by decide))).2 ?_
      show Steps p.tables e below (T20.setTop (mkF m 227 #[.val (.long xn), .second, .val (.int md), .val (.int fl), .val (.long wv), .second, .val (.int mm), .val (.long nv), .second, .val (.int bv), .val (.ref ia), .val (.int (0 : Int32)), .unset, .unset, .unset] [])) tgt
      refine XS.aload X20.here hx rfl (hb hby at_227) rfl rfl ?_
      show Steps p.tables e below (T20.setTop (mkF m 229 #[.val (.long xn), .second, .val (.int md), .val (.int fl), .val (.long wv), .second, .val (.int mm), .val (.long nv), .second, .val (.int bv), .val (.ref ia), .val (.int (0 : Int32)), .unset, .unset, .unset] [(.ref ia)])) tgt
      refine XS.bipush X20.here hx rfl (hb hby at_229) ?_
      show Steps p.tables e below (T20.setTop (mkF m 231 #[.val (.long xn), .second, .val (.int md), .val (.int fl), .val (.long wv), .second, .val (.int mm), .val (.long nv), .second, .val (.int bv), .val (.ref ia), .val (.int (0 : Int32)), .unset, .unset, .unset] [(.int (8 : Int32)), (.ref ia)])) tgt
      refine own_baload X20 hx hZ K20 Af_ia_11 (j := (8 : Int32)) (k := 8) rfl (by decide) (g := (mkF m 231 #[.val (.long xn), .second, .val (.int md), .val (.int fl), .val (.long wv), .second, .val (.int mm), .val (.long nv), .second, .val (.int bv), .val (.ref ia), .val (.int (0 : Int32)), .unset, .unset, .unset] [(.int (8 : Int32)), (.ref ia)])) rfl rfl (hb hby at_231) ?_
      show Steps p.tables e below (T20.setTop (mkF m 232 #[.val (.long xn), .second, .val (.int md), .val (.int fl), .val (.long wv), .second, .val (.int mm), .val (.long nv), .second, .val (.int bv), .val (.ref ia), .val (.int (0 : Int32)), .unset, .unset, .unset] [(.int ((own_Gb bv) 8))])) tgt
      refine XS.iload X20.here hx rfl (hb hby at_232) rfl ?_
      show Steps p.tables e below (T20.setTop (mkF m 234 #[.val (.long xn), .second, .val (.int md), .val (.int fl), .val (.long wv), .second, .val (.int mm), .val (.long nv), .second, .val (.int bv), .val (.ref ia), .val (.int (0 : Int32)), .unset, .unset, .unset] [(.int bv), (.int ((own_Gb bv) 8))])) tgt
      refine XS.icmpNo X20.here hx rfl (hb hby at_234) rfl (teq (own_Gk bv hbb 8 (by decide))).2 ?_
      show Steps p.tables e below (T20.setTop (mkF m 237 #[.val (.long xn), .second, .val (.int md), .val (.int fl), .val (.long wv), .second, .val (.int mm), .val (.long nv), .second, .val (.int bv), .val (.ref ia), .val (.int (0 : Int32)), .unset, .unset, .unset] [])) tgt
      refine XS.iconst X20.here hx rfl (hb hby at_237) ?_
      show Steps p.tables e below (T20.setTop (mkF m 238 #[.val (.long xn), .second, .val (.int md), .val (.int fl), .val (.long wv), .second, .val (.int mm), .val (.long nv), .second, .val (.int bv), .val (.ref ia), .val (.int (0 : Int32)), .unset, .unset, .unset] [(.int (1 : Int32))])) tgt
      refine XS.goto X20.here hx rfl (pc0 := 238) (pc' := 242) rfl (hb hby at_238) (by decide) (by decide) ?_
      exact k
    refine own_retN X20 hx hlk (t := .boolean) (z' := (1 : Int32)) Bd.returns (by simp) rfl (hb hby at_242) ?_ (by decide) (by decide)
    show Q0 Z xn md fl h0 n0 (some (.int (1 : Int32))) T20.heap _
    rw [K20]
    exact ⟨rfl, N20⟩
set_option maxRecDepth 65536 in
set_option maxHeartbeats 40000000 in
theorem comes_1 {Post : Tables → Env → Array Value → State → Outcome → State → Prop} (hpost : ∀ tb e args s v u, (limb_1_1.after args s (.returned v) u = true ∧ limb_1_2.after args s (.returned v) u = true ∧ True) → FrameEnd s (.returned v) u (Jvm.fieldLocs frame_1_writes args s ++ Jvm.arrayLocs frame_1_arrays args s ++ Jvm.staticLocs frame_1_statics s) 16 128 → Post tb e args s (.returned v) u) :
    ArmFor flags0 classFile x code maxLocals ret World_1 tables_1 room_1 Calls_1 rest_1 Pre_1 Post := by
  intro l hfl _ _ p e ha hc hk s m args below hf hA hF happ hP
  obtain ⟨hcalls, hrest, hpre⟩ := hP
  obtain ⟨-, -, -, hnamed, -, -, -, hat⟩ := (Spec.applies_iff hf).mp happ
  obtain ⟨hg, hn⟩ := and_e (Cond.before_iff.mp (show (Jvm.Cond.and given_1 narrow_1).before args s = true from hpre))
  obtain ⟨hcount, g0⟩ := and_e hg
  obtain ⟨a0, g1⟩ := and_e g0
  obtain ⟨a1, g2⟩ := and_e g1
  have a2 := g2
  obtain ⟨w0, w1, w2, rfl⟩ : ∃ w0 w1 w2 : Value, args = #[w0, w1, w2] := by
    have hs : args.size = 3 := by simpa [Cond.value, given_1] using hcount
    obtain ⟨L⟩ := args
    match L, hs with
    | [w0, w1, w2], _ => exact ⟨w0, w1, w2, rfl⟩
  have hw := fun d (hd : d ∈ tables_1) => atoms_spec (ws := Jvm.Cond.code x code maxLocals ret :: tables_1) hat d (List.mem_cons_of_mem _ hd)
  obtain ⟨i0, ei0⟩ := isL_v a0
  obtain rfl : w0 = (.long i0) := Option.some.inj ei0
  obtain ⟨i1, ei1⟩ := is_v a1
  obtain rfl : w1 = (.int i1) := Option.some.inj ei1
  obtain ⟨i2, ei2⟩ := is_v a2
  obtain rfl : w2 = (.int i2) := Option.some.inj ei2
  obtain ⟨n, o, h1, h2, h3, _, L, rfl, ⟨rfl, N⟩, hq⟩ := rm0 l s _ hw tables_1 i0 i1 i2 s.heap s.heap.size (Nat.le_refl _) p e ha hc hk s m _ below hf ((Spec.applies_iff_loose hf).mp happ).1 ⟨rfl, State.Warmed39.refl s, rfl⟩ trivial
  refine ⟨n, _, h1, h2, h3, hpost _ _ _ _ _ _ ⟨Cond.after_iff.mpr rfl, Cond.after_iff.mpr (eq_i res_at (Term.int_eval (1)) rfl), trivial⟩ ⟨hq.1, hq.2.1, (hq.2.2.sift fun y hy => Or.inr (N y hy)).mono (by decide) (by decide)⟩⟩
theorem main_1_1 : Claimed_1_1 := comes_1 fun _ _ _ _ _ _ h hF => ⟨h.1, hF⟩
theorem main_1_2 : Claimed_1_2 := comes_1 fun _ _ _ _ _ _ h hF => ⟨h.2.1, hF⟩
end Jvm.Pilot.@@N@@
namespace Jvm.Pilot.@@N@@
open Jvm Jvm.ClassFile Sem Op Lib Jvm.Free Jvm.Stand Jvm.Pilot.@@N@@.Jvm.D
/-! MADE BY PROGRAM (witnessworld.py) out of the Statement's table words and the real class files: 9 classes; the members and pool entries that the words name. The judged class is class 1, her method 1. -/
namespace start1
open Jvm.ClassFile
def u (s : String) : CpInfo := .utf8 (stringToUtf16 s)
/-- a pool by its gaps: so many unusable entries, then the entry; so many at the end -/
def gap : Nat → List CpInfo → List CpInfo
  | 0, r => r
  | n + 1, r => .unusable :: gap n r
def poolList (es : List (Nat × CpInfo)) (last : Nat) : List CpInfo := es.foldr (fun e r => gap e.1 (e.2 :: r)) (gap last [])
def pool (es : List (Nat × CpInfo)) (last : Nat) : Array CpInfo := ⟨poolList es last⟩
def fileOf (pool : Array CpInfo) (this : Nat) (attrs : Array Attribute := #[]) (ms : Array MethodInfo := #[]) (fl : Nat := 33) (sup : Nat := 0) (ifs : Array Nat := #[]) (fds : Array FieldInfo := #[]) : ClassFile where
  minorVersion := 0
  majorVersion := 65
  constantPool := pool
  accessFlags := fl
  thisClass := this
  superClass := sup
  interfaces := ifs
  fields := fds
  methods := ms
  attributes := attrs
def plain (name : String) (sup : Option ClassId) : Class where
  name := name
  kind := .ordinary
  loader := none
  accessFlags := 33
  super := sup
  interfaces := #[]
  cf := none
  fields := #[]
  methods := #[]
  instanceTypes := #[]
  staticTypes := #[]
  resolved := #[]
  callSites := []
  init := .initialized
  statics := none
  mirror := none

def pool0 : Array CpInfo := pool [(5, u "<init>"), (0, u "()V"), (1, .class_ 10), (1, u "java/lang/Object")] 113

def k0m0 : Method := { name := "<init>", desc := "()V", sig := { parameters := [], returnType := none }, accessFlags := 1, code := none }
/-- java/lang/Object -/
def k0 : Class := { plain "java/lang/Object" none with
  accessFlags := 33
  interfaces := #[]
  cf := some (fileOf pool0 8 #[] #[{ accessFlags := 1, nameIndex := 5, descriptorIndex := 6, attributes := #[] }] 33 0 #[] #[])
  fields := #[]
  methods := #[k0m0]
  instanceTypes := #[]
  staticTypes := #[]
  resolved := Array.replicate 124 none
  statics := none }

def pool1 : Array CpInfo := pool [(2, .class_ 4), (1, u "java/lang/Object"), (0, u "<init>"), (0, u "()V"), (2, .long 9223372036854775807), (1, .long 120000), (1, .long 119990), (1, .long 20), (1, .long 240), (1, .methodref 20 21), (0, .class_ 22), (0, .nameAndType 23 24), (0, u "com/example/vestwright/vestwright/census/CensusValues"), (0, u "writeMonth"), (0, u "(J[B)Z"), (0, .methodref 26 27), (0, .class_ 28), (0, .nameAndType 29 30), (0, u "com/example/vestwright/vestwright/census/CensusValuesWriteMonthPinLaw"), (0, u "digit"), (0, u "(B)Z"), (0, .long 1000), (1, .long 100), (1, .long 10), (1, .long 12), (3, u "law"), (0, u "(JII)Z")] 5

def k1m0 : Method := { name := "<init>", desc := "()V", sig := { parameters := [], returnType := none }, accessFlags := 1, code := none }
def k1c1 : Code := { maxStack := 6, maxLocals := 15, code := code, exceptionTable := #[], attributes := #[] }
def k1m1 : Method := { name := "law", desc := "(JII)Z", sig := { parameters := [.long, .int, .int], returnType := some .boolean }, accessFlags := 9, code := some k1c1 }
def k1c2 : Code := { maxStack := 2, maxLocals := 1, code := method_3_code, exceptionTable := #[], attributes := #[] }
def k1m2 : Method := { name := "digit", desc := "(B)Z", sig := { parameters := [.byte], returnType := some .boolean }, accessFlags := 10, code := some k1c2 }
/-- com/example/vestwright/vestwright/census/CensusValuesWriteMonthPinLaw -/
def k1 : Class := { plain "com/example/vestwright/vestwright/census/CensusValuesWriteMonthPinLaw" (some 0) with
  accessFlags := 49
  interfaces := #[]
  cf := some (fileOf pool1 26 #[] #[{ accessFlags := 1, nameIndex := 5, descriptorIndex := 6, attributes := #[] }, { accessFlags := 9, nameIndex := 41, descriptorIndex := 42, attributes := #[] }, { accessFlags := 10, nameIndex := 29, descriptorIndex := 30, attributes := #[] }] 49 2 #[] #[])
  fields := #[]
  methods := #[k1m0, k1m1, k1m2]
  instanceTypes := #[]
  staticTypes := #[]
  resolved := Array.replicate 48 none
  statics := none }

def pool2 : Array CpInfo := pool [(4, .class_ 6), (1, u "java/lang/Object"), (0, u "<init>"), (0, u "()V"), (1, .class_ 12), (1, u "com/example/vestwright/vestwright/census/CensusValues"), (145, .long 12), (9, .long 120000), (63, u "DATE_FORM"), (0, u "Ljava/lang/String;"), (1, u "MONTH_FORM"), (0, u "AMOUNT_FORM"), (0, u "AMOUNT_DIGITS_FORM"), (0, u "FLAG_FORM"), (0, u "MARITAL_STATUS_FORM"), (0, u "MONTH_LENGTH"), (0, u "I"), (1, u "DATE_LENGTH"), (1, u "MONTHS_IN_A_YEAR"), (1, u "YEARS_WRITTEN"), (0, u "J"), (2, u "SCALES"), (21, u "writeMonth"), (0, u "(J[B)Z")] 23

def k2m0 : Method := { name := "<init>", desc := "()V", sig := { parameters := [], returnType := none }, accessFlags := 2, code := none }
def k2c1 : Code := { maxStack := 5, maxLocals := 5, code := prog_3_method_14_code, exceptionTable := #[], attributes := #[] }
def k2m1 : Method := { name := "writeMonth", desc := "(J[B)Z", sig := { parameters := [.long, (.array .byte)], returnType := some .boolean }, accessFlags := 8, code := some k2c1 }
/-- com/example/vestwright/vestwright/census/CensusValues -/
def k2 : Class := { plain "com/example/vestwright/vestwright/census/CensusValues" (some 0) with
  accessFlags := 33
  interfaces := #[]
  cf := some (fileOf pool2 10 #[] #[{ accessFlags := 2, nameIndex := 7, descriptorIndex := 8, attributes := #[] }, { accessFlags := 8, nameIndex := 273, descriptorIndex := 274, attributes := #[] }] 33 4 #[] #[{ accessFlags := 26, nameIndex := 232, descriptorIndex := 233, attributes := #[] }, { accessFlags := 26, nameIndex := 235, descriptorIndex := 233, attributes := #[] }, { accessFlags := 26, nameIndex := 236, descriptorIndex := 233, attributes := #[] }, { accessFlags := 26, nameIndex := 237, descriptorIndex := 233, attributes := #[] }, { accessFlags := 26, nameIndex := 238, descriptorIndex := 233, attributes := #[] }, { accessFlags := 26, nameIndex := 239, descriptorIndex := 233, attributes := #[] }, { accessFlags := 24, nameIndex := 240, descriptorIndex := 241, attributes := #[] }, { accessFlags := 26, nameIndex := 243, descriptorIndex := 241, attributes := #[] }, { accessFlags := 26, nameIndex := 245, descriptorIndex := 241, attributes := #[] }, { accessFlags := 26, nameIndex := 247, descriptorIndex := 248, attributes := #[] }, { accessFlags := 26, nameIndex := 251, descriptorIndex := 241, attributes := #[] }])
  fields := #[{ name := "DATE_FORM", type := (.object "java/lang/String"), accessFlags := 26, slot := 0, constantValue := 0 }, { name := "MONTH_FORM", type := (.object "java/lang/String"), accessFlags := 26, slot := 1, constantValue := 0 }, { name := "AMOUNT_FORM", type := (.object "java/lang/String"), accessFlags := 26, slot := 2, constantValue := 0 }, { name := "AMOUNT_DIGITS_FORM", type := (.object "java/lang/String"), accessFlags := 26, slot := 3, constantValue := 0 }, { name := "FLAG_FORM", type := (.object "java/lang/String"), accessFlags := 26, slot := 4, constantValue := 0 }, { name := "MARITAL_STATUS_FORM", type := (.object "java/lang/String"), accessFlags := 26, slot := 5, constantValue := 0 }, { name := "MONTH_LENGTH", type := .int, accessFlags := 24, slot := 6, constantValue := 0 }, { name := "DATE_LENGTH", type := .int, accessFlags := 26, slot := 7, constantValue := 0 }, { name := "MONTHS_IN_A_YEAR", type := .int, accessFlags := 26, slot := 8, constantValue := 0 }, { name := "YEARS_WRITTEN", type := .long, accessFlags := 26, slot := 9, constantValue := 0 }, { name := "SCALES", type := .int, accessFlags := 26, slot := 10, constantValue := 0 }]
  methods := #[k2m0, k2m1]
  instanceTypes := #[]
  staticTypes := #[(.object "java/lang/String"), (.object "java/lang/String"), (.object "java/lang/String"), (.object "java/lang/String"), (.object "java/lang/String"), (.object "java/lang/String"), .int, .int, .int, .long, .int]
  resolved := Array.replicate 298 none
  statics := none }

def pool3 : Array CpInfo := pool [(1, u "java/lang/Cloneable"), (0, .class_ 1), (0, u "java/lang/Object"), (0, .class_ 3)] 3

/-- java/lang/Cloneable -/
def k3 : Class := { plain "java/lang/Cloneable" (some 0) with
  accessFlags := 1537
  interfaces := #[]
  cf := some (fileOf pool3 2 #[] #[] 1537 4 #[] #[])
  fields := #[]
  methods := #[]
  instanceTypes := #[]
  staticTypes := #[]
  resolved := Array.replicate 8 none
  statics := none }

def pool4 : Array CpInfo := pool [(1, u "java/io/Serializable"), (0, .class_ 1), (0, u "java/lang/Object"), (0, .class_ 3)] 3

/-- java/io/Serializable -/
def k4 : Class := { plain "java/io/Serializable" (some 0) with
  accessFlags := 1537
  interfaces := #[]
  cf := some (fileOf pool4 2 #[] #[] 1537 4 #[] #[])
  fields := #[]
  methods := #[]
  instanceTypes := #[]
  staticTypes := #[]
  resolved := Array.replicate 8 none
  statics := none }

/-- the primitive byte -/
def k5 : Class := { plain "byte" none with kind := .primitive 'B', accessFlags := 0x411 }
/-- [B -/
def k6 : Class := { plain "[B" (some 0) with kind := .array 5 .byte, interfaces := #[3, 4], accessFlags := 1041 }

/-- the primitive int -/
def k7 : Class := { plain "int" none with kind := .primitive 'I', accessFlags := 0x411 }
/-- [I -/
def k8 : Class := { plain "[I" (some 0) with kind := .array 7 .int, interfaces := #[3, 4], accessFlags := 1041 }

def heap : Heap := #[]
def classes : Array Class := #[k0, k1, k2, k3, k4, k5, k6, k7, k8]
def interned : List (Array UInt16 × Addr) := []
def slotsUsed : Nat := 0
def theMethod : MethodId := ⟨1, 1⟩
def args0 : Array Value := #[.long 5, .int 1, .int 3]
def aboutOver (below : List Frame) : State where
  vm := { classes := classes, interned := interned.toArray }
  heap := heap
  slotsUsed := slotsUsed
  threads := #[{ frames := .invoking theMethod args0 :: below }]
def below0 : List Frame := [.native { method := ⟨0, 0⟩, args := #[] }]
def about1 : State := aboutOver below0
def p0 : Program := .bare "" "" ""
def e0 : Env := launch0.env 0 0 0
theorem w_frames : about1.frames = Frame.invoking theMethod args0 :: below0 := rfl
set_option maxRecDepth 65536 in
theorem w_args : argsFit about1.vm theMethod args0 = true := by decide +kernel
set_option maxRecDepth 65536 in
theorem w_heap : heapFits about1 = true := by decide +kernel
set_option maxRecDepth 65536 in
theorem w_runnable : about1.curStatus? = some .runnable := by decide +kernel
set_option maxRecDepth 65536 in
theorem w_alone : about1.alone = true := by decide +kernel
set_option maxRecDepth 65536 in
theorem w_named : about1.methodNamed? x = some theMethod := by decide +kernel
set_option maxRecDepth 65536 in
theorem w_hears : about1.hears theMethod below0 = true := by decide +kernel
set_option maxRecDepth 65536 in
theorem w_ripe : about1.ripe theMethod args0 below0 = true := by decide +kernel
theorem w_running : about1.status = .running := rfl
set_option maxRecDepth 65536 in
theorem w_room : about1.hasRoom e0.platform room_1 = true :=
  launch0.hasRoom_least _ room_1 (by decide +kernel) (by decide +kernel) (by decide +kernel) (by decide +kernel) (by decide +kernel) (by decide +kernel)
theorem allAtoms_all (ts : List Jvm.Cond) (a : Array Jvm.Value) (st : Jvm.State) : (allAtoms ts).before a st = ts.all (fun c => c.before a st) := by
  induction ts with
  | nil => rfl
  | cons c t ih =>
    show (Jvm.Cond.and c (allAtoms t)).before a st = _
    rw [Jvm.Cond.before_and, ih, List.all_cons]
def words1 : List Jvm.Cond := Jvm.Cond.code x code maxLocals ret :: tables_1
/-- a 'code' word, met by the world's own term for the bytes: nothing is compared byte by byte -/
theorem code_word {y : MethodName} {bytes : ByteArray} {mx : Nat} {rt : Option FieldType} {a : Array Value} {s : State} {m : MethodId} {meth : Method} {c : Code} (h1 : s.methodNamed? y = some m) (h2 : s.vm.method? m = some meth) (h3 : meth.code = some c) (h4 : c.code = bytes)
    (h5 : (c.maxLocals == mx && c.exceptionTable.isEmpty && decide (c.maxStack ≤ mostOperands) && decide (meth.sig.returnType = rt) && !meth.locks && decide (parseMethodDescriptor y.desc = some meth.sig)) = true) : (Jvm.Cond.code y bytes mx rt).before a s = true := by
  simp only [Bool.and_eq_true, beq_iff_eq, Bool.not_eq_true', decide_eq_true_eq] at h5
  obtain ⟨⟨⟨⟨⟨g1, g2⟩, g3⟩, g4⟩, g5⟩, g6⟩ := h5
  simp [Cond.before, Cond.holds, Cond.value, h1, h2, h3, h4, g1, g2, g3, g4, g5, g6]
def isCode : Jvm.Cond → Bool
  | .code _ _ _ _ => true
  | _ => false
theorem all_split {L : List Jvm.Cond} {P : Jvm.Cond → Bool} (h1 : L.all (fun c => isCode c || P c) = true) (h2 : ∀ c ∈ L.filter isCode, P c = true) : L.all P = true := by
  refine List.all_eq_true.mpr fun c hc => ?_
  have h := List.all_eq_true.mp h1 c hc
  rcases Bool.eq_false_or_eq_true (isCode c) with hi | hi
  · exact h2 c (List.mem_filter.mpr ⟨hc, hi⟩)
  · simpa [hi] using h
set_option maxRecDepth 65536 in
theorem w_c0 : (Jvm.Cond.code x code maxLocals ret).before args0 about1 = true := code_word (m := ⟨1, 1⟩) (meth := k1m1) (c := k1c1) (by decide +kernel) rfl rfl rfl (by decide +kernel)
set_option maxRecDepth 65536 in
theorem w_c1 : (Jvm.Cond.code ({ cls := "com/example/vestwright/vestwright/census/CensusValues", name := "writeMonth", desc := "(J[B)Z" } : Jvm.MethodName) prog_3_method_14_code (5 : Nat) (Option.some Jvm.ClassFile.FieldType.boolean)).before args0 about1 = true := code_word (m := ⟨2, 1⟩) (meth := k2m1) (c := k2c1) (by decide +kernel) rfl rfl rfl (by decide +kernel)
set_option maxRecDepth 65536 in
theorem w_c2 : (Jvm.Cond.code ({ cls := "com/example/vestwright/vestwright/census/CensusValuesWriteMonthPinLaw", name := "digit", desc := "(B)Z" } : Jvm.MethodName) method_3_code (1 : Nat) (Option.some Jvm.ClassFile.FieldType.boolean)).before args0 about1 = true := code_word (m := ⟨1, 2⟩) (meth := k1m2) (c := k1c2) (by decide +kernel) rfl rfl rfl (by decide +kernel)
def codes1 : List Jvm.Cond := [Jvm.Cond.code x code maxLocals ret, Jvm.Cond.code ({ cls := "com/example/vestwright/vestwright/census/CensusValues", name := "writeMonth", desc := "(J[B)Z" } : Jvm.MethodName) prog_3_method_14_code (5 : Nat) (Option.some Jvm.ClassFile.FieldType.boolean), Jvm.Cond.code ({ cls := "com/example/vestwright/vestwright/census/CensusValuesWriteMonthPinLaw", name := "digit", desc := "(B)Z" } : Jvm.MethodName) method_3_code (1 : Nat) (Option.some Jvm.ClassFile.FieldType.boolean)]
set_option maxRecDepth 65536 in
theorem codes_eq : words1.filter isCode = codes1 := rfl
theorem w_codes : ∀ c ∈ words1.filter isCode, c.before args0 about1 = true := by
  rw [codes_eq]
  intro c hc
  simp only [codes1, List.mem_cons, List.not_mem_nil, or_false] at hc
  rcases hc with rfl | rfl | rfl
  · exact w_c0
  · exact w_c1
  · exact w_c2
set_option maxRecDepth 65536 in
theorem w_t1 : words1.all (fun c => isCode c || c.before args0 about1) = true := by decide +kernel
theorem w_tables : (allAtoms (Jvm.Cond.code x code maxLocals ret :: tables_1)).before args0 about1 = true := by
  rw [allAtoms_all]
  show words1.all (fun c => c.before args0 about1) = true
  refine all_split ?_ w_codes
  rw [w_t1]
set_option maxRecDepth 65536 in
theorem w_case : (Jvm.Cond.and given_1 narrow_1).before args0 about1 = true := by decide +kernel
theorem w_applies : (headSpec (Jvm.Cond.code x code maxLocals ret :: tables_1) room_1).applies x e0.platform about1 = true :=
  (Spec.applies_iff w_frames).mpr ⟨w_running, w_runnable, w_alone, w_named, w_hears, w_ripe, w_room, w_tables⟩
theorem atStart : AtStart classFile x code maxLocals ret World_1 tables_1 room_1 Calls_1 rest_1 Pre_1 launch0 p0 e0 about1 theMethod args0 below0 :=
  ⟨lists_1, trivial, launch0.admits_env _ _ _, launch0.least_env, fairChoices_fair.cas, fairChoices_fair.clock, w_frames, w_args, w_heap, w_applies, trivial, trivial, w_case⟩
end start1
theorem witness_1 : WitnessClaimed_1 := ⟨start1.p0, start1.e0, start1.about1, start1.theMethod, start1.args0, start1.below0, start1.atStart⟩
end Jvm.Pilot.@@N@@
