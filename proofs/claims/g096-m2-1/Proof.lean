import JvmDerived
import JvmDerived.Pilot.@@N@@Statement
import JvmDerived.Pilot.@@N@@Code
set_option linter.unusedVariables false
set_option linter.unusedSimpArgs false
namespace Jvm.RoadKit
open Sem ClassFile Op Lib Jvm.Stand Jvm.Free Jvm.LawKit
section Own
variable {p : Program} {l : Launch} {e : Env} {R : Room} {s : State} {m : MethodId} {args : Array Value} {below : List Frame} {meth : Method} {c : Code} {T : State} {locs : List Loc} {cells slots : Nat} {Z : State} {h h' : Heap} {a b : Addr}
/-- from the state U the method runs to its end, and what it leaves is as G says -/
def own_Go (p : Program) (e : Env) (below : List Frame) (G : Outcome → State → Prop) (U : State) : Prop := ∃ s₂ o, Steps p.tables e below U s₂ ∧ s₂.status = .running ∧ Ended s₂ below o ∧ G o s₂
def own_G (s : State) (Q : Option Value → Heap → List Loc → Prop) (C N : Nat) : Outcome → State → Prop := fun o U' => ∃ v L, o = .returned v ∧ Q v U'.heap L ∧ FrameEnd s o U' L C N
theorem own_st {G : Outcome → State → Prop} {U V : State} (hs : ∀ t, Steps p.tables e below V t → Steps p.tables e below U t) (k : own_Go p e below G V) : own_Go p e below G U := by
  obtain ⟨s₂, o, h1, h2⟩ := k
  exact ⟨s₂, o, hs _ h1, h2⟩
theorem own_retI (X : Stand p l e R s m args below meth c T locs cells slots) (hx : p.tables.exec = Jvm.exec) (hlocks : meth.locks = false) {pc : Nat} {Ls : Array Slot} {z : Int32} {rest : List Value} (hret : meth.sig.returnType = some .int) (hd : decode c.code pc = .ok (.ireturn, 1)) {Q : Option Value → Heap → List Loc → Prop} {C N : Nat}
    (hQ : Q (some (.int z)) T.heap locs) (hC : cells ≤ C) (hN : slots ≤ N) : own_Go p e below (own_G s Q C N) (T.setTop (mkF m pc Ls (.int z :: rest))) := by
  obtain ⟨fs, hr, hrun, hended, hW, hsame⟩ := X.leave (v := some (.int z)) (fun h => by rw [hret] at h; cases h)
  refine ⟨_, _, ?_, hrun, hended, _, _, rfl, hQ, ⟨_, rfl⟩, hW, hsame.mono hC hN⟩
  have hm' : T.vm.method? m = some meth := X.method'
  have hn : narrow .int (.int z) = .int z := rfl
  show Steps p.tables e below (T.setTop { method := m, pc := pc, locals := Ls, stack := _ :: rest, locked := none }) _
  jvm_step X.here [X.here.top, hx, hd, hm', hret, hn]
  first | (intro acts; rw [hr _ acts rfl rfl rfl]) | rw [hr _ _ rfl rfl rfl]
  exact Steps.refl _
theorem own_retN (X : Stand p l e R s m args below meth c T locs cells slots) (hx : p.tables.exec = Jvm.exec) (hlocks : meth.locks = false) {pc : Nat} {Ls : Array Slot} {z z' : Int32} {t : FieldType} {rest : List Value} (hret : meth.sig.returnType = some t) (ht : t = .boolean ∨ t = .byte ∨ t = .char ∨ t = .short) (hz : nar t z = z') (hd : decode c.code pc = .ok (.ireturn, 1)) {Q : Option Value → Heap → List Loc → Prop} {C N : Nat}
    (hQ : Q (some (.int z')) T.heap locs) (hC : cells ≤ C) (hN : slots ≤ N) : own_Go p e below (own_G s Q C N) (T.setTop (mkF m pc Ls (.int z :: rest))) := by
  subst hz
  obtain ⟨fs, hr, hrun, hended, hW, hsame⟩ := X.leave (v := some (.int (nar t z))) (fun h => by rw [hret] at h; cases h)
  exact ⟨_, _, retN X hx hret ht hd hr, hrun, hended, _, _, rfl, hQ, ⟨_, rfl⟩, hW, hsame.mono hC hN⟩
theorem own_retJ (X : Stand p l e R s m args below meth c T locs cells slots) (hx : p.tables.exec = Jvm.exec) (hlocks : meth.locks = false) {pc : Nat} {Ls : Array Slot} {z : Int64} (hret : meth.sig.returnType = some .long) (hd : decode c.code pc = .ok (.lreturn, 1)) {Q : Option Value → Heap → List Loc → Prop} {C N : Nat}
    (hQ : Q (some (.long z)) T.heap locs) (hC : cells ≤ C) (hN : slots ≤ N) : own_Go p e below (own_G s Q C N) (T.setTop (mkF m pc Ls [.long z])) := by
  obtain ⟨fs, hr, hrun, hended, hW, hsame⟩ := X.leave (v := some (.long z)) (fun h => by rw [hret] at h; cases h)
  exact ⟨_, _, X.lreturnOut hx hret hd hr, hrun, hended, _, _, rfl, hQ, ⟨_, rfl⟩, hW, hsame.mono hC hN⟩
theorem own_ret0 (X : Stand p l e R s m args below meth c T locs cells slots) (hx : p.tables.exec = Jvm.exec) (hlocks : meth.locks = false) {pc : Nat} {Ls : Array Slot} (hret : meth.sig.returnType = none) (hd : decode c.code pc = .ok (.return_, 1)) {Q : Option Value → Heap → List Loc → Prop} {C N : Nat}
    (hQ : Q none T.heap locs) (hC : cells ≤ C) (hN : slots ≤ N) : own_Go p e below (own_G s Q C N) (T.setTop (mkF m pc Ls [])) := by
  obtain ⟨fs, hr, hrun, hended, hW, hsame⟩ := X.leave (v := none) (fun _ => rfl)
  exact ⟨_, _, X.returnOut hx hret hd hr, hrun, hended, _, _, rfl, hQ, ⟨_, rfl⟩, hW, hsame.mono hC hN⟩
theorem own_z0 {i j : Nat} (q : i = 0) : i ≤ j := q ▸ Nat.zero_le j
/-! arrays of ints (or bytes), of longs: their length and their elements by a plain function -/
def own_Ai (Z : State) (h : Heap) (a : Addr) (ty : FieldType) (n : Nat) (f : Nat → Int32) : Prop := ∃ c : Cell, Arr Z h a c ty ∧ c.slots.size = n ∧ ∀ i, i < n → c.slots[i]? = some (.int (f i))
def own_Aj (Z : State) (h : Heap) (a : Addr) (ty : FieldType) (n : Nat) (f : Nat → Int64) : Prop := ∃ c : Cell, Arr Z h a c ty ∧ c.slots.size = n ∧ ∀ i, i < n → c.slots[i]? = some (.long (f i))
def own_up (f : Nat → Int32) (k : Nat) (x : Int32) : Nat → Int32 := fun i => if i = k then x else f i
def own_upJ (f : Nat → Int64) (k : Nat) (x : Int64) : Nat → Int64 := fun i => if i = k then x else f i
theorem own_up_at (f : Nat → Int32) (k : Nat) (x : Int32) (i : Nat) : own_up f k x i = if i = k then x else f i := rfl
theorem own_upJ_at (f : Nat → Int64) (k : Nat) (x : Int64) (i : Nat) : own_upJ f k x i = if i = k then x else f i := rfl
variable {ty : FieldType} {n : Nat} {f : Nat → Int32} {fj : Nat → Int64} {ws : List Addr} {sl : Nat} {v : Value}
theorem own_Ai.lt (F : own_Ai Z h a ty n f) : a < h.size := by obtain ⟨c, A, -⟩ := F; exact A.lt
theorem own_Aj.lt (F : own_Aj Z h a ty n fj) : a < h.size := by obtain ⟨c, A, -⟩ := F; exact A.lt
theorem own_Ai.ext (F : own_Ai Z h a ty n f) (E : Ext h h') : own_Ai Z h' a ty n f := by obtain ⟨c, A, r⟩ := F; exact ⟨c, A.ext E, r⟩
theorem own_Aj.ext (F : own_Aj Z h a ty n fj) (E : Ext h h') : own_Aj Z h' a ty n fj := by obtain ⟨c, A, r⟩ := F; exact ⟨c, A.ext E, r⟩
theorem own_Ai.other (F : own_Ai Z h b ty n f) (W : Wr h h' a sl v) (q : b ≠ a) : own_Ai Z h' b ty n f := by obtain ⟨c, A, r⟩ := F; exact ⟨c, A.other W q, r⟩
theorem own_Aj.other (F : own_Aj Z h b ty n fj) (W : Wr h h' a sl v) (q : b ≠ a) : own_Aj Z h' b ty n fj := by obtain ⟨c, A, r⟩ := F; exact ⟨c, A.other W q, r⟩
theorem own_Ai.keep (F : own_Ai Z h a ty n f) (K : Keep h h' ws) (q : a ∉ ws) : own_Ai Z h' a ty n f := by obtain ⟨c, A, r⟩ := F; exact ⟨c, ⟨K.2.1 a c A.1 q, A.2⟩, r⟩
theorem own_Aj.keep (F : own_Aj Z h a ty n fj) (K : Keep h h' ws) (q : a ∉ ws) : own_Aj Z h' a ty n fj := by obtain ⟨c, A, r⟩ := F; exact ⟨c, ⟨K.2.1 a c A.1 q, A.2⟩, r⟩
theorem own_Ai.neq {a0 : Array Value} {k : Nat} {C : String} (F : own_Ai Z h b ty n f) (E : Exa Z h a C) (wi : (Cond.instantiable C k).before a0 Z = true) : a ≠ b := by obtain ⟨c, A, -⟩ := F; exact ne_arr E wi A
theorem own_Aj.neq {a0 : Array Value} {k : Nat} {C : String} (F : own_Aj Z h b ty n fj) (E : Exa Z h a C) (wi : (Cond.instantiable C k).before a0 Z = true) : a ≠ b := by obtain ⟨c, A, -⟩ := F; exact ne_arr E wi A
theorem own_nat {j : Int32} {k : Nat} (hj : j.toInt = k) : j.toNatClampNeg = k := by simp only [Int32.toNatClampNeg, hj]; rfl
theorem own_in {j : Int32} {k n : Nat} (hj : j.toInt = k) (hk : k < n) : ¬ (j < 0 ∨ n ≤ j.toNatClampNeg) := by
  rw [own_nat hj, Int32.lt_iff_toInt_lt, hj, show (0 : Int32).toInt = 0 from rfl]; omega
theorem own_len {z : Int32} (hz : z.toInt = n) : n.toInt32 = z := by
  have := Int32.toInt_lt z
  exact Int32.toInt_inj.mp (by rw [Int32.toInt_ofNat_small (by omega), hz])
theorem own_iaload (X : Stand p l e R s m args below meth c T locs cells slots) (hx : p.tables.exec = Jvm.exec) (hZ : Z.Warmed39 s.vm) (eT : T.heap = h) (A : own_Ai Z h a .int n f) {j : Int32} {k : Nat} (hj : j.toInt = k) (hk : k < n) {g : JFrame} (hg : g.method = m) {rest : List Value} (hs : g.stack = .int j :: .ref a :: rest) (hd : decode c.code g.pc = .ok (.iaload, 1)) {target : State}
    (hr : Steps p.tables e below (T.setTop { g with pc := g.pc + 1, stack := .int (f k) :: rest }) target) : Steps p.tables e below (T.setTop g) target := by
  obtain ⟨cl, A, S, H⟩ := A
  exact X.iaload hx (j := j) (v := .int (f k)) (by rw [eT]; exact A.1) (State.isArrayOf_alike hZ.alike A.2.1) A.2.2 (by rw [S]; exact own_in hj hk) (by rw [own_nat hj]; exact H k hk) hg hs hd _ hr
theorem own_baload (X : Stand p l e R s m args below meth c T locs cells slots) (hx : p.tables.exec = Jvm.exec) (hZ : Z.Warmed39 s.vm) (eT : T.heap = h) (A : own_Ai Z h a .byte n f) {j : Int32} {k : Nat} (hj : j.toInt = k) (hk : k < n) {g : JFrame} (hg : g.method = m) {rest : List Value} (hs : g.stack = .int j :: .ref a :: rest) (hd : decode c.code g.pc = .ok (.baload, 1)) {target : State}
    (hr : Steps p.tables e below (T.setTop { g with pc := g.pc + 1, stack := .int (f k) :: rest }) target) : Steps p.tables e below (T.setTop g) target := by
  obtain ⟨cl, A, S, H⟩ := A
  exact X.baloadBytes hx (j := j) (v := .int (f k)) (by rw [eT]; exact A.1) (State.isArrayOf_alike hZ.alike A.2.1) A.2.2 (by rw [S]; exact own_in hj hk) (by rw [own_nat hj]; exact H k hk) hg hs hd _ hr
theorem own_laload (X : Stand p l e R s m args below meth c T locs cells slots) (hx : p.tables.exec = Jvm.exec) (hZ : Z.Warmed39 s.vm) (eT : T.heap = h) (A : own_Aj Z h a .long n fj) {j : Int32} {k : Nat} (hj : j.toInt = k) (hk : k < n) {g : JFrame} (hg : g.method = m) {rest : List Value} (hs : g.stack = .int j :: .ref a :: rest) (hd : decode c.code g.pc = .ok (.laload, 1)) {target : State}
    (hr : Steps p.tables e below (T.setTop { g with pc := g.pc + 1, stack := .long (fj k) :: rest }) target) : Steps p.tables e below (T.setTop g) target := by
  obtain ⟨cl, A, S, H⟩ := A
  exact X.laload hx (j := j) (v := .long (fj k)) (by rw [eT]; exact A.1) (State.isArrayOf_alike hZ.alike A.2.1) A.2.2 (by rw [S]; exact own_in hj hk) (by rw [own_nat hj]; exact H k hk) hg hs hd _ hr
theorem own_alen (X : Stand p l e R s m args below meth c T locs cells slots) (hx : p.tables.exec = Jvm.exec) (hZ : Z.Warmed39 s.vm) (eT : T.heap = h) (A : own_Ai Z h a ty n f) {z : Int32} (hz : z.toInt = n) {g : JFrame} (hg : g.method = m) {rest : List Value} (hs : g.stack = .ref a :: rest) (hd : decode c.code g.pc = .ok (.arraylength, 1)) {target : State}
    (hr : Steps p.tables e below (T.setTop { g with pc := g.pc + 1, stack := .int z :: rest }) target) : Steps p.tables e below (T.setTop g) target := by
  obtain ⟨cl, A, S, H⟩ := A
  refine X.arraylength hx (by rw [eT]; exact A.1) (State.isArrayOf_alike hZ.alike A.2.1) hg hs hd _ ?_
  rw [S, own_len hz]; exact hr
theorem own_Ai.set (F : own_Ai Z h a ty n f) {j : Nat} {x : Int32} (W : Wr h h' a j (.int x)) : own_Ai Z h' a ty n (own_up f j x) := by
  obtain ⟨cl, A, S, H⟩ := F
  refine ⟨_, A.same W, by rw [sz_set]; exact S, fun i hi => ?_⟩
  rw [own_up_at]
  by_cases q : i = j
  · subst q
    rw [if_pos rfl]
    simp [Cell.setSlot, S, hi]
  · rw [if_neg q, show (cl.setSlot j (.int x)).slots[i]? = cl.slots[i]? from Array.getElem?_setIfInBounds_ne (Ne.symm q)]
    exact H i hi
theorem own_Aj.set (F : own_Aj Z h a ty n fj) {j : Nat} {x : Int64} (W : Wr h h' a j (.long x)) : own_Aj Z h' a ty n (own_upJ fj j x) := by
  obtain ⟨cl, A, S, H⟩ := F
  refine ⟨_, A.same W, by rw [sz_set]; exact S, fun i hi => ?_⟩
  rw [own_upJ_at]
  by_cases q : i = j
  · subst q
    rw [if_pos rfl]
    simp [Cell.setSlot, S, hi]
  · rw [if_neg q, show (cl.setSlot j (.long x)).slots[i]? = cl.slots[i]? from Array.getElem?_setIfInBounds_ne (Ne.symm q)]
    exact H i hi
theorem own_iastore (X : Stand p l e R s m args below meth c T locs cells slots) (hx : p.tables.exec = Jvm.exec) (hZ : Z.Warmed39 s.vm) (eT : T.heap = h) (A : own_Ai Z h a .int n f) {j x : Int32} {k : Nat} (hj : j.toInt = k) (hk : k < n) {g : JFrame} (hg : g.method = m) {rest : List Value} (hs : g.stack = .int x :: .int j :: .ref a :: rest) (hd : decode c.code g.pc = .ok (.iastore, 1)) :
    ∃ T' h', Stand p l e R s m args below meth c T' (locs ++ [⟨a, k⟩]) cells slots ∧ T'.heap = h' ∧ Wr h h' a k (.int x) ∧ own_Ai Z h' a .int n (own_up f k x) ∧ ∀ target, Steps p.tables e below (T'.setTop { g with pc := g.pc + 1, stack := rest }) target → Steps p.tables e below (T.setTop g) target := by
  obtain ⟨cl, B, S, H⟩ := id A
  obtain ⟨T', h', X', e', W, st⟩ := stI X hx hZ eT B (j := j) (x := x) (by rw [S]; exact own_in hj hk) hg hs hd
  rw [own_nat hj] at X' W
  exact ⟨T', h', X', e', W, A.set W, st⟩
theorem own_bastore (X : Stand p l e R s m args below meth c T locs cells slots) (hx : p.tables.exec = Jvm.exec) (hZ : Z.Warmed39 s.vm) (eT : T.heap = h) (A : own_Ai Z h a .byte n f) {j x : Int32} {k : Nat} (hj : j.toInt = k) (hk : k < n) {g : JFrame} (hg : g.method = m) {rest : List Value} (hs : g.stack = .int x :: .int j :: .ref a :: rest) (hd : decode c.code g.pc = .ok (.bastore, 1)) :
    ∃ T' h', Stand p l e R s m args below meth c T' (locs ++ [⟨a, k⟩]) cells slots ∧ T'.heap = h' ∧ Wr h h' a k (.int x.toInt8.toInt32) ∧ own_Ai Z h' a .byte n (own_up f k x.toInt8.toInt32) ∧ ∀ target, Steps p.tables e below (T'.setTop { g with pc := g.pc + 1, stack := rest }) target → Steps p.tables e below (T.setTop g) target := by
  obtain ⟨cl, B, S, H⟩ := id A
  obtain ⟨T', h', X', e', W, st⟩ := stB X hx hZ eT B (j := j) (x := x) (by rw [S]; exact own_in hj hk) hg hs hd
  rw [own_nat hj] at X' W
  exact ⟨T', h', X', e', W, A.set W, st⟩
theorem own_lastore (X : Stand p l e R s m args below meth c T locs cells slots) (hx : p.tables.exec = Jvm.exec) (hZ : Z.Warmed39 s.vm) (eT : T.heap = h) (A : own_Aj Z h a .long n fj) {j : Int32} {x : Int64} {k : Nat} (hj : j.toInt = k) (hk : k < n) {g : JFrame} (hg : g.method = m) {rest : List Value} (hs : g.stack = .long x :: .int j :: .ref a :: rest) (hd : decode c.code g.pc = .ok (.lastore, 1)) :
    ∃ T' h', Stand p l e R s m args below meth c T' (locs ++ [⟨a, k⟩]) cells slots ∧ T'.heap = h' ∧ Wr h h' a k (.long x) ∧ own_Aj Z h' a .long n (own_upJ fj k x) ∧ ∀ target, Steps p.tables e below (T'.setTop { g with pc := g.pc + 1, stack := rest }) target → Steps p.tables e below (T.setTop g) target := by
  obtain ⟨cl, B, S, H⟩ := id A
  obtain ⟨T', h', X', e', W, st⟩ := stJ X hx hZ eT B (j := j) (x := x) (by rw [S]; exact own_in hj hk) hg hs hd
  rw [own_nat hj] at X' W
  exact ⟨T', h', X', e', W, A.set W, st⟩
theorem own_newarr (X : Stand p l e R s m args below meth c T locs cells slots) (hx : p.tables.exec = Jvm.exec) (hZ : Z.Warmed39 s.vm) {a0 : Array Value} {aty : ArrayType} (w : (Cond.arrayClass (newarray.typeOf aty)).before a0 Z = true) (eT : T.heap = h) {g : JFrame} (hg : g.method = m) (hd : decode c.code g.pc = .ok (.newarray aty, 2)) {z : Int32} {rest : List Value} (hs : g.stack = .int z :: rest) {k : Nat}
    (hz : z.toInt = k) {cap : Nat} (hcap : k ≤ cap) (hb : cap * 8 ≤ 536870912) (hc : cells + 1 ≤ R.cells) (hl : slots + cap ≤ R.slots) :
    ∃ T' h' cl, Stand p l e R s m args below meth c T' locs (cells + 1) (slots + cap) ∧ T'.heap = h' ∧ Ext h h' ∧ (Arr Z h' h.size cl (newarray.typeOf aty) ∧ cl.slots = Array.replicate k (defaultValue (newarray.typeOf aty))) ∧
      ∀ target, Steps p.tables e below (T'.setTop { g with pc := g.pc + 2, stack := .ref h.size :: rest }) target → Steps p.tables e below (T.setTop g) target := by
  have hn : ¬ z < 0 := by rw [Int32.lt_iff_toInt_lt, hz, show (0 : Int32).toInt = 0 from rfl]; omega
  obtain ⟨T', h', cA, X', e', E, A, st⟩ := newP X hx hZ w eT hg hd hs hn (by rw [own_nat hz]; exact hcap) hb hc hl
  exact ⟨T', h', _, X', e', E, ⟨A, by simp [newA, own_nat hz]⟩, st⟩
theorem own_Ai.new {cl : Cell} {k : Nat} (A : Arr Z h a cl ty ∧ cl.slots = Array.replicate k (.int 0)) : own_Ai Z h a ty k (fun _ => 0) :=
  ⟨cl, A.1, by rw [A.2]; simp, fun i hi => by rw [A.2]; simp [hi]⟩
theorem own_Aj.new {cl : Cell} {k : Nat} (A : Arr Z h a cl ty ∧ cl.slots = Array.replicate k (.long 0)) : own_Aj Z h a ty k (fun _ => 0) :=
  ⟨cl, A.1, by rw [A.2]; simp, fun i hi => by rw [A.2]; simp [hi]⟩
theorem own_l_lt (x y : Int64) {b : Bool} (h : if_icmp.holds .lt (lcmpW x y) 0 = b) : ifCond.holds .lt (lcmpW x y) = b := (if0 _ _).trans h
end Own
end Jvm.RoadKit
namespace Jvm.Pilot.@@N@@
open Jvm Jvm.ClassFile Sem Op Lib Jvm.Free Jvm.Stand Jvm.LawKit Jvm.RoadKit Bundle Jvm.Pilot.@@N@@.Jvm.D
theorem own_m3 (p : Int32) : (p &&& 2147483647) % 3 = 0 ∨ (p &&& 2147483647) % 3 = 1 ∨ (p &&& 2147483647) % 3 = 2 := by
  have h1 := c_mask p 2147483647 31 (by decide) (by decide)
  have h2 := (c_irem (p &&& 2147483647) 3 3 (by decide)).1 (by rw [h1]; omega)
  have e : ∀ k : Int32, ((p &&& 2147483647) % 3).toInt = k.toInt → (p &&& 2147483647) % 3 = k := fun k q => Int32.toInt_inj.mp q
  have h3 : (p &&& 2147483647).toInt % 3 = 0 ∨ (p &&& 2147483647).toInt % 3 = 1 ∨ (p &&& 2147483647).toInt % 3 = 2 := by omega
  rcases h3 with q | q | q
  · exact Or.inl (e 0 (by rw [h2, q]; rfl))
  · exact Or.inr (Or.inl (e 1 (by rw [h2, q]; rfl)))
  · exact Or.inr (Or.inr (e 2 (by rw [h2, q]; rfl)))
theorem d1_0 : decode prog_29_method_1_code 0 = .ok (.aload_n 0, 1) := by decide +kernel
theorem d1_1 : decode prog_29_method_1_code 1 = .ok (.invokespecial 1, 3) := by decide +kernel
theorem d1_4 : decode prog_29_method_1_code 4 = .ok (.aload_n 0, 1) := by decide +kernel
theorem d1_5 : decode prog_29_method_1_code 5 = .ok (.aload_n 1, 1) := by decide +kernel
theorem d1_6 : decode prog_29_method_1_code 6 = .ok (.putfield 7, 3) := by decide +kernel
theorem d1_9 : decode prog_29_method_1_code 9 = .ok (.aload_n 0, 1) := by decide +kernel
theorem d1_10 : decode prog_29_method_1_code 10 = .ok (.aload_n 2, 1) := by decide +kernel
theorem d1_11 : decode prog_29_method_1_code 11 = .ok (.putfield 13, 3) := by decide +kernel
theorem d1_14 : decode prog_29_method_1_code 14 = .ok (.aload_n 0, 1) := by decide +kernel
theorem d1_15 : decode prog_29_method_1_code 15 = .ok (.iload_n 3, 1) := by decide +kernel
theorem d1_16 : decode prog_29_method_1_code 16 = .ok (.putfield 16, 3) := by decide +kernel
theorem d1_19 : decode prog_29_method_1_code 19 = .ok (.return_, 1) := by decide +kernel
theorem pn_1 : plainName "com/example/chainwright/chainwright/State" = true := by first | (simp [plainName, overriddenIn]; done) | decide +kernel
theorem ef_1 (m : MethodId) (x0 : Addr) (x1 : Addr) (x2 : Addr) (x3 : Int32) : entryFrame m #[(.ref x0), (.ref x1), (.ref x2), (.int x3)] 4 = mkF m 0 #[.val (.ref x0), .val (.ref x1), .val (.ref x2), .val (.int x3)] [] := by first | (simp [entryFrame, mkF, argsToLocals, Value.category]; done) | rfl
def Q1 (Z : State) (ob : Addr) (dl : Addr) (fl : Addr) (sz : Int32) (h0 : Heap) (n0 : Nat) (v : Option Value) (h : Heap) (L : List Loc) : Prop := v = none ∧ Fr n0 L ∧ Keep h0 h [ob] ∧ (Exa Z h ob "com/example/chainwright/chainwright/State") ∧ (Fld Z h ob "com/example/chainwright/chainwright/State" "deadlines" "[I" (.ref dl)) ∧ (Fld Z h ob "com/example/chainwright/chainwright/State" "floors" "[I" (.ref fl)) ∧ (Fld Z h ob "com/example/chainwright/chainwright/State" "size" "I" (.int sz))
set_option maxRecDepth 65536 in
set_option maxHeartbeats 40000000 in
theorem rm1 (l : Launch) (Z : State) (a0 : Array Value) (hw : ∀ d ∈ tables_1, d.before a0 Z = true) (ws : List Jvm.Cond) (ob : Addr) (dl : Addr) (fl : Addr) (sz : Int32) (h0 : Heap) (n0 : Nat) (Z0 : n0 ≤ h0.size) (E1 : Exa Z h0 ob "com/example/chainwright/chainwright/State") (F1 : Fld Z h0 ob "com/example/chainwright/chainwright/State" "deadlines" "[I" .null) (F2 : Fld Z h0 ob "com/example/chainwright/chainwright/State" "floors" "[I" .null) (F3 : Fld Z h0 ob "com/example/chainwright/chainwright/State" "size" "I" (.int (0 : Int32))) (G1 : n0 ≤ ob) :
    MetFree l (⟨"com/example/chainwright/chainwright/State", "<init>", "([I[II)V"⟩ : MethodName) (head1 (Jvm.Cond.code (⟨"com/example/chainwright/chainwright/State", "<init>", "([I[II)V"⟩ : MethodName) prog_29_method_1_code 4 none :: ws) ({ frames := 1, cells := 0, slots := 0, locals := 12 } : Room)) (fun a U => a = #[(.ref ob), (.ref dl), (.ref fl), (.int sz)] ∧ Z.Warmed39 U.vm ∧ U.heap = h0) (fun _ _ _ _ _ => True) (fun _ U o U' => ∃ v L, o = .returned v ∧ Q1 Z ob dl fl sz h0 n0 v U'.heap L ∧ FrameEnd U o U' L ({ frames := 1, cells := 0, slots := 0, locals := 12 } : Room).cells ({ frames := 1, cells := 0, slots := 0, locals := 12 } : Room).slots) := by
  refine MetFree.of_bodySF (plainFor_of_name pn_1) hisR ?_
  intro p e s m args below meth c s₁ Bd hml0 hP hK
  obtain ⟨rfl, hZ, hh⟩ := hP
  have hx := Bd.exec
  have hby := Bd.bytes
  have hlk : meth.locks = false := BodyLoose.notSynchronized Bd
  have hml : c.maxLocals = 4 := hml0
  have hown : s.vm.findClass "com/example/chainwright/chainwright/State" = some m.cls := findClass_of_methodNamed Bd.named
  have hnm := (name_of_methodNamed Bd.named Bd.method).1
  have X0 : Stand p l e ({ frames := 1, cells := 0, slots := 0, locals := 12 } : Room) s m #[(.ref ob), (.ref dl), (.ref fl), (.int sz)] below meth c s₁ [] 0 0 := Stand.of_body Bd
  have e0 : s₁.heap = h0 := by rw [← hh, Bd.state]; rfl
  have N0 := Fr.nil n0
  have K0 : Keep h0 h0 [ob] := Keep.refl _ _
  show own_Go p e below (own_G s (Q1 Z ob dl fl sz h0 n0) ({ frames := 1, cells := 0, slots := 0, locals := 12 } : Room).cells ({ frames := 1, cells := 0, slots := 0, locals := 12 } : Room).slots) (s₁.setTop (entryFrame m #[(.ref ob), (.ref dl), (.ref fl), (.int sz)] 4))
  refine own_st (fun tgt k => castTop (ef_1 m ob dl fl sz) k) ?_
  show own_Go p e below _ (s₁.setTop (mkF m 0 #[.val (.ref ob), .val (.ref dl), .val (.ref fl), .val (.int sz)] []))
  refine own_st (V := s₁.setTop (mkF m 1 #[.val (.ref ob), .val (.ref dl), .val (.ref fl), .val (.int sz)] [(.ref ob)])) (fun tgt k => ?_) ?_
  · show Steps p.tables e below (s₁.setTop (mkF m 0 #[.val (.ref ob), .val (.ref dl), .val (.ref fl), .val (.int sz)] [])) tgt
    refine XS.aloadN X0.here hx rfl (hb hby d1_0) rfl rfl ?_
    exact k
  obtain ⟨T1, X1, e1, st1⟩ := initO X0 hx hZ hown (hw _ (List.mem_of_getElem? (i := 7) rfl)) (hw _ (List.mem_of_getElem? (i := 8) rfl)) (hw _ (List.mem_of_getElem? (i := 9) rfl)) e0 (g := (mkF m 1 #[.val (.ref ob), .val (.ref dl), .val (.ref fl), .val (.int sz)] [(.ref ob)])) rfl (by rw [hml]; rfl) rfl (hb hby d1_1) (by decide) (W := 0) (by show 2 * 0 + _ ≤ _; exact Nat.le_of_eq rfl) (by decide)
  refine own_st st1 ?_
  show own_Go p e below _ (T1.setTop (mkF m 4 #[.val (.ref ob), .val (.ref dl), .val (.ref fl), .val (.int sz)] []))
  refine own_st (V := T1.setTop (mkF m 6 #[.val (.ref ob), .val (.ref dl), .val (.ref fl), .val (.int sz)] [(.ref dl), (.ref ob)])) (fun tgt k => ?_) ?_
  · show Steps p.tables e below (T1.setTop (mkF m 4 #[.val (.ref ob), .val (.ref dl), .val (.ref fl), .val (.int sz)] [])) tgt
    refine XS.aloadN X1.here hx rfl (hb hby d1_4) rfl rfl ?_
    show Steps p.tables e below (T1.setTop (mkF m 5 #[.val (.ref ob), .val (.ref dl), .val (.ref fl), .val (.int sz)] [(.ref ob)])) tgt
    refine XS.aloadN X1.here hx rfl (hb hby d1_5) rfl rfl ?_
    exact k
  obtain ⟨T2, h2, X2, e2, W2, st2⟩ := putF X1 hx hZ hown (host := "") (Or.inl (hw _ (List.mem_of_getElem? (i := 10) rfl))) Via.refl e1 F1 E1 (Or.inr ⟨(hw _ (List.mem_of_getElem? (i := 11) rfl)), rfl, hnm⟩) (hw _ (List.mem_of_getElem? (i := 2) rfl)) (ty := (.array .int)) (by decide) rfl rfl (g := (mkF m 6 #[.val (.ref ob), .val (.ref dl), .val (.ref fl), .val (.int sz)] [(.ref dl), (.ref ob)])) rfl rfl (hb hby d1_6)
  have E_ob_2 := E1.wr W2
  have F_ob_floors_2 := Fld.other W2 F2 (Or.inr (slot_ne (Or.inr (hw _ (List.mem_of_getElem? (i := 13) rfl))) (Or.inr (hw _ (List.mem_of_getElem? (i := 11) rfl))) (by decide) (t := (.array .int)) (t' := (.array .int)) (by decide) (by decide)))
  have F_ob_size_2 := Fld.other W2 F3 (Or.inr (slot_ne (Or.inl (hw _ (List.mem_of_getElem? (i := 15) rfl))) (Or.inr (hw _ (List.mem_of_getElem? (i := 11) rfl))) (by decide) (t := .int) (t' := (.array .int)) (by decide) (by decide)))
  have F_ob_deadlines_2 := Fld.same W2 F1
  have N2 := Fr.snoc X2 N0 G1
  have Zs2 : n0 ≤ h2.size := Nat.le_trans Z0 (Keep.of_wr W2).1
  have Kp2 := K0.wr W2 (Or.inl (List.mem_of_getElem? (i := 0) rfl))
  refine own_st st2 ?_
  show own_Go p e below _ (T2.setTop (mkF m 9 #[.val (.ref ob), .val (.ref dl), .val (.ref fl), .val (.int sz)] []))
  refine own_st (V := T2.setTop (mkF m 11 #[.val (.ref ob), .val (.ref dl), .val (.ref fl), .val (.int sz)] [(.ref fl), (.ref ob)])) (fun tgt k => ?_) ?_
  · show Steps p.tables e below (T2.setTop (mkF m 9 #[.val (.ref ob), .val (.ref dl), .val (.ref fl), .val (.int sz)] [])) tgt
    refine XS.aloadN X2.here hx rfl (hb hby d1_9) rfl rfl ?_
    show Steps p.tables e below (T2.setTop (mkF m 10 #[.val (.ref ob), .val (.ref dl), .val (.ref fl), .val (.int sz)] [(.ref ob)])) tgt
    refine XS.aloadN X2.here hx rfl (hb hby d1_10) rfl rfl ?_
    exact k
  obtain ⟨T3, h3, X3, e3, W3, st3⟩ := putF X2 hx hZ hown (host := "") (Or.inl (hw _ (List.mem_of_getElem? (i := 12) rfl))) Via.refl e2 F_ob_floors_2 E_ob_2 (Or.inr ⟨(hw _ (List.mem_of_getElem? (i := 13) rfl)), rfl, hnm⟩) (hw _ (List.mem_of_getElem? (i := 2) rfl)) (ty := (.array .int)) (by decide) rfl rfl (g := (mkF m 11 #[.val (.ref ob), .val (.ref dl), .val (.ref fl), .val (.int sz)] [(.ref fl), (.ref ob)])) rfl rfl (hb hby d1_11)
  have E_ob_3 := E_ob_2.wr W3
  have F_ob_deadlines_3 := Fld.other W3 F_ob_deadlines_2 (Or.inr (slot_ne (Or.inr (hw _ (List.mem_of_getElem? (i := 11) rfl))) (Or.inr (hw _ (List.mem_of_getElem? (i := 13) rfl))) (by decide) (t := (.array .int)) (t' := (.array .int)) (by decide) (by decide)))
  have F_ob_size_3 := Fld.other W3 F_ob_size_2 (Or.inr (slot_ne (Or.inl (hw _ (List.mem_of_getElem? (i := 15) rfl))) (Or.inr (hw _ (List.mem_of_getElem? (i := 13) rfl))) (by decide) (t := .int) (t' := (.array .int)) (by decide) (by decide)))
  have F_ob_floors_3 := Fld.same W3 F_ob_floors_2
  have N3 := Fr.snoc X3 N2 G1
  have Zs3 : n0 ≤ h3.size := Nat.le_trans Zs2 (Keep.of_wr W3).1
  have Kp3 := Kp2.wr W3 (Or.inl (List.mem_of_getElem? (i := 0) rfl))
  refine own_st st3 ?_
  show own_Go p e below _ (T3.setTop (mkF m 14 #[.val (.ref ob), .val (.ref dl), .val (.ref fl), .val (.int sz)] []))
  refine own_st (V := T3.setTop (mkF m 16 #[.val (.ref ob), .val (.ref dl), .val (.ref fl), .val (.int sz)] [(.int sz), (.ref ob)])) (fun tgt k => ?_) ?_
  · show Steps p.tables e below (T3.setTop (mkF m 14 #[.val (.ref ob), .val (.ref dl), .val (.ref fl), .val (.int sz)] [])) tgt
    refine XS.aloadN X3.here hx rfl (hb hby d1_14) rfl rfl ?_
    show Steps p.tables e below (T3.setTop (mkF m 15 #[.val (.ref ob), .val (.ref dl), .val (.ref fl), .val (.int sz)] [(.ref ob)])) tgt
    refine XS.iloadN X3.here hx rfl (hb hby d1_15) rfl ?_
    exact k
  obtain ⟨T4, h4, X4, e4, W4, st4⟩ := putF X3 hx hZ hown (host := "") (Or.inl (hw _ (List.mem_of_getElem? (i := 14) rfl))) Via.refl e3 F_ob_size_3 E_ob_3 (Or.inl (hw _ (List.mem_of_getElem? (i := 15) rfl))) (hw _ (List.mem_of_getElem? (i := 2) rfl)) (ty := .int) (by decide) rfl rfl (g := (mkF m 16 #[.val (.ref ob), .val (.ref dl), .val (.ref fl), .val (.int sz)] [(.int sz), (.ref ob)])) rfl rfl (hb hby d1_16)
  have E_ob_4 := E_ob_3.wr W4
  have F_ob_deadlines_4 := Fld.other W4 F_ob_deadlines_3 (Or.inr (slot_ne (Or.inr (hw _ (List.mem_of_getElem? (i := 11) rfl))) (Or.inl (hw _ (List.mem_of_getElem? (i := 15) rfl))) (by decide) (t := (.array .int)) (t' := .int) (by decide) (by decide)))
  have F_ob_floors_4 := Fld.other W4 F_ob_floors_3 (Or.inr (slot_ne (Or.inr (hw _ (List.mem_of_getElem? (i := 13) rfl))) (Or.inl (hw _ (List.mem_of_getElem? (i := 15) rfl))) (by decide) (t := (.array .int)) (t' := .int) (by decide) (by decide)))
  have F_ob_size_4 := Fld.same W4 F_ob_size_3
  have N4 := Fr.snoc X4 N3 G1
  have Zs4 : n0 ≤ h4.size := Nat.le_trans Zs3 (Keep.of_wr W4).1
  have Kp4 := Kp3.wr W4 (Or.inl (List.mem_of_getElem? (i := 0) rfl))
  refine own_st st4 ?_
  show own_Go p e below _ (T4.setTop (mkF m 19 #[.val (.ref ob), .val (.ref dl), .val (.ref fl), .val (.int sz)] []))
  refine own_ret0 X4 hx hlk Bd.returns (hb hby d1_19) ?_ (by decide) (by decide)
  show Q1 Z ob dl fl sz h0 n0 none T4.heap _
  rw [e4]
  exact ⟨rfl, N4, Kp4, E_ob_4, F_ob_deadlines_4, F_ob_floors_4, F_ob_size_4⟩
theorem d3_0 : decode prog_29_method_5_code 0 = .ok (.aload_n 0, 1) := by decide +kernel
theorem d3_1 : decode prog_29_method_5_code 1 = .ok (.getfield 7, 3) := by decide +kernel
theorem d3_4 : decode prog_29_method_5_code 4 = .ok (.iload_n 1, 1) := by decide +kernel
theorem d3_5 : decode prog_29_method_5_code 5 = .ok (.iaload, 1) := by decide +kernel
theorem d3_6 : decode prog_29_method_5_code 6 = .ok (.ifCond .eq 7, 3) := by decide +kernel
theorem d3_9 : decode prog_29_method_5_code 9 = .ok (.iconst 1, 1) := by decide +kernel
theorem d3_10 : decode prog_29_method_5_code 10 = .ok (.goto 4, 3) := by decide +kernel
theorem d3_13 : decode prog_29_method_5_code 13 = .ok (.iconst 0, 1) := by decide +kernel
theorem d3_14 : decode prog_29_method_5_code 14 = .ok (.ireturn, 1) := by decide +kernel
theorem pn_3 : plainName "com/example/chainwright/chainwright/State" = true := by first | (simp [plainName, overriddenIn]; done) | decide +kernel
theorem ef_3 (m : MethodId) (x0 : Addr) (x1 : Int32) : entryFrame m #[(.ref x0), (.int x1)] 2 = mkF m 0 #[.val (.ref x0), .val (.int x1)] [] := by first | (simp [entryFrame, mkF, argsToLocals, Value.category]; done) | rfl
def Q3 (Z : State) (ob : Addr) (ii : Int32) (dl : Addr) (nn : Nat) (ff : Nat → Int32) (kk : Nat) (h0 : Heap) (n0 : Nat) (v : Option Value) (h : Heap) (L : List Loc) : Prop := v = some (.int (if ff kk = 0 then (0 : Int32) else (1 : Int32))) ∧ Fr n0 L ∧ h = h0
set_option maxRecDepth 65536 in
set_option maxHeartbeats 40000000 in
theorem rm3 (l : Launch) (Z : State) (a0 : Array Value) (hw : ∀ d ∈ tables_1, d.before a0 Z = true) (ws : List Jvm.Cond) (ob : Addr) (ii : Int32) (dl : Addr) (nn : Nat) (ff : Nat → Int32) (kk : Nat) (h0 : Heap) (n0 : Nat) (Z0 : n0 ≤ h0.size) (F1 : Fld Z h0 ob "com/example/chainwright/chainwright/State" "deadlines" "[I" (.ref dl)) (A1 : own_Ai Z h0 dl .int nn ff) (I1 : ii.toInt = (kk : Int)) (I2 : kk < nn) :
    MetFree l (⟨"com/example/chainwright/chainwright/State", "isChosen", "(I)Z"⟩ : MethodName) (head1 (Jvm.Cond.code (⟨"com/example/chainwright/chainwright/State", "isChosen", "(I)Z"⟩ : MethodName) prog_29_method_5_code 2 (some .boolean) :: ws) ({ frames := 0, cells := 0, slots := 0, locals := 0 } : Room)) (fun a U => a = #[(.ref ob), (.int ii)] ∧ Z.Warmed39 U.vm ∧ U.heap = h0) (fun _ _ _ _ _ => True) (fun _ U o U' => ∃ v L, o = .returned v ∧ Q3 Z ob ii dl nn ff kk h0 n0 v U'.heap L ∧ FrameEnd U o U' L ({ frames := 0, cells := 0, slots := 0, locals := 0 } : Room).cells ({ frames := 0, cells := 0, slots := 0, locals := 0 } : Room).slots) := by
  refine MetFree.of_bodySF (plainFor_of_name pn_3) hisR ?_
  intro p e s m args below meth c s₁ Bd hml0 hP hK
  obtain ⟨rfl, hZ, hh⟩ := hP
  have hx := Bd.exec
  have hby := Bd.bytes
  have hlk : meth.locks = false := BodyLoose.notSynchronized Bd
  have hml : c.maxLocals = 2 := hml0
  have hown : s.vm.findClass "com/example/chainwright/chainwright/State" = some m.cls := findClass_of_methodNamed Bd.named
  have hnm := (name_of_methodNamed Bd.named Bd.method).1
  have X0 : Stand p l e ({ frames := 0, cells := 0, slots := 0, locals := 0 } : Room) s m #[(.ref ob), (.int ii)] below meth c s₁ [] 0 0 := Stand.of_body Bd
  have e0 : s₁.heap = h0 := by rw [← hh, Bd.state]; rfl
  have N0 := Fr.nil n0
  show own_Go p e below (own_G s (Q3 Z ob ii dl nn ff kk h0 n0) ({ frames := 0, cells := 0, slots := 0, locals := 0 } : Room).cells ({ frames := 0, cells := 0, slots := 0, locals := 0 } : Room).slots) (s₁.setTop (entryFrame m #[(.ref ob), (.int ii)] 2))
  refine own_st (fun tgt k => castTop (ef_3 m ob ii) k) ?_
  show own_Go p e below _ (s₁.setTop (mkF m 0 #[.val (.ref ob), .val (.int ii)] []))
  refine own_st (V := s₁.setTop (mkF m 1 #[.val (.ref ob), .val (.int ii)] [(.ref ob)])) (fun tgt k => ?_) ?_
  · show Steps p.tables e below (s₁.setTop (mkF m 0 #[.val (.ref ob), .val (.int ii)] [])) tgt
    refine XS.aloadN X0.here hx rfl (hb hby d3_0) rfl rfl ?_
    exact k
  obtain ⟨T1, X1, e1, st1⟩ := getF X0 hx hZ hown (host := "") (Or.inl (hw _ (List.mem_of_getElem? (i := 10) rfl))) Via.refl e0 F1 (g := (mkF m 1 #[.val (.ref ob), .val (.int ii)] [(.ref ob)])) rfl rfl (hb hby d3_1)
  refine own_st st1 ?_
  show own_Go p e below _ (T1.setTop (mkF m 4 #[.val (.ref ob), .val (.int ii)] [(.ref dl)]))
  refine own_st (V := T1.setTop (mkF m 6 #[.val (.ref ob), .val (.int ii)] [(.int (ff kk))])) (fun tgt k => ?_) ?_
  · show Steps p.tables e below (T1.setTop (mkF m 4 #[.val (.ref ob), .val (.int ii)] [(.ref dl)])) tgt
    refine XS.iloadN X1.here hx rfl (hb hby d3_4) rfl ?_
    show Steps p.tables e below (T1.setTop (mkF m 5 #[.val (.ref ob), .val (.int ii)] [(.int ii), (.ref dl)])) tgt
    refine own_iaload X1 hx hZ e1 A1 (j := ii) (k := kk) I1 I2 (g := (mkF m 5 #[.val (.ref ob), .val (.int ii)] [(.int ii), (.ref dl)])) rfl rfl (hb hby d3_5) ?_
    exact k
  by_cases hc6 : (ff kk) = (0 : Int32)
  · skip
    refine own_st (V := T1.setTop (mkF m 14 #[.val (.ref ob), .val (.int ii)] [(.int (0 : Int32))])) (fun tgt k => ?_) ?_
    · show Steps p.tables e below (T1.setTop (mkF m 6 #[.val (.ref ob), .val (.int ii)] [(.int (ff kk))])) tgt
      refine XS.ifYes X1.here hx rfl (pc0 := 6) (pc' := 13) rfl (hb hby d3_6) rfl ((if0 _ _).trans (teq hc6).1) (by decide) (by decide) ?_
      show Steps p.tables e below (T1.setTop (mkF m 13 #[.val (.ref ob), .val (.int ii)] [])) tgt
      refine XS.iconst X1.here hx rfl (hb hby d3_13) ?_
      exact k
    refine own_retN X1 hx hlk (t := .boolean) (z' := (0 : Int32)) Bd.returns (by simp) rfl (hb hby d3_14) ?_ (by decide) (by decide)
    show Q3 Z ob ii dl nn ff kk h0 n0 (some (.int (0 : Int32))) T1.heap _
    rw [e1]
    refine ⟨?_, N0, rfl⟩
    exact congrArg (fun q => some (Value.int q)) (by rw [if_pos hc6])
  · skip
    refine own_st (V := T1.setTop (mkF m 14 #[.val (.ref ob), .val (.int ii)] [(.int (1 : Int32))])) (fun tgt k => ?_) ?_
    · show Steps p.tables e below (T1.setTop (mkF m 6 #[.val (.ref ob), .val (.int ii)] [(.int (ff kk))])) tgt
      refine XS.ifNo X1.here hx rfl (hb hby d3_6) rfl ((if0 _ _).trans (feq hc6).1) ?_
      show Steps p.tables e below (T1.setTop (mkF m 9 #[.val (.ref ob), .val (.int ii)] [])) tgt
      refine XS.iconst X1.here hx rfl (hb hby d3_9) ?_
      show Steps p.tables e below (T1.setTop (mkF m 10 #[.val (.ref ob), .val (.int ii)] [(.int (1 : Int32))])) tgt
      refine XS.goto X1.here hx rfl (pc0 := 10) (pc' := 14) rfl (hb hby d3_10) (by decide) (by decide) ?_
      exact k
    refine own_retN X1 hx hlk (t := .boolean) (z' := (1 : Int32)) Bd.returns (by simp) rfl (hb hby d3_14) ?_ (by decide) (by decide)
    show Q3 Z ob ii dl nn ff kk h0 n0 (some (.int (1 : Int32))) T1.heap _
    rw [e1]
    refine ⟨?_, N0, rfl⟩
    exact congrArg (fun q => some (Value.int q)) (by rw [if_neg hc6])
theorem d4_0 : decode prog_29_method_7_code 0 = .ok (.aload_n 0, 1) := by decide +kernel
theorem d4_1 : decode prog_29_method_7_code 1 = .ok (.iload_n 1, 1) := by decide +kernel
theorem d4_2 : decode prog_29_method_7_code 2 = .ok (.invokevirtual 20, 3) := by decide +kernel
theorem d4_5 : decode prog_29_method_7_code 5 = .ok (.ifCond .ne 13, 3) := by decide +kernel
theorem d4_8 : decode prog_29_method_7_code 8 = .ok (.aload_n 0, 1) := by decide +kernel
theorem d4_9 : decode prog_29_method_7_code 9 = .ok (.dup, 1) := by decide +kernel
theorem d4_10 : decode prog_29_method_7_code 10 = .ok (.getfield 16, 3) := by decide +kernel
theorem d4_13 : decode prog_29_method_7_code 13 = .ok (.iconst 1, 1) := by decide +kernel
theorem d4_14 : decode prog_29_method_7_code 14 = .ok (.iadd, 1) := by decide +kernel
theorem d4_15 : decode prog_29_method_7_code 15 = .ok (.putfield 16, 3) := by decide +kernel
theorem d4_18 : decode prog_29_method_7_code 18 = .ok (.aload_n 0, 1) := by decide +kernel
theorem d4_19 : decode prog_29_method_7_code 19 = .ok (.getfield 7, 3) := by decide +kernel
theorem d4_22 : decode prog_29_method_7_code 22 = .ok (.iload_n 1, 1) := by decide +kernel
theorem d4_23 : decode prog_29_method_7_code 23 = .ok (.iload_n 2, 1) := by decide +kernel
theorem d4_24 : decode prog_29_method_7_code 24 = .ok (.iastore, 1) := by decide +kernel
theorem d4_25 : decode prog_29_method_7_code 25 = .ok (.return_, 1) := by decide +kernel
theorem pn_4 : plainName "com/example/chainwright/chainwright/State" = true := by first | (simp [plainName, overriddenIn]; done) | decide +kernel
theorem pd_4_0 : parseMethodDescriptor "(I)Z" = some ⟨[.int], some .boolean⟩ := by decide +kernel
theorem ef_4 (m : MethodId) (x0 : Addr) (x1 : Int32) (x2 : Int32) : entryFrame m #[(.ref x0), (.int x1), (.int x2)] 3 = mkF m 0 #[.val (.ref x0), .val (.int x1), .val (.int x2)] [] := by first | (simp [entryFrame, mkF, argsToLocals, Value.category]; done) | rfl
def Q4 (Z : State) (ob : Addr) (ii : Int32) (vv : Int32) (dl : Addr) (nn : Nat) (ff : Nat → Int32) (kk : Nat) (fl : Addr) (sz : Int32) (h0 : Heap) (n0 : Nat) (v : Option Value) (h : Heap) (L : List Loc) : Prop := v = none ∧ Fr n0 L ∧ Keep h0 h [ob, dl] ∧ (Exa Z h ob "com/example/chainwright/chainwright/State") ∧ (Fld Z h ob "com/example/chainwright/chainwright/State" "deadlines" "[I" (.ref dl)) ∧ (Fld Z h ob "com/example/chainwright/chainwright/State" "floors" "[I" (.ref fl)) ∧ (Fld Z h ob "com/example/chainwright/chainwright/State" "size" "I" (.int (if ff kk = 0 then sz + (1 : Int32) else sz))) ∧ (own_Ai Z h dl .int nn (own_up ff kk vv))
set_option maxRecDepth 65536 in
set_option maxHeartbeats 40000000 in
theorem rm4 (l : Launch) (Z : State) (a0 : Array Value) (hw : ∀ d ∈ tables_1, d.before a0 Z = true) (ws : List Jvm.Cond) (ob : Addr) (ii : Int32) (vv : Int32) (dl : Addr) (nn : Nat) (ff : Nat → Int32) (kk : Nat) (fl : Addr) (sz : Int32) (h0 : Heap) (n0 : Nat) (Z0 : n0 ≤ h0.size) (E1 : Exa Z h0 ob "com/example/chainwright/chainwright/State") (F1 : Fld Z h0 ob "com/example/chainwright/chainwright/State" "deadlines" "[I" (.ref dl)) (F2 : Fld Z h0 ob "com/example/chainwright/chainwright/State" "floors" "[I" (.ref fl)) (F3 : Fld Z h0 ob "com/example/chainwright/chainwright/State" "size" "I" (.int sz)) (A1 : own_Ai Z h0 dl .int nn ff) (I1 : ii.toInt = (kk : Int)) (I2 : kk < nn) (G1 : n0 ≤ ob) (G2 : n0 ≤ dl) (NE : ob ≠ dl) :
    MetFree l (⟨"com/example/chainwright/chainwright/State", "choose", "(II)V"⟩ : MethodName) (head1 (Jvm.Cond.code (⟨"com/example/chainwright/chainwright/State", "choose", "(II)V"⟩ : MethodName) prog_29_method_7_code 3 none :: ws) ({ frames := 1, cells := 0, slots := 0, locals := 13 } : Room)) (fun a U => a = #[(.ref ob), (.int ii), (.int vv)] ∧ Z.Warmed39 U.vm ∧ U.heap = h0) (fun _ _ _ _ _ => True) (fun _ U o U' => ∃ v L, o = .returned v ∧ Q4 Z ob ii vv dl nn ff kk fl sz h0 n0 v U'.heap L ∧ FrameEnd U o U' L ({ frames := 1, cells := 0, slots := 0, locals := 13 } : Room).cells ({ frames := 1, cells := 0, slots := 0, locals := 13 } : Room).slots) := by
  refine MetFree.of_bodySF (plainFor_of_name pn_4) hisR ?_
  intro p e s m args below meth c s₁ Bd hml0 hP hK
  obtain ⟨rfl, hZ, hh⟩ := hP
  have hx := Bd.exec
  have hby := Bd.bytes
  have hlk : meth.locks = false := BodyLoose.notSynchronized Bd
  have hml : c.maxLocals = 3 := hml0
  have hown : s.vm.findClass "com/example/chainwright/chainwright/State" = some m.cls := findClass_of_methodNamed Bd.named
  have hnm := (name_of_methodNamed Bd.named Bd.method).1
  have X0 : Stand p l e ({ frames := 1, cells := 0, slots := 0, locals := 13 } : Room) s m #[(.ref ob), (.int ii), (.int vv)] below meth c s₁ [] 0 0 := Stand.of_body Bd
  have e0 : s₁.heap = h0 := by rw [← hh, Bd.state]; rfl
  have N0 := Fr.nil n0
  have K0 : Keep h0 h0 [ob, dl] := Keep.refl _ _
  show own_Go p e below (own_G s (Q4 Z ob ii vv dl nn ff kk fl sz h0 n0) ({ frames := 1, cells := 0, slots := 0, locals := 13 } : Room).cells ({ frames := 1, cells := 0, slots := 0, locals := 13 } : Room).slots) (s₁.setTop (entryFrame m #[(.ref ob), (.int ii), (.int vv)] 3))
  refine own_st (fun tgt k => castTop (ef_4 m ob ii vv) k) ?_
  show own_Go p e below _ (s₁.setTop (mkF m 0 #[.val (.ref ob), .val (.int ii), .val (.int vv)] []))
  refine own_st (V := s₁.setTop (mkF m 2 #[.val (.ref ob), .val (.int ii), .val (.int vv)] [(.int ii), (.ref ob)])) (fun tgt k => ?_) ?_
  · show Steps p.tables e below (s₁.setTop (mkF m 0 #[.val (.ref ob), .val (.int ii), .val (.int vv)] [])) tgt
    refine XS.aloadN X0.here hx rfl (hb hby d4_0) rfl rfl ?_
    show Steps p.tables e below (s₁.setTop (mkF m 1 #[.val (.ref ob), .val (.int ii), .val (.int vv)] [(.ref ob)])) tgt
    refine XS.iloadN X0.here hx rfl (hb hby d4_1) rfl ?_
    exact k
  obtain ⟨cq1, kq1, q1a, q1b, q1c⟩ := isOf hZ e0 E1
  obtain ⟨_, _, ⟨T1, L1, k1, n1⟩, -, X1, ⟨Lc1, hQ1, l1, y1, z1⟩, st1⟩ := X0.virtualBack hx (y := (⟨"com/example/chainwright/chainwright/State", "isChosen", "(I)Z"⟩ : MethodName)) (z := (⟨"com/example/chainwright/chainwright/State", "isChosen", "(I)Z"⟩ : MethodName)) hown (mvT hZ (hw _ (List.mem_of_getElem? (i := 27) rfl))) (mvT hZ (hw _ (List.mem_of_getElem? (i := 17) rfl))) (notFace_of_selects (args := #[]) (mvT hZ (hw _ (List.mem_of_getElem? (i := 19) rfl)))) (mvT hZ (hw _ (List.mem_of_getElem? (i := 19) rfl))) (mvT hZ (hw _ (List.mem_of_getElem? (i := 18) rfl))) (by decide) (backOf (W := 0) (rm3 l Z a0 hw [] ob ii dl nn ff kk h0 n0 Z0 F1 A1 (by first | assumption | decide | rfl) (by first | assumption | decide | rfl)) hZ (hw _ (List.mem_of_getElem? (i := 20) rfl)) (hw _ (List.mem_of_getElem? (i := 3) rfl)) (by decide) (by decide)) q1a q1c (g := (mkF m 2 #[.val (.ref ob), .val (.int ii), .val (.int vv)] [(.int ii), (.ref ob)])) rfl (by rw [hml]; rfl) (Steps.refl _) (argsL := [(.int ii)]) (rest := []) (lenOf pd_4_0 rfl) rfl (by show 2 * 0 + _ ≤ _; exact Nat.le_of_eq rfl) (hb hby d4_2) (fun _ _ => ⟨rfl, e0, (by decide : 0 + 0 ≤ _), (by decide : 0 + 0 ≤ _)⟩)
  dsimp only [Pt.U, Pt.locs, Pt.cells, Pt.slots] at X1 l1 y1 z1 st1 hQ1
  subst l1 y1 z1
  obtain ⟨rfl, N1q, K1⟩ := hQ1
  have N1 := Fr.app N0 N1q
  refine own_st (fun tgt k => st1.trans k) ?_
  show own_Go p e below _ (T1.setTop (mkF m 5 #[.val (.ref ob), .val (.int ii), .val (.int vv)] [(.int (if ff kk = 0 then (0 : Int32) else (1 : Int32)))]))
  by_cases q0 : ff kk = 0
  · skip
    rw [show (if ff kk = 0 then (0 : Int32) else (1 : Int32)) = (0 : Int32) from if_pos q0]
    refine own_st (V := T1.setTop (mkF m 10 #[.val (.ref ob), .val (.int ii), .val (.int vv)] [(.ref ob), (.ref ob)])) (fun tgt k => ?_) ?_
    · show Steps p.tables e below (T1.setTop (mkF m 5 #[.val (.ref ob), .val (.int ii), .val (.int vv)] [(.int (0 : Int32))])) tgt
      refine XS.ifNo X1.here hx rfl (hb hby d4_5) rfl ((if0 _ _).trans (teq (by decide : (0 : Int32) = (0 : Int32))).2) ?_
      show Steps p.tables e below (T1.setTop (mkF m 8 #[.val (.ref ob), .val (.int ii), .val (.int vv)] [])) tgt
      refine XS.aloadN X1.here hx rfl (hb hby d4_8) rfl rfl ?_
      show Steps p.tables e below (T1.setTop (mkF m 9 #[.val (.ref ob), .val (.int ii), .val (.int vv)] [(.ref ob)])) tgt
      refine XS.dup X1.here hx rfl (hb hby d4_9) rfl rfl ?_
      exact k
    obtain ⟨T2, X2, e2, st2⟩ := getF X1 hx hZ hown (host := "") (Or.inl (hw _ (List.mem_of_getElem? (i := 14) rfl))) Via.refl K1 F3 (g := (mkF m 10 #[.val (.ref ob), .val (.int ii), .val (.int vv)] [(.ref ob), (.ref ob)])) rfl rfl (hb hby d4_10)
    refine own_st st2 ?_
    show own_Go p e below _ (T2.setTop (mkF m 13 #[.val (.ref ob), .val (.int ii), .val (.int vv)] [(.int sz), (.ref ob)]))
    refine own_st (V := T2.setTop (mkF m 15 #[.val (.ref ob), .val (.int ii), .val (.int vv)] [(.int (sz + (1 : Int32))), (.ref ob)])) (fun tgt k => ?_) ?_
    · show Steps p.tables e below (T2.setTop (mkF m 13 #[.val (.ref ob), .val (.int ii), .val (.int vv)] [(.int sz), (.ref ob)])) tgt
      refine XS.iconst X2.here hx rfl (hb hby d4_13) ?_
      show Steps p.tables e below (T2.setTop (mkF m 14 #[.val (.ref ob), .val (.int ii), .val (.int vv)] [(.int (1 : Int32)), (.int sz), (.ref ob)])) tgt
      refine XS.iadd X2.here hx rfl (hb hby d4_14) rfl ?_
      exact k
    obtain ⟨T3, h3, X3, e3, W3, st3⟩ := putF X2 hx hZ hown (host := "") (Or.inl (hw _ (List.mem_of_getElem? (i := 14) rfl))) Via.refl e2 F3 E1 (Or.inl (hw _ (List.mem_of_getElem? (i := 15) rfl))) (hw _ (List.mem_of_getElem? (i := 2) rfl)) (ty := .int) (by decide) rfl rfl (g := (mkF m 15 #[.val (.ref ob), .val (.int ii), .val (.int vv)] [(.int (sz + (1 : Int32))), (.ref ob)])) rfl rfl (hb hby d4_15)
    have E_ob_3 := E1.wr W3
    have F_ob_deadlines_3 := Fld.other W3 F1 (Or.inr (slot_ne (Or.inr (hw _ (List.mem_of_getElem? (i := 11) rfl))) (Or.inl (hw _ (List.mem_of_getElem? (i := 15) rfl))) (by decide) (t := (.array .int)) (t' := .int) (by decide) (by decide)))
    have F_ob_floors_3 := Fld.other W3 F2 (Or.inr (slot_ne (Or.inr (hw _ (List.mem_of_getElem? (i := 13) rfl))) (Or.inl (hw _ (List.mem_of_getElem? (i := 15) rfl))) (by decide) (t := (.array .int)) (t' := .int) (by decide) (by decide)))
    have A_dl_3 := A1.other W3 (Ne.symm NE)
    have F_ob_size_3 := Fld.same W3 F3
    have N3 := Fr.snoc X3 N1 G1
    have Zs3 : n0 ≤ h3.size := Nat.le_trans Z0 (Keep.of_wr W3).1
    have Kp3 := K0.wr W3 (Or.inl (List.mem_of_getElem? (i := 0) rfl))
    refine own_st st3 ?_
    show own_Go p e below _ (T3.setTop (mkF m 18 #[.val (.ref ob), .val (.int ii), .val (.int vv)] []))
    refine own_st (V := T3.setTop (mkF m 19 #[.val (.ref ob), .val (.int ii), .val (.int vv)] [(.ref ob)])) (fun tgt k => ?_) ?_
    · show Steps p.tables e below (T3.setTop (mkF m 18 #[.val (.ref ob), .val (.int ii), .val (.int vv)] [])) tgt
      refine XS.aloadN X3.here hx rfl (hb hby d4_18) rfl rfl ?_
      exact k
    obtain ⟨T4, X4, e4, st4⟩ := getF X3 hx hZ hown (host := "") (Or.inl (hw _ (List.mem_of_getElem? (i := 10) rfl))) Via.refl e3 F_ob_deadlines_3 (g := (mkF m 19 #[.val (.ref ob), .val (.int ii), .val (.int vv)] [(.ref ob)])) rfl rfl (hb hby d4_19)
    refine own_st st4 ?_
    show own_Go p e below _ (T4.setTop (mkF m 22 #[.val (.ref ob), .val (.int ii), .val (.int vv)] [(.ref dl)]))
    refine own_st (V := T4.setTop (mkF m 24 #[.val (.ref ob), .val (.int ii), .val (.int vv)] [(.int vv), (.int ii), (.ref dl)])) (fun tgt k => ?_) ?_
    · show Steps p.tables e below (T4.setTop (mkF m 22 #[.val (.ref ob), .val (.int ii), .val (.int vv)] [(.ref dl)])) tgt
      refine XS.iloadN X4.here hx rfl (hb hby d4_22) rfl ?_
      show Steps p.tables e below (T4.setTop (mkF m 23 #[.val (.ref ob), .val (.int ii), .val (.int vv)] [(.int ii), (.ref dl)])) tgt
      refine XS.iloadN X4.here hx rfl (hb hby d4_23) rfl ?_
      exact k
    obtain ⟨T5, h5, X5, e5, W5, A_dl_5, st5⟩ := own_iastore X4 hx hZ e4 A_dl_3 (j := ii) (k := kk) I1 I2 (g := (mkF m 24 #[.val (.ref ob), .val (.int ii), .val (.int vv)] [(.int vv), (.int ii), (.ref dl)])) rfl rfl (hb hby d4_24)
    have E_ob_5 := E_ob_3.wr W5
    have F_ob_deadlines_5 := Fld.other W5 F_ob_deadlines_3 (Or.inl NE)
    have F_ob_floors_5 := Fld.other W5 F_ob_floors_3 (Or.inl NE)
    have F_ob_size_5 := Fld.other W5 F_ob_size_3 (Or.inl NE)
    have N5 := Fr.snoc X5 N3 G2
    have Zs5 : n0 ≤ h5.size := Nat.le_trans Zs3 (Keep.of_wr W5).1
    have Kp5 := Kp3.wr W5 (Or.inl (List.mem_of_getElem? (i := 1) rfl))
    refine own_st st5 ?_
    show own_Go p e below _ (T5.setTop (mkF m 25 #[.val (.ref ob), .val (.int ii), .val (.int vv)] []))
    refine own_ret0 X5 hx hlk Bd.returns (hb hby d4_25) ?_ (by decide) (by decide)
    show Q4 Z ob ii vv dl nn ff kk fl sz h0 n0 none T5.heap _
    rw [e5]
    exact ⟨rfl, N5, Kp5, E_ob_5, F_ob_deadlines_5, F_ob_floors_5, (by rw [if_pos q0]; exact F_ob_size_5), A_dl_5⟩
  · skip
    rw [show (if ff kk = 0 then (0 : Int32) else (1 : Int32)) = (1 : Int32) from if_neg q0]
    refine own_st (V := T1.setTop (mkF m 19 #[.val (.ref ob), .val (.int ii), .val (.int vv)] [(.ref ob)])) (fun tgt k => ?_) ?_
    · show Steps p.tables e below (T1.setTop (mkF m 5 #[.val (.ref ob), .val (.int ii), .val (.int vv)] [(.int (1 : Int32))])) tgt
      refine XS.ifYes X1.here hx rfl (pc0 := 5) (pc' := 18) rfl (hb hby d4_5) rfl ((if0 _ _).trans (feq (by decide : ¬ ((1 : Int32) = (0 : Int32)))).2) (by decide) (by decide) ?_
      show Steps p.tables e below (T1.setTop (mkF m 18 #[.val (.ref ob), .val (.int ii), .val (.int vv)] [])) tgt
      refine XS.aloadN X1.here hx rfl (hb hby d4_18) rfl rfl ?_
      exact k
    obtain ⟨T7, X7, e7, st7⟩ := getF X1 hx hZ hown (host := "") (Or.inl (hw _ (List.mem_of_getElem? (i := 10) rfl))) Via.refl K1 F1 (g := (mkF m 19 #[.val (.ref ob), .val (.int ii), .val (.int vv)] [(.ref ob)])) rfl rfl (hb hby d4_19)
    refine own_st st7 ?_
    show own_Go p e below _ (T7.setTop (mkF m 22 #[.val (.ref ob), .val (.int ii), .val (.int vv)] [(.ref dl)]))
    refine own_st (V := T7.setTop (mkF m 24 #[.val (.ref ob), .val (.int ii), .val (.int vv)] [(.int vv), (.int ii), (.ref dl)])) (fun tgt k => ?_) ?_
    · show Steps p.tables e below (T7.setTop (mkF m 22 #[.val (.ref ob), .val (.int ii), .val (.int vv)] [(.ref dl)])) tgt
      refine XS.iloadN X7.here hx rfl (hb hby d4_22) rfl ?_
      show Steps p.tables e below (T7.setTop (mkF m 23 #[.val (.ref ob), .val (.int ii), .val (.int vv)] [(.int ii), (.ref dl)])) tgt
      refine XS.iloadN X7.here hx rfl (hb hby d4_23) rfl ?_
      exact k
    obtain ⟨T8, h8, X8, e8, W8, A_dl_8, st8⟩ := own_iastore X7 hx hZ e7 A1 (j := ii) (k := kk) I1 I2 (g := (mkF m 24 #[.val (.ref ob), .val (.int ii), .val (.int vv)] [(.int vv), (.int ii), (.ref dl)])) rfl rfl (hb hby d4_24)
    have E_ob_8 := E1.wr W8
    have F_ob_deadlines_8 := Fld.other W8 F1 (Or.inl NE)
    have F_ob_floors_8 := Fld.other W8 F2 (Or.inl NE)
    have F_ob_size_8 := Fld.other W8 F3 (Or.inl NE)
    have N8 := Fr.snoc X8 N1 G2
    have Zs8 : n0 ≤ h8.size := Nat.le_trans Z0 (Keep.of_wr W8).1
    have Kp8 := K0.wr W8 (Or.inl (List.mem_of_getElem? (i := 1) rfl))
    refine own_st st8 ?_
    show own_Go p e below _ (T8.setTop (mkF m 25 #[.val (.ref ob), .val (.int ii), .val (.int vv)] []))
    refine own_ret0 X8 hx hlk Bd.returns (hb hby d4_25) ?_ (by decide) (by decide)
    show Q4 Z ob ii vv dl nn ff kk fl sz h0 n0 none T8.heap _
    rw [e8]
    exact ⟨rfl, N8, Kp8, E_ob_8, F_ob_deadlines_8, F_ob_floors_8, (by rw [if_neg q0]; exact F_ob_size_8), A_dl_8⟩
theorem d5_0 : decode prog_29_method_3_code 0 = .ok (.aload_n 0, 1) := by decide +kernel
theorem d5_1 : decode prog_29_method_3_code 1 = .ok (.getfield 16, 3) := by decide +kernel
theorem d5_4 : decode prog_29_method_3_code 4 = .ok (.ireturn, 1) := by decide +kernel
theorem pn_5 : plainName "com/example/chainwright/chainwright/State" = true := by first | (simp [plainName, overriddenIn]; done) | decide +kernel
theorem ef_5 (m : MethodId) (x0 : Addr) : entryFrame m #[(.ref x0)] 1 = mkF m 0 #[.val (.ref x0)] [] := by first | (simp [entryFrame, mkF, argsToLocals, Value.category]; done) | rfl
def Q5 (Z : State) (ob : Addr) (sz : Int32) (h0 : Heap) (n0 : Nat) (v : Option Value) (h : Heap) (L : List Loc) : Prop := v = some (.int sz) ∧ Fr n0 L ∧ h = h0
set_option maxRecDepth 65536 in
set_option maxHeartbeats 40000000 in
theorem rm5 (l : Launch) (Z : State) (a0 : Array Value) (hw : ∀ d ∈ tables_1, d.before a0 Z = true) (ws : List Jvm.Cond) (ob : Addr) (sz : Int32) (h0 : Heap) (n0 : Nat) (Z0 : n0 ≤ h0.size) (F3 : Fld Z h0 ob "com/example/chainwright/chainwright/State" "size" "I" (.int sz)) :
    MetFree l (⟨"com/example/chainwright/chainwright/State", "size", "()I"⟩ : MethodName) (head1 (Jvm.Cond.code (⟨"com/example/chainwright/chainwright/State", "size", "()I"⟩ : MethodName) prog_29_method_3_code 1 (some .int) :: ws) ({ frames := 0, cells := 0, slots := 0, locals := 0 } : Room)) (fun a U => a = #[(.ref ob)] ∧ Z.Warmed39 U.vm ∧ U.heap = h0) (fun _ _ _ _ _ => True) (fun _ U o U' => ∃ v L, o = .returned v ∧ Q5 Z ob sz h0 n0 v U'.heap L ∧ FrameEnd U o U' L ({ frames := 0, cells := 0, slots := 0, locals := 0 } : Room).cells ({ frames := 0, cells := 0, slots := 0, locals := 0 } : Room).slots) := by
  refine MetFree.of_bodySF (plainFor_of_name pn_5) hisR ?_
  intro p e s m args below meth c s₁ Bd hml0 hP hK
  obtain ⟨rfl, hZ, hh⟩ := hP
  have hx := Bd.exec
  have hby := Bd.bytes
  have hlk : meth.locks = false := BodyLoose.notSynchronized Bd
  have hml : c.maxLocals = 1 := hml0
  have hown : s.vm.findClass "com/example/chainwright/chainwright/State" = some m.cls := findClass_of_methodNamed Bd.named
  have hnm := (name_of_methodNamed Bd.named Bd.method).1
  have X0 : Stand p l e ({ frames := 0, cells := 0, slots := 0, locals := 0 } : Room) s m #[(.ref ob)] below meth c s₁ [] 0 0 := Stand.of_body Bd
  have e0 : s₁.heap = h0 := by rw [← hh, Bd.state]; rfl
  have N0 := Fr.nil n0
  show own_Go p e below (own_G s (Q5 Z ob sz h0 n0) ({ frames := 0, cells := 0, slots := 0, locals := 0 } : Room).cells ({ frames := 0, cells := 0, slots := 0, locals := 0 } : Room).slots) (s₁.setTop (entryFrame m #[(.ref ob)] 1))
  refine own_st (fun tgt k => castTop (ef_5 m ob) k) ?_
  show own_Go p e below _ (s₁.setTop (mkF m 0 #[.val (.ref ob)] []))
  refine own_st (V := s₁.setTop (mkF m 1 #[.val (.ref ob)] [(.ref ob)])) (fun tgt k => ?_) ?_
  · show Steps p.tables e below (s₁.setTop (mkF m 0 #[.val (.ref ob)] [])) tgt
    refine XS.aloadN X0.here hx rfl (hb hby d5_0) rfl rfl ?_
    exact k
  obtain ⟨T1, X1, e1, st1⟩ := getF X0 hx hZ hown (host := "") (Or.inl (hw _ (List.mem_of_getElem? (i := 14) rfl))) Via.refl e0 F3 (g := (mkF m 1 #[.val (.ref ob)] [(.ref ob)])) rfl rfl (hb hby d5_1)
  refine own_st st1 ?_
  show own_Go p e below _ (T1.setTop (mkF m 4 #[.val (.ref ob)] [(.int sz)]))
  refine own_retI X1 hx hlk Bd.returns (hb hby d5_4) ?_ (by decide) (by decide)
  show Q5 Z ob sz h0 n0 (some (.int sz)) T1.heap _
  rw [e1]
  exact ⟨rfl, N0, rfl⟩
theorem pn_0 : plainName "com/example/chainwright/chainwright/StateIsChosenPinLaw" = true := by first | (simp [plainName, overriddenIn]; done) | decide +kernel
theorem pd_0_0 : parseMethodDescriptor "([I[II)V" = some ⟨[(.array .int), (.array .int), .int], none⟩ := by decide +kernel
theorem pd_0_1 : parseMethodDescriptor "(I)Z" = some ⟨[.int], some .boolean⟩ := by decide +kernel
theorem pd_0_2 : parseMethodDescriptor "(II)V" = some ⟨[.int, .int], none⟩ := by decide +kernel
theorem pd_0_3 : parseMethodDescriptor "()I" = some ⟨[], some .int⟩ := by decide +kernel
theorem ef_0 (m : MethodId) (x0 : Int32) (x1 : Int32) (x2 : Int32) (x3 : Int32) (x4 : Int32) : entryFrame m #[(.int x0), (.int x1), (.int x2), (.int x3), (.int x4)] maxLocals = mkF m 0 #[.val (.int x0), .val (.int x1), .val (.int x2), .val (.int x3), .val (.int x4), .unset, .unset, .unset, .unset, .unset, .unset, .unset, .unset, .unset, .unset] [] := by first | (simp [entryFrame, mkF, argsToLocals, Value.category, maxLocals]; done) | rfl
def Q0 (Z : State) (aa : Int32) (bb : Int32) (cc : Int32) (pk : Int32) (nd : Int32) (h0 : Heap) (n0 : Nat) (v : Option Value) (h : Heap) (L : List Loc) : Prop := v = some (.int (1 : Int32)) ∧ Fr n0 L
set_option maxRecDepth 65536 in
set_option maxHeartbeats 40000000 in
theorem rm0 (l : Launch) (Z : State) (a0 : Array Value) (hw : ∀ d ∈ tables_1, d.before a0 Z = true) (ws : List Jvm.Cond) (aa : Int32) (bb : Int32) (cc : Int32) (pk : Int32) (nd : Int32) (h0 : Heap) (n0 : Nat) (Z0 : n0 ≤ h0.size) :
    MetFree l x (head1 (Jvm.Cond.code x code maxLocals ret :: ws) room_1) (fun a U => a = #[(.int aa), (.int bb), (.int cc), (.int pk), (.int nd)] ∧ Z.Warmed39 U.vm ∧ U.heap = h0) (fun _ _ _ _ _ => True) (fun _ U o U' => ∃ v L, o = .returned v ∧ Q0 Z aa bb cc pk nd h0 n0 v U'.heap L ∧ FrameEnd U o U' L 16 128) := by
  refine MetFree.of_bodySF (plainFor_of_name pn_0) hisR ?_
  intro p e s m args below meth c s₁ Bd hml0 hP hK
  obtain ⟨rfl, hZ, hh⟩ := hP
  have hx := Bd.exec
  have hby := Bd.bytes
  have hlk : meth.locks = false := BodyLoose.notSynchronized Bd
  have hml : c.maxLocals = 15 := hml0
  have hown : s.vm.findClass "com/example/chainwright/chainwright/StateIsChosenPinLaw" = some m.cls := findClass_of_methodNamed Bd.named
  have hnm := (name_of_methodNamed Bd.named Bd.method).1
  have X0 : Stand p l e room_1 s m #[(.int aa), (.int bb), (.int cc), (.int pk), (.int nd)] below meth c s₁ [] 0 0 := Stand.of_body Bd
  have e0 : s₁.heap = h0 := by rw [← hh, Bd.state]; rfl
  have N0 := Fr.nil n0
  show own_Go p e below (own_G s (Q0 Z aa bb cc pk nd h0 n0) 16 128) (s₁.setTop (entryFrame m #[(.int aa), (.int bb), (.int cc), (.int pk), (.int nd)] maxLocals))
  refine own_st (fun tgt k => castTop (ef_0 m aa bb cc pk nd) k) ?_
  show own_Go p e below _ (s₁.setTop (mkF m 0 #[.val (.int aa), .val (.int bb), .val (.int cc), .val (.int pk), .val (.int nd), .unset, .unset, .unset, .unset, .unset, .unset, .unset, .unset, .unset, .unset] []))
  refine own_st (V := s₁.setTop (mkF m 1 #[.val (.int aa), .val (.int bb), .val (.int cc), .val (.int pk), .val (.int nd), .unset, .unset, .unset, .unset, .unset, .unset, .unset, .unset, .unset, .unset] [(.int (3 : Int32))])) (fun tgt k => ?_) ?_
  · show Steps p.tables e below (s₁.setTop (mkF m 0 #[.val (.int aa), .val (.int bb), .val (.int cc), .val (.int pk), .val (.int nd), .unset, .unset, .unset, .unset, .unset, .unset, .unset, .unset, .unset, .unset] [])) tgt
    refine XS.iconst X0.here hx rfl (hb hby at_0) ?_
    exact k
  obtain ⟨T1, h1, c1, X1, e1, E1, A1, st1⟩ := own_newarr X0 hx hZ (hw _ (List.mem_of_getElem? (i := 0) rfl)) e0 (g := (mkF m 1 #[.val (.int aa), .val (.int bb), .val (.int cc), .val (.int pk), .val (.int nd), .unset, .unset, .unset, .unset, .unset, .unset, .unset, .unset, .unset, .unset] [(.int (3 : Int32))])) rfl (hb hby at_1) rfl (k := 3) rfl (cap := 3) (by decide) (by decide) (by decide) (by decide)
  obtain ⟨dv, g1⟩ : ∃ z, z = h0.size := ⟨_, rfl⟩
  rw [← g1] at A1 st1
  have g_dv : n0 ≤ dv := Nat.le_trans Z0 (Nat.le_of_eq g1.symm)
  have A_dv_1 : own_Ai Z h1 dv .int 3 (fun _ => 0) := own_Ai.new A1
  have Zs1 : n0 ≤ h1.size := Nat.le_trans Z0 E1.1
  refine own_st st1 ?_
  show own_Go p e below _ (T1.setTop (mkF m 3 #[.val (.int aa), .val (.int bb), .val (.int cc), .val (.int pk), .val (.int nd), .unset, .unset, .unset, .unset, .unset, .unset, .unset, .unset, .unset, .unset] [(.ref dv)]))
  refine own_st (V := T1.setTop (mkF m 6 #[.val (.int aa), .val (.int bb), .val (.int cc), .val (.int pk), .val (.int nd), .unset, .unset, .unset, .unset, .unset, .unset, .unset, .unset, .unset, .unset] [(.int aa), (.int (0 : Int32)), (.ref dv), (.ref dv)])) (fun tgt k => ?_) ?_
  · show Steps p.tables e below (T1.setTop (mkF m 3 #[.val (.int aa), .val (.int bb), .val (.int cc), .val (.int pk), .val (.int nd), .unset, .unset, .unset, .unset, .unset, .unset, .unset, .unset, .unset, .unset] [(.ref dv)])) tgt
    refine XS.dup X1.here hx rfl (hb hby at_3) rfl rfl ?_
    show Steps p.tables e below (T1.setTop (mkF m 4 #[.val (.int aa), .val (.int bb), .val (.int cc), .val (.int pk), .val (.int nd), .unset, .unset, .unset, .unset, .unset, .unset, .unset, .unset, .unset, .unset] [(.ref dv), (.ref dv)])) tgt
    refine XS.iconst X1.here hx rfl (hb hby at_4) ?_
    show Steps p.tables e below (T1.setTop (mkF m 5 #[.val (.int aa), .val (.int bb), .val (.int cc), .val (.int pk), .val (.int nd), .unset, .unset, .unset, .unset, .unset, .unset, .unset, .unset, .unset, .unset] [(.int (0 : Int32)), (.ref dv), (.ref dv)])) tgt
    refine XS.iloadN X1.here hx rfl (hb hby at_5) rfl ?_
    exact k
  obtain ⟨T2, h2, X2, e2, W2, A_dv_2, st2⟩ := own_iastore X1 hx hZ e1 A_dv_1 (j := (0 : Int32)) (k := 0) rfl (by decide) (g := (mkF m 6 #[.val (.int aa), .val (.int bb), .val (.int cc), .val (.int pk), .val (.int nd), .unset, .unset, .unset, .unset, .unset, .unset, .unset, .unset, .unset, .unset] [(.int aa), (.int (0 : Int32)), (.ref dv), (.ref dv)])) rfl rfl (hb hby at_6)
  have N2 := Fr.snoc X2 N0 g_dv
  have Zs2 : n0 ≤ h2.size := Nat.le_trans Zs1 (Keep.of_wr W2).1
  refine own_st st2 ?_
  show own_Go p e below _ (T2.setTop (mkF m 7 #[.val (.int aa), .val (.int bb), .val (.int cc), .val (.int pk), .val (.int nd), .unset, .unset, .unset, .unset, .unset, .unset, .unset, .unset, .unset, .unset] [(.ref dv)]))
  refine own_st (V := T2.setTop (mkF m 10 #[.val (.int aa), .val (.int bb), .val (.int cc), .val (.int pk), .val (.int nd), .unset, .unset, .unset, .unset, .unset, .unset, .unset, .unset, .unset, .unset] [(.int bb), (.int (1 : Int32)), (.ref dv), (.ref dv)])) (fun tgt k => ?_) ?_
  · show Steps p.tables e below (T2.setTop (mkF m 7 #[.val (.int aa), .val (.int bb), .val (.int cc), .val (.int pk), .val (.int nd), .unset, .unset, .unset, .unset, .unset, .unset, .unset, .unset, .unset, .unset] [(.ref dv)])) tgt
    refine XS.dup X2.here hx rfl (hb hby at_7) rfl rfl ?_
    show Steps p.tables e below (T2.setTop (mkF m 8 #[.val (.int aa), .val (.int bb), .val (.int cc), .val (.int pk), .val (.int nd), .unset, .unset, .unset, .unset, .unset, .unset, .unset, .unset, .unset, .unset] [(.ref dv), (.ref dv)])) tgt
    refine XS.iconst X2.here hx rfl (hb hby at_8) ?_
    show Steps p.tables e below (T2.setTop (mkF m 9 #[.val (.int aa), .val (.int bb), .val (.int cc), .val (.int pk), .val (.int nd), .unset, .unset, .unset, .unset, .unset, .unset, .unset, .unset, .unset, .unset] [(.int (1 : Int32)), (.ref dv), (.ref dv)])) tgt
    refine XS.iloadN X2.here hx rfl (hb hby at_9) rfl ?_
    exact k
  obtain ⟨T3, h3, X3, e3, W3, A_dv_3, st3⟩ := own_iastore X2 hx hZ e2 A_dv_2 (j := (1 : Int32)) (k := 1) rfl (by decide) (g := (mkF m 10 #[.val (.int aa), .val (.int bb), .val (.int cc), .val (.int pk), .val (.int nd), .unset, .unset, .unset, .unset, .unset, .unset, .unset, .unset, .unset, .unset] [(.int bb), (.int (1 : Int32)), (.ref dv), (.ref dv)])) rfl rfl (hb hby at_10)
  have N3 := Fr.snoc X3 N2 g_dv
  have Zs3 : n0 ≤ h3.size := Nat.le_trans Zs2 (Keep.of_wr W3).1
  refine own_st st3 ?_
  show own_Go p e below _ (T3.setTop (mkF m 11 #[.val (.int aa), .val (.int bb), .val (.int cc), .val (.int pk), .val (.int nd), .unset, .unset, .unset, .unset, .unset, .unset, .unset, .unset, .unset, .unset] [(.ref dv)]))
  refine own_st (V := T3.setTop (mkF m 14 #[.val (.int aa), .val (.int bb), .val (.int cc), .val (.int pk), .val (.int nd), .unset, .unset, .unset, .unset, .unset, .unset, .unset, .unset, .unset, .unset] [(.int cc), (.int (2 : Int32)), (.ref dv), (.ref dv)])) (fun tgt k => ?_) ?_
  · show Steps p.tables e below (T3.setTop (mkF m 11 #[.val (.int aa), .val (.int bb), .val (.int cc), .val (.int pk), .val (.int nd), .unset, .unset, .unset, .unset, .unset, .unset, .unset, .unset, .unset, .unset] [(.ref dv)])) tgt
    refine XS.dup X3.here hx rfl (hb hby at_11) rfl rfl ?_
    show Steps p.tables e below (T3.setTop (mkF m 12 #[.val (.int aa), .val (.int bb), .val (.int cc), .val (.int pk), .val (.int nd), .unset, .unset, .unset, .unset, .unset, .unset, .unset, .unset, .unset, .unset] [(.ref dv), (.ref dv)])) tgt
    refine XS.iconst X3.here hx rfl (hb hby at_12) ?_
    show Steps p.tables e below (T3.setTop (mkF m 13 #[.val (.int aa), .val (.int bb), .val (.int cc), .val (.int pk), .val (.int nd), .unset, .unset, .unset, .unset, .unset, .unset, .unset, .unset, .unset, .unset] [(.int (2 : Int32)), (.ref dv), (.ref dv)])) tgt
    refine XS.iloadN X3.here hx rfl (hb hby at_13) rfl ?_
    exact k
  obtain ⟨T4, h4, X4, e4, W4, A_dv_4, st4⟩ := own_iastore X3 hx hZ e3 A_dv_3 (j := (2 : Int32)) (k := 2) rfl (by decide) (g := (mkF m 14 #[.val (.int aa), .val (.int bb), .val (.int cc), .val (.int pk), .val (.int nd), .unset, .unset, .unset, .unset, .unset, .unset, .unset, .unset, .unset, .unset] [(.int cc), (.int (2 : Int32)), (.ref dv), (.ref dv)])) rfl rfl (hb hby at_14)
  have N4 := Fr.snoc X4 N3 g_dv
  have Zs4 : n0 ≤ h4.size := Nat.le_trans Zs3 (Keep.of_wr W4).1
  refine own_st st4 ?_
  show own_Go p e below _ (T4.setTop (mkF m 15 #[.val (.int aa), .val (.int bb), .val (.int cc), .val (.int pk), .val (.int nd), .unset, .unset, .unset, .unset, .unset, .unset, .unset, .unset, .unset, .unset] [(.ref dv)]))
  refine own_st (V := T4.setTop (mkF m 18 #[.val (.int aa), .val (.int bb), .val (.int cc), .val (.int pk), .val (.int nd), .val (.ref dv), .unset, .unset, .unset, .unset, .unset, .unset, .unset, .unset, .unset] [(.int (3 : Int32))])) (fun tgt k => ?_) ?_
  · show Steps p.tables e below (T4.setTop (mkF m 15 #[.val (.int aa), .val (.int bb), .val (.int cc), .val (.int pk), .val (.int nd), .unset, .unset, .unset, .unset, .unset, .unset, .unset, .unset, .unset, .unset] [(.ref dv)])) tgt
    refine XS.astore X4.here hx rfl (hb hby at_15) rfl rfl (l' := #[.val (.int aa), .val (.int bb), .val (.int cc), .val (.int pk), .val (.int nd), .val (.ref dv), .unset, .unset, .unset, .unset, .unset, .unset, .unset, .unset, .unset]) rfl ?_
    show Steps p.tables e below (T4.setTop (mkF m 17 #[.val (.int aa), .val (.int bb), .val (.int cc), .val (.int pk), .val (.int nd), .val (.ref dv), .unset, .unset, .unset, .unset, .unset, .unset, .unset, .unset, .unset] [])) tgt
    refine XS.iconst X4.here hx rfl (hb hby at_17) ?_
    exact k
  obtain ⟨T5, h5, c5, X5, e5, E5, A5, st5⟩ := own_newarr X4 hx hZ (hw _ (List.mem_of_getElem? (i := 0) rfl)) e4 (g := (mkF m 18 #[.val (.int aa), .val (.int bb), .val (.int cc), .val (.int pk), .val (.int nd), .val (.ref dv), .unset, .unset, .unset, .unset, .unset, .unset, .unset, .unset, .unset] [(.int (3 : Int32))])) rfl (hb hby at_18) rfl (k := 3) rfl (cap := 3) (by decide) (by decide) (by decide) (by decide)
  obtain ⟨fv, g5⟩ : ∃ z, z = h4.size := ⟨_, rfl⟩
  rw [← g5] at A5 st5
  have ne_dv_fv : dv ≠ fv := Nat.ne_of_lt (Nat.lt_of_lt_of_le A_dv_4.lt (Nat.le_of_eq g5.symm))
  have A_dv_5 := A_dv_4.ext E5
  have g_fv : n0 ≤ fv := Nat.le_trans Zs4 (Nat.le_of_eq g5.symm)
  have A_fv_5 : own_Ai Z h5 fv .int 3 (fun _ => 0) := own_Ai.new A5
  have Zs5 : n0 ≤ h5.size := Nat.le_trans Zs4 E5.1
  refine own_st st5 ?_
  show own_Go p e below _ (T5.setTop (mkF m 20 #[.val (.int aa), .val (.int bb), .val (.int cc), .val (.int pk), .val (.int nd), .val (.ref dv), .unset, .unset, .unset, .unset, .unset, .unset, .unset, .unset, .unset] [(.ref fv)]))
  refine own_st (V := T5.setTop (mkF m 23 #[.val (.int aa), .val (.int bb), .val (.int cc), .val (.int pk), .val (.int nd), .val (.ref dv), .unset, .unset, .unset, .unset, .unset, .unset, .unset, .unset, .unset] [(.int (0 : Int32)), (.int (0 : Int32)), (.ref fv), (.ref fv)])) (fun tgt k => ?_) ?_
  · show Steps p.tables e below (T5.setTop (mkF m 20 #[.val (.int aa), .val (.int bb), .val (.int cc), .val (.int pk), .val (.int nd), .val (.ref dv), .unset, .unset, .unset, .unset, .unset, .unset, .unset, .unset, .unset] [(.ref fv)])) tgt
    refine XS.dup X5.here hx rfl (hb hby at_20) rfl rfl ?_
    show Steps p.tables e below (T5.setTop (mkF m 21 #[.val (.int aa), .val (.int bb), .val (.int cc), .val (.int pk), .val (.int nd), .val (.ref dv), .unset, .unset, .unset, .unset, .unset, .unset, .unset, .unset, .unset] [(.ref fv), (.ref fv)])) tgt
    refine XS.iconst X5.here hx rfl (hb hby at_21) ?_
    show Steps p.tables e below (T5.setTop (mkF m 22 #[.val (.int aa), .val (.int bb), .val (.int cc), .val (.int pk), .val (.int nd), .val (.ref dv), .unset, .unset, .unset, .unset, .unset, .unset, .unset, .unset, .unset] [(.int (0 : Int32)), (.ref fv), (.ref fv)])) tgt
    refine XS.iconst X5.here hx rfl (hb hby at_22) ?_
    exact k
  obtain ⟨T6, h6, X6, e6, W6, A_fv_6, st6⟩ := own_iastore X5 hx hZ e5 A_fv_5 (j := (0 : Int32)) (k := 0) rfl (by decide) (g := (mkF m 23 #[.val (.int aa), .val (.int bb), .val (.int cc), .val (.int pk), .val (.int nd), .val (.ref dv), .unset, .unset, .unset, .unset, .unset, .unset, .unset, .unset, .unset] [(.int (0 : Int32)), (.int (0 : Int32)), (.ref fv), (.ref fv)])) rfl rfl (hb hby at_23)
  have A_dv_6 := A_dv_5.other W6 ne_dv_fv
  have N6 := Fr.snoc X6 N4 g_fv
  have Zs6 : n0 ≤ h6.size := Nat.le_trans Zs5 (Keep.of_wr W6).1
  refine own_st st6 ?_
  show own_Go p e below _ (T6.setTop (mkF m 24 #[.val (.int aa), .val (.int bb), .val (.int cc), .val (.int pk), .val (.int nd), .val (.ref dv), .unset, .unset, .unset, .unset, .unset, .unset, .unset, .unset, .unset] [(.ref fv)]))
  refine own_st (V := T6.setTop (mkF m 27 #[.val (.int aa), .val (.int bb), .val (.int cc), .val (.int pk), .val (.int nd), .val (.ref dv), .unset, .unset, .unset, .unset, .unset, .unset, .unset, .unset, .unset] [(.int (0 : Int32)), (.int (1 : Int32)), (.ref fv), (.ref fv)])) (fun tgt k => ?_) ?_
  · show Steps p.tables e below (T6.setTop (mkF m 24 #[.val (.int aa), .val (.int bb), .val (.int cc), .val (.int pk), .val (.int nd), .val (.ref dv), .unset, .unset, .unset, .unset, .unset, .unset, .unset, .unset, .unset] [(.ref fv)])) tgt
    refine XS.dup X6.here hx rfl (hb hby at_24) rfl rfl ?_
    show Steps p.tables e below (T6.setTop (mkF m 25 #[.val (.int aa), .val (.int bb), .val (.int cc), .val (.int pk), .val (.int nd), .val (.ref dv), .unset, .unset, .unset, .unset, .unset, .unset, .unset, .unset, .unset] [(.ref fv), (.ref fv)])) tgt
    refine XS.iconst X6.here hx rfl (hb hby at_25) ?_
    show Steps p.tables e below (T6.setTop (mkF m 26 #[.val (.int aa), .val (.int bb), .val (.int cc), .val (.int pk), .val (.int nd), .val (.ref dv), .unset, .unset, .unset, .unset, .unset, .unset, .unset, .unset, .unset] [(.int (1 : Int32)), (.ref fv), (.ref fv)])) tgt
    refine XS.iconst X6.here hx rfl (hb hby at_26) ?_
    exact k
  obtain ⟨T7, h7, X7, e7, W7, A_fv_7, st7⟩ := own_iastore X6 hx hZ e6 A_fv_6 (j := (1 : Int32)) (k := 1) rfl (by decide) (g := (mkF m 27 #[.val (.int aa), .val (.int bb), .val (.int cc), .val (.int pk), .val (.int nd), .val (.ref dv), .unset, .unset, .unset, .unset, .unset, .unset, .unset, .unset, .unset] [(.int (0 : Int32)), (.int (1 : Int32)), (.ref fv), (.ref fv)])) rfl rfl (hb hby at_27)
  have A_dv_7 := A_dv_6.other W7 ne_dv_fv
  have N7 := Fr.snoc X7 N6 g_fv
  have Zs7 : n0 ≤ h7.size := Nat.le_trans Zs6 (Keep.of_wr W7).1
  refine own_st st7 ?_
  show own_Go p e below _ (T7.setTop (mkF m 28 #[.val (.int aa), .val (.int bb), .val (.int cc), .val (.int pk), .val (.int nd), .val (.ref dv), .unset, .unset, .unset, .unset, .unset, .unset, .unset, .unset, .unset] [(.ref fv)]))
  refine own_st (V := T7.setTop (mkF m 31 #[.val (.int aa), .val (.int bb), .val (.int cc), .val (.int pk), .val (.int nd), .val (.ref dv), .unset, .unset, .unset, .unset, .unset, .unset, .unset, .unset, .unset] [(.int (0 : Int32)), (.int (2 : Int32)), (.ref fv), (.ref fv)])) (fun tgt k => ?_) ?_
  · show Steps p.tables e below (T7.setTop (mkF m 28 #[.val (.int aa), .val (.int bb), .val (.int cc), .val (.int pk), .val (.int nd), .val (.ref dv), .unset, .unset, .unset, .unset, .unset, .unset, .unset, .unset, .unset] [(.ref fv)])) tgt
    refine XS.dup X7.here hx rfl (hb hby at_28) rfl rfl ?_
    show Steps p.tables e below (T7.setTop (mkF m 29 #[.val (.int aa), .val (.int bb), .val (.int cc), .val (.int pk), .val (.int nd), .val (.ref dv), .unset, .unset, .unset, .unset, .unset, .unset, .unset, .unset, .unset] [(.ref fv), (.ref fv)])) tgt
    refine XS.iconst X7.here hx rfl (hb hby at_29) ?_
    show Steps p.tables e below (T7.setTop (mkF m 30 #[.val (.int aa), .val (.int bb), .val (.int cc), .val (.int pk), .val (.int nd), .val (.ref dv), .unset, .unset, .unset, .unset, .unset, .unset, .unset, .unset, .unset] [(.int (2 : Int32)), (.ref fv), (.ref fv)])) tgt
    refine XS.iconst X7.here hx rfl (hb hby at_30) ?_
    exact k
  obtain ⟨T8, h8, X8, e8, W8, A_fv_8, st8⟩ := own_iastore X7 hx hZ e7 A_fv_7 (j := (2 : Int32)) (k := 2) rfl (by decide) (g := (mkF m 31 #[.val (.int aa), .val (.int bb), .val (.int cc), .val (.int pk), .val (.int nd), .val (.ref dv), .unset, .unset, .unset, .unset, .unset, .unset, .unset, .unset, .unset] [(.int (0 : Int32)), (.int (2 : Int32)), (.ref fv), (.ref fv)])) rfl rfl (hb hby at_31)
  have A_dv_8 := A_dv_7.other W8 ne_dv_fv
  have N8 := Fr.snoc X8 N7 g_fv
  have Zs8 : n0 ≤ h8.size := Nat.le_trans Zs7 (Keep.of_wr W8).1
  refine own_st st8 ?_
  show own_Go p e below _ (T8.setTop (mkF m 32 #[.val (.int aa), .val (.int bb), .val (.int cc), .val (.int pk), .val (.int nd), .val (.ref dv), .unset, .unset, .unset, .unset, .unset, .unset, .unset, .unset, .unset] [(.ref fv)]))
  refine own_st (V := T8.setTop (mkF m 34 #[.val (.int aa), .val (.int bb), .val (.int cc), .val (.int pk), .val (.int nd), .val (.ref dv), .val (.ref fv), .unset, .unset, .unset, .unset, .unset, .unset, .unset, .unset] [])) (fun tgt k => ?_) ?_
  · show Steps p.tables e below (T8.setTop (mkF m 32 #[.val (.int aa), .val (.int bb), .val (.int cc), .val (.int pk), .val (.int nd), .val (.ref dv), .unset, .unset, .unset, .unset, .unset, .unset, .unset, .unset, .unset] [(.ref fv)])) tgt
    refine XS.astore X8.here hx rfl (hb hby at_32) rfl rfl (l' := #[.val (.int aa), .val (.int bb), .val (.int cc), .val (.int pk), .val (.int nd), .val (.ref dv), .val (.ref fv), .unset, .unset, .unset, .unset, .unset, .unset, .unset, .unset]) rfl ?_
    exact k
  obtain ⟨T9, h9, X9, e9, E9, A9, D9, -, st9⟩ := newO X8 hx hZ hown (hw _ (List.mem_of_getElem? (i := 1) rfl)) (hw _ (List.mem_of_getElem? (i := 2) rfl)) (hw _ (List.mem_of_getElem? (i := 3) rfl)) e8 (g := (mkF m 34 #[.val (.int aa), .val (.int bb), .val (.int cc), .val (.int pk), .val (.int nd), .val (.ref dv), .val (.ref fv), .unset, .unset, .unset, .unset, .unset, .unset, .unset, .unset] [])) rfl (hb hby at_34) (by decide) (by decide)
  obtain ⟨sv, g9⟩ : ∃ z, z = h8.size := ⟨_, rfl⟩
  rw [← g9] at A9 D9 st9
  have ne_dv_sv : dv ≠ sv := Nat.ne_of_lt (Nat.lt_of_lt_of_le A_dv_8.lt (Nat.le_of_eq g9.symm))
  have ne_fv_sv : fv ≠ sv := Nat.ne_of_lt (Nat.lt_of_lt_of_le A_fv_8.lt (Nat.le_of_eq g9.symm))
  have A_dv_9 := A_dv_8.ext E9
  have A_fv_9 := A_fv_8.ext E9
  have g_sv : n0 ≤ sv := Nat.le_trans Zs8 (Nat.le_of_eq g9.symm)
  have Zs9 : n0 ≤ h9.size := Nat.le_trans Zs8 E9.1
  have F_sv_deadlines_9 : Fld Z h9 sv "com/example/chainwright/chainwright/State" "deadlines" "[I" .null := D9 (Or.inr (hw _ (List.mem_of_getElem? (i := 11) rfl))) (ty := (.array .int)) (by decide)
  have F_sv_floors_9 : Fld Z h9 sv "com/example/chainwright/chainwright/State" "floors" "[I" .null := D9 (Or.inr (hw _ (List.mem_of_getElem? (i := 13) rfl))) (ty := (.array .int)) (by decide)
  have F_sv_size_9 : Fld Z h9 sv "com/example/chainwright/chainwright/State" "size" "I" (.int (0 : Int32)) := D9 (Or.inl (hw _ (List.mem_of_getElem? (i := 15) rfl))) (ty := .int) (by decide)
  refine own_st st9 ?_
  show own_Go p e below _ (T9.setTop (mkF m 37 #[.val (.int aa), .val (.int bb), .val (.int cc), .val (.int pk), .val (.int nd), .val (.ref dv), .val (.ref fv), .unset, .unset, .unset, .unset, .unset, .unset, .unset, .unset] [(.ref sv)]))
  refine own_st (V := T9.setTop (mkF m 43 #[.val (.int aa), .val (.int bb), .val (.int cc), .val (.int pk), .val (.int nd), .val (.ref dv), .val (.ref fv), .unset, .unset, .unset, .unset, .unset, .unset, .unset, .unset] [(.int (0 : Int32)), (.ref fv), (.ref dv), (.ref sv), (.ref sv)])) (fun tgt k => ?_) ?_
  · show Steps p.tables e below (T9.setTop (mkF m 37 #[.val (.int aa), .val (.int bb), .val (.int cc), .val (.int pk), .val (.int nd), .val (.ref dv), .val (.ref fv), .unset, .unset, .unset, .unset, .unset, .unset, .unset, .unset] [(.ref sv)])) tgt
    refine XS.dup X9.here hx rfl (hb hby at_37) rfl rfl ?_
    show Steps p.tables e below (T9.setTop (mkF m 38 #[.val (.int aa), .val (.int bb), .val (.int cc), .val (.int pk), .val (.int nd), .val (.ref dv), .val (.ref fv), .unset, .unset, .unset, .unset, .unset, .unset, .unset, .unset] [(.ref sv), (.ref sv)])) tgt
    refine XS.aload X9.here hx rfl (hb hby at_38) rfl rfl ?_
    show Steps p.tables e below (T9.setTop (mkF m 40 #[.val (.int aa), .val (.int bb), .val (.int cc), .val (.int pk), .val (.int nd), .val (.ref dv), .val (.ref fv), .unset, .unset, .unset, .unset, .unset, .unset, .unset, .unset] [(.ref dv), (.ref sv), (.ref sv)])) tgt
    refine XS.aload X9.here hx rfl (hb hby at_40) rfl rfl ?_
    show Steps p.tables e below (T9.setTop (mkF m 42 #[.val (.int aa), .val (.int bb), .val (.int cc), .val (.int pk), .val (.int nd), .val (.ref dv), .val (.ref fv), .unset, .unset, .unset, .unset, .unset, .unset, .unset, .unset] [(.ref fv), (.ref dv), (.ref sv), (.ref sv)])) tgt
    refine XS.iconst X9.here hx rfl (hb hby at_42) ?_
    exact k
  obtain ⟨_, _, ⟨T10, L10, k10, n10⟩, -, X10, ⟨Lc10, hQ10, l10, y10, z10⟩, st10⟩ := X9.specialBack hx (y := (⟨"com/example/chainwright/chainwright/State", "<init>", "([I[II)V"⟩ : MethodName)) rfl hown (mvT hZ (hw _ (List.mem_of_getElem? (i := 4) rfl))) (mvT hZ (hw _ (List.mem_of_getElem? (i := 5) rfl))) (mvT hZ (hw _ (List.mem_of_getElem? (i := 6) rfl))) (by decide) (backOf (W := 1) (rm1 l Z a0 hw [] sv dv fv (0 : Int32) h9 n0 Zs9 A9 F_sv_deadlines_9 F_sv_floors_9 F_sv_size_9 g_sv) hZ (hw _ (List.mem_of_getElem? (i := 6) rfl)) (hw _ (List.mem_of_getElem? (i := 3) rfl)) (by decide) (by decide)) (g := (mkF m 43 #[.val (.int aa), .val (.int bb), .val (.int cc), .val (.int pk), .val (.int nd), .val (.ref dv), .val (.ref fv), .unset, .unset, .unset, .unset, .unset, .unset, .unset, .unset] [(.int (0 : Int32)), (.ref fv), (.ref dv), (.ref sv), (.ref sv)])) rfl (by rw [hml]; rfl) (Steps.refl _) (a := sv) (argsL := [(.ref dv), (.ref fv), (.int (0 : Int32))]) (rest := [(.ref sv)]) (lenOf pd_0_0 rfl) rfl (by show 2 * 0 + _ ≤ _; exact Nat.le_of_eq rfl) (hb hby at_43) (fun _ _ => ⟨rfl, e9, (by decide : 3 + 0 ≤ _), (by decide : 9 + 0 ≤ _)⟩)
  dsimp only [Pt.U, Pt.locs, Pt.cells, Pt.slots] at X10 l10 y10 z10 st10 hQ10
  subst l10 y10 z10
  obtain ⟨rfl, N10q, K10, g10_0, g10_1, g10_2, g10_3⟩ := hQ10
  have N10 := Fr.app N8 N10q
  have A_dv_10 := A_dv_9.keep K10 (ninS ne_dv_sv nin0)
  have A_fv_10 := A_fv_9.keep K10 (ninS ne_fv_sv nin0)
  have E_sv_10 := A9.keep K10
  have Zs10 : n0 ≤ T10.heap.size := Nat.le_trans Zs9 K10.1
  refine own_st (fun tgt k => st10.trans k) ?_
  show own_Go p e below _ (T10.setTop (mkF m 46 #[.val (.int aa), .val (.int bb), .val (.int cc), .val (.int pk), .val (.int nd), .val (.ref dv), .val (.ref fv), .unset, .unset, .unset, .unset, .unset, .unset, .unset, .unset] [(.ref sv)]))
  refine own_st (V := T10.setTop (mkF m 51 #[.val (.int aa), .val (.int bb), .val (.int cc), .val (.int pk), .val (.int nd), .val (.ref dv), .val (.ref fv), .val (.ref sv), .unset, .unset, .unset, .unset, .unset, .unset, .unset] [(.int (0 : Int32)), (.ref sv)])) (fun tgt k => ?_) ?_
  · show Steps p.tables e below (T10.setTop (mkF m 46 #[.val (.int aa), .val (.int bb), .val (.int cc), .val (.int pk), .val (.int nd), .val (.ref dv), .val (.ref fv), .unset, .unset, .unset, .unset, .unset, .unset, .unset, .unset] [(.ref sv)])) tgt
    refine XS.astore X10.here hx rfl (hb hby at_46) rfl rfl (l' := #[.val (.int aa), .val (.int bb), .val (.int cc), .val (.int pk), .val (.int nd), .val (.ref dv), .val (.ref fv), .val (.ref sv), .unset, .unset, .unset, .unset, .unset, .unset, .unset]) rfl ?_
    show Steps p.tables e below (T10.setTop (mkF m 48 #[.val (.int aa), .val (.int bb), .val (.int cc), .val (.int pk), .val (.int nd), .val (.ref dv), .val (.ref fv), .val (.ref sv), .unset, .unset, .unset, .unset, .unset, .unset, .unset] [])) tgt
    refine XS.aload X10.here hx rfl (hb hby at_48) rfl rfl ?_
    show Steps p.tables e below (T10.setTop (mkF m 50 #[.val (.int aa), .val (.int bb), .val (.int cc), .val (.int pk), .val (.int nd), .val (.ref dv), .val (.ref fv), .val (.ref sv), .unset, .unset, .unset, .unset, .unset, .unset, .unset] [(.ref sv)])) tgt
    refine XS.iconst X10.here hx rfl (hb hby at_50) ?_
    exact k
  obtain ⟨cq11, kq11, q11a, q11b, q11c⟩ := isOf hZ rfl g10_0
  obtain ⟨_, _, ⟨T11, L11, k11, n11⟩, -, X11, ⟨Lc11, hQ11, l11, y11, z11⟩, st11⟩ := X10.virtualBack hx (y := (⟨"com/example/chainwright/chainwright/State", "isChosen", "(I)Z"⟩ : MethodName)) (z := (⟨"com/example/chainwright/chainwright/State", "isChosen", "(I)Z"⟩ : MethodName)) hown (mvT hZ (hw _ (List.mem_of_getElem? (i := 16) rfl))) (mvT hZ (hw _ (List.mem_of_getElem? (i := 17) rfl))) (notFace_of_selects (args := #[]) (mvT hZ (hw _ (List.mem_of_getElem? (i := 19) rfl)))) (mvT hZ (hw _ (List.mem_of_getElem? (i := 19) rfl))) (mvT hZ (hw _ (List.mem_of_getElem? (i := 18) rfl))) (by decide) (backOf (W := 0) (rm3 l Z a0 hw [] sv (0 : Int32) dv 3 (own_up (own_up (own_up (fun _ => 0) 0 aa) 1 bb) 2 cc) 0 T10.heap n0 Zs10 g10_1 A_dv_10 (by first | assumption | decide | rfl) (by first | assumption | decide | rfl)) hZ (hw _ (List.mem_of_getElem? (i := 20) rfl)) (hw _ (List.mem_of_getElem? (i := 3) rfl)) (by decide) (by decide)) q11a q11c (g := (mkF m 51 #[.val (.int aa), .val (.int bb), .val (.int cc), .val (.int pk), .val (.int nd), .val (.ref dv), .val (.ref fv), .val (.ref sv), .unset, .unset, .unset, .unset, .unset, .unset, .unset] [(.int (0 : Int32)), (.ref sv)])) rfl (by rw [hml]; rfl) (Steps.refl _) (argsL := [(.int (0 : Int32))]) (rest := []) (lenOf pd_0_1 rfl) rfl (by show 2 * 0 + _ ≤ _; exact Nat.le_of_eq rfl) (hb hby at_51) (fun _ _ => ⟨rfl, rfl, (by decide : 3 + 0 ≤ _), (by decide : 9 + 0 ≤ _)⟩)
  dsimp only [Pt.U, Pt.locs, Pt.cells, Pt.slots] at X11 l11 y11 z11 st11 hQ11
  subst l11 y11 z11
  obtain ⟨rfl, N11q, K11⟩ := hQ11
  have N11 := Fr.app N10 N11q
  refine own_st (fun tgt k => st11.trans k) ?_
  show own_Go p e below _ (T11.setTop (mkF m 54 #[.val (.int aa), .val (.int bb), .val (.int cc), .val (.int pk), .val (.int nd), .val (.ref dv), .val (.ref fv), .val (.ref sv), .unset, .unset, .unset, .unset, .unset, .unset, .unset] [(.int (if (own_up (own_up (own_up (fun _ => 0) 0 aa) 1 bb) 2 cc) 0 = 0 then (0 : Int32) else (1 : Int32)))]))
  refine own_st (V := T11.setTop (mkF m 55 #[.val (.int aa), .val (.int bb), .val (.int cc), .val (.int pk), .val (.int nd), .val (.ref dv), .val (.ref fv), .val (.ref sv), .unset, .unset, .unset, .unset, .unset, .unset, .unset] [(.int aa), (.int (if (own_up (own_up (own_up (fun _ => 0) 0 aa) 1 bb) 2 cc) 0 = 0 then (0 : Int32) else (1 : Int32)))])) (fun tgt k => ?_) ?_
  · show Steps p.tables e below (T11.setTop (mkF m 54 #[.val (.int aa), .val (.int bb), .val (.int cc), .val (.int pk), .val (.int nd), .val (.ref dv), .val (.ref fv), .val (.ref sv), .unset, .unset, .unset, .unset, .unset, .unset, .unset] [(.int (if (own_up (own_up (own_up (fun _ => 0) 0 aa) 1 bb) 2 cc) 0 = 0 then (0 : Int32) else (1 : Int32)))])) tgt
    refine XS.iloadN X11.here hx rfl (hb hby at_54) rfl ?_
    exact k
  obtain ⟨u0, hu0⟩ : ∃ z : Int32, z = (if aa = (0 : Int32) then (0 : Int32) else (1 : Int32)) := ⟨_, rfl⟩
  refine own_st (V := T11.setTop (mkF m 63 #[.val (.int aa), .val (.int bb), .val (.int cc), .val (.int pk), .val (.int nd), .val (.ref dv), .val (.ref fv), .val (.ref sv), .unset, .unset, .unset, .unset, .unset, .unset, .unset] [(.int u0), (.int (if (own_up (own_up (own_up (fun _ => 0) 0 aa) 1 bb) 2 cc) 0 = 0 then (0 : Int32) else (1 : Int32)))])) (fun tgt k => ?_) ?_
  · skip
    by_cases hc55_2 : aa = (0 : Int32)
    · skip
      rw [if_pos hc55_2] at hu0
      show Steps p.tables e below (T11.setTop (mkF m 55 #[.val (.int aa), .val (.int bb), .val (.int cc), .val (.int pk), .val (.int nd), .val (.ref dv), .val (.ref fv), .val (.ref sv), .unset, .unset, .unset, .unset, .unset, .unset, .unset] [(.int aa), (.int (if (own_up (own_up (own_up (fun _ => 0) 0 aa) 1 bb) 2 cc) 0 = 0 then (0 : Int32) else (1 : Int32)))])) tgt
      refine XS.ifYes X11.here hx rfl (pc0 := 55) (pc' := 62) rfl (hb hby at_55) rfl ((if0 _ _).trans (teq hc55_2).1) (by decide) (by decide) ?_
      show Steps p.tables e below (T11.setTop (mkF m 62 #[.val (.int aa), .val (.int bb), .val (.int cc), .val (.int pk), .val (.int nd), .val (.ref dv), .val (.ref fv), .val (.ref sv), .unset, .unset, .unset, .unset, .unset, .unset, .unset] [(.int (if (own_up (own_up (own_up (fun _ => 0) 0 aa) 1 bb) 2 cc) 0 = 0 then (0 : Int32) else (1 : Int32)))])) tgt
      refine XS.iconst X11.here hx rfl (hb hby at_62) ?_
      rw [hu0] at k
      exact k
    · skip
      rw [if_neg hc55_2] at hu0
      show Steps p.tables e below (T11.setTop (mkF m 55 #[.val (.int aa), .val (.int bb), .val (.int cc), .val (.int pk), .val (.int nd), .val (.ref dv), .val (.ref fv), .val (.ref sv), .unset, .unset, .unset, .unset, .unset, .unset, .unset] [(.int aa), (.int (if (own_up (own_up (own_up (fun _ => 0) 0 aa) 1 bb) 2 cc) 0 = 0 then (0 : Int32) else (1 : Int32)))])) tgt
      refine XS.ifNo X11.here hx rfl (hb hby at_55) rfl ((if0 _ _).trans (feq hc55_2).1) ?_
      show Steps p.tables e below (T11.setTop (mkF m 58 #[.val (.int aa), .val (.int bb), .val (.int cc), .val (.int pk), .val (.int nd), .val (.ref dv), .val (.ref fv), .val (.ref sv), .unset, .unset, .unset, .unset, .unset, .unset, .unset] [(.int (if (own_up (own_up (own_up (fun _ => 0) 0 aa) 1 bb) 2 cc) 0 = 0 then (0 : Int32) else (1 : Int32)))])) tgt
      refine XS.iconst X11.here hx rfl (hb hby at_58) ?_
      show Steps p.tables e below (T11.setTop (mkF m 59 #[.val (.int aa), .val (.int bb), .val (.int cc), .val (.int pk), .val (.int nd), .val (.ref dv), .val (.ref fv), .val (.ref sv), .unset, .unset, .unset, .unset, .unset, .unset, .unset] [(.int (1 : Int32)), (.int (if (own_up (own_up (own_up (fun _ => 0) 0 aa) 1 bb) 2 cc) 0 = 0 then (0 : Int32) else (1 : Int32)))])) tgt
      refine XS.goto X11.here hx rfl (pc0 := 59) (pc' := 63) rfl (hb hby at_59) (by decide) (by decide) ?_
      rw [hu0] at k
      exact k
  refine own_st (V := T11.setTop (mkF m 69 #[.val (.int aa), .val (.int bb), .val (.int cc), .val (.int pk), .val (.int nd), .val (.ref dv), .val (.ref fv), .val (.ref sv), .unset, .unset, .unset, .unset, .unset, .unset, .unset] [(.int (1 : Int32)), (.ref sv)])) (fun tgt k => ?_) ?_
  · show Steps p.tables e below (T11.setTop (mkF m 63 #[.val (.int aa), .val (.int bb), .val (.int cc), .val (.int pk), .val (.int nd), .val (.ref dv), .val (.ref fv), .val (.ref sv), .unset, .unset, .unset, .unset, .unset, .unset, .unset] [(.int u0), (.int (if (own_up (own_up (own_up (fun _ => 0) 0 aa) 1 bb) 2 cc) 0 = 0 then (0 : Int32) else (1 : Int32)))])) tgt
    refine XS.icmpNo X11.here hx rfl (hb hby at_63) rfl (teq (by simp [own_up, hu0])).2 ?_
    show Steps p.tables e below (T11.setTop (mkF m 66 #[.val (.int aa), .val (.int bb), .val (.int cc), .val (.int pk), .val (.int nd), .val (.ref dv), .val (.ref fv), .val (.ref sv), .unset, .unset, .unset, .unset, .unset, .unset, .unset] [])) tgt
    refine XS.aload X11.here hx rfl (hb hby at_66) rfl rfl ?_
    show Steps p.tables e below (T11.setTop (mkF m 68 #[.val (.int aa), .val (.int bb), .val (.int cc), .val (.int pk), .val (.int nd), .val (.ref dv), .val (.ref fv), .val (.ref sv), .unset, .unset, .unset, .unset, .unset, .unset, .unset] [(.ref sv)])) tgt
    refine XS.iconst X11.here hx rfl (hb hby at_68) ?_
    exact k
  obtain ⟨cq12, kq12, q12a, q12b, q12c⟩ := isOf hZ K11 g10_0
  obtain ⟨_, _, ⟨T12, L12, k12, n12⟩, -, X12, ⟨Lc12, hQ12, l12, y12, z12⟩, st12⟩ := X11.virtualBack hx (y := (⟨"com/example/chainwright/chainwright/State", "isChosen", "(I)Z"⟩ : MethodName)) (z := (⟨"com/example/chainwright/chainwright/State", "isChosen", "(I)Z"⟩ : MethodName)) hown (mvT hZ (hw _ (List.mem_of_getElem? (i := 16) rfl))) (mvT hZ (hw _ (List.mem_of_getElem? (i := 17) rfl))) (notFace_of_selects (args := #[]) (mvT hZ (hw _ (List.mem_of_getElem? (i := 19) rfl)))) (mvT hZ (hw _ (List.mem_of_getElem? (i := 19) rfl))) (mvT hZ (hw _ (List.mem_of_getElem? (i := 18) rfl))) (by decide) (backOf (W := 0) (rm3 l Z a0 hw [] sv (1 : Int32) dv 3 (own_up (own_up (own_up (fun _ => 0) 0 aa) 1 bb) 2 cc) 1 T10.heap n0 Zs10 g10_1 A_dv_10 (by first | assumption | decide | rfl) (by first | assumption | decide | rfl)) hZ (hw _ (List.mem_of_getElem? (i := 20) rfl)) (hw _ (List.mem_of_getElem? (i := 3) rfl)) (by decide) (by decide)) q12a q12c (g := (mkF m 69 #[.val (.int aa), .val (.int bb), .val (.int cc), .val (.int pk), .val (.int nd), .val (.ref dv), .val (.ref fv), .val (.ref sv), .unset, .unset, .unset, .unset, .unset, .unset, .unset] [(.int (1 : Int32)), (.ref sv)])) rfl (by rw [hml]; rfl) (Steps.refl _) (argsL := [(.int (1 : Int32))]) (rest := []) (lenOf pd_0_1 rfl) rfl (by show 2 * 0 + _ ≤ _; exact Nat.le_of_eq rfl) (hb hby at_69) (fun _ _ => ⟨rfl, K11, (by decide : 3 + 0 ≤ _), (by decide : 9 + 0 ≤ _)⟩)
  dsimp only [Pt.U, Pt.locs, Pt.cells, Pt.slots] at X12 l12 y12 z12 st12 hQ12
  subst l12 y12 z12
  obtain ⟨rfl, N12q, K12⟩ := hQ12
  have N12 := Fr.app N11 N12q
  refine own_st (fun tgt k => st12.trans k) ?_
  show own_Go p e below _ (T12.setTop (mkF m 72 #[.val (.int aa), .val (.int bb), .val (.int cc), .val (.int pk), .val (.int nd), .val (.ref dv), .val (.ref fv), .val (.ref sv), .unset, .unset, .unset, .unset, .unset, .unset, .unset] [(.int (if (own_up (own_up (own_up (fun _ => 0) 0 aa) 1 bb) 2 cc) 1 = 0 then (0 : Int32) else (1 : Int32)))]))
  refine own_st (V := T12.setTop (mkF m 73 #[.val (.int aa), .val (.int bb), .val (.int cc), .val (.int pk), .val (.int nd), .val (.ref dv), .val (.ref fv), .val (.ref sv), .unset, .unset, .unset, .unset, .unset, .unset, .unset] [(.int bb), (.int (if (own_up (own_up (own_up (fun _ => 0) 0 aa) 1 bb) 2 cc) 1 = 0 then (0 : Int32) else (1 : Int32)))])) (fun tgt k => ?_) ?_
  · show Steps p.tables e below (T12.setTop (mkF m 72 #[.val (.int aa), .val (.int bb), .val (.int cc), .val (.int pk), .val (.int nd), .val (.ref dv), .val (.ref fv), .val (.ref sv), .unset, .unset, .unset, .unset, .unset, .unset, .unset] [(.int (if (own_up (own_up (own_up (fun _ => 0) 0 aa) 1 bb) 2 cc) 1 = 0 then (0 : Int32) else (1 : Int32)))])) tgt
    refine XS.iloadN X12.here hx rfl (hb hby at_72) rfl ?_
    exact k
  obtain ⟨u1, hu1⟩ : ∃ z : Int32, z = (if bb = (0 : Int32) then (0 : Int32) else (1 : Int32)) := ⟨_, rfl⟩
  refine own_st (V := T12.setTop (mkF m 81 #[.val (.int aa), .val (.int bb), .val (.int cc), .val (.int pk), .val (.int nd), .val (.ref dv), .val (.ref fv), .val (.ref sv), .unset, .unset, .unset, .unset, .unset, .unset, .unset] [(.int u1), (.int (if (own_up (own_up (own_up (fun _ => 0) 0 aa) 1 bb) 2 cc) 1 = 0 then (0 : Int32) else (1 : Int32)))])) (fun tgt k => ?_) ?_
  · skip
    by_cases hc73_2 : bb = (0 : Int32)
    · skip
      rw [if_pos hc73_2] at hu1
      show Steps p.tables e below (T12.setTop (mkF m 73 #[.val (.int aa), .val (.int bb), .val (.int cc), .val (.int pk), .val (.int nd), .val (.ref dv), .val (.ref fv), .val (.ref sv), .unset, .unset, .unset, .unset, .unset, .unset, .unset] [(.int bb), (.int (if (own_up (own_up (own_up (fun _ => 0) 0 aa) 1 bb) 2 cc) 1 = 0 then (0 : Int32) else (1 : Int32)))])) tgt
      refine XS.ifYes X12.here hx rfl (pc0 := 73) (pc' := 80) rfl (hb hby at_73) rfl ((if0 _ _).trans (teq hc73_2).1) (by decide) (by decide) ?_
      show Steps p.tables e below (T12.setTop (mkF m 80 #[.val (.int aa), .val (.int bb), .val (.int cc), .val (.int pk), .val (.int nd), .val (.ref dv), .val (.ref fv), .val (.ref sv), .unset, .unset, .unset, .unset, .unset, .unset, .unset] [(.int (if (own_up (own_up (own_up (fun _ => 0) 0 aa) 1 bb) 2 cc) 1 = 0 then (0 : Int32) else (1 : Int32)))])) tgt
      refine XS.iconst X12.here hx rfl (hb hby at_80) ?_
      rw [hu1] at k
      exact k
    · skip
      rw [if_neg hc73_2] at hu1
      show Steps p.tables e below (T12.setTop (mkF m 73 #[.val (.int aa), .val (.int bb), .val (.int cc), .val (.int pk), .val (.int nd), .val (.ref dv), .val (.ref fv), .val (.ref sv), .unset, .unset, .unset, .unset, .unset, .unset, .unset] [(.int bb), (.int (if (own_up (own_up (own_up (fun _ => 0) 0 aa) 1 bb) 2 cc) 1 = 0 then (0 : Int32) else (1 : Int32)))])) tgt
      refine XS.ifNo X12.here hx rfl (hb hby at_73) rfl ((if0 _ _).trans (feq hc73_2).1) ?_
      show Steps p.tables e below (T12.setTop (mkF m 76 #[.val (.int aa), .val (.int bb), .val (.int cc), .val (.int pk), .val (.int nd), .val (.ref dv), .val (.ref fv), .val (.ref sv), .unset, .unset, .unset, .unset, .unset, .unset, .unset] [(.int (if (own_up (own_up (own_up (fun _ => 0) 0 aa) 1 bb) 2 cc) 1 = 0 then (0 : Int32) else (1 : Int32)))])) tgt
      refine XS.iconst X12.here hx rfl (hb hby at_76) ?_
      show Steps p.tables e below (T12.setTop (mkF m 77 #[.val (.int aa), .val (.int bb), .val (.int cc), .val (.int pk), .val (.int nd), .val (.ref dv), .val (.ref fv), .val (.ref sv), .unset, .unset, .unset, .unset, .unset, .unset, .unset] [(.int (1 : Int32)), (.int (if (own_up (own_up (own_up (fun _ => 0) 0 aa) 1 bb) 2 cc) 1 = 0 then (0 : Int32) else (1 : Int32)))])) tgt
      refine XS.goto X12.here hx rfl (pc0 := 77) (pc' := 81) rfl (hb hby at_77) (by decide) (by decide) ?_
      rw [hu1] at k
      exact k
  refine own_st (V := T12.setTop (mkF m 87 #[.val (.int aa), .val (.int bb), .val (.int cc), .val (.int pk), .val (.int nd), .val (.ref dv), .val (.ref fv), .val (.ref sv), .unset, .unset, .unset, .unset, .unset, .unset, .unset] [(.int (2 : Int32)), (.ref sv)])) (fun tgt k => ?_) ?_
  · show Steps p.tables e below (T12.setTop (mkF m 81 #[.val (.int aa), .val (.int bb), .val (.int cc), .val (.int pk), .val (.int nd), .val (.ref dv), .val (.ref fv), .val (.ref sv), .unset, .unset, .unset, .unset, .unset, .unset, .unset] [(.int u1), (.int (if (own_up (own_up (own_up (fun _ => 0) 0 aa) 1 bb) 2 cc) 1 = 0 then (0 : Int32) else (1 : Int32)))])) tgt
    refine XS.icmpNo X12.here hx rfl (hb hby at_81) rfl (teq (by simp [own_up, hu1])).2 ?_
    show Steps p.tables e below (T12.setTop (mkF m 84 #[.val (.int aa), .val (.int bb), .val (.int cc), .val (.int pk), .val (.int nd), .val (.ref dv), .val (.ref fv), .val (.ref sv), .unset, .unset, .unset, .unset, .unset, .unset, .unset] [])) tgt
    refine XS.aload X12.here hx rfl (hb hby at_84) rfl rfl ?_
    show Steps p.tables e below (T12.setTop (mkF m 86 #[.val (.int aa), .val (.int bb), .val (.int cc), .val (.int pk), .val (.int nd), .val (.ref dv), .val (.ref fv), .val (.ref sv), .unset, .unset, .unset, .unset, .unset, .unset, .unset] [(.ref sv)])) tgt
    refine XS.iconst X12.here hx rfl (hb hby at_86) ?_
    exact k
  obtain ⟨cq13, kq13, q13a, q13b, q13c⟩ := isOf hZ K12 g10_0
  obtain ⟨_, _, ⟨T13, L13, k13, n13⟩, -, X13, ⟨Lc13, hQ13, l13, y13, z13⟩, st13⟩ := X12.virtualBack hx (y := (⟨"com/example/chainwright/chainwright/State", "isChosen", "(I)Z"⟩ : MethodName)) (z := (⟨"com/example/chainwright/chainwright/State", "isChosen", "(I)Z"⟩ : MethodName)) hown (mvT hZ (hw _ (List.mem_of_getElem? (i := 16) rfl))) (mvT hZ (hw _ (List.mem_of_getElem? (i := 17) rfl))) (notFace_of_selects (args := #[]) (mvT hZ (hw _ (List.mem_of_getElem? (i := 19) rfl)))) (mvT hZ (hw _ (List.mem_of_getElem? (i := 19) rfl))) (mvT hZ (hw _ (List.mem_of_getElem? (i := 18) rfl))) (by decide) (backOf (W := 0) (rm3 l Z a0 hw [] sv (2 : Int32) dv 3 (own_up (own_up (own_up (fun _ => 0) 0 aa) 1 bb) 2 cc) 2 T10.heap n0 Zs10 g10_1 A_dv_10 (by first | assumption | decide | rfl) (by first | assumption | decide | rfl)) hZ (hw _ (List.mem_of_getElem? (i := 20) rfl)) (hw _ (List.mem_of_getElem? (i := 3) rfl)) (by decide) (by decide)) q13a q13c (g := (mkF m 87 #[.val (.int aa), .val (.int bb), .val (.int cc), .val (.int pk), .val (.int nd), .val (.ref dv), .val (.ref fv), .val (.ref sv), .unset, .unset, .unset, .unset, .unset, .unset, .unset] [(.int (2 : Int32)), (.ref sv)])) rfl (by rw [hml]; rfl) (Steps.refl _) (argsL := [(.int (2 : Int32))]) (rest := []) (lenOf pd_0_1 rfl) rfl (by show 2 * 0 + _ ≤ _; exact Nat.le_of_eq rfl) (hb hby at_87) (fun _ _ => ⟨rfl, K12, (by decide : 3 + 0 ≤ _), (by decide : 9 + 0 ≤ _)⟩)
  dsimp only [Pt.U, Pt.locs, Pt.cells, Pt.slots] at X13 l13 y13 z13 st13 hQ13
  subst l13 y13 z13
  obtain ⟨rfl, N13q, K13⟩ := hQ13
  have N13 := Fr.app N12 N13q
  refine own_st (fun tgt k => st13.trans k) ?_
  show own_Go p e below _ (T13.setTop (mkF m 90 #[.val (.int aa), .val (.int bb), .val (.int cc), .val (.int pk), .val (.int nd), .val (.ref dv), .val (.ref fv), .val (.ref sv), .unset, .unset, .unset, .unset, .unset, .unset, .unset] [(.int (if (own_up (own_up (own_up (fun _ => 0) 0 aa) 1 bb) 2 cc) 2 = 0 then (0 : Int32) else (1 : Int32)))]))
  refine own_st (V := T13.setTop (mkF m 91 #[.val (.int aa), .val (.int bb), .val (.int cc), .val (.int pk), .val (.int nd), .val (.ref dv), .val (.ref fv), .val (.ref sv), .unset, .unset, .unset, .unset, .unset, .unset, .unset] [(.int cc), (.int (if (own_up (own_up (own_up (fun _ => 0) 0 aa) 1 bb) 2 cc) 2 = 0 then (0 : Int32) else (1 : Int32)))])) (fun tgt k => ?_) ?_
  · show Steps p.tables e below (T13.setTop (mkF m 90 #[.val (.int aa), .val (.int bb), .val (.int cc), .val (.int pk), .val (.int nd), .val (.ref dv), .val (.ref fv), .val (.ref sv), .unset, .unset, .unset, .unset, .unset, .unset, .unset] [(.int (if (own_up (own_up (own_up (fun _ => 0) 0 aa) 1 bb) 2 cc) 2 = 0 then (0 : Int32) else (1 : Int32)))])) tgt
    refine XS.iloadN X13.here hx rfl (hb hby at_90) rfl ?_
    exact k
  obtain ⟨u2, hu2⟩ : ∃ z : Int32, z = (if cc = (0 : Int32) then (0 : Int32) else (1 : Int32)) := ⟨_, rfl⟩
  refine own_st (V := T13.setTop (mkF m 99 #[.val (.int aa), .val (.int bb), .val (.int cc), .val (.int pk), .val (.int nd), .val (.ref dv), .val (.ref fv), .val (.ref sv), .unset, .unset, .unset, .unset, .unset, .unset, .unset] [(.int u2), (.int (if (own_up (own_up (own_up (fun _ => 0) 0 aa) 1 bb) 2 cc) 2 = 0 then (0 : Int32) else (1 : Int32)))])) (fun tgt k => ?_) ?_
  · skip
    by_cases hc91_2 : cc = (0 : Int32)
    · skip
      rw [if_pos hc91_2] at hu2
      show Steps p.tables e below (T13.setTop (mkF m 91 #[.val (.int aa), .val (.int bb), .val (.int cc), .val (.int pk), .val (.int nd), .val (.ref dv), .val (.ref fv), .val (.ref sv), .unset, .unset, .unset, .unset, .unset, .unset, .unset] [(.int cc), (.int (if (own_up (own_up (own_up (fun _ => 0) 0 aa) 1 bb) 2 cc) 2 = 0 then (0 : Int32) else (1 : Int32)))])) tgt
      refine XS.ifYes X13.here hx rfl (pc0 := 91) (pc' := 98) rfl (hb hby at_91) rfl ((if0 _ _).trans (teq hc91_2).1) (by decide) (by decide) ?_
      show Steps p.tables e below (T13.setTop (mkF m 98 #[.val (.int aa), .val (.int bb), .val (.int cc), .val (.int pk), .val (.int nd), .val (.ref dv), .val (.ref fv), .val (.ref sv), .unset, .unset, .unset, .unset, .unset, .unset, .unset] [(.int (if (own_up (own_up (own_up (fun _ => 0) 0 aa) 1 bb) 2 cc) 2 = 0 then (0 : Int32) else (1 : Int32)))])) tgt
      refine XS.iconst X13.here hx rfl (hb hby at_98) ?_
      rw [hu2] at k
      exact k
    · skip
      rw [if_neg hc91_2] at hu2
      show Steps p.tables e below (T13.setTop (mkF m 91 #[.val (.int aa), .val (.int bb), .val (.int cc), .val (.int pk), .val (.int nd), .val (.ref dv), .val (.ref fv), .val (.ref sv), .unset, .unset, .unset, .unset, .unset, .unset, .unset] [(.int cc), (.int (if (own_up (own_up (own_up (fun _ => 0) 0 aa) 1 bb) 2 cc) 2 = 0 then (0 : Int32) else (1 : Int32)))])) tgt
      refine XS.ifNo X13.here hx rfl (hb hby at_91) rfl ((if0 _ _).trans (feq hc91_2).1) ?_
      show Steps p.tables e below (T13.setTop (mkF m 94 #[.val (.int aa), .val (.int bb), .val (.int cc), .val (.int pk), .val (.int nd), .val (.ref dv), .val (.ref fv), .val (.ref sv), .unset, .unset, .unset, .unset, .unset, .unset, .unset] [(.int (if (own_up (own_up (own_up (fun _ => 0) 0 aa) 1 bb) 2 cc) 2 = 0 then (0 : Int32) else (1 : Int32)))])) tgt
      refine XS.iconst X13.here hx rfl (hb hby at_94) ?_
      show Steps p.tables e below (T13.setTop (mkF m 95 #[.val (.int aa), .val (.int bb), .val (.int cc), .val (.int pk), .val (.int nd), .val (.ref dv), .val (.ref fv), .val (.ref sv), .unset, .unset, .unset, .unset, .unset, .unset, .unset] [(.int (1 : Int32)), (.int (if (own_up (own_up (own_up (fun _ => 0) 0 aa) 1 bb) 2 cc) 2 = 0 then (0 : Int32) else (1 : Int32)))])) tgt
      refine XS.goto X13.here hx rfl (pc0 := 95) (pc' := 99) rfl (hb hby at_95) (by decide) (by decide) ?_
      rw [hu2] at k
      exact k
  refine own_st (V := T13.setTop (mkF m 117 #[.val (.int aa), .val (.int bb), .val (.int cc), .val (.int pk), .val (.int nd), .val (.ref dv), .val (.ref fv), .val (.ref sv), .val (.int (1 : Int32)), .val (.int ((pk &&& (2147483647 : Int32)) % (3 : Int32))), .unset, .unset, .unset, .unset, .unset] [])) (fun tgt k => ?_) ?_
  · show Steps p.tables e below (T13.setTop (mkF m 99 #[.val (.int aa), .val (.int bb), .val (.int cc), .val (.int pk), .val (.int nd), .val (.ref dv), .val (.ref fv), .val (.ref sv), .unset, .unset, .unset, .unset, .unset, .unset, .unset] [(.int u2), (.int (if (own_up (own_up (own_up (fun _ => 0) 0 aa) 1 bb) 2 cc) 2 = 0 then (0 : Int32) else (1 : Int32)))])) tgt
    refine XS.icmpNo X13.here hx rfl (hb hby at_99) rfl (teq (by simp [own_up, hu2])).2 ?_
    show Steps p.tables e below (T13.setTop (mkF m 102 #[.val (.int aa), .val (.int bb), .val (.int cc), .val (.int pk), .val (.int nd), .val (.ref dv), .val (.ref fv), .val (.ref sv), .unset, .unset, .unset, .unset, .unset, .unset, .unset] [])) tgt
    refine XS.iconst X13.here hx rfl (hb hby at_102) ?_
    show Steps p.tables e below (T13.setTop (mkF m 103 #[.val (.int aa), .val (.int bb), .val (.int cc), .val (.int pk), .val (.int nd), .val (.ref dv), .val (.ref fv), .val (.ref sv), .unset, .unset, .unset, .unset, .unset, .unset, .unset] [(.int (1 : Int32))])) tgt
    refine XS.goto X13.here hx rfl (pc0 := 103) (pc' := 107) rfl (hb hby at_103) (by decide) (by decide) ?_
    show Steps p.tables e below (T13.setTop (mkF m 107 #[.val (.int aa), .val (.int bb), .val (.int cc), .val (.int pk), .val (.int nd), .val (.ref dv), .val (.ref fv), .val (.ref sv), .unset, .unset, .unset, .unset, .unset, .unset, .unset] [(.int (1 : Int32))])) tgt
    refine XS.istore X13.here hx rfl (hb hby at_107) rfl (l' := #[.val (.int aa), .val (.int bb), .val (.int cc), .val (.int pk), .val (.int nd), .val (.ref dv), .val (.ref fv), .val (.ref sv), .val (.int (1 : Int32)), .unset, .unset, .unset, .unset, .unset, .unset]) rfl ?_
    show Steps p.tables e below (T13.setTop (mkF m 109 #[.val (.int aa), .val (.int bb), .val (.int cc), .val (.int pk), .val (.int nd), .val (.ref dv), .val (.ref fv), .val (.ref sv), .val (.int (1 : Int32)), .unset, .unset, .unset, .unset, .unset, .unset] [])) tgt
    refine XS.iloadN X13.here hx rfl (hb hby at_109) rfl ?_
    show Steps p.tables e below (T13.setTop (mkF m 110 #[.val (.int aa), .val (.int bb), .val (.int cc), .val (.int pk), .val (.int nd), .val (.ref dv), .val (.ref fv), .val (.ref sv), .val (.int (1 : Int32)), .unset, .unset, .unset, .unset, .unset, .unset] [(.int pk)])) tgt
    refine X13.ldcInt hx hown (mvT hZ (hw _ (List.mem_of_getElem? (i := 21) rfl))) (g := (mkF m 110 #[.val (.int aa), .val (.int bb), .val (.int cc), .val (.int pk), .val (.int nd), .val (.ref dv), .val (.ref fv), .val (.ref sv), .val (.int (1 : Int32)), .unset, .unset, .unset, .unset, .unset, .unset] [(.int pk)])) rfl (hb hby at_110) _ ?_
    show Steps p.tables e below (T13.setTop (mkF m 112 #[.val (.int aa), .val (.int bb), .val (.int cc), .val (.int pk), .val (.int nd), .val (.ref dv), .val (.ref fv), .val (.ref sv), .val (.int (1 : Int32)), .unset, .unset, .unset, .unset, .unset, .unset] [(.int (2147483647 : Int32)), (.int pk)])) tgt
    refine XS.iand X13.here hx rfl (hb hby at_112) rfl ?_
    show Steps p.tables e below (T13.setTop (mkF m 113 #[.val (.int aa), .val (.int bb), .val (.int cc), .val (.int pk), .val (.int nd), .val (.ref dv), .val (.ref fv), .val (.ref sv), .val (.int (1 : Int32)), .unset, .unset, .unset, .unset, .unset, .unset] [(.int (pk &&& (2147483647 : Int32)))])) tgt
    refine XS.iconst X13.here hx rfl (hb hby at_113) ?_
    show Steps p.tables e below (T13.setTop (mkF m 114 #[.val (.int aa), .val (.int bb), .val (.int cc), .val (.int pk), .val (.int nd), .val (.ref dv), .val (.ref fv), .val (.ref sv), .val (.int (1 : Int32)), .unset, .unset, .unset, .unset, .unset, .unset] [(.int (3 : Int32)), (.int (pk &&& (2147483647 : Int32)))])) tgt
    refine iremM X13 hx rfl (hb hby at_114) rfl (by decide) ?_
    show Steps p.tables e below (T13.setTop (mkF m 115 #[.val (.int aa), .val (.int bb), .val (.int cc), .val (.int pk), .val (.int nd), .val (.ref dv), .val (.ref fv), .val (.ref sv), .val (.int (1 : Int32)), .unset, .unset, .unset, .unset, .unset, .unset] [(.int ((pk &&& (2147483647 : Int32)) % (3 : Int32)))])) tgt
    refine XS.istore X13.here hx rfl (hb hby at_115) rfl (l' := #[.val (.int aa), .val (.int bb), .val (.int cc), .val (.int pk), .val (.int nd), .val (.ref dv), .val (.ref fv), .val (.ref sv), .val (.int (1 : Int32)), .val (.int ((pk &&& (2147483647 : Int32)) % (3 : Int32))), .unset, .unset, .unset, .unset, .unset]) rfl ?_
    exact k
  rcases own_m3 pk with q | q | q
  · skip
    rw [show ((pk &&& (2147483647 : Int32)) % (3 : Int32)) = (0 : Int32) from q]
    refine own_st (V := T13.setTop (mkF m 145 #[.val (.int aa), .val (.int bb), .val (.int cc), .val (.int pk), .val (.int nd), .val (.ref dv), .val (.ref fv), .val (.ref sv), .val (.int (1 : Int32)), .val (.int (0 : Int32)), .val (.int aa), .unset, .unset, .unset, .unset] [(.int nd), (.int (0 : Int32)), (.ref sv)])) (fun tgt k => ?_) ?_
    · show Steps p.tables e below (T13.setTop (mkF m 117 #[.val (.int aa), .val (.int bb), .val (.int cc), .val (.int pk), .val (.int nd), .val (.ref dv), .val (.ref fv), .val (.ref sv), .val (.int (1 : Int32)), .val (.int (0 : Int32)), .unset, .unset, .unset, .unset, .unset] [])) tgt
      refine XS.iload X13.here hx rfl (hb hby at_117) rfl ?_
      show Steps p.tables e below (T13.setTop (mkF m 119 #[.val (.int aa), .val (.int bb), .val (.int cc), .val (.int pk), .val (.int nd), .val (.ref dv), .val (.ref fv), .val (.ref sv), .val (.int (1 : Int32)), .val (.int (0 : Int32)), .unset, .unset, .unset, .unset, .unset] [(.int (0 : Int32))])) tgt
      refine XS.ifNo X13.here hx rfl (hb hby at_119) rfl ((if0 _ _).trans (teq (by decide : (0 : Int32) = (0 : Int32))).2) ?_
      show Steps p.tables e below (T13.setTop (mkF m 122 #[.val (.int aa), .val (.int bb), .val (.int cc), .val (.int pk), .val (.int nd), .val (.ref dv), .val (.ref fv), .val (.ref sv), .val (.int (1 : Int32)), .val (.int (0 : Int32)), .unset, .unset, .unset, .unset, .unset] [])) tgt
      refine XS.iloadN X13.here hx rfl (hb hby at_122) rfl ?_
      show Steps p.tables e below (T13.setTop (mkF m 123 #[.val (.int aa), .val (.int bb), .val (.int cc), .val (.int pk), .val (.int nd), .val (.ref dv), .val (.ref fv), .val (.ref sv), .val (.int (1 : Int32)), .val (.int (0 : Int32)), .unset, .unset, .unset, .unset, .unset] [(.int aa)])) tgt
      refine XS.goto X13.here hx rfl (pc0 := 123) (pc' := 137) rfl (hb hby at_123) (by decide) (by decide) ?_
      show Steps p.tables e below (T13.setTop (mkF m 137 #[.val (.int aa), .val (.int bb), .val (.int cc), .val (.int pk), .val (.int nd), .val (.ref dv), .val (.ref fv), .val (.ref sv), .val (.int (1 : Int32)), .val (.int (0 : Int32)), .unset, .unset, .unset, .unset, .unset] [(.int aa)])) tgt
      refine XS.istore X13.here hx rfl (hb hby at_137) rfl (l' := #[.val (.int aa), .val (.int bb), .val (.int cc), .val (.int pk), .val (.int nd), .val (.ref dv), .val (.ref fv), .val (.ref sv), .val (.int (1 : Int32)), .val (.int (0 : Int32)), .val (.int aa), .unset, .unset, .unset, .unset]) rfl ?_
      show Steps p.tables e below (T13.setTop (mkF m 139 #[.val (.int aa), .val (.int bb), .val (.int cc), .val (.int pk), .val (.int nd), .val (.ref dv), .val (.ref fv), .val (.ref sv), .val (.int (1 : Int32)), .val (.int (0 : Int32)), .val (.int aa), .unset, .unset, .unset, .unset] [])) tgt
      refine XS.aload X13.here hx rfl (hb hby at_139) rfl rfl ?_
      show Steps p.tables e below (T13.setTop (mkF m 141 #[.val (.int aa), .val (.int bb), .val (.int cc), .val (.int pk), .val (.int nd), .val (.ref dv), .val (.ref fv), .val (.ref sv), .val (.int (1 : Int32)), .val (.int (0 : Int32)), .val (.int aa), .unset, .unset, .unset, .unset] [(.ref sv)])) tgt
      refine XS.iload X13.here hx rfl (hb hby at_141) rfl ?_
      show Steps p.tables e below (T13.setTop (mkF m 143 #[.val (.int aa), .val (.int bb), .val (.int cc), .val (.int pk), .val (.int nd), .val (.ref dv), .val (.ref fv), .val (.ref sv), .val (.int (1 : Int32)), .val (.int (0 : Int32)), .val (.int aa), .unset, .unset, .unset, .unset] [(.int (0 : Int32)), (.ref sv)])) tgt
      refine XS.iload X13.here hx rfl (hb hby at_143) rfl ?_
      exact k
    obtain ⟨cq14, kq14, q14a, q14b, q14c⟩ := isOf hZ K13 g10_0
    obtain ⟨_, _, ⟨T14, L14, k14, n14⟩, -, X14, ⟨Lc14, hQ14, l14, y14, z14⟩, st14⟩ := X13.virtualBack hx (y := (⟨"com/example/chainwright/chainwright/State", "choose", "(II)V"⟩ : MethodName)) (z := (⟨"com/example/chainwright/chainwright/State", "choose", "(II)V"⟩ : MethodName)) hown (mvT hZ (hw _ (List.mem_of_getElem? (i := 22) rfl))) (mvT hZ (hw _ (List.mem_of_getElem? (i := 23) rfl))) (notFace_of_selects (args := #[]) (mvT hZ (hw _ (List.mem_of_getElem? (i := 25) rfl)))) (mvT hZ (hw _ (List.mem_of_getElem? (i := 25) rfl))) (mvT hZ (hw _ (List.mem_of_getElem? (i := 24) rfl))) (by decide) (backOf (W := 0) (rm4 l Z a0 hw [] sv (0 : Int32) nd dv 3 (own_up (own_up (own_up (fun _ => 0) 0 aa) 1 bb) 2 cc) 0 fv (0 : Int32) T10.heap n0 Zs10 g10_0 g10_1 g10_2 g10_3 A_dv_10 (by first | assumption | decide | rfl) (by first | assumption | decide | rfl) g_sv g_dv (Ne.symm ne_dv_sv)) hZ (hw _ (List.mem_of_getElem? (i := 26) rfl)) (hw _ (List.mem_of_getElem? (i := 3) rfl)) (by decide) (by decide)) q14a q14c (g := (mkF m 145 #[.val (.int aa), .val (.int bb), .val (.int cc), .val (.int pk), .val (.int nd), .val (.ref dv), .val (.ref fv), .val (.ref sv), .val (.int (1 : Int32)), .val (.int (0 : Int32)), .val (.int aa), .unset, .unset, .unset, .unset] [(.int nd), (.int (0 : Int32)), (.ref sv)])) rfl (by rw [hml]; rfl) (Steps.refl _) (argsL := [(.int (0 : Int32)), (.int nd)]) (rest := []) (lenOf pd_0_2 rfl) rfl (by show 2 * 0 + _ ≤ _; exact Nat.le_of_eq rfl) (hb hby at_145) (fun _ _ => ⟨rfl, K13, (by decide : 3 + 0 ≤ _), (by decide : 9 + 0 ≤ _)⟩)
    dsimp only [Pt.U, Pt.locs, Pt.cells, Pt.slots] at X14 l14 y14 z14 st14 hQ14
    subst l14 y14 z14
    obtain ⟨rfl, N14q, K14, g14_0, g14_1, g14_2, g14_3, g14_4⟩ := hQ14
    have N14 := Fr.app N13 N14q
    have A_fv_14 := A_fv_10.keep K14 (ninS ne_fv_sv (ninS (Ne.symm ne_dv_fv) nin0))
    have E_sv_14 := g10_0.keep K14
    have Zs14 : n0 ≤ T14.heap.size := Nat.le_trans Zs10 K14.1
    refine own_st (fun tgt k => st14.trans k) ?_
    show own_Go p e below _ (T14.setTop (mkF m 148 #[.val (.int aa), .val (.int bb), .val (.int cc), .val (.int pk), .val (.int nd), .val (.ref dv), .val (.ref fv), .val (.ref sv), .val (.int (1 : Int32)), .val (.int (0 : Int32)), .val (.int aa), .unset, .unset, .unset, .unset] []))
    refine own_st (V := T14.setTop (mkF m 155 #[.val (.int aa), .val (.int bb), .val (.int cc), .val (.int pk), .val (.int nd), .val (.ref dv), .val (.ref fv), .val (.ref sv), .val (.int (1 : Int32)), .val (.int (0 : Int32)), .val (.int aa), .unset, .unset, .unset, .unset] [(.int nd)])) (fun tgt k => ?_) ?_
    · show Steps p.tables e below (T14.setTop (mkF m 148 #[.val (.int aa), .val (.int bb), .val (.int cc), .val (.int pk), .val (.int nd), .val (.ref dv), .val (.ref fv), .val (.ref sv), .val (.int (1 : Int32)), .val (.int (0 : Int32)), .val (.int aa), .unset, .unset, .unset, .unset] [])) tgt
      refine XS.iload X14.here hx rfl (hb hby at_148) rfl ?_
      show Steps p.tables e below (T14.setTop (mkF m 150 #[.val (.int aa), .val (.int bb), .val (.int cc), .val (.int pk), .val (.int nd), .val (.ref dv), .val (.ref fv), .val (.ref sv), .val (.int (1 : Int32)), .val (.int (0 : Int32)), .val (.int aa), .unset, .unset, .unset, .unset] [(.int (0 : Int32))])) tgt
      refine XS.ifNo X14.here hx rfl (hb hby at_150) rfl ((if0 _ _).trans (teq (by decide : (0 : Int32) = (0 : Int32))).2) ?_
      show Steps p.tables e below (T14.setTop (mkF m 153 #[.val (.int aa), .val (.int bb), .val (.int cc), .val (.int pk), .val (.int nd), .val (.ref dv), .val (.ref fv), .val (.ref sv), .val (.int (1 : Int32)), .val (.int (0 : Int32)), .val (.int aa), .unset, .unset, .unset, .unset] [])) tgt
      refine XS.iload X14.here hx rfl (hb hby at_153) rfl ?_
      exact k
    obtain ⟨e0, he0⟩ : ∃ z : Int32, z = (if nd = (0 : Int32) then (0 : Int32) else (1 : Int32)) := ⟨_, rfl⟩
    refine own_st (V := T14.setTop (mkF m 175 #[.val (.int aa), .val (.int bb), .val (.int cc), .val (.int pk), .val (.int nd), .val (.ref dv), .val (.ref fv), .val (.ref sv), .val (.int (1 : Int32)), .val (.int (0 : Int32)), .val (.int aa), .unset, .unset, .unset, .unset] [(.int e0)])) (fun tgt k => ?_) ?_
    · skip
      by_cases hc155_2 : nd = (0 : Int32)
      · skip
        rw [if_pos hc155_2] at he0
        show Steps p.tables e below (T14.setTop (mkF m 155 #[.val (.int aa), .val (.int bb), .val (.int cc), .val (.int pk), .val (.int nd), .val (.ref dv), .val (.ref fv), .val (.ref sv), .val (.int (1 : Int32)), .val (.int (0 : Int32)), .val (.int aa), .unset, .unset, .unset, .unset] [(.int nd)])) tgt
        refine XS.ifYes X14.here hx rfl (pc0 := 155) (pc' := 162) rfl (hb hby at_155) rfl ((if0 _ _).trans (teq hc155_2).1) (by decide) (by decide) ?_
        show Steps p.tables e below (T14.setTop (mkF m 162 #[.val (.int aa), .val (.int bb), .val (.int cc), .val (.int pk), .val (.int nd), .val (.ref dv), .val (.ref fv), .val (.ref sv), .val (.int (1 : Int32)), .val (.int (0 : Int32)), .val (.int aa), .unset, .unset, .unset, .unset] [])) tgt
        refine XS.iconst X14.here hx rfl (hb hby at_162) ?_
        show Steps p.tables e below (T14.setTop (mkF m 163 #[.val (.int aa), .val (.int bb), .val (.int cc), .val (.int pk), .val (.int nd), .val (.ref dv), .val (.ref fv), .val (.ref sv), .val (.int (1 : Int32)), .val (.int (0 : Int32)), .val (.int aa), .unset, .unset, .unset, .unset] [(.int (0 : Int32))])) tgt
        refine XS.goto X14.here hx rfl (pc0 := 163) (pc' := 175) rfl (hb hby at_163) (by decide) (by decide) ?_
        rw [he0] at k
        exact k
      · skip
        rw [if_neg hc155_2] at he0
        show Steps p.tables e below (T14.setTop (mkF m 155 #[.val (.int aa), .val (.int bb), .val (.int cc), .val (.int pk), .val (.int nd), .val (.ref dv), .val (.ref fv), .val (.ref sv), .val (.int (1 : Int32)), .val (.int (0 : Int32)), .val (.int aa), .unset, .unset, .unset, .unset] [(.int nd)])) tgt
        refine XS.ifNo X14.here hx rfl (hb hby at_155) rfl ((if0 _ _).trans (feq hc155_2).1) ?_
        show Steps p.tables e below (T14.setTop (mkF m 158 #[.val (.int aa), .val (.int bb), .val (.int cc), .val (.int pk), .val (.int nd), .val (.ref dv), .val (.ref fv), .val (.ref sv), .val (.int (1 : Int32)), .val (.int (0 : Int32)), .val (.int aa), .unset, .unset, .unset, .unset] [])) tgt
        refine XS.iconst X14.here hx rfl (hb hby at_158) ?_
        show Steps p.tables e below (T14.setTop (mkF m 159 #[.val (.int aa), .val (.int bb), .val (.int cc), .val (.int pk), .val (.int nd), .val (.ref dv), .val (.ref fv), .val (.ref sv), .val (.int (1 : Int32)), .val (.int (0 : Int32)), .val (.int aa), .unset, .unset, .unset, .unset] [(.int (1 : Int32))])) tgt
        refine XS.goto X14.here hx rfl (pc0 := 159) (pc' := 175) rfl (hb hby at_159) (by decide) (by decide) ?_
        rw [he0] at k
        exact k
    refine own_st (V := T14.setTop (mkF m 197 #[.val (.int aa), .val (.int bb), .val (.int cc), .val (.int pk), .val (.int nd), .val (.ref dv), .val (.ref fv), .val (.ref sv), .val (.int (1 : Int32)), .val (.int (0 : Int32)), .val (.int aa), .val (.int e0), .unset, .unset, .unset] [(.int bb)])) (fun tgt k => ?_) ?_
    · show Steps p.tables e below (T14.setTop (mkF m 175 #[.val (.int aa), .val (.int bb), .val (.int cc), .val (.int pk), .val (.int nd), .val (.ref dv), .val (.ref fv), .val (.ref sv), .val (.int (1 : Int32)), .val (.int (0 : Int32)), .val (.int aa), .unset, .unset, .unset, .unset] [(.int e0)])) tgt
      refine XS.istore X14.here hx rfl (hb hby at_175) rfl (l' := #[.val (.int aa), .val (.int bb), .val (.int cc), .val (.int pk), .val (.int nd), .val (.ref dv), .val (.ref fv), .val (.ref sv), .val (.int (1 : Int32)), .val (.int (0 : Int32)), .val (.int aa), .val (.int e0), .unset, .unset, .unset]) rfl ?_
      show Steps p.tables e below (T14.setTop (mkF m 177 #[.val (.int aa), .val (.int bb), .val (.int cc), .val (.int pk), .val (.int nd), .val (.ref dv), .val (.ref fv), .val (.ref sv), .val (.int (1 : Int32)), .val (.int (0 : Int32)), .val (.int aa), .val (.int e0), .unset, .unset, .unset] [])) tgt
      refine XS.iload X14.here hx rfl (hb hby at_177) rfl ?_
      show Steps p.tables e below (T14.setTop (mkF m 179 #[.val (.int aa), .val (.int bb), .val (.int cc), .val (.int pk), .val (.int nd), .val (.ref dv), .val (.ref fv), .val (.ref sv), .val (.int (1 : Int32)), .val (.int (0 : Int32)), .val (.int aa), .val (.int e0), .unset, .unset, .unset] [(.int (0 : Int32))])) tgt
      refine XS.iconst X14.here hx rfl (hb hby at_179) ?_
      show Steps p.tables e below (T14.setTop (mkF m 180 #[.val (.int aa), .val (.int bb), .val (.int cc), .val (.int pk), .val (.int nd), .val (.ref dv), .val (.ref fv), .val (.ref sv), .val (.int (1 : Int32)), .val (.int (0 : Int32)), .val (.int aa), .val (.int e0), .unset, .unset, .unset] [(.int (1 : Int32)), (.int (0 : Int32))])) tgt
      refine XS.icmpYes X14.here hx rfl (pc0 := 180) (pc' := 196) rfl (hb hby at_180) rfl (feq (by decide : ¬ ((0 : Int32) = (1 : Int32)))).2 (by decide) (by decide) ?_
      show Steps p.tables e below (T14.setTop (mkF m 196 #[.val (.int aa), .val (.int bb), .val (.int cc), .val (.int pk), .val (.int nd), .val (.ref dv), .val (.ref fv), .val (.ref sv), .val (.int (1 : Int32)), .val (.int (0 : Int32)), .val (.int aa), .val (.int e0), .unset, .unset, .unset] [])) tgt
      refine XS.iloadN X14.here hx rfl (hb hby at_196) rfl ?_
      exact k
    obtain ⟨e1, he1⟩ : ∃ z : Int32, z = (if bb = (0 : Int32) then (0 : Int32) else (1 : Int32)) := ⟨_, rfl⟩
    refine own_st (V := T14.setTop (mkF m 205 #[.val (.int aa), .val (.int bb), .val (.int cc), .val (.int pk), .val (.int nd), .val (.ref dv), .val (.ref fv), .val (.ref sv), .val (.int (1 : Int32)), .val (.int (0 : Int32)), .val (.int aa), .val (.int e0), .unset, .unset, .unset] [(.int e1)])) (fun tgt k => ?_) ?_
    · skip
      by_cases hc197_2 : bb = (0 : Int32)
      · skip
        rw [if_pos hc197_2] at he1
        show Steps p.tables e below (T14.setTop (mkF m 197 #[.val (.int aa), .val (.int bb), .val (.int cc), .val (.int pk), .val (.int nd), .val (.ref dv), .val (.ref fv), .val (.ref sv), .val (.int (1 : Int32)), .val (.int (0 : Int32)), .val (.int aa), .val (.int e0), .unset, .unset, .unset] [(.int bb)])) tgt
        refine XS.ifYes X14.here hx rfl (pc0 := 197) (pc' := 204) rfl (hb hby at_197) rfl ((if0 _ _).trans (teq hc197_2).1) (by decide) (by decide) ?_
        show Steps p.tables e below (T14.setTop (mkF m 204 #[.val (.int aa), .val (.int bb), .val (.int cc), .val (.int pk), .val (.int nd), .val (.ref dv), .val (.ref fv), .val (.ref sv), .val (.int (1 : Int32)), .val (.int (0 : Int32)), .val (.int aa), .val (.int e0), .unset, .unset, .unset] [])) tgt
        refine XS.iconst X14.here hx rfl (hb hby at_204) ?_
        rw [he1] at k
        exact k
      · skip
        rw [if_neg hc197_2] at he1
        show Steps p.tables e below (T14.setTop (mkF m 197 #[.val (.int aa), .val (.int bb), .val (.int cc), .val (.int pk), .val (.int nd), .val (.ref dv), .val (.ref fv), .val (.ref sv), .val (.int (1 : Int32)), .val (.int (0 : Int32)), .val (.int aa), .val (.int e0), .unset, .unset, .unset] [(.int bb)])) tgt
        refine XS.ifNo X14.here hx rfl (hb hby at_197) rfl ((if0 _ _).trans (feq hc197_2).1) ?_
        show Steps p.tables e below (T14.setTop (mkF m 200 #[.val (.int aa), .val (.int bb), .val (.int cc), .val (.int pk), .val (.int nd), .val (.ref dv), .val (.ref fv), .val (.ref sv), .val (.int (1 : Int32)), .val (.int (0 : Int32)), .val (.int aa), .val (.int e0), .unset, .unset, .unset] [])) tgt
        refine XS.iconst X14.here hx rfl (hb hby at_200) ?_
        show Steps p.tables e below (T14.setTop (mkF m 201 #[.val (.int aa), .val (.int bb), .val (.int cc), .val (.int pk), .val (.int nd), .val (.ref dv), .val (.ref fv), .val (.ref sv), .val (.int (1 : Int32)), .val (.int (0 : Int32)), .val (.int aa), .val (.int e0), .unset, .unset, .unset] [(.int (1 : Int32))])) tgt
        refine XS.goto X14.here hx rfl (pc0 := 201) (pc' := 205) rfl (hb hby at_201) (by decide) (by decide) ?_
        rw [he1] at k
        exact k
    refine own_st (V := T14.setTop (mkF m 227 #[.val (.int aa), .val (.int bb), .val (.int cc), .val (.int pk), .val (.int nd), .val (.ref dv), .val (.ref fv), .val (.ref sv), .val (.int (1 : Int32)), .val (.int (0 : Int32)), .val (.int aa), .val (.int e0), .val (.int e1), .unset, .unset] [(.int cc)])) (fun tgt k => ?_) ?_
    · show Steps p.tables e below (T14.setTop (mkF m 205 #[.val (.int aa), .val (.int bb), .val (.int cc), .val (.int pk), .val (.int nd), .val (.ref dv), .val (.ref fv), .val (.ref sv), .val (.int (1 : Int32)), .val (.int (0 : Int32)), .val (.int aa), .val (.int e0), .unset, .unset, .unset] [(.int e1)])) tgt
      refine XS.istore X14.here hx rfl (hb hby at_205) rfl (l' := #[.val (.int aa), .val (.int bb), .val (.int cc), .val (.int pk), .val (.int nd), .val (.ref dv), .val (.ref fv), .val (.ref sv), .val (.int (1 : Int32)), .val (.int (0 : Int32)), .val (.int aa), .val (.int e0), .val (.int e1), .unset, .unset]) rfl ?_
      show Steps p.tables e below (T14.setTop (mkF m 207 #[.val (.int aa), .val (.int bb), .val (.int cc), .val (.int pk), .val (.int nd), .val (.ref dv), .val (.ref fv), .val (.ref sv), .val (.int (1 : Int32)), .val (.int (0 : Int32)), .val (.int aa), .val (.int e0), .val (.int e1), .unset, .unset] [])) tgt
      refine XS.iload X14.here hx rfl (hb hby at_207) rfl ?_
      show Steps p.tables e below (T14.setTop (mkF m 209 #[.val (.int aa), .val (.int bb), .val (.int cc), .val (.int pk), .val (.int nd), .val (.ref dv), .val (.ref fv), .val (.ref sv), .val (.int (1 : Int32)), .val (.int (0 : Int32)), .val (.int aa), .val (.int e0), .val (.int e1), .unset, .unset] [(.int (0 : Int32))])) tgt
      refine XS.iconst X14.here hx rfl (hb hby at_209) ?_
      show Steps p.tables e below (T14.setTop (mkF m 210 #[.val (.int aa), .val (.int bb), .val (.int cc), .val (.int pk), .val (.int nd), .val (.ref dv), .val (.ref fv), .val (.ref sv), .val (.int (1 : Int32)), .val (.int (0 : Int32)), .val (.int aa), .val (.int e0), .val (.int e1), .unset, .unset] [(.int (2 : Int32)), (.int (0 : Int32))])) tgt
      refine XS.icmpYes X14.here hx rfl (pc0 := 210) (pc' := 226) rfl (hb hby at_210) rfl (feq (by decide : ¬ ((0 : Int32) = (2 : Int32)))).2 (by decide) (by decide) ?_
      show Steps p.tables e below (T14.setTop (mkF m 226 #[.val (.int aa), .val (.int bb), .val (.int cc), .val (.int pk), .val (.int nd), .val (.ref dv), .val (.ref fv), .val (.ref sv), .val (.int (1 : Int32)), .val (.int (0 : Int32)), .val (.int aa), .val (.int e0), .val (.int e1), .unset, .unset] [])) tgt
      refine XS.iloadN X14.here hx rfl (hb hby at_226) rfl ?_
      exact k
    obtain ⟨e2, he2⟩ : ∃ z : Int32, z = (if cc = (0 : Int32) then (0 : Int32) else (1 : Int32)) := ⟨_, rfl⟩
    refine own_st (V := T14.setTop (mkF m 235 #[.val (.int aa), .val (.int bb), .val (.int cc), .val (.int pk), .val (.int nd), .val (.ref dv), .val (.ref fv), .val (.ref sv), .val (.int (1 : Int32)), .val (.int (0 : Int32)), .val (.int aa), .val (.int e0), .val (.int e1), .unset, .unset] [(.int e2)])) (fun tgt k => ?_) ?_
    · skip
      by_cases hc227_2 : cc = (0 : Int32)
      · skip
        rw [if_pos hc227_2] at he2
        show Steps p.tables e below (T14.setTop (mkF m 227 #[.val (.int aa), .val (.int bb), .val (.int cc), .val (.int pk), .val (.int nd), .val (.ref dv), .val (.ref fv), .val (.ref sv), .val (.int (1 : Int32)), .val (.int (0 : Int32)), .val (.int aa), .val (.int e0), .val (.int e1), .unset, .unset] [(.int cc)])) tgt
        refine XS.ifYes X14.here hx rfl (pc0 := 227) (pc' := 234) rfl (hb hby at_227) rfl ((if0 _ _).trans (teq hc227_2).1) (by decide) (by decide) ?_
        show Steps p.tables e below (T14.setTop (mkF m 234 #[.val (.int aa), .val (.int bb), .val (.int cc), .val (.int pk), .val (.int nd), .val (.ref dv), .val (.ref fv), .val (.ref sv), .val (.int (1 : Int32)), .val (.int (0 : Int32)), .val (.int aa), .val (.int e0), .val (.int e1), .unset, .unset] [])) tgt
        refine XS.iconst X14.here hx rfl (hb hby at_234) ?_
        rw [he2] at k
        exact k
      · skip
        rw [if_neg hc227_2] at he2
        show Steps p.tables e below (T14.setTop (mkF m 227 #[.val (.int aa), .val (.int bb), .val (.int cc), .val (.int pk), .val (.int nd), .val (.ref dv), .val (.ref fv), .val (.ref sv), .val (.int (1 : Int32)), .val (.int (0 : Int32)), .val (.int aa), .val (.int e0), .val (.int e1), .unset, .unset] [(.int cc)])) tgt
        refine XS.ifNo X14.here hx rfl (hb hby at_227) rfl ((if0 _ _).trans (feq hc227_2).1) ?_
        show Steps p.tables e below (T14.setTop (mkF m 230 #[.val (.int aa), .val (.int bb), .val (.int cc), .val (.int pk), .val (.int nd), .val (.ref dv), .val (.ref fv), .val (.ref sv), .val (.int (1 : Int32)), .val (.int (0 : Int32)), .val (.int aa), .val (.int e0), .val (.int e1), .unset, .unset] [])) tgt
        refine XS.iconst X14.here hx rfl (hb hby at_230) ?_
        show Steps p.tables e below (T14.setTop (mkF m 231 #[.val (.int aa), .val (.int bb), .val (.int cc), .val (.int pk), .val (.int nd), .val (.ref dv), .val (.ref fv), .val (.ref sv), .val (.int (1 : Int32)), .val (.int (0 : Int32)), .val (.int aa), .val (.int e0), .val (.int e1), .unset, .unset] [(.int (1 : Int32))])) tgt
        refine XS.goto X14.here hx rfl (pc0 := 231) (pc' := 235) rfl (hb hby at_231) (by decide) (by decide) ?_
        rw [he2] at k
        exact k
    refine own_st (V := T14.setTop (mkF m 239 #[.val (.int aa), .val (.int bb), .val (.int cc), .val (.int pk), .val (.int nd), .val (.ref dv), .val (.ref fv), .val (.ref sv), .val (.int (1 : Int32)), .val (.int (0 : Int32)), .val (.int aa), .val (.int e0), .val (.int e1), .val (.int e2), .unset] [(.int aa)])) (fun tgt k => ?_) ?_
    · show Steps p.tables e below (T14.setTop (mkF m 235 #[.val (.int aa), .val (.int bb), .val (.int cc), .val (.int pk), .val (.int nd), .val (.ref dv), .val (.ref fv), .val (.ref sv), .val (.int (1 : Int32)), .val (.int (0 : Int32)), .val (.int aa), .val (.int e0), .val (.int e1), .unset, .unset] [(.int e2)])) tgt
      refine XS.istore X14.here hx rfl (hb hby at_235) rfl (l' := #[.val (.int aa), .val (.int bb), .val (.int cc), .val (.int pk), .val (.int nd), .val (.ref dv), .val (.ref fv), .val (.ref sv), .val (.int (1 : Int32)), .val (.int (0 : Int32)), .val (.int aa), .val (.int e0), .val (.int e1), .val (.int e2), .unset]) rfl ?_
      show Steps p.tables e below (T14.setTop (mkF m 237 #[.val (.int aa), .val (.int bb), .val (.int cc), .val (.int pk), .val (.int nd), .val (.ref dv), .val (.ref fv), .val (.ref sv), .val (.int (1 : Int32)), .val (.int (0 : Int32)), .val (.int aa), .val (.int e0), .val (.int e1), .val (.int e2), .unset] [])) tgt
      refine XS.iload X14.here hx rfl (hb hby at_237) rfl ?_
      exact k
    obtain ⟨xs, hxs⟩ : ∃ z : Int32, z = (if aa = (0 : Int32) then (1 : Int32) else (0 : Int32)) := ⟨_, rfl⟩
    refine own_st (V := T14.setTop (mkF m 247 #[.val (.int aa), .val (.int bb), .val (.int cc), .val (.int pk), .val (.int nd), .val (.ref dv), .val (.ref fv), .val (.ref sv), .val (.int (1 : Int32)), .val (.int (0 : Int32)), .val (.int aa), .val (.int e0), .val (.int e1), .val (.int e2), .unset] [(.int xs)])) (fun tgt k => ?_) ?_
    · skip
      by_cases hc239_2 : aa = (0 : Int32)
      · skip
        rw [if_pos hc239_2] at hxs
        show Steps p.tables e below (T14.setTop (mkF m 239 #[.val (.int aa), .val (.int bb), .val (.int cc), .val (.int pk), .val (.int nd), .val (.ref dv), .val (.ref fv), .val (.ref sv), .val (.int (1 : Int32)), .val (.int (0 : Int32)), .val (.int aa), .val (.int e0), .val (.int e1), .val (.int e2), .unset] [(.int aa)])) tgt
        refine XS.ifNo X14.here hx rfl (hb hby at_239) rfl ((if0 _ _).trans (teq hc239_2).2) ?_
        show Steps p.tables e below (T14.setTop (mkF m 242 #[.val (.int aa), .val (.int bb), .val (.int cc), .val (.int pk), .val (.int nd), .val (.ref dv), .val (.ref fv), .val (.ref sv), .val (.int (1 : Int32)), .val (.int (0 : Int32)), .val (.int aa), .val (.int e0), .val (.int e1), .val (.int e2), .unset] [])) tgt
        refine XS.iconst X14.here hx rfl (hb hby at_242) ?_
        show Steps p.tables e below (T14.setTop (mkF m 243 #[.val (.int aa), .val (.int bb), .val (.int cc), .val (.int pk), .val (.int nd), .val (.ref dv), .val (.ref fv), .val (.ref sv), .val (.int (1 : Int32)), .val (.int (0 : Int32)), .val (.int aa), .val (.int e0), .val (.int e1), .val (.int e2), .unset] [(.int (1 : Int32))])) tgt
        refine XS.goto X14.here hx rfl (pc0 := 243) (pc' := 247) rfl (hb hby at_243) (by decide) (by decide) ?_
        rw [hxs] at k
        exact k
      · skip
        rw [if_neg hc239_2] at hxs
        show Steps p.tables e below (T14.setTop (mkF m 239 #[.val (.int aa), .val (.int bb), .val (.int cc), .val (.int pk), .val (.int nd), .val (.ref dv), .val (.ref fv), .val (.ref sv), .val (.int (1 : Int32)), .val (.int (0 : Int32)), .val (.int aa), .val (.int e0), .val (.int e1), .val (.int e2), .unset] [(.int aa)])) tgt
        refine XS.ifYes X14.here hx rfl (pc0 := 239) (pc' := 246) rfl (hb hby at_239) rfl ((if0 _ _).trans (feq hc239_2).2) (by decide) (by decide) ?_
        show Steps p.tables e below (T14.setTop (mkF m 246 #[.val (.int aa), .val (.int bb), .val (.int cc), .val (.int pk), .val (.int nd), .val (.ref dv), .val (.ref fv), .val (.ref sv), .val (.int (1 : Int32)), .val (.int (0 : Int32)), .val (.int aa), .val (.int e0), .val (.int e1), .val (.int e2), .unset] [])) tgt
        refine XS.iconst X14.here hx rfl (hb hby at_246) ?_
        rw [hxs] at k
        exact k
    refine own_st (V := T14.setTop (mkF m 257 #[.val (.int aa), .val (.int bb), .val (.int cc), .val (.int pk), .val (.int nd), .val (.ref dv), .val (.ref fv), .val (.ref sv), .val (.int (1 : Int32)), .val (.int (0 : Int32)), .val (.int aa), .val (.int e0), .val (.int e1), .val (.int e2), .val (.int xs)] [(.int (0 : Int32)), (.ref sv)])) (fun tgt k => ?_) ?_
    · show Steps p.tables e below (T14.setTop (mkF m 247 #[.val (.int aa), .val (.int bb), .val (.int cc), .val (.int pk), .val (.int nd), .val (.ref dv), .val (.ref fv), .val (.ref sv), .val (.int (1 : Int32)), .val (.int (0 : Int32)), .val (.int aa), .val (.int e0), .val (.int e1), .val (.int e2), .unset] [(.int xs)])) tgt
      refine XS.istore X14.here hx rfl (hb hby at_247) rfl (l' := #[.val (.int aa), .val (.int bb), .val (.int cc), .val (.int pk), .val (.int nd), .val (.ref dv), .val (.ref fv), .val (.ref sv), .val (.int (1 : Int32)), .val (.int (0 : Int32)), .val (.int aa), .val (.int e0), .val (.int e1), .val (.int e2), .val (.int xs)]) rfl ?_
      show Steps p.tables e below (T14.setTop (mkF m 249 #[.val (.int aa), .val (.int bb), .val (.int cc), .val (.int pk), .val (.int nd), .val (.ref dv), .val (.ref fv), .val (.ref sv), .val (.int (1 : Int32)), .val (.int (0 : Int32)), .val (.int aa), .val (.int e0), .val (.int e1), .val (.int e2), .val (.int xs)] [])) tgt
      refine XS.iload X14.here hx rfl (hb hby at_249) rfl ?_
      show Steps p.tables e below (T14.setTop (mkF m 251 #[.val (.int aa), .val (.int bb), .val (.int cc), .val (.int pk), .val (.int nd), .val (.ref dv), .val (.ref fv), .val (.ref sv), .val (.int (1 : Int32)), .val (.int (0 : Int32)), .val (.int aa), .val (.int e0), .val (.int e1), .val (.int e2), .val (.int xs)] [(.int (1 : Int32))])) tgt
      refine XS.ifNo X14.here hx rfl (hb hby at_251) rfl ((if0 _ _).trans (feq (by decide : ¬ ((1 : Int32) = (0 : Int32)))).1) ?_
      show Steps p.tables e below (T14.setTop (mkF m 254 #[.val (.int aa), .val (.int bb), .val (.int cc), .val (.int pk), .val (.int nd), .val (.ref dv), .val (.ref fv), .val (.ref sv), .val (.int (1 : Int32)), .val (.int (0 : Int32)), .val (.int aa), .val (.int e0), .val (.int e1), .val (.int e2), .val (.int xs)] [])) tgt
      refine XS.aload X14.here hx rfl (hb hby at_254) rfl rfl ?_
      show Steps p.tables e below (T14.setTop (mkF m 256 #[.val (.int aa), .val (.int bb), .val (.int cc), .val (.int pk), .val (.int nd), .val (.ref dv), .val (.ref fv), .val (.ref sv), .val (.int (1 : Int32)), .val (.int (0 : Int32)), .val (.int aa), .val (.int e0), .val (.int e1), .val (.int e2), .val (.int xs)] [(.ref sv)])) tgt
      refine XS.iconst X14.here hx rfl (hb hby at_256) ?_
      exact k
    obtain ⟨cq15, kq15, q15a, q15b, q15c⟩ := isOf hZ rfl g14_0
    obtain ⟨_, _, ⟨T15, L15, k15, n15⟩, -, X15, ⟨Lc15, hQ15, l15, y15, z15⟩, st15⟩ := X14.virtualBack hx (y := (⟨"com/example/chainwright/chainwright/State", "isChosen", "(I)Z"⟩ : MethodName)) (z := (⟨"com/example/chainwright/chainwright/State", "isChosen", "(I)Z"⟩ : MethodName)) hown (mvT hZ (hw _ (List.mem_of_getElem? (i := 16) rfl))) (mvT hZ (hw _ (List.mem_of_getElem? (i := 17) rfl))) (notFace_of_selects (args := #[]) (mvT hZ (hw _ (List.mem_of_getElem? (i := 19) rfl)))) (mvT hZ (hw _ (List.mem_of_getElem? (i := 19) rfl))) (mvT hZ (hw _ (List.mem_of_getElem? (i := 18) rfl))) (by decide) (backOf (W := 0) (rm3 l Z a0 hw [] sv (0 : Int32) dv 3 (own_up (own_up (own_up (own_up (fun _ => 0) 0 aa) 1 bb) 2 cc) 0 nd) 0 T14.heap n0 Zs14 g14_1 g14_4 (by first | assumption | decide | rfl) (by first | assumption | decide | rfl)) hZ (hw _ (List.mem_of_getElem? (i := 20) rfl)) (hw _ (List.mem_of_getElem? (i := 3) rfl)) (by decide) (by decide)) q15a q15c (g := (mkF m 257 #[.val (.int aa), .val (.int bb), .val (.int cc), .val (.int pk), .val (.int nd), .val (.ref dv), .val (.ref fv), .val (.ref sv), .val (.int (1 : Int32)), .val (.int (0 : Int32)), .val (.int aa), .val (.int e0), .val (.int e1), .val (.int e2), .val (.int xs)] [(.int (0 : Int32)), (.ref sv)])) rfl (by rw [hml]; rfl) (Steps.refl _) (argsL := [(.int (0 : Int32))]) (rest := []) (lenOf pd_0_1 rfl) rfl (by show 2 * 0 + _ ≤ _; exact Nat.le_of_eq rfl) (hb hby at_257) (fun _ _ => ⟨rfl, rfl, (by decide : 3 + 0 ≤ _), (by decide : 9 + 0 ≤ _)⟩)
    dsimp only [Pt.U, Pt.locs, Pt.cells, Pt.slots] at X15 l15 y15 z15 st15 hQ15
    subst l15 y15 z15
    obtain ⟨rfl, N15q, K15⟩ := hQ15
    have N15 := Fr.app N14 N15q
    refine own_st (fun tgt k => st15.trans k) ?_
    show own_Go p e below _ (T15.setTop (mkF m 260 #[.val (.int aa), .val (.int bb), .val (.int cc), .val (.int pk), .val (.int nd), .val (.ref dv), .val (.ref fv), .val (.ref sv), .val (.int (1 : Int32)), .val (.int (0 : Int32)), .val (.int aa), .val (.int e0), .val (.int e1), .val (.int e2), .val (.int xs)] [(.int (if (own_up (own_up (own_up (own_up (fun _ => 0) 0 aa) 1 bb) 2 cc) 0 nd) 0 = 0 then (0 : Int32) else (1 : Int32)))]))
    refine own_st (V := T15.setTop (mkF m 268 #[.val (.int aa), .val (.int bb), .val (.int cc), .val (.int pk), .val (.int nd), .val (.ref dv), .val (.ref fv), .val (.ref sv), .val (.int (1 : Int32)), .val (.int (0 : Int32)), .val (.int aa), .val (.int e0), .val (.int e1), .val (.int e2), .val (.int xs)] [(.int (1 : Int32)), (.ref sv)])) (fun tgt k => ?_) ?_
    · show Steps p.tables e below (T15.setTop (mkF m 260 #[.val (.int aa), .val (.int bb), .val (.int cc), .val (.int pk), .val (.int nd), .val (.ref dv), .val (.ref fv), .val (.ref sv), .val (.int (1 : Int32)), .val (.int (0 : Int32)), .val (.int aa), .val (.int e0), .val (.int e1), .val (.int e2), .val (.int xs)] [(.int (if (own_up (own_up (own_up (own_up (fun _ => 0) 0 aa) 1 bb) 2 cc) 0 nd) 0 = 0 then (0 : Int32) else (1 : Int32)))])) tgt
      refine XS.iload X15.here hx rfl (hb hby at_260) rfl ?_
      show Steps p.tables e below (T15.setTop (mkF m 262 #[.val (.int aa), .val (.int bb), .val (.int cc), .val (.int pk), .val (.int nd), .val (.ref dv), .val (.ref fv), .val (.ref sv), .val (.int (1 : Int32)), .val (.int (0 : Int32)), .val (.int aa), .val (.int e0), .val (.int e1), .val (.int e2), .val (.int xs)] [(.int e0), (.int (if (own_up (own_up (own_up (own_up (fun _ => 0) 0 aa) 1 bb) 2 cc) 0 nd) 0 = 0 then (0 : Int32) else (1 : Int32)))])) tgt
      refine XS.icmpNo X15.here hx rfl (hb hby at_262) rfl (teq (by simp [own_up, he0])).2 ?_
      show Steps p.tables e below (T15.setTop (mkF m 265 #[.val (.int aa), .val (.int bb), .val (.int cc), .val (.int pk), .val (.int nd), .val (.ref dv), .val (.ref fv), .val (.ref sv), .val (.int (1 : Int32)), .val (.int (0 : Int32)), .val (.int aa), .val (.int e0), .val (.int e1), .val (.int e2), .val (.int xs)] [])) tgt
      refine XS.aload X15.here hx rfl (hb hby at_265) rfl rfl ?_
      show Steps p.tables e below (T15.setTop (mkF m 267 #[.val (.int aa), .val (.int bb), .val (.int cc), .val (.int pk), .val (.int nd), .val (.ref dv), .val (.ref fv), .val (.ref sv), .val (.int (1 : Int32)), .val (.int (0 : Int32)), .val (.int aa), .val (.int e0), .val (.int e1), .val (.int e2), .val (.int xs)] [(.ref sv)])) tgt
      refine XS.iconst X15.here hx rfl (hb hby at_267) ?_
      exact k
    obtain ⟨cq16, kq16, q16a, q16b, q16c⟩ := isOf hZ K15 g14_0
    obtain ⟨_, _, ⟨T16, L16, k16, n16⟩, -, X16, ⟨Lc16, hQ16, l16, y16, z16⟩, st16⟩ := X15.virtualBack hx (y := (⟨"com/example/chainwright/chainwright/State", "isChosen", "(I)Z"⟩ : MethodName)) (z := (⟨"com/example/chainwright/chainwright/State", "isChosen", "(I)Z"⟩ : MethodName)) hown (mvT hZ (hw _ (List.mem_of_getElem? (i := 16) rfl))) (mvT hZ (hw _ (List.mem_of_getElem? (i := 17) rfl))) (notFace_of_selects (args := #[]) (mvT hZ (hw _ (List.mem_of_getElem? (i := 19) rfl)))) (mvT hZ (hw _ (List.mem_of_getElem? (i := 19) rfl))) (mvT hZ (hw _ (List.mem_of_getElem? (i := 18) rfl))) (by decide) (backOf (W := 0) (rm3 l Z a0 hw [] sv (1 : Int32) dv 3 (own_up (own_up (own_up (own_up (fun _ => 0) 0 aa) 1 bb) 2 cc) 0 nd) 1 T14.heap n0 Zs14 g14_1 g14_4 (by first | assumption | decide | rfl) (by first | assumption | decide | rfl)) hZ (hw _ (List.mem_of_getElem? (i := 20) rfl)) (hw _ (List.mem_of_getElem? (i := 3) rfl)) (by decide) (by decide)) q16a q16c (g := (mkF m 268 #[.val (.int aa), .val (.int bb), .val (.int cc), .val (.int pk), .val (.int nd), .val (.ref dv), .val (.ref fv), .val (.ref sv), .val (.int (1 : Int32)), .val (.int (0 : Int32)), .val (.int aa), .val (.int e0), .val (.int e1), .val (.int e2), .val (.int xs)] [(.int (1 : Int32)), (.ref sv)])) rfl (by rw [hml]; rfl) (Steps.refl _) (argsL := [(.int (1 : Int32))]) (rest := []) (lenOf pd_0_1 rfl) rfl (by show 2 * 0 + _ ≤ _; exact Nat.le_of_eq rfl) (hb hby at_268) (fun _ _ => ⟨rfl, K15, (by decide : 3 + 0 ≤ _), (by decide : 9 + 0 ≤ _)⟩)
    dsimp only [Pt.U, Pt.locs, Pt.cells, Pt.slots] at X16 l16 y16 z16 st16 hQ16
    subst l16 y16 z16
    obtain ⟨rfl, N16q, K16⟩ := hQ16
    have N16 := Fr.app N15 N16q
    refine own_st (fun tgt k => st16.trans k) ?_
    show own_Go p e below _ (T16.setTop (mkF m 271 #[.val (.int aa), .val (.int bb), .val (.int cc), .val (.int pk), .val (.int nd), .val (.ref dv), .val (.ref fv), .val (.ref sv), .val (.int (1 : Int32)), .val (.int (0 : Int32)), .val (.int aa), .val (.int e0), .val (.int e1), .val (.int e2), .val (.int xs)] [(.int (if (own_up (own_up (own_up (own_up (fun _ => 0) 0 aa) 1 bb) 2 cc) 0 nd) 1 = 0 then (0 : Int32) else (1 : Int32)))]))
    refine own_st (V := T16.setTop (mkF m 279 #[.val (.int aa), .val (.int bb), .val (.int cc), .val (.int pk), .val (.int nd), .val (.ref dv), .val (.ref fv), .val (.ref sv), .val (.int (1 : Int32)), .val (.int (0 : Int32)), .val (.int aa), .val (.int e0), .val (.int e1), .val (.int e2), .val (.int xs)] [(.int (2 : Int32)), (.ref sv)])) (fun tgt k => ?_) ?_
    · show Steps p.tables e below (T16.setTop (mkF m 271 #[.val (.int aa), .val (.int bb), .val (.int cc), .val (.int pk), .val (.int nd), .val (.ref dv), .val (.ref fv), .val (.ref sv), .val (.int (1 : Int32)), .val (.int (0 : Int32)), .val (.int aa), .val (.int e0), .val (.int e1), .val (.int e2), .val (.int xs)] [(.int (if (own_up (own_up (own_up (own_up (fun _ => 0) 0 aa) 1 bb) 2 cc) 0 nd) 1 = 0 then (0 : Int32) else (1 : Int32)))])) tgt
      refine XS.iload X16.here hx rfl (hb hby at_271) rfl ?_
      show Steps p.tables e below (T16.setTop (mkF m 273 #[.val (.int aa), .val (.int bb), .val (.int cc), .val (.int pk), .val (.int nd), .val (.ref dv), .val (.ref fv), .val (.ref sv), .val (.int (1 : Int32)), .val (.int (0 : Int32)), .val (.int aa), .val (.int e0), .val (.int e1), .val (.int e2), .val (.int xs)] [(.int e1), (.int (if (own_up (own_up (own_up (own_up (fun _ => 0) 0 aa) 1 bb) 2 cc) 0 nd) 1 = 0 then (0 : Int32) else (1 : Int32)))])) tgt
      refine XS.icmpNo X16.here hx rfl (hb hby at_273) rfl (teq (by simp [own_up, he1])).2 ?_
      show Steps p.tables e below (T16.setTop (mkF m 276 #[.val (.int aa), .val (.int bb), .val (.int cc), .val (.int pk), .val (.int nd), .val (.ref dv), .val (.ref fv), .val (.ref sv), .val (.int (1 : Int32)), .val (.int (0 : Int32)), .val (.int aa), .val (.int e0), .val (.int e1), .val (.int e2), .val (.int xs)] [])) tgt
      refine XS.aload X16.here hx rfl (hb hby at_276) rfl rfl ?_
      show Steps p.tables e below (T16.setTop (mkF m 278 #[.val (.int aa), .val (.int bb), .val (.int cc), .val (.int pk), .val (.int nd), .val (.ref dv), .val (.ref fv), .val (.ref sv), .val (.int (1 : Int32)), .val (.int (0 : Int32)), .val (.int aa), .val (.int e0), .val (.int e1), .val (.int e2), .val (.int xs)] [(.ref sv)])) tgt
      refine XS.iconst X16.here hx rfl (hb hby at_278) ?_
      exact k
    obtain ⟨cq17, kq17, q17a, q17b, q17c⟩ := isOf hZ K16 g14_0
    obtain ⟨_, _, ⟨T17, L17, k17, n17⟩, -, X17, ⟨Lc17, hQ17, l17, y17, z17⟩, st17⟩ := X16.virtualBack hx (y := (⟨"com/example/chainwright/chainwright/State", "isChosen", "(I)Z"⟩ : MethodName)) (z := (⟨"com/example/chainwright/chainwright/State", "isChosen", "(I)Z"⟩ : MethodName)) hown (mvT hZ (hw _ (List.mem_of_getElem? (i := 16) rfl))) (mvT hZ (hw _ (List.mem_of_getElem? (i := 17) rfl))) (notFace_of_selects (args := #[]) (mvT hZ (hw _ (List.mem_of_getElem? (i := 19) rfl)))) (mvT hZ (hw _ (List.mem_of_getElem? (i := 19) rfl))) (mvT hZ (hw _ (List.mem_of_getElem? (i := 18) rfl))) (by decide) (backOf (W := 0) (rm3 l Z a0 hw [] sv (2 : Int32) dv 3 (own_up (own_up (own_up (own_up (fun _ => 0) 0 aa) 1 bb) 2 cc) 0 nd) 2 T14.heap n0 Zs14 g14_1 g14_4 (by first | assumption | decide | rfl) (by first | assumption | decide | rfl)) hZ (hw _ (List.mem_of_getElem? (i := 20) rfl)) (hw _ (List.mem_of_getElem? (i := 3) rfl)) (by decide) (by decide)) q17a q17c (g := (mkF m 279 #[.val (.int aa), .val (.int bb), .val (.int cc), .val (.int pk), .val (.int nd), .val (.ref dv), .val (.ref fv), .val (.ref sv), .val (.int (1 : Int32)), .val (.int (0 : Int32)), .val (.int aa), .val (.int e0), .val (.int e1), .val (.int e2), .val (.int xs)] [(.int (2 : Int32)), (.ref sv)])) rfl (by rw [hml]; rfl) (Steps.refl _) (argsL := [(.int (2 : Int32))]) (rest := []) (lenOf pd_0_1 rfl) rfl (by show 2 * 0 + _ ≤ _; exact Nat.le_of_eq rfl) (hb hby at_279) (fun _ _ => ⟨rfl, K16, (by decide : 3 + 0 ≤ _), (by decide : 9 + 0 ≤ _)⟩)
    dsimp only [Pt.U, Pt.locs, Pt.cells, Pt.slots] at X17 l17 y17 z17 st17 hQ17
    subst l17 y17 z17
    obtain ⟨rfl, N17q, K17⟩ := hQ17
    have N17 := Fr.app N16 N17q
    refine own_st (fun tgt k => st17.trans k) ?_
    show own_Go p e below _ (T17.setTop (mkF m 282 #[.val (.int aa), .val (.int bb), .val (.int cc), .val (.int pk), .val (.int nd), .val (.ref dv), .val (.ref fv), .val (.ref sv), .val (.int (1 : Int32)), .val (.int (0 : Int32)), .val (.int aa), .val (.int e0), .val (.int e1), .val (.int e2), .val (.int xs)] [(.int (if (own_up (own_up (own_up (own_up (fun _ => 0) 0 aa) 1 bb) 2 cc) 0 nd) 2 = 0 then (0 : Int32) else (1 : Int32)))]))
    refine own_st (V := T17.setTop (mkF m 289 #[.val (.int aa), .val (.int bb), .val (.int cc), .val (.int pk), .val (.int nd), .val (.ref dv), .val (.ref fv), .val (.ref sv), .val (.int (1 : Int32)), .val (.int (0 : Int32)), .val (.int aa), .val (.int e0), .val (.int e1), .val (.int e2), .val (.int xs)] [(.ref sv)])) (fun tgt k => ?_) ?_
    · show Steps p.tables e below (T17.setTop (mkF m 282 #[.val (.int aa), .val (.int bb), .val (.int cc), .val (.int pk), .val (.int nd), .val (.ref dv), .val (.ref fv), .val (.ref sv), .val (.int (1 : Int32)), .val (.int (0 : Int32)), .val (.int aa), .val (.int e0), .val (.int e1), .val (.int e2), .val (.int xs)] [(.int (if (own_up (own_up (own_up (own_up (fun _ => 0) 0 aa) 1 bb) 2 cc) 0 nd) 2 = 0 then (0 : Int32) else (1 : Int32)))])) tgt
      refine XS.iload X17.here hx rfl (hb hby at_282) rfl ?_
      show Steps p.tables e below (T17.setTop (mkF m 284 #[.val (.int aa), .val (.int bb), .val (.int cc), .val (.int pk), .val (.int nd), .val (.ref dv), .val (.ref fv), .val (.ref sv), .val (.int (1 : Int32)), .val (.int (0 : Int32)), .val (.int aa), .val (.int e0), .val (.int e1), .val (.int e2), .val (.int xs)] [(.int e2), (.int (if (own_up (own_up (own_up (own_up (fun _ => 0) 0 aa) 1 bb) 2 cc) 0 nd) 2 = 0 then (0 : Int32) else (1 : Int32)))])) tgt
      refine XS.icmpNo X17.here hx rfl (hb hby at_284) rfl (teq (by simp [own_up, he2])).2 ?_
      show Steps p.tables e below (T17.setTop (mkF m 287 #[.val (.int aa), .val (.int bb), .val (.int cc), .val (.int pk), .val (.int nd), .val (.ref dv), .val (.ref fv), .val (.ref sv), .val (.int (1 : Int32)), .val (.int (0 : Int32)), .val (.int aa), .val (.int e0), .val (.int e1), .val (.int e2), .val (.int xs)] [])) tgt
      refine XS.aload X17.here hx rfl (hb hby at_287) rfl rfl ?_
      exact k
    obtain ⟨cq18, kq18, q18a, q18b, q18c⟩ := isOf hZ K17 g14_0
    obtain ⟨_, _, ⟨T18, L18, k18, n18⟩, -, X18, ⟨Lc18, hQ18, l18, y18, z18⟩, st18⟩ := X17.virtualBack hx (y := (⟨"com/example/chainwright/chainwright/State", "size", "()I"⟩ : MethodName)) (z := (⟨"com/example/chainwright/chainwright/State", "size", "()I"⟩ : MethodName)) hown (mvT hZ (hw _ (List.mem_of_getElem? (i := 28) rfl))) (mvT hZ (hw _ (List.mem_of_getElem? (i := 29) rfl))) (notFace_of_selects (args := #[]) (mvT hZ (hw _ (List.mem_of_getElem? (i := 31) rfl)))) (mvT hZ (hw _ (List.mem_of_getElem? (i := 31) rfl))) (mvT hZ (hw _ (List.mem_of_getElem? (i := 30) rfl))) (by decide) (backOf (W := 0) (rm5 l Z a0 hw [] sv (if (own_up (own_up (own_up (fun _ => 0) 0 aa) 1 bb) 2 cc) 0 = 0 then (0 : Int32) + (1 : Int32) else (0 : Int32)) T14.heap n0 Zs14 g14_3) hZ (hw _ (List.mem_of_getElem? (i := 32) rfl)) (hw _ (List.mem_of_getElem? (i := 3) rfl)) (by decide) (by decide)) q18a q18c (g := (mkF m 289 #[.val (.int aa), .val (.int bb), .val (.int cc), .val (.int pk), .val (.int nd), .val (.ref dv), .val (.ref fv), .val (.ref sv), .val (.int (1 : Int32)), .val (.int (0 : Int32)), .val (.int aa), .val (.int e0), .val (.int e1), .val (.int e2), .val (.int xs)] [(.ref sv)])) rfl (by rw [hml]; rfl) (Steps.refl _) (argsL := []) (rest := []) (lenOf pd_0_3 rfl) rfl (by show 2 * 0 + _ ≤ _; exact Nat.le_of_eq rfl) (hb hby at_289) (fun _ _ => ⟨rfl, K17, (by decide : 3 + 0 ≤ _), (by decide : 9 + 0 ≤ _)⟩)
    dsimp only [Pt.U, Pt.locs, Pt.cells, Pt.slots] at X18 l18 y18 z18 st18 hQ18
    subst l18 y18 z18
    obtain ⟨rfl, N18q, K18⟩ := hQ18
    have N18 := Fr.app N17 N18q
    refine own_st (fun tgt k => st18.trans k) ?_
    show own_Go p e below _ (T18.setTop (mkF m 292 #[.val (.int aa), .val (.int bb), .val (.int cc), .val (.int pk), .val (.int nd), .val (.ref dv), .val (.ref fv), .val (.ref sv), .val (.int (1 : Int32)), .val (.int (0 : Int32)), .val (.int aa), .val (.int e0), .val (.int e1), .val (.int e2), .val (.int xs)] [(.int (if (own_up (own_up (own_up (fun _ => 0) 0 aa) 1 bb) 2 cc) 0 = 0 then (0 : Int32) + (1 : Int32) else (0 : Int32)))]))
    refine own_st (V := T18.setTop (mkF m 302 #[.val (.int aa), .val (.int bb), .val (.int cc), .val (.int pk), .val (.int nd), .val (.ref dv), .val (.ref fv), .val (.ref sv), .val (.int (1 : Int32)), .val (.int (0 : Int32)), .val (.int aa), .val (.int e0), .val (.int e1), .val (.int e2), .val (.int xs)] [(.int (1 : Int32))])) (fun tgt k => ?_) ?_
    · show Steps p.tables e below (T18.setTop (mkF m 292 #[.val (.int aa), .val (.int bb), .val (.int cc), .val (.int pk), .val (.int nd), .val (.ref dv), .val (.ref fv), .val (.ref sv), .val (.int (1 : Int32)), .val (.int (0 : Int32)), .val (.int aa), .val (.int e0), .val (.int e1), .val (.int e2), .val (.int xs)] [(.int (if (own_up (own_up (own_up (fun _ => 0) 0 aa) 1 bb) 2 cc) 0 = 0 then (0 : Int32) + (1 : Int32) else (0 : Int32)))])) tgt
      refine XS.iload X18.here hx rfl (hb hby at_292) rfl ?_
      show Steps p.tables e below (T18.setTop (mkF m 294 #[.val (.int aa), .val (.int bb), .val (.int cc), .val (.int pk), .val (.int nd), .val (.ref dv), .val (.ref fv), .val (.ref sv), .val (.int (1 : Int32)), .val (.int (0 : Int32)), .val (.int aa), .val (.int e0), .val (.int e1), .val (.int e2), .val (.int xs)] [(.int xs), (.int (if (own_up (own_up (own_up (fun _ => 0) 0 aa) 1 bb) 2 cc) 0 = 0 then (0 : Int32) + (1 : Int32) else (0 : Int32)))])) tgt
      refine XS.icmpNo X18.here hx rfl (hb hby at_294) rfl (teq (by simp [own_up, hxs])).2 ?_
      show Steps p.tables e below (T18.setTop (mkF m 297 #[.val (.int aa), .val (.int bb), .val (.int cc), .val (.int pk), .val (.int nd), .val (.ref dv), .val (.ref fv), .val (.ref sv), .val (.int (1 : Int32)), .val (.int (0 : Int32)), .val (.int aa), .val (.int e0), .val (.int e1), .val (.int e2), .val (.int xs)] [])) tgt
      refine XS.iconst X18.here hx rfl (hb hby at_297) ?_
      show Steps p.tables e below (T18.setTop (mkF m 298 #[.val (.int aa), .val (.int bb), .val (.int cc), .val (.int pk), .val (.int nd), .val (.ref dv), .val (.ref fv), .val (.ref sv), .val (.int (1 : Int32)), .val (.int (0 : Int32)), .val (.int aa), .val (.int e0), .val (.int e1), .val (.int e2), .val (.int xs)] [(.int (1 : Int32))])) tgt
      refine XS.goto X18.here hx rfl (pc0 := 298) (pc' := 302) rfl (hb hby at_298) (by decide) (by decide) ?_
      exact k
    refine own_retN X18 hx hlk (t := .boolean) (z' := (1 : Int32)) Bd.returns (by simp) rfl (hb hby at_302) ?_ (by decide) (by decide)
    show Q0 Z aa bb cc pk nd h0 n0 (some (.int (1 : Int32))) T18.heap _
    rw [K18]
    exact ⟨rfl, N18⟩
  · skip
    rw [show ((pk &&& (2147483647 : Int32)) % (3 : Int32)) = (1 : Int32) from q]
    refine own_st (V := T13.setTop (mkF m 145 #[.val (.int aa), .val (.int bb), .val (.int cc), .val (.int pk), .val (.int nd), .val (.ref dv), .val (.ref fv), .val (.ref sv), .val (.int (1 : Int32)), .val (.int (1 : Int32)), .val (.int bb), .unset, .unset, .unset, .unset] [(.int nd), (.int (1 : Int32)), (.ref sv)])) (fun tgt k => ?_) ?_
    · show Steps p.tables e below (T13.setTop (mkF m 117 #[.val (.int aa), .val (.int bb), .val (.int cc), .val (.int pk), .val (.int nd), .val (.ref dv), .val (.ref fv), .val (.ref sv), .val (.int (1 : Int32)), .val (.int (1 : Int32)), .unset, .unset, .unset, .unset, .unset] [])) tgt
      refine XS.iload X13.here hx rfl (hb hby at_117) rfl ?_
      show Steps p.tables e below (T13.setTop (mkF m 119 #[.val (.int aa), .val (.int bb), .val (.int cc), .val (.int pk), .val (.int nd), .val (.ref dv), .val (.ref fv), .val (.ref sv), .val (.int (1 : Int32)), .val (.int (1 : Int32)), .unset, .unset, .unset, .unset, .unset] [(.int (1 : Int32))])) tgt
      refine XS.ifYes X13.here hx rfl (pc0 := 119) (pc' := 126) rfl (hb hby at_119) rfl ((if0 _ _).trans (feq (by decide : ¬ ((1 : Int32) = (0 : Int32)))).2) (by decide) (by decide) ?_
      show Steps p.tables e below (T13.setTop (mkF m 126 #[.val (.int aa), .val (.int bb), .val (.int cc), .val (.int pk), .val (.int nd), .val (.ref dv), .val (.ref fv), .val (.ref sv), .val (.int (1 : Int32)), .val (.int (1 : Int32)), .unset, .unset, .unset, .unset, .unset] [])) tgt
      refine XS.iload X13.here hx rfl (hb hby at_126) rfl ?_
      show Steps p.tables e below (T13.setTop (mkF m 128 #[.val (.int aa), .val (.int bb), .val (.int cc), .val (.int pk), .val (.int nd), .val (.ref dv), .val (.ref fv), .val (.ref sv), .val (.int (1 : Int32)), .val (.int (1 : Int32)), .unset, .unset, .unset, .unset, .unset] [(.int (1 : Int32))])) tgt
      refine XS.iconst X13.here hx rfl (hb hby at_128) ?_
      show Steps p.tables e below (T13.setTop (mkF m 129 #[.val (.int aa), .val (.int bb), .val (.int cc), .val (.int pk), .val (.int nd), .val (.ref dv), .val (.ref fv), .val (.ref sv), .val (.int (1 : Int32)), .val (.int (1 : Int32)), .unset, .unset, .unset, .unset, .unset] [(.int (1 : Int32)), (.int (1 : Int32))])) tgt
      refine XS.icmpNo X13.here hx rfl (hb hby at_129) rfl (teq (by decide : (1 : Int32) = (1 : Int32))).2 ?_
      show Steps p.tables e below (T13.setTop (mkF m 132 #[.val (.int aa), .val (.int bb), .val (.int cc), .val (.int pk), .val (.int nd), .val (.ref dv), .val (.ref fv), .val (.ref sv), .val (.int (1 : Int32)), .val (.int (1 : Int32)), .unset, .unset, .unset, .unset, .unset] [])) tgt
      refine XS.iloadN X13.here hx rfl (hb hby at_132) rfl ?_
      show Steps p.tables e below (T13.setTop (mkF m 133 #[.val (.int aa), .val (.int bb), .val (.int cc), .val (.int pk), .val (.int nd), .val (.ref dv), .val (.ref fv), .val (.ref sv), .val (.int (1 : Int32)), .val (.int (1 : Int32)), .unset, .unset, .unset, .unset, .unset] [(.int bb)])) tgt
      refine XS.goto X13.here hx rfl (pc0 := 133) (pc' := 137) rfl (hb hby at_133) (by decide) (by decide) ?_
      show Steps p.tables e below (T13.setTop (mkF m 137 #[.val (.int aa), .val (.int bb), .val (.int cc), .val (.int pk), .val (.int nd), .val (.ref dv), .val (.ref fv), .val (.ref sv), .val (.int (1 : Int32)), .val (.int (1 : Int32)), .unset, .unset, .unset, .unset, .unset] [(.int bb)])) tgt
      refine XS.istore X13.here hx rfl (hb hby at_137) rfl (l' := #[.val (.int aa), .val (.int bb), .val (.int cc), .val (.int pk), .val (.int nd), .val (.ref dv), .val (.ref fv), .val (.ref sv), .val (.int (1 : Int32)), .val (.int (1 : Int32)), .val (.int bb), .unset, .unset, .unset, .unset]) rfl ?_
      show Steps p.tables e below (T13.setTop (mkF m 139 #[.val (.int aa), .val (.int bb), .val (.int cc), .val (.int pk), .val (.int nd), .val (.ref dv), .val (.ref fv), .val (.ref sv), .val (.int (1 : Int32)), .val (.int (1 : Int32)), .val (.int bb), .unset, .unset, .unset, .unset] [])) tgt
      refine XS.aload X13.here hx rfl (hb hby at_139) rfl rfl ?_
      show Steps p.tables e below (T13.setTop (mkF m 141 #[.val (.int aa), .val (.int bb), .val (.int cc), .val (.int pk), .val (.int nd), .val (.ref dv), .val (.ref fv), .val (.ref sv), .val (.int (1 : Int32)), .val (.int (1 : Int32)), .val (.int bb), .unset, .unset, .unset, .unset] [(.ref sv)])) tgt
      refine XS.iload X13.here hx rfl (hb hby at_141) rfl ?_
      show Steps p.tables e below (T13.setTop (mkF m 143 #[.val (.int aa), .val (.int bb), .val (.int cc), .val (.int pk), .val (.int nd), .val (.ref dv), .val (.ref fv), .val (.ref sv), .val (.int (1 : Int32)), .val (.int (1 : Int32)), .val (.int bb), .unset, .unset, .unset, .unset] [(.int (1 : Int32)), (.ref sv)])) tgt
      refine XS.iload X13.here hx rfl (hb hby at_143) rfl ?_
      exact k
    obtain ⟨cq20, kq20, q20a, q20b, q20c⟩ := isOf hZ K13 g10_0
    obtain ⟨_, _, ⟨T20, L20, k20, n20⟩, -, X20, ⟨Lc20, hQ20, l20, y20, z20⟩, st20⟩ := X13.virtualBack hx (y := (⟨"com/example/chainwright/chainwright/State", "choose", "(II)V"⟩ : MethodName)) (z := (⟨"com/example/chainwright/chainwright/State", "choose", "(II)V"⟩ : MethodName)) hown (mvT hZ (hw _ (List.mem_of_getElem? (i := 22) rfl))) (mvT hZ (hw _ (List.mem_of_getElem? (i := 23) rfl))) (notFace_of_selects (args := #[]) (mvT hZ (hw _ (List.mem_of_getElem? (i := 25) rfl)))) (mvT hZ (hw _ (List.mem_of_getElem? (i := 25) rfl))) (mvT hZ (hw _ (List.mem_of_getElem? (i := 24) rfl))) (by decide) (backOf (W := 0) (rm4 l Z a0 hw [] sv (1 : Int32) nd dv 3 (own_up (own_up (own_up (fun _ => 0) 0 aa) 1 bb) 2 cc) 1 fv (0 : Int32) T10.heap n0 Zs10 g10_0 g10_1 g10_2 g10_3 A_dv_10 (by first | assumption | decide | rfl) (by first | assumption | decide | rfl) g_sv g_dv (Ne.symm ne_dv_sv)) hZ (hw _ (List.mem_of_getElem? (i := 26) rfl)) (hw _ (List.mem_of_getElem? (i := 3) rfl)) (by decide) (by decide)) q20a q20c (g := (mkF m 145 #[.val (.int aa), .val (.int bb), .val (.int cc), .val (.int pk), .val (.int nd), .val (.ref dv), .val (.ref fv), .val (.ref sv), .val (.int (1 : Int32)), .val (.int (1 : Int32)), .val (.int bb), .unset, .unset, .unset, .unset] [(.int nd), (.int (1 : Int32)), (.ref sv)])) rfl (by rw [hml]; rfl) (Steps.refl _) (argsL := [(.int (1 : Int32)), (.int nd)]) (rest := []) (lenOf pd_0_2 rfl) rfl (by show 2 * 0 + _ ≤ _; exact Nat.le_of_eq rfl) (hb hby at_145) (fun _ _ => ⟨rfl, K13, (by decide : 3 + 0 ≤ _), (by decide : 9 + 0 ≤ _)⟩)
    dsimp only [Pt.U, Pt.locs, Pt.cells, Pt.slots] at X20 l20 y20 z20 st20 hQ20
    subst l20 y20 z20
    obtain ⟨rfl, N20q, K20, g20_0, g20_1, g20_2, g20_3, g20_4⟩ := hQ20
    have N20 := Fr.app N13 N20q
    have A_fv_20 := A_fv_10.keep K20 (ninS ne_fv_sv (ninS (Ne.symm ne_dv_fv) nin0))
    have E_sv_20 := g10_0.keep K20
    have Zs20 : n0 ≤ T20.heap.size := Nat.le_trans Zs10 K20.1
    refine own_st (fun tgt k => st20.trans k) ?_
    show own_Go p e below _ (T20.setTop (mkF m 148 #[.val (.int aa), .val (.int bb), .val (.int cc), .val (.int pk), .val (.int nd), .val (.ref dv), .val (.ref fv), .val (.ref sv), .val (.int (1 : Int32)), .val (.int (1 : Int32)), .val (.int bb), .unset, .unset, .unset, .unset] []))
    refine own_st (V := T20.setTop (mkF m 167 #[.val (.int aa), .val (.int bb), .val (.int cc), .val (.int pk), .val (.int nd), .val (.ref dv), .val (.ref fv), .val (.ref sv), .val (.int (1 : Int32)), .val (.int (1 : Int32)), .val (.int bb), .unset, .unset, .unset, .unset] [(.int aa)])) (fun tgt k => ?_) ?_
    · show Steps p.tables e below (T20.setTop (mkF m 148 #[.val (.int aa), .val (.int bb), .val (.int cc), .val (.int pk), .val (.int nd), .val (.ref dv), .val (.ref fv), .val (.ref sv), .val (.int (1 : Int32)), .val (.int (1 : Int32)), .val (.int bb), .unset, .unset, .unset, .unset] [])) tgt
      refine XS.iload X20.here hx rfl (hb hby at_148) rfl ?_
      show Steps p.tables e below (T20.setTop (mkF m 150 #[.val (.int aa), .val (.int bb), .val (.int cc), .val (.int pk), .val (.int nd), .val (.ref dv), .val (.ref fv), .val (.ref sv), .val (.int (1 : Int32)), .val (.int (1 : Int32)), .val (.int bb), .unset, .unset, .unset, .unset] [(.int (1 : Int32))])) tgt
      refine XS.ifYes X20.here hx rfl (pc0 := 150) (pc' := 166) rfl (hb hby at_150) rfl ((if0 _ _).trans (feq (by decide : ¬ ((1 : Int32) = (0 : Int32)))).2) (by decide) (by decide) ?_
      show Steps p.tables e below (T20.setTop (mkF m 166 #[.val (.int aa), .val (.int bb), .val (.int cc), .val (.int pk), .val (.int nd), .val (.ref dv), .val (.ref fv), .val (.ref sv), .val (.int (1 : Int32)), .val (.int (1 : Int32)), .val (.int bb), .unset, .unset, .unset, .unset] [])) tgt
      refine XS.iloadN X20.here hx rfl (hb hby at_166) rfl ?_
      exact k
    obtain ⟨e0, he0⟩ : ∃ z : Int32, z = (if aa = (0 : Int32) then (0 : Int32) else (1 : Int32)) := ⟨_, rfl⟩
    refine own_st (V := T20.setTop (mkF m 175 #[.val (.int aa), .val (.int bb), .val (.int cc), .val (.int pk), .val (.int nd), .val (.ref dv), .val (.ref fv), .val (.ref sv), .val (.int (1 : Int32)), .val (.int (1 : Int32)), .val (.int bb), .unset, .unset, .unset, .unset] [(.int e0)])) (fun tgt k => ?_) ?_
    · skip
      by_cases hc167_2 : aa = (0 : Int32)
      · skip
        rw [if_pos hc167_2] at he0
        show Steps p.tables e below (T20.setTop (mkF m 167 #[.val (.int aa), .val (.int bb), .val (.int cc), .val (.int pk), .val (.int nd), .val (.ref dv), .val (.ref fv), .val (.ref sv), .val (.int (1 : Int32)), .val (.int (1 : Int32)), .val (.int bb), .unset, .unset, .unset, .unset] [(.int aa)])) tgt
        refine XS.ifYes X20.here hx rfl (pc0 := 167) (pc' := 174) rfl (hb hby at_167) rfl ((if0 _ _).trans (teq hc167_2).1) (by decide) (by decide) ?_
        show Steps p.tables e below (T20.setTop (mkF m 174 #[.val (.int aa), .val (.int bb), .val (.int cc), .val (.int pk), .val (.int nd), .val (.ref dv), .val (.ref fv), .val (.ref sv), .val (.int (1 : Int32)), .val (.int (1 : Int32)), .val (.int bb), .unset, .unset, .unset, .unset] [])) tgt
        refine XS.iconst X20.here hx rfl (hb hby at_174) ?_
        rw [he0] at k
        exact k
      · skip
        rw [if_neg hc167_2] at he0
        show Steps p.tables e below (T20.setTop (mkF m 167 #[.val (.int aa), .val (.int bb), .val (.int cc), .val (.int pk), .val (.int nd), .val (.ref dv), .val (.ref fv), .val (.ref sv), .val (.int (1 : Int32)), .val (.int (1 : Int32)), .val (.int bb), .unset, .unset, .unset, .unset] [(.int aa)])) tgt
        refine XS.ifNo X20.here hx rfl (hb hby at_167) rfl ((if0 _ _).trans (feq hc167_2).1) ?_
        show Steps p.tables e below (T20.setTop (mkF m 170 #[.val (.int aa), .val (.int bb), .val (.int cc), .val (.int pk), .val (.int nd), .val (.ref dv), .val (.ref fv), .val (.ref sv), .val (.int (1 : Int32)), .val (.int (1 : Int32)), .val (.int bb), .unset, .unset, .unset, .unset] [])) tgt
        refine XS.iconst X20.here hx rfl (hb hby at_170) ?_
        show Steps p.tables e below (T20.setTop (mkF m 171 #[.val (.int aa), .val (.int bb), .val (.int cc), .val (.int pk), .val (.int nd), .val (.ref dv), .val (.ref fv), .val (.ref sv), .val (.int (1 : Int32)), .val (.int (1 : Int32)), .val (.int bb), .unset, .unset, .unset, .unset] [(.int (1 : Int32))])) tgt
        refine XS.goto X20.here hx rfl (pc0 := 171) (pc' := 175) rfl (hb hby at_171) (by decide) (by decide) ?_
        rw [he0] at k
        exact k
    refine own_st (V := T20.setTop (mkF m 185 #[.val (.int aa), .val (.int bb), .val (.int cc), .val (.int pk), .val (.int nd), .val (.ref dv), .val (.ref fv), .val (.ref sv), .val (.int (1 : Int32)), .val (.int (1 : Int32)), .val (.int bb), .val (.int e0), .unset, .unset, .unset] [(.int nd)])) (fun tgt k => ?_) ?_
    · show Steps p.tables e below (T20.setTop (mkF m 175 #[.val (.int aa), .val (.int bb), .val (.int cc), .val (.int pk), .val (.int nd), .val (.ref dv), .val (.ref fv), .val (.ref sv), .val (.int (1 : Int32)), .val (.int (1 : Int32)), .val (.int bb), .unset, .unset, .unset, .unset] [(.int e0)])) tgt
      refine XS.istore X20.here hx rfl (hb hby at_175) rfl (l' := #[.val (.int aa), .val (.int bb), .val (.int cc), .val (.int pk), .val (.int nd), .val (.ref dv), .val (.ref fv), .val (.ref sv), .val (.int (1 : Int32)), .val (.int (1 : Int32)), .val (.int bb), .val (.int e0), .unset, .unset, .unset]) rfl ?_
      show Steps p.tables e below (T20.setTop (mkF m 177 #[.val (.int aa), .val (.int bb), .val (.int cc), .val (.int pk), .val (.int nd), .val (.ref dv), .val (.ref fv), .val (.ref sv), .val (.int (1 : Int32)), .val (.int (1 : Int32)), .val (.int bb), .val (.int e0), .unset, .unset, .unset] [])) tgt
      refine XS.iload X20.here hx rfl (hb hby at_177) rfl ?_
      show Steps p.tables e below (T20.setTop (mkF m 179 #[.val (.int aa), .val (.int bb), .val (.int cc), .val (.int pk), .val (.int nd), .val (.ref dv), .val (.ref fv), .val (.ref sv), .val (.int (1 : Int32)), .val (.int (1 : Int32)), .val (.int bb), .val (.int e0), .unset, .unset, .unset] [(.int (1 : Int32))])) tgt
      refine XS.iconst X20.here hx rfl (hb hby at_179) ?_
      show Steps p.tables e below (T20.setTop (mkF m 180 #[.val (.int aa), .val (.int bb), .val (.int cc), .val (.int pk), .val (.int nd), .val (.ref dv), .val (.ref fv), .val (.ref sv), .val (.int (1 : Int32)), .val (.int (1 : Int32)), .val (.int bb), .val (.int e0), .unset, .unset, .unset] [(.int (1 : Int32)), (.int (1 : Int32))])) tgt
      refine XS.icmpNo X20.here hx rfl (hb hby at_180) rfl (teq (by decide : (1 : Int32) = (1 : Int32))).2 ?_
      show Steps p.tables e below (T20.setTop (mkF m 183 #[.val (.int aa), .val (.int bb), .val (.int cc), .val (.int pk), .val (.int nd), .val (.ref dv), .val (.ref fv), .val (.ref sv), .val (.int (1 : Int32)), .val (.int (1 : Int32)), .val (.int bb), .val (.int e0), .unset, .unset, .unset] [])) tgt
      refine XS.iload X20.here hx rfl (hb hby at_183) rfl ?_
      exact k
    obtain ⟨e1, he1⟩ : ∃ z : Int32, z = (if nd = (0 : Int32) then (0 : Int32) else (1 : Int32)) := ⟨_, rfl⟩
    refine own_st (V := T20.setTop (mkF m 205 #[.val (.int aa), .val (.int bb), .val (.int cc), .val (.int pk), .val (.int nd), .val (.ref dv), .val (.ref fv), .val (.ref sv), .val (.int (1 : Int32)), .val (.int (1 : Int32)), .val (.int bb), .val (.int e0), .unset, .unset, .unset] [(.int e1)])) (fun tgt k => ?_) ?_
    · skip
      by_cases hc185_2 : nd = (0 : Int32)
      · skip
        rw [if_pos hc185_2] at he1
        show Steps p.tables e below (T20.setTop (mkF m 185 #[.val (.int aa), .val (.int bb), .val (.int cc), .val (.int pk), .val (.int nd), .val (.ref dv), .val (.ref fv), .val (.ref sv), .val (.int (1 : Int32)), .val (.int (1 : Int32)), .val (.int bb), .val (.int e0), .unset, .unset, .unset] [(.int nd)])) tgt
        refine XS.ifYes X20.here hx rfl (pc0 := 185) (pc' := 192) rfl (hb hby at_185) rfl ((if0 _ _).trans (teq hc185_2).1) (by decide) (by decide) ?_
        show Steps p.tables e below (T20.setTop (mkF m 192 #[.val (.int aa), .val (.int bb), .val (.int cc), .val (.int pk), .val (.int nd), .val (.ref dv), .val (.ref fv), .val (.ref sv), .val (.int (1 : Int32)), .val (.int (1 : Int32)), .val (.int bb), .val (.int e0), .unset, .unset, .unset] [])) tgt
        refine XS.iconst X20.here hx rfl (hb hby at_192) ?_
        show Steps p.tables e below (T20.setTop (mkF m 193 #[.val (.int aa), .val (.int bb), .val (.int cc), .val (.int pk), .val (.int nd), .val (.ref dv), .val (.ref fv), .val (.ref sv), .val (.int (1 : Int32)), .val (.int (1 : Int32)), .val (.int bb), .val (.int e0), .unset, .unset, .unset] [(.int (0 : Int32))])) tgt
        refine XS.goto X20.here hx rfl (pc0 := 193) (pc' := 205) rfl (hb hby at_193) (by decide) (by decide) ?_
        rw [he1] at k
        exact k
      · skip
        rw [if_neg hc185_2] at he1
        show Steps p.tables e below (T20.setTop (mkF m 185 #[.val (.int aa), .val (.int bb), .val (.int cc), .val (.int pk), .val (.int nd), .val (.ref dv), .val (.ref fv), .val (.ref sv), .val (.int (1 : Int32)), .val (.int (1 : Int32)), .val (.int bb), .val (.int e0), .unset, .unset, .unset] [(.int nd)])) tgt
        refine XS.ifNo X20.here hx rfl (hb hby at_185) rfl ((if0 _ _).trans (feq hc185_2).1) ?_
        show Steps p.tables e below (T20.setTop (mkF m 188 #[.val (.int aa), .val (.int bb), .val (.int cc), .val (.int pk), .val (.int nd), .val (.ref dv), .val (.ref fv), .val (.ref sv), .val (.int (1 : Int32)), .val (.int (1 : Int32)), .val (.int bb), .val (.int e0), .unset, .unset, .unset] [])) tgt
        refine XS.iconst X20.here hx rfl (hb hby at_188) ?_
        show Steps p.tables e below (T20.setTop (mkF m 189 #[.val (.int aa), .val (.int bb), .val (.int cc), .val (.int pk), .val (.int nd), .val (.ref dv), .val (.ref fv), .val (.ref sv), .val (.int (1 : Int32)), .val (.int (1 : Int32)), .val (.int bb), .val (.int e0), .unset, .unset, .unset] [(.int (1 : Int32))])) tgt
        refine XS.goto X20.here hx rfl (pc0 := 189) (pc' := 205) rfl (hb hby at_189) (by decide) (by decide) ?_
        rw [he1] at k
        exact k
    refine own_st (V := T20.setTop (mkF m 227 #[.val (.int aa), .val (.int bb), .val (.int cc), .val (.int pk), .val (.int nd), .val (.ref dv), .val (.ref fv), .val (.ref sv), .val (.int (1 : Int32)), .val (.int (1 : Int32)), .val (.int bb), .val (.int e0), .val (.int e1), .unset, .unset] [(.int cc)])) (fun tgt k => ?_) ?_
    · show Steps p.tables e below (T20.setTop (mkF m 205 #[.val (.int aa), .val (.int bb), .val (.int cc), .val (.int pk), .val (.int nd), .val (.ref dv), .val (.ref fv), .val (.ref sv), .val (.int (1 : Int32)), .val (.int (1 : Int32)), .val (.int bb), .val (.int e0), .unset, .unset, .unset] [(.int e1)])) tgt
      refine XS.istore X20.here hx rfl (hb hby at_205) rfl (l' := #[.val (.int aa), .val (.int bb), .val (.int cc), .val (.int pk), .val (.int nd), .val (.ref dv), .val (.ref fv), .val (.ref sv), .val (.int (1 : Int32)), .val (.int (1 : Int32)), .val (.int bb), .val (.int e0), .val (.int e1), .unset, .unset]) rfl ?_
      show Steps p.tables e below (T20.setTop (mkF m 207 #[.val (.int aa), .val (.int bb), .val (.int cc), .val (.int pk), .val (.int nd), .val (.ref dv), .val (.ref fv), .val (.ref sv), .val (.int (1 : Int32)), .val (.int (1 : Int32)), .val (.int bb), .val (.int e0), .val (.int e1), .unset, .unset] [])) tgt
      refine XS.iload X20.here hx rfl (hb hby at_207) rfl ?_
      show Steps p.tables e below (T20.setTop (mkF m 209 #[.val (.int aa), .val (.int bb), .val (.int cc), .val (.int pk), .val (.int nd), .val (.ref dv), .val (.ref fv), .val (.ref sv), .val (.int (1 : Int32)), .val (.int (1 : Int32)), .val (.int bb), .val (.int e0), .val (.int e1), .unset, .unset] [(.int (1 : Int32))])) tgt
      refine XS.iconst X20.here hx rfl (hb hby at_209) ?_
      show Steps p.tables e below (T20.setTop (mkF m 210 #[.val (.int aa), .val (.int bb), .val (.int cc), .val (.int pk), .val (.int nd), .val (.ref dv), .val (.ref fv), .val (.ref sv), .val (.int (1 : Int32)), .val (.int (1 : Int32)), .val (.int bb), .val (.int e0), .val (.int e1), .unset, .unset] [(.int (2 : Int32)), (.int (1 : Int32))])) tgt
      refine XS.icmpYes X20.here hx rfl (pc0 := 210) (pc' := 226) rfl (hb hby at_210) rfl (feq (by decide : ¬ ((1 : Int32) = (2 : Int32)))).2 (by decide) (by decide) ?_
      show Steps p.tables e below (T20.setTop (mkF m 226 #[.val (.int aa), .val (.int bb), .val (.int cc), .val (.int pk), .val (.int nd), .val (.ref dv), .val (.ref fv), .val (.ref sv), .val (.int (1 : Int32)), .val (.int (1 : Int32)), .val (.int bb), .val (.int e0), .val (.int e1), .unset, .unset] [])) tgt
      refine XS.iloadN X20.here hx rfl (hb hby at_226) rfl ?_
      exact k
    obtain ⟨e2, he2⟩ : ∃ z : Int32, z = (if cc = (0 : Int32) then (0 : Int32) else (1 : Int32)) := ⟨_, rfl⟩
    refine own_st (V := T20.setTop (mkF m 235 #[.val (.int aa), .val (.int bb), .val (.int cc), .val (.int pk), .val (.int nd), .val (.ref dv), .val (.ref fv), .val (.ref sv), .val (.int (1 : Int32)), .val (.int (1 : Int32)), .val (.int bb), .val (.int e0), .val (.int e1), .unset, .unset] [(.int e2)])) (fun tgt k => ?_) ?_
    · skip
      by_cases hc227_2 : cc = (0 : Int32)
      · skip
        rw [if_pos hc227_2] at he2
        show Steps p.tables e below (T20.setTop (mkF m 227 #[.val (.int aa), .val (.int bb), .val (.int cc), .val (.int pk), .val (.int nd), .val (.ref dv), .val (.ref fv), .val (.ref sv), .val (.int (1 : Int32)), .val (.int (1 : Int32)), .val (.int bb), .val (.int e0), .val (.int e1), .unset, .unset] [(.int cc)])) tgt
        refine XS.ifYes X20.here hx rfl (pc0 := 227) (pc' := 234) rfl (hb hby at_227) rfl ((if0 _ _).trans (teq hc227_2).1) (by decide) (by decide) ?_
        show Steps p.tables e below (T20.setTop (mkF m 234 #[.val (.int aa), .val (.int bb), .val (.int cc), .val (.int pk), .val (.int nd), .val (.ref dv), .val (.ref fv), .val (.ref sv), .val (.int (1 : Int32)), .val (.int (1 : Int32)), .val (.int bb), .val (.int e0), .val (.int e1), .unset, .unset] [])) tgt
        refine XS.iconst X20.here hx rfl (hb hby at_234) ?_
        rw [he2] at k
        exact k
      · skip
        rw [if_neg hc227_2] at he2
        show Steps p.tables e below (T20.setTop (mkF m 227 #[.val (.int aa), .val (.int bb), .val (.int cc), .val (.int pk), .val (.int nd), .val (.ref dv), .val (.ref fv), .val (.ref sv), .val (.int (1 : Int32)), .val (.int (1 : Int32)), .val (.int bb), .val (.int e0), .val (.int e1), .unset, .unset] [(.int cc)])) tgt
        refine XS.ifNo X20.here hx rfl (hb hby at_227) rfl ((if0 _ _).trans (feq hc227_2).1) ?_
        show Steps p.tables e below (T20.setTop (mkF m 230 #[.val (.int aa), .val (.int bb), .val (.int cc), .val (.int pk), .val (.int nd), .val (.ref dv), .val (.ref fv), .val (.ref sv), .val (.int (1 : Int32)), .val (.int (1 : Int32)), .val (.int bb), .val (.int e0), .val (.int e1), .unset, .unset] [])) tgt
        refine XS.iconst X20.here hx rfl (hb hby at_230) ?_
        show Steps p.tables e below (T20.setTop (mkF m 231 #[.val (.int aa), .val (.int bb), .val (.int cc), .val (.int pk), .val (.int nd), .val (.ref dv), .val (.ref fv), .val (.ref sv), .val (.int (1 : Int32)), .val (.int (1 : Int32)), .val (.int bb), .val (.int e0), .val (.int e1), .unset, .unset] [(.int (1 : Int32))])) tgt
        refine XS.goto X20.here hx rfl (pc0 := 231) (pc' := 235) rfl (hb hby at_231) (by decide) (by decide) ?_
        rw [he2] at k
        exact k
    refine own_st (V := T20.setTop (mkF m 239 #[.val (.int aa), .val (.int bb), .val (.int cc), .val (.int pk), .val (.int nd), .val (.ref dv), .val (.ref fv), .val (.ref sv), .val (.int (1 : Int32)), .val (.int (1 : Int32)), .val (.int bb), .val (.int e0), .val (.int e1), .val (.int e2), .unset] [(.int bb)])) (fun tgt k => ?_) ?_
    · show Steps p.tables e below (T20.setTop (mkF m 235 #[.val (.int aa), .val (.int bb), .val (.int cc), .val (.int pk), .val (.int nd), .val (.ref dv), .val (.ref fv), .val (.ref sv), .val (.int (1 : Int32)), .val (.int (1 : Int32)), .val (.int bb), .val (.int e0), .val (.int e1), .unset, .unset] [(.int e2)])) tgt
      refine XS.istore X20.here hx rfl (hb hby at_235) rfl (l' := #[.val (.int aa), .val (.int bb), .val (.int cc), .val (.int pk), .val (.int nd), .val (.ref dv), .val (.ref fv), .val (.ref sv), .val (.int (1 : Int32)), .val (.int (1 : Int32)), .val (.int bb), .val (.int e0), .val (.int e1), .val (.int e2), .unset]) rfl ?_
      show Steps p.tables e below (T20.setTop (mkF m 237 #[.val (.int aa), .val (.int bb), .val (.int cc), .val (.int pk), .val (.int nd), .val (.ref dv), .val (.ref fv), .val (.ref sv), .val (.int (1 : Int32)), .val (.int (1 : Int32)), .val (.int bb), .val (.int e0), .val (.int e1), .val (.int e2), .unset] [])) tgt
      refine XS.iload X20.here hx rfl (hb hby at_237) rfl ?_
      exact k
    obtain ⟨xs, hxs⟩ : ∃ z : Int32, z = (if bb = (0 : Int32) then (1 : Int32) else (0 : Int32)) := ⟨_, rfl⟩
    refine own_st (V := T20.setTop (mkF m 247 #[.val (.int aa), .val (.int bb), .val (.int cc), .val (.int pk), .val (.int nd), .val (.ref dv), .val (.ref fv), .val (.ref sv), .val (.int (1 : Int32)), .val (.int (1 : Int32)), .val (.int bb), .val (.int e0), .val (.int e1), .val (.int e2), .unset] [(.int xs)])) (fun tgt k => ?_) ?_
    · skip
      by_cases hc239_2 : bb = (0 : Int32)
      · skip
        rw [if_pos hc239_2] at hxs
        show Steps p.tables e below (T20.setTop (mkF m 239 #[.val (.int aa), .val (.int bb), .val (.int cc), .val (.int pk), .val (.int nd), .val (.ref dv), .val (.ref fv), .val (.ref sv), .val (.int (1 : Int32)), .val (.int (1 : Int32)), .val (.int bb), .val (.int e0), .val (.int e1), .val (.int e2), .unset] [(.int bb)])) tgt
        refine XS.ifNo X20.here hx rfl (hb hby at_239) rfl ((if0 _ _).trans (teq hc239_2).2) ?_
        show Steps p.tables e below (T20.setTop (mkF m 242 #[.val (.int aa), .val (.int bb), .val (.int cc), .val (.int pk), .val (.int nd), .val (.ref dv), .val (.ref fv), .val (.ref sv), .val (.int (1 : Int32)), .val (.int (1 : Int32)), .val (.int bb), .val (.int e0), .val (.int e1), .val (.int e2), .unset] [])) tgt
        refine XS.iconst X20.here hx rfl (hb hby at_242) ?_
        show Steps p.tables e below (T20.setTop (mkF m 243 #[.val (.int aa), .val (.int bb), .val (.int cc), .val (.int pk), .val (.int nd), .val (.ref dv), .val (.ref fv), .val (.ref sv), .val (.int (1 : Int32)), .val (.int (1 : Int32)), .val (.int bb), .val (.int e0), .val (.int e1), .val (.int e2), .unset] [(.int (1 : Int32))])) tgt
        refine XS.goto X20.here hx rfl (pc0 := 243) (pc' := 247) rfl (hb hby at_243) (by decide) (by decide) ?_
        rw [hxs] at k
        exact k
      · skip
        rw [if_neg hc239_2] at hxs
        show Steps p.tables e below (T20.setTop (mkF m 239 #[.val (.int aa), .val (.int bb), .val (.int cc), .val (.int pk), .val (.int nd), .val (.ref dv), .val (.ref fv), .val (.ref sv), .val (.int (1 : Int32)), .val (.int (1 : Int32)), .val (.int bb), .val (.int e0), .val (.int e1), .val (.int e2), .unset] [(.int bb)])) tgt
        refine XS.ifYes X20.here hx rfl (pc0 := 239) (pc' := 246) rfl (hb hby at_239) rfl ((if0 _ _).trans (feq hc239_2).2) (by decide) (by decide) ?_
        show Steps p.tables e below (T20.setTop (mkF m 246 #[.val (.int aa), .val (.int bb), .val (.int cc), .val (.int pk), .val (.int nd), .val (.ref dv), .val (.ref fv), .val (.ref sv), .val (.int (1 : Int32)), .val (.int (1 : Int32)), .val (.int bb), .val (.int e0), .val (.int e1), .val (.int e2), .unset] [])) tgt
        refine XS.iconst X20.here hx rfl (hb hby at_246) ?_
        rw [hxs] at k
        exact k
    refine own_st (V := T20.setTop (mkF m 257 #[.val (.int aa), .val (.int bb), .val (.int cc), .val (.int pk), .val (.int nd), .val (.ref dv), .val (.ref fv), .val (.ref sv), .val (.int (1 : Int32)), .val (.int (1 : Int32)), .val (.int bb), .val (.int e0), .val (.int e1), .val (.int e2), .val (.int xs)] [(.int (0 : Int32)), (.ref sv)])) (fun tgt k => ?_) ?_
    · show Steps p.tables e below (T20.setTop (mkF m 247 #[.val (.int aa), .val (.int bb), .val (.int cc), .val (.int pk), .val (.int nd), .val (.ref dv), .val (.ref fv), .val (.ref sv), .val (.int (1 : Int32)), .val (.int (1 : Int32)), .val (.int bb), .val (.int e0), .val (.int e1), .val (.int e2), .unset] [(.int xs)])) tgt
      refine XS.istore X20.here hx rfl (hb hby at_247) rfl (l' := #[.val (.int aa), .val (.int bb), .val (.int cc), .val (.int pk), .val (.int nd), .val (.ref dv), .val (.ref fv), .val (.ref sv), .val (.int (1 : Int32)), .val (.int (1 : Int32)), .val (.int bb), .val (.int e0), .val (.int e1), .val (.int e2), .val (.int xs)]) rfl ?_
      show Steps p.tables e below (T20.setTop (mkF m 249 #[.val (.int aa), .val (.int bb), .val (.int cc), .val (.int pk), .val (.int nd), .val (.ref dv), .val (.ref fv), .val (.ref sv), .val (.int (1 : Int32)), .val (.int (1 : Int32)), .val (.int bb), .val (.int e0), .val (.int e1), .val (.int e2), .val (.int xs)] [])) tgt
      refine XS.iload X20.here hx rfl (hb hby at_249) rfl ?_
      show Steps p.tables e below (T20.setTop (mkF m 251 #[.val (.int aa), .val (.int bb), .val (.int cc), .val (.int pk), .val (.int nd), .val (.ref dv), .val (.ref fv), .val (.ref sv), .val (.int (1 : Int32)), .val (.int (1 : Int32)), .val (.int bb), .val (.int e0), .val (.int e1), .val (.int e2), .val (.int xs)] [(.int (1 : Int32))])) tgt
      refine XS.ifNo X20.here hx rfl (hb hby at_251) rfl ((if0 _ _).trans (feq (by decide : ¬ ((1 : Int32) = (0 : Int32)))).1) ?_
      show Steps p.tables e below (T20.setTop (mkF m 254 #[.val (.int aa), .val (.int bb), .val (.int cc), .val (.int pk), .val (.int nd), .val (.ref dv), .val (.ref fv), .val (.ref sv), .val (.int (1 : Int32)), .val (.int (1 : Int32)), .val (.int bb), .val (.int e0), .val (.int e1), .val (.int e2), .val (.int xs)] [])) tgt
      refine XS.aload X20.here hx rfl (hb hby at_254) rfl rfl ?_
      show Steps p.tables e below (T20.setTop (mkF m 256 #[.val (.int aa), .val (.int bb), .val (.int cc), .val (.int pk), .val (.int nd), .val (.ref dv), .val (.ref fv), .val (.ref sv), .val (.int (1 : Int32)), .val (.int (1 : Int32)), .val (.int bb), .val (.int e0), .val (.int e1), .val (.int e2), .val (.int xs)] [(.ref sv)])) tgt
      refine XS.iconst X20.here hx rfl (hb hby at_256) ?_
      exact k
    obtain ⟨cq21, kq21, q21a, q21b, q21c⟩ := isOf hZ rfl g20_0
    obtain ⟨_, _, ⟨T21, L21, k21, n21⟩, -, X21, ⟨Lc21, hQ21, l21, y21, z21⟩, st21⟩ := X20.virtualBack hx (y := (⟨"com/example/chainwright/chainwright/State", "isChosen", "(I)Z"⟩ : MethodName)) (z := (⟨"com/example/chainwright/chainwright/State", "isChosen", "(I)Z"⟩ : MethodName)) hown (mvT hZ (hw _ (List.mem_of_getElem? (i := 16) rfl))) (mvT hZ (hw _ (List.mem_of_getElem? (i := 17) rfl))) (notFace_of_selects (args := #[]) (mvT hZ (hw _ (List.mem_of_getElem? (i := 19) rfl)))) (mvT hZ (hw _ (List.mem_of_getElem? (i := 19) rfl))) (mvT hZ (hw _ (List.mem_of_getElem? (i := 18) rfl))) (by decide) (backOf (W := 0) (rm3 l Z a0 hw [] sv (0 : Int32) dv 3 (own_up (own_up (own_up (own_up (fun _ => 0) 0 aa) 1 bb) 2 cc) 1 nd) 0 T20.heap n0 Zs20 g20_1 g20_4 (by first | assumption | decide | rfl) (by first | assumption | decide | rfl)) hZ (hw _ (List.mem_of_getElem? (i := 20) rfl)) (hw _ (List.mem_of_getElem? (i := 3) rfl)) (by decide) (by decide)) q21a q21c (g := (mkF m 257 #[.val (.int aa), .val (.int bb), .val (.int cc), .val (.int pk), .val (.int nd), .val (.ref dv), .val (.ref fv), .val (.ref sv), .val (.int (1 : Int32)), .val (.int (1 : Int32)), .val (.int bb), .val (.int e0), .val (.int e1), .val (.int e2), .val (.int xs)] [(.int (0 : Int32)), (.ref sv)])) rfl (by rw [hml]; rfl) (Steps.refl _) (argsL := [(.int (0 : Int32))]) (rest := []) (lenOf pd_0_1 rfl) rfl (by show 2 * 0 + _ ≤ _; exact Nat.le_of_eq rfl) (hb hby at_257) (fun _ _ => ⟨rfl, rfl, (by decide : 3 + 0 ≤ _), (by decide : 9 + 0 ≤ _)⟩)
    dsimp only [Pt.U, Pt.locs, Pt.cells, Pt.slots] at X21 l21 y21 z21 st21 hQ21
    subst l21 y21 z21
    obtain ⟨rfl, N21q, K21⟩ := hQ21
    have N21 := Fr.app N20 N21q
    refine own_st (fun tgt k => st21.trans k) ?_
    show own_Go p e below _ (T21.setTop (mkF m 260 #[.val (.int aa), .val (.int bb), .val (.int cc), .val (.int pk), .val (.int nd), .val (.ref dv), .val (.ref fv), .val (.ref sv), .val (.int (1 : Int32)), .val (.int (1 : Int32)), .val (.int bb), .val (.int e0), .val (.int e1), .val (.int e2), .val (.int xs)] [(.int (if (own_up (own_up (own_up (own_up (fun _ => 0) 0 aa) 1 bb) 2 cc) 1 nd) 0 = 0 then (0 : Int32) else (1 : Int32)))]))
    refine own_st (V := T21.setTop (mkF m 268 #[.val (.int aa), .val (.int bb), .val (.int cc), .val (.int pk), .val (.int nd), .val (.ref dv), .val (.ref fv), .val (.ref sv), .val (.int (1 : Int32)), .val (.int (1 : Int32)), .val (.int bb), .val (.int e0), .val (.int e1), .val (.int e2), .val (.int xs)] [(.int (1 : Int32)), (.ref sv)])) (fun tgt k => ?_) ?_
    · show Steps p.tables e below (T21.setTop (mkF m 260 #[.val (.int aa), .val (.int bb), .val (.int cc), .val (.int pk), .val (.int nd), .val (.ref dv), .val (.ref fv), .val (.ref sv), .val (.int (1 : Int32)), .val (.int (1 : Int32)), .val (.int bb), .val (.int e0), .val (.int e1), .val (.int e2), .val (.int xs)] [(.int (if (own_up (own_up (own_up (own_up (fun _ => 0) 0 aa) 1 bb) 2 cc) 1 nd) 0 = 0 then (0 : Int32) else (1 : Int32)))])) tgt
      refine XS.iload X21.here hx rfl (hb hby at_260) rfl ?_
      show Steps p.tables e below (T21.setTop (mkF m 262 #[.val (.int aa), .val (.int bb), .val (.int cc), .val (.int pk), .val (.int nd), .val (.ref dv), .val (.ref fv), .val (.ref sv), .val (.int (1 : Int32)), .val (.int (1 : Int32)), .val (.int bb), .val (.int e0), .val (.int e1), .val (.int e2), .val (.int xs)] [(.int e0), (.int (if (own_up (own_up (own_up (own_up (fun _ => 0) 0 aa) 1 bb) 2 cc) 1 nd) 0 = 0 then (0 : Int32) else (1 : Int32)))])) tgt
      refine XS.icmpNo X21.here hx rfl (hb hby at_262) rfl (teq (by simp [own_up, he0])).2 ?_
      show Steps p.tables e below (T21.setTop (mkF m 265 #[.val (.int aa), .val (.int bb), .val (.int cc), .val (.int pk), .val (.int nd), .val (.ref dv), .val (.ref fv), .val (.ref sv), .val (.int (1 : Int32)), .val (.int (1 : Int32)), .val (.int bb), .val (.int e0), .val (.int e1), .val (.int e2), .val (.int xs)] [])) tgt
      refine XS.aload X21.here hx rfl (hb hby at_265) rfl rfl ?_
      show Steps p.tables e below (T21.setTop (mkF m 267 #[.val (.int aa), .val (.int bb), .val (.int cc), .val (.int pk), .val (.int nd), .val (.ref dv), .val (.ref fv), .val (.ref sv), .val (.int (1 : Int32)), .val (.int (1 : Int32)), .val (.int bb), .val (.int e0), .val (.int e1), .val (.int e2), .val (.int xs)] [(.ref sv)])) tgt
      refine XS.iconst X21.here hx rfl (hb hby at_267) ?_
      exact k
    obtain ⟨cq22, kq22, q22a, q22b, q22c⟩ := isOf hZ K21 g20_0
    obtain ⟨_, _, ⟨T22, L22, k22, n22⟩, -, X22, ⟨Lc22, hQ22, l22, y22, z22⟩, st22⟩ := X21.virtualBack hx (y := (⟨"com/example/chainwright/chainwright/State", "isChosen", "(I)Z"⟩ : MethodName)) (z := (⟨"com/example/chainwright/chainwright/State", "isChosen", "(I)Z"⟩ : MethodName)) hown (mvT hZ (hw _ (List.mem_of_getElem? (i := 16) rfl))) (mvT hZ (hw _ (List.mem_of_getElem? (i := 17) rfl))) (notFace_of_selects (args := #[]) (mvT hZ (hw _ (List.mem_of_getElem? (i := 19) rfl)))) (mvT hZ (hw _ (List.mem_of_getElem? (i := 19) rfl))) (mvT hZ (hw _ (List.mem_of_getElem? (i := 18) rfl))) (by decide) (backOf (W := 0) (rm3 l Z a0 hw [] sv (1 : Int32) dv 3 (own_up (own_up (own_up (own_up (fun _ => 0) 0 aa) 1 bb) 2 cc) 1 nd) 1 T20.heap n0 Zs20 g20_1 g20_4 (by first | assumption | decide | rfl) (by first | assumption | decide | rfl)) hZ (hw _ (List.mem_of_getElem? (i := 20) rfl)) (hw _ (List.mem_of_getElem? (i := 3) rfl)) (by decide) (by decide)) q22a q22c (g := (mkF m 268 #[.val (.int aa), .val (.int bb), .val (.int cc), .val (.int pk), .val (.int nd), .val (.ref dv), .val (.ref fv), .val (.ref sv), .val (.int (1 : Int32)), .val (.int (1 : Int32)), .val (.int bb), .val (.int e0), .val (.int e1), .val (.int e2), .val (.int xs)] [(.int (1 : Int32)), (.ref sv)])) rfl (by rw [hml]; rfl) (Steps.refl _) (argsL := [(.int (1 : Int32))]) (rest := []) (lenOf pd_0_1 rfl) rfl (by show 2 * 0 + _ ≤ _; exact Nat.le_of_eq rfl) (hb hby at_268) (fun _ _ => ⟨rfl, K21, (by decide : 3 + 0 ≤ _), (by decide : 9 + 0 ≤ _)⟩)
    dsimp only [Pt.U, Pt.locs, Pt.cells, Pt.slots] at X22 l22 y22 z22 st22 hQ22
    subst l22 y22 z22
    obtain ⟨rfl, N22q, K22⟩ := hQ22
    have N22 := Fr.app N21 N22q
    refine own_st (fun tgt k => st22.trans k) ?_
    show own_Go p e below _ (T22.setTop (mkF m 271 #[.val (.int aa), .val (.int bb), .val (.int cc), .val (.int pk), .val (.int nd), .val (.ref dv), .val (.ref fv), .val (.ref sv), .val (.int (1 : Int32)), .val (.int (1 : Int32)), .val (.int bb), .val (.int e0), .val (.int e1), .val (.int e2), .val (.int xs)] [(.int (if (own_up (own_up (own_up (own_up (fun _ => 0) 0 aa) 1 bb) 2 cc) 1 nd) 1 = 0 then (0 : Int32) else (1 : Int32)))]))
    refine own_st (V := T22.setTop (mkF m 279 #[.val (.int aa), .val (.int bb), .val (.int cc), .val (.int pk), .val (.int nd), .val (.ref dv), .val (.ref fv), .val (.ref sv), .val (.int (1 : Int32)), .val (.int (1 : Int32)), .val (.int bb), .val (.int e0), .val (.int e1), .val (.int e2), .val (.int xs)] [(.int (2 : Int32)), (.ref sv)])) (fun tgt k => ?_) ?_
    · show Steps p.tables e below (T22.setTop (mkF m 271 #[.val (.int aa), .val (.int bb), .val (.int cc), .val (.int pk), .val (.int nd), .val (.ref dv), .val (.ref fv), .val (.ref sv), .val (.int (1 : Int32)), .val (.int (1 : Int32)), .val (.int bb), .val (.int e0), .val (.int e1), .val (.int e2), .val (.int xs)] [(.int (if (own_up (own_up (own_up (own_up (fun _ => 0) 0 aa) 1 bb) 2 cc) 1 nd) 1 = 0 then (0 : Int32) else (1 : Int32)))])) tgt
      refine XS.iload X22.here hx rfl (hb hby at_271) rfl ?_
      show Steps p.tables e below (T22.setTop (mkF m 273 #[.val (.int aa), .val (.int bb), .val (.int cc), .val (.int pk), .val (.int nd), .val (.ref dv), .val (.ref fv), .val (.ref sv), .val (.int (1 : Int32)), .val (.int (1 : Int32)), .val (.int bb), .val (.int e0), .val (.int e1), .val (.int e2), .val (.int xs)] [(.int e1), (.int (if (own_up (own_up (own_up (own_up (fun _ => 0) 0 aa) 1 bb) 2 cc) 1 nd) 1 = 0 then (0 : Int32) else (1 : Int32)))])) tgt
      refine XS.icmpNo X22.here hx rfl (hb hby at_273) rfl (teq (by simp [own_up, he1])).2 ?_
      show Steps p.tables e below (T22.setTop (mkF m 276 #[.val (.int aa), .val (.int bb), .val (.int cc), .val (.int pk), .val (.int nd), .val (.ref dv), .val (.ref fv), .val (.ref sv), .val (.int (1 : Int32)), .val (.int (1 : Int32)), .val (.int bb), .val (.int e0), .val (.int e1), .val (.int e2), .val (.int xs)] [])) tgt
      refine XS.aload X22.here hx rfl (hb hby at_276) rfl rfl ?_
      show Steps p.tables e below (T22.setTop (mkF m 278 #[.val (.int aa), .val (.int bb), .val (.int cc), .val (.int pk), .val (.int nd), .val (.ref dv), .val (.ref fv), .val (.ref sv), .val (.int (1 : Int32)), .val (.int (1 : Int32)), .val (.int bb), .val (.int e0), .val (.int e1), .val (.int e2), .val (.int xs)] [(.ref sv)])) tgt
      refine XS.iconst X22.here hx rfl (hb hby at_278) ?_
      exact k
    obtain ⟨cq23, kq23, q23a, q23b, q23c⟩ := isOf hZ K22 g20_0
    obtain ⟨_, _, ⟨T23, L23, k23, n23⟩, -, X23, ⟨Lc23, hQ23, l23, y23, z23⟩, st23⟩ := X22.virtualBack hx (y := (⟨"com/example/chainwright/chainwright/State", "isChosen", "(I)Z"⟩ : MethodName)) (z := (⟨"com/example/chainwright/chainwright/State", "isChosen", "(I)Z"⟩ : MethodName)) hown (mvT hZ (hw _ (List.mem_of_getElem? (i := 16) rfl))) (mvT hZ (hw _ (List.mem_of_getElem? (i := 17) rfl))) (notFace_of_selects (args := #[]) (mvT hZ (hw _ (List.mem_of_getElem? (i := 19) rfl)))) (mvT hZ (hw _ (List.mem_of_getElem? (i := 19) rfl))) (mvT hZ (hw _ (List.mem_of_getElem? (i := 18) rfl))) (by decide) (backOf (W := 0) (rm3 l Z a0 hw [] sv (2 : Int32) dv 3 (own_up (own_up (own_up (own_up (fun _ => 0) 0 aa) 1 bb) 2 cc) 1 nd) 2 T20.heap n0 Zs20 g20_1 g20_4 (by first | assumption | decide | rfl) (by first | assumption | decide | rfl)) hZ (hw _ (List.mem_of_getElem? (i := 20) rfl)) (hw _ (List.mem_of_getElem? (i := 3) rfl)) (by decide) (by decide)) q23a q23c (g := (mkF m 279 #[.val (.int aa), .val (.int bb), .val (.int cc), .val (.int pk), .val (.int nd), .val (.ref dv), .val (.ref fv), .val (.ref sv), .val (.int (1 : Int32)), .val (.int (1 : Int32)), .val (.int bb), .val (.int e0), .val (.int e1), .val (.int e2), .val (.int xs)] [(.int (2 : Int32)), (.ref sv)])) rfl (by rw [hml]; rfl) (Steps.refl _) (argsL := [(.int (2 : Int32))]) (rest := []) (lenOf pd_0_1 rfl) rfl (by show 2 * 0 + _ ≤ _; exact Nat.le_of_eq rfl) (hb hby at_279) (fun _ _ => ⟨rfl, K22, (by decide : 3 + 0 ≤ _), (by decide : 9 + 0 ≤ _)⟩)
    dsimp only [Pt.U, Pt.locs, Pt.cells, Pt.slots] at X23 l23 y23 z23 st23 hQ23
    subst l23 y23 z23
    obtain ⟨rfl, N23q, K23⟩ := hQ23
    have N23 := Fr.app N22 N23q
    refine own_st (fun tgt k => st23.trans k) ?_
    show own_Go p e below _ (T23.setTop (mkF m 282 #[.val (.int aa), .val (.int bb), .val (.int cc), .val (.int pk), .val (.int nd), .val (.ref dv), .val (.ref fv), .val (.ref sv), .val (.int (1 : Int32)), .val (.int (1 : Int32)), .val (.int bb), .val (.int e0), .val (.int e1), .val (.int e2), .val (.int xs)] [(.int (if (own_up (own_up (own_up (own_up (fun _ => 0) 0 aa) 1 bb) 2 cc) 1 nd) 2 = 0 then (0 : Int32) else (1 : Int32)))]))
    refine own_st (V := T23.setTop (mkF m 289 #[.val (.int aa), .val (.int bb), .val (.int cc), .val (.int pk), .val (.int nd), .val (.ref dv), .val (.ref fv), .val (.ref sv), .val (.int (1 : Int32)), .val (.int (1 : Int32)), .val (.int bb), .val (.int e0), .val (.int e1), .val (.int e2), .val (.int xs)] [(.ref sv)])) (fun tgt k => ?_) ?_
    · show Steps p.tables e below (T23.setTop (mkF m 282 #[.val (.int aa), .val (.int bb), .val (.int cc), .val (.int pk), .val (.int nd), .val (.ref dv), .val (.ref fv), .val (.ref sv), .val (.int (1 : Int32)), .val (.int (1 : Int32)), .val (.int bb), .val (.int e0), .val (.int e1), .val (.int e2), .val (.int xs)] [(.int (if (own_up (own_up (own_up (own_up (fun _ => 0) 0 aa) 1 bb) 2 cc) 1 nd) 2 = 0 then (0 : Int32) else (1 : Int32)))])) tgt
      refine XS.iload X23.here hx rfl (hb hby at_282) rfl ?_
      show Steps p.tables e below (T23.setTop (mkF m 284 #[.val (.int aa), .val (.int bb), .val (.int cc), .val (.int pk), .val (.int nd), .val (.ref dv), .val (.ref fv), .val (.ref sv), .val (.int (1 : Int32)), .val (.int (1 : Int32)), .val (.int bb), .val (.int e0), .val (.int e1), .val (.int e2), .val (.int xs)] [(.int e2), (.int (if (own_up (own_up (own_up (own_up (fun _ => 0) 0 aa) 1 bb) 2 cc) 1 nd) 2 = 0 then (0 : Int32) else (1 : Int32)))])) tgt
      refine XS.icmpNo X23.here hx rfl (hb hby at_284) rfl (teq (by simp [own_up, he2])).2 ?_
      show Steps p.tables e below (T23.setTop (mkF m 287 #[.val (.int aa), .val (.int bb), .val (.int cc), .val (.int pk), .val (.int nd), .val (.ref dv), .val (.ref fv), .val (.ref sv), .val (.int (1 : Int32)), .val (.int (1 : Int32)), .val (.int bb), .val (.int e0), .val (.int e1), .val (.int e2), .val (.int xs)] [])) tgt
      refine XS.aload X23.here hx rfl (hb hby at_287) rfl rfl ?_
      exact k
    obtain ⟨cq24, kq24, q24a, q24b, q24c⟩ := isOf hZ K23 g20_0
    obtain ⟨_, _, ⟨T24, L24, k24, n24⟩, -, X24, ⟨Lc24, hQ24, l24, y24, z24⟩, st24⟩ := X23.virtualBack hx (y := (⟨"com/example/chainwright/chainwright/State", "size", "()I"⟩ : MethodName)) (z := (⟨"com/example/chainwright/chainwright/State", "size", "()I"⟩ : MethodName)) hown (mvT hZ (hw _ (List.mem_of_getElem? (i := 28) rfl))) (mvT hZ (hw _ (List.mem_of_getElem? (i := 29) rfl))) (notFace_of_selects (args := #[]) (mvT hZ (hw _ (List.mem_of_getElem? (i := 31) rfl)))) (mvT hZ (hw _ (List.mem_of_getElem? (i := 31) rfl))) (mvT hZ (hw _ (List.mem_of_getElem? (i := 30) rfl))) (by decide) (backOf (W := 0) (rm5 l Z a0 hw [] sv (if (own_up (own_up (own_up (fun _ => 0) 0 aa) 1 bb) 2 cc) 1 = 0 then (0 : Int32) + (1 : Int32) else (0 : Int32)) T20.heap n0 Zs20 g20_3) hZ (hw _ (List.mem_of_getElem? (i := 32) rfl)) (hw _ (List.mem_of_getElem? (i := 3) rfl)) (by decide) (by decide)) q24a q24c (g := (mkF m 289 #[.val (.int aa), .val (.int bb), .val (.int cc), .val (.int pk), .val (.int nd), .val (.ref dv), .val (.ref fv), .val (.ref sv), .val (.int (1 : Int32)), .val (.int (1 : Int32)), .val (.int bb), .val (.int e0), .val (.int e1), .val (.int e2), .val (.int xs)] [(.ref sv)])) rfl (by rw [hml]; rfl) (Steps.refl _) (argsL := []) (rest := []) (lenOf pd_0_3 rfl) rfl (by show 2 * 0 + _ ≤ _; exact Nat.le_of_eq rfl) (hb hby at_289) (fun _ _ => ⟨rfl, K23, (by decide : 3 + 0 ≤ _), (by decide : 9 + 0 ≤ _)⟩)
    dsimp only [Pt.U, Pt.locs, Pt.cells, Pt.slots] at X24 l24 y24 z24 st24 hQ24
    subst l24 y24 z24
    obtain ⟨rfl, N24q, K24⟩ := hQ24
    have N24 := Fr.app N23 N24q
    refine own_st (fun tgt k => st24.trans k) ?_
    show own_Go p e below _ (T24.setTop (mkF m 292 #[.val (.int aa), .val (.int bb), .val (.int cc), .val (.int pk), .val (.int nd), .val (.ref dv), .val (.ref fv), .val (.ref sv), .val (.int (1 : Int32)), .val (.int (1 : Int32)), .val (.int bb), .val (.int e0), .val (.int e1), .val (.int e2), .val (.int xs)] [(.int (if (own_up (own_up (own_up (fun _ => 0) 0 aa) 1 bb) 2 cc) 1 = 0 then (0 : Int32) + (1 : Int32) else (0 : Int32)))]))
    refine own_st (V := T24.setTop (mkF m 302 #[.val (.int aa), .val (.int bb), .val (.int cc), .val (.int pk), .val (.int nd), .val (.ref dv), .val (.ref fv), .val (.ref sv), .val (.int (1 : Int32)), .val (.int (1 : Int32)), .val (.int bb), .val (.int e0), .val (.int e1), .val (.int e2), .val (.int xs)] [(.int (1 : Int32))])) (fun tgt k => ?_) ?_
    · show Steps p.tables e below (T24.setTop (mkF m 292 #[.val (.int aa), .val (.int bb), .val (.int cc), .val (.int pk), .val (.int nd), .val (.ref dv), .val (.ref fv), .val (.ref sv), .val (.int (1 : Int32)), .val (.int (1 : Int32)), .val (.int bb), .val (.int e0), .val (.int e1), .val (.int e2), .val (.int xs)] [(.int (if (own_up (own_up (own_up (fun _ => 0) 0 aa) 1 bb) 2 cc) 1 = 0 then (0 : Int32) + (1 : Int32) else (0 : Int32)))])) tgt
      refine XS.iload X24.here hx rfl (hb hby at_292) rfl ?_
      show Steps p.tables e below (T24.setTop (mkF m 294 #[.val (.int aa), .val (.int bb), .val (.int cc), .val (.int pk), .val (.int nd), .val (.ref dv), .val (.ref fv), .val (.ref sv), .val (.int (1 : Int32)), .val (.int (1 : Int32)), .val (.int bb), .val (.int e0), .val (.int e1), .val (.int e2), .val (.int xs)] [(.int xs), (.int (if (own_up (own_up (own_up (fun _ => 0) 0 aa) 1 bb) 2 cc) 1 = 0 then (0 : Int32) + (1 : Int32) else (0 : Int32)))])) tgt
      refine XS.icmpNo X24.here hx rfl (hb hby at_294) rfl (teq (by simp [own_up, hxs])).2 ?_
      show Steps p.tables e below (T24.setTop (mkF m 297 #[.val (.int aa), .val (.int bb), .val (.int cc), .val (.int pk), .val (.int nd), .val (.ref dv), .val (.ref fv), .val (.ref sv), .val (.int (1 : Int32)), .val (.int (1 : Int32)), .val (.int bb), .val (.int e0), .val (.int e1), .val (.int e2), .val (.int xs)] [])) tgt
      refine XS.iconst X24.here hx rfl (hb hby at_297) ?_
      show Steps p.tables e below (T24.setTop (mkF m 298 #[.val (.int aa), .val (.int bb), .val (.int cc), .val (.int pk), .val (.int nd), .val (.ref dv), .val (.ref fv), .val (.ref sv), .val (.int (1 : Int32)), .val (.int (1 : Int32)), .val (.int bb), .val (.int e0), .val (.int e1), .val (.int e2), .val (.int xs)] [(.int (1 : Int32))])) tgt
      refine XS.goto X24.here hx rfl (pc0 := 298) (pc' := 302) rfl (hb hby at_298) (by decide) (by decide) ?_
      exact k
    refine own_retN X24 hx hlk (t := .boolean) (z' := (1 : Int32)) Bd.returns (by simp) rfl (hb hby at_302) ?_ (by decide) (by decide)
    show Q0 Z aa bb cc pk nd h0 n0 (some (.int (1 : Int32))) T24.heap _
    rw [K24]
    exact ⟨rfl, N24⟩
  · skip
    rw [show ((pk &&& (2147483647 : Int32)) % (3 : Int32)) = (2 : Int32) from q]
    refine own_st (V := T13.setTop (mkF m 145 #[.val (.int aa), .val (.int bb), .val (.int cc), .val (.int pk), .val (.int nd), .val (.ref dv), .val (.ref fv), .val (.ref sv), .val (.int (1 : Int32)), .val (.int (2 : Int32)), .val (.int cc), .unset, .unset, .unset, .unset] [(.int nd), (.int (2 : Int32)), (.ref sv)])) (fun tgt k => ?_) ?_
    · show Steps p.tables e below (T13.setTop (mkF m 117 #[.val (.int aa), .val (.int bb), .val (.int cc), .val (.int pk), .val (.int nd), .val (.ref dv), .val (.ref fv), .val (.ref sv), .val (.int (1 : Int32)), .val (.int (2 : Int32)), .unset, .unset, .unset, .unset, .unset] [])) tgt
      refine XS.iload X13.here hx rfl (hb hby at_117) rfl ?_
      show Steps p.tables e below (T13.setTop (mkF m 119 #[.val (.int aa), .val (.int bb), .val (.int cc), .val (.int pk), .val (.int nd), .val (.ref dv), .val (.ref fv), .val (.ref sv), .val (.int (1 : Int32)), .val (.int (2 : Int32)), .unset, .unset, .unset, .unset, .unset] [(.int (2 : Int32))])) tgt
      refine XS.ifYes X13.here hx rfl (pc0 := 119) (pc' := 126) rfl (hb hby at_119) rfl ((if0 _ _).trans (feq (by decide : ¬ ((2 : Int32) = (0 : Int32)))).2) (by decide) (by decide) ?_
      show Steps p.tables e below (T13.setTop (mkF m 126 #[.val (.int aa), .val (.int bb), .val (.int cc), .val (.int pk), .val (.int nd), .val (.ref dv), .val (.ref fv), .val (.ref sv), .val (.int (1 : Int32)), .val (.int (2 : Int32)), .unset, .unset, .unset, .unset, .unset] [])) tgt
      refine XS.iload X13.here hx rfl (hb hby at_126) rfl ?_
      show Steps p.tables e below (T13.setTop (mkF m 128 #[.val (.int aa), .val (.int bb), .val (.int cc), .val (.int pk), .val (.int nd), .val (.ref dv), .val (.ref fv), .val (.ref sv), .val (.int (1 : Int32)), .val (.int (2 : Int32)), .unset, .unset, .unset, .unset, .unset] [(.int (2 : Int32))])) tgt
      refine XS.iconst X13.here hx rfl (hb hby at_128) ?_
      show Steps p.tables e below (T13.setTop (mkF m 129 #[.val (.int aa), .val (.int bb), .val (.int cc), .val (.int pk), .val (.int nd), .val (.ref dv), .val (.ref fv), .val (.ref sv), .val (.int (1 : Int32)), .val (.int (2 : Int32)), .unset, .unset, .unset, .unset, .unset] [(.int (1 : Int32)), (.int (2 : Int32))])) tgt
      refine XS.icmpYes X13.here hx rfl (pc0 := 129) (pc' := 136) rfl (hb hby at_129) rfl (feq (by decide : ¬ ((2 : Int32) = (1 : Int32)))).2 (by decide) (by decide) ?_
      show Steps p.tables e below (T13.setTop (mkF m 136 #[.val (.int aa), .val (.int bb), .val (.int cc), .val (.int pk), .val (.int nd), .val (.ref dv), .val (.ref fv), .val (.ref sv), .val (.int (1 : Int32)), .val (.int (2 : Int32)), .unset, .unset, .unset, .unset, .unset] [])) tgt
      refine XS.iloadN X13.here hx rfl (hb hby at_136) rfl ?_
      show Steps p.tables e below (T13.setTop (mkF m 137 #[.val (.int aa), .val (.int bb), .val (.int cc), .val (.int pk), .val (.int nd), .val (.ref dv), .val (.ref fv), .val (.ref sv), .val (.int (1 : Int32)), .val (.int (2 : Int32)), .unset, .unset, .unset, .unset, .unset] [(.int cc)])) tgt
      refine XS.istore X13.here hx rfl (hb hby at_137) rfl (l' := #[.val (.int aa), .val (.int bb), .val (.int cc), .val (.int pk), .val (.int nd), .val (.ref dv), .val (.ref fv), .val (.ref sv), .val (.int (1 : Int32)), .val (.int (2 : Int32)), .val (.int cc), .unset, .unset, .unset, .unset]) rfl ?_
      show Steps p.tables e below (T13.setTop (mkF m 139 #[.val (.int aa), .val (.int bb), .val (.int cc), .val (.int pk), .val (.int nd), .val (.ref dv), .val (.ref fv), .val (.ref sv), .val (.int (1 : Int32)), .val (.int (2 : Int32)), .val (.int cc), .unset, .unset, .unset, .unset] [])) tgt
      refine XS.aload X13.here hx rfl (hb hby at_139) rfl rfl ?_
      show Steps p.tables e below (T13.setTop (mkF m 141 #[.val (.int aa), .val (.int bb), .val (.int cc), .val (.int pk), .val (.int nd), .val (.ref dv), .val (.ref fv), .val (.ref sv), .val (.int (1 : Int32)), .val (.int (2 : Int32)), .val (.int cc), .unset, .unset, .unset, .unset] [(.ref sv)])) tgt
      refine XS.iload X13.here hx rfl (hb hby at_141) rfl ?_
      show Steps p.tables e below (T13.setTop (mkF m 143 #[.val (.int aa), .val (.int bb), .val (.int cc), .val (.int pk), .val (.int nd), .val (.ref dv), .val (.ref fv), .val (.ref sv), .val (.int (1 : Int32)), .val (.int (2 : Int32)), .val (.int cc), .unset, .unset, .unset, .unset] [(.int (2 : Int32)), (.ref sv)])) tgt
      refine XS.iload X13.here hx rfl (hb hby at_143) rfl ?_
      exact k
    obtain ⟨cq26, kq26, q26a, q26b, q26c⟩ := isOf hZ K13 g10_0
    obtain ⟨_, _, ⟨T26, L26, k26, n26⟩, -, X26, ⟨Lc26, hQ26, l26, y26, z26⟩, st26⟩ := X13.virtualBack hx (y := (⟨"com/example/chainwright/chainwright/State", "choose", "(II)V"⟩ : MethodName)) (z := (⟨"com/example/chainwright/chainwright/State", "choose", "(II)V"⟩ : MethodName)) hown (mvT hZ (hw _ (List.mem_of_getElem? (i := 22) rfl))) (mvT hZ (hw _ (List.mem_of_getElem? (i := 23) rfl))) (notFace_of_selects (args := #[]) (mvT hZ (hw _ (List.mem_of_getElem? (i := 25) rfl)))) (mvT hZ (hw _ (List.mem_of_getElem? (i := 25) rfl))) (mvT hZ (hw _ (List.mem_of_getElem? (i := 24) rfl))) (by decide) (backOf (W := 0) (rm4 l Z a0 hw [] sv (2 : Int32) nd dv 3 (own_up (own_up (own_up (fun _ => 0) 0 aa) 1 bb) 2 cc) 2 fv (0 : Int32) T10.heap n0 Zs10 g10_0 g10_1 g10_2 g10_3 A_dv_10 (by first | assumption | decide | rfl) (by first | assumption | decide | rfl) g_sv g_dv (Ne.symm ne_dv_sv)) hZ (hw _ (List.mem_of_getElem? (i := 26) rfl)) (hw _ (List.mem_of_getElem? (i := 3) rfl)) (by decide) (by decide)) q26a q26c (g := (mkF m 145 #[.val (.int aa), .val (.int bb), .val (.int cc), .val (.int pk), .val (.int nd), .val (.ref dv), .val (.ref fv), .val (.ref sv), .val (.int (1 : Int32)), .val (.int (2 : Int32)), .val (.int cc), .unset, .unset, .unset, .unset] [(.int nd), (.int (2 : Int32)), (.ref sv)])) rfl (by rw [hml]; rfl) (Steps.refl _) (argsL := [(.int (2 : Int32)), (.int nd)]) (rest := []) (lenOf pd_0_2 rfl) rfl (by show 2 * 0 + _ ≤ _; exact Nat.le_of_eq rfl) (hb hby at_145) (fun _ _ => ⟨rfl, K13, (by decide : 3 + 0 ≤ _), (by decide : 9 + 0 ≤ _)⟩)
    dsimp only [Pt.U, Pt.locs, Pt.cells, Pt.slots] at X26 l26 y26 z26 st26 hQ26
    subst l26 y26 z26
    obtain ⟨rfl, N26q, K26, g26_0, g26_1, g26_2, g26_3, g26_4⟩ := hQ26
    have N26 := Fr.app N13 N26q
    have A_fv_26 := A_fv_10.keep K26 (ninS ne_fv_sv (ninS (Ne.symm ne_dv_fv) nin0))
    have E_sv_26 := g10_0.keep K26
    have Zs26 : n0 ≤ T26.heap.size := Nat.le_trans Zs10 K26.1
    refine own_st (fun tgt k => st26.trans k) ?_
    show own_Go p e below _ (T26.setTop (mkF m 148 #[.val (.int aa), .val (.int bb), .val (.int cc), .val (.int pk), .val (.int nd), .val (.ref dv), .val (.ref fv), .val (.ref sv), .val (.int (1 : Int32)), .val (.int (2 : Int32)), .val (.int cc), .unset, .unset, .unset, .unset] []))
    refine own_st (V := T26.setTop (mkF m 167 #[.val (.int aa), .val (.int bb), .val (.int cc), .val (.int pk), .val (.int nd), .val (.ref dv), .val (.ref fv), .val (.ref sv), .val (.int (1 : Int32)), .val (.int (2 : Int32)), .val (.int cc), .unset, .unset, .unset, .unset] [(.int aa)])) (fun tgt k => ?_) ?_
    · show Steps p.tables e below (T26.setTop (mkF m 148 #[.val (.int aa), .val (.int bb), .val (.int cc), .val (.int pk), .val (.int nd), .val (.ref dv), .val (.ref fv), .val (.ref sv), .val (.int (1 : Int32)), .val (.int (2 : Int32)), .val (.int cc), .unset, .unset, .unset, .unset] [])) tgt
      refine XS.iload X26.here hx rfl (hb hby at_148) rfl ?_
      show Steps p.tables e below (T26.setTop (mkF m 150 #[.val (.int aa), .val (.int bb), .val (.int cc), .val (.int pk), .val (.int nd), .val (.ref dv), .val (.ref fv), .val (.ref sv), .val (.int (1 : Int32)), .val (.int (2 : Int32)), .val (.int cc), .unset, .unset, .unset, .unset] [(.int (2 : Int32))])) tgt
      refine XS.ifYes X26.here hx rfl (pc0 := 150) (pc' := 166) rfl (hb hby at_150) rfl ((if0 _ _).trans (feq (by decide : ¬ ((2 : Int32) = (0 : Int32)))).2) (by decide) (by decide) ?_
      show Steps p.tables e below (T26.setTop (mkF m 166 #[.val (.int aa), .val (.int bb), .val (.int cc), .val (.int pk), .val (.int nd), .val (.ref dv), .val (.ref fv), .val (.ref sv), .val (.int (1 : Int32)), .val (.int (2 : Int32)), .val (.int cc), .unset, .unset, .unset, .unset] [])) tgt
      refine XS.iloadN X26.here hx rfl (hb hby at_166) rfl ?_
      exact k
    obtain ⟨e0, he0⟩ : ∃ z : Int32, z = (if aa = (0 : Int32) then (0 : Int32) else (1 : Int32)) := ⟨_, rfl⟩
    refine own_st (V := T26.setTop (mkF m 175 #[.val (.int aa), .val (.int bb), .val (.int cc), .val (.int pk), .val (.int nd), .val (.ref dv), .val (.ref fv), .val (.ref sv), .val (.int (1 : Int32)), .val (.int (2 : Int32)), .val (.int cc), .unset, .unset, .unset, .unset] [(.int e0)])) (fun tgt k => ?_) ?_
    · skip
      by_cases hc167_2 : aa = (0 : Int32)
      · skip
        rw [if_pos hc167_2] at he0
        show Steps p.tables e below (T26.setTop (mkF m 167 #[.val (.int aa), .val (.int bb), .val (.int cc), .val (.int pk), .val (.int nd), .val (.ref dv), .val (.ref fv), .val (.ref sv), .val (.int (1 : Int32)), .val (.int (2 : Int32)), .val (.int cc), .unset, .unset, .unset, .unset] [(.int aa)])) tgt
        refine XS.ifYes X26.here hx rfl (pc0 := 167) (pc' := 174) rfl (hb hby at_167) rfl ((if0 _ _).trans (teq hc167_2).1) (by decide) (by decide) ?_
        show Steps p.tables e below (T26.setTop (mkF m 174 #[.val (.int aa), .val (.int bb), .val (.int cc), .val (.int pk), .val (.int nd), .val (.ref dv), .val (.ref fv), .val (.ref sv), .val (.int (1 : Int32)), .val (.int (2 : Int32)), .val (.int cc), .unset, .unset, .unset, .unset] [])) tgt
        refine XS.iconst X26.here hx rfl (hb hby at_174) ?_
        rw [he0] at k
        exact k
      · skip
        rw [if_neg hc167_2] at he0
        show Steps p.tables e below (T26.setTop (mkF m 167 #[.val (.int aa), .val (.int bb), .val (.int cc), .val (.int pk), .val (.int nd), .val (.ref dv), .val (.ref fv), .val (.ref sv), .val (.int (1 : Int32)), .val (.int (2 : Int32)), .val (.int cc), .unset, .unset, .unset, .unset] [(.int aa)])) tgt
        refine XS.ifNo X26.here hx rfl (hb hby at_167) rfl ((if0 _ _).trans (feq hc167_2).1) ?_
        show Steps p.tables e below (T26.setTop (mkF m 170 #[.val (.int aa), .val (.int bb), .val (.int cc), .val (.int pk), .val (.int nd), .val (.ref dv), .val (.ref fv), .val (.ref sv), .val (.int (1 : Int32)), .val (.int (2 : Int32)), .val (.int cc), .unset, .unset, .unset, .unset] [])) tgt
        refine XS.iconst X26.here hx rfl (hb hby at_170) ?_
        show Steps p.tables e below (T26.setTop (mkF m 171 #[.val (.int aa), .val (.int bb), .val (.int cc), .val (.int pk), .val (.int nd), .val (.ref dv), .val (.ref fv), .val (.ref sv), .val (.int (1 : Int32)), .val (.int (2 : Int32)), .val (.int cc), .unset, .unset, .unset, .unset] [(.int (1 : Int32))])) tgt
        refine XS.goto X26.here hx rfl (pc0 := 171) (pc' := 175) rfl (hb hby at_171) (by decide) (by decide) ?_
        rw [he0] at k
        exact k
    refine own_st (V := T26.setTop (mkF m 197 #[.val (.int aa), .val (.int bb), .val (.int cc), .val (.int pk), .val (.int nd), .val (.ref dv), .val (.ref fv), .val (.ref sv), .val (.int (1 : Int32)), .val (.int (2 : Int32)), .val (.int cc), .val (.int e0), .unset, .unset, .unset] [(.int bb)])) (fun tgt k => ?_) ?_
    · show Steps p.tables e below (T26.setTop (mkF m 175 #[.val (.int aa), .val (.int bb), .val (.int cc), .val (.int pk), .val (.int nd), .val (.ref dv), .val (.ref fv), .val (.ref sv), .val (.int (1 : Int32)), .val (.int (2 : Int32)), .val (.int cc), .unset, .unset, .unset, .unset] [(.int e0)])) tgt
      refine XS.istore X26.here hx rfl (hb hby at_175) rfl (l' := #[.val (.int aa), .val (.int bb), .val (.int cc), .val (.int pk), .val (.int nd), .val (.ref dv), .val (.ref fv), .val (.ref sv), .val (.int (1 : Int32)), .val (.int (2 : Int32)), .val (.int cc), .val (.int e0), .unset, .unset, .unset]) rfl ?_
      show Steps p.tables e below (T26.setTop (mkF m 177 #[.val (.int aa), .val (.int bb), .val (.int cc), .val (.int pk), .val (.int nd), .val (.ref dv), .val (.ref fv), .val (.ref sv), .val (.int (1 : Int32)), .val (.int (2 : Int32)), .val (.int cc), .val (.int e0), .unset, .unset, .unset] [])) tgt
      refine XS.iload X26.here hx rfl (hb hby at_177) rfl ?_
      show Steps p.tables e below (T26.setTop (mkF m 179 #[.val (.int aa), .val (.int bb), .val (.int cc), .val (.int pk), .val (.int nd), .val (.ref dv), .val (.ref fv), .val (.ref sv), .val (.int (1 : Int32)), .val (.int (2 : Int32)), .val (.int cc), .val (.int e0), .unset, .unset, .unset] [(.int (2 : Int32))])) tgt
      refine XS.iconst X26.here hx rfl (hb hby at_179) ?_
      show Steps p.tables e below (T26.setTop (mkF m 180 #[.val (.int aa), .val (.int bb), .val (.int cc), .val (.int pk), .val (.int nd), .val (.ref dv), .val (.ref fv), .val (.ref sv), .val (.int (1 : Int32)), .val (.int (2 : Int32)), .val (.int cc), .val (.int e0), .unset, .unset, .unset] [(.int (1 : Int32)), (.int (2 : Int32))])) tgt
      refine XS.icmpYes X26.here hx rfl (pc0 := 180) (pc' := 196) rfl (hb hby at_180) rfl (feq (by decide : ¬ ((2 : Int32) = (1 : Int32)))).2 (by decide) (by decide) ?_
      show Steps p.tables e below (T26.setTop (mkF m 196 #[.val (.int aa), .val (.int bb), .val (.int cc), .val (.int pk), .val (.int nd), .val (.ref dv), .val (.ref fv), .val (.ref sv), .val (.int (1 : Int32)), .val (.int (2 : Int32)), .val (.int cc), .val (.int e0), .unset, .unset, .unset] [])) tgt
      refine XS.iloadN X26.here hx rfl (hb hby at_196) rfl ?_
      exact k
    obtain ⟨e1, he1⟩ : ∃ z : Int32, z = (if bb = (0 : Int32) then (0 : Int32) else (1 : Int32)) := ⟨_, rfl⟩
    refine own_st (V := T26.setTop (mkF m 205 #[.val (.int aa), .val (.int bb), .val (.int cc), .val (.int pk), .val (.int nd), .val (.ref dv), .val (.ref fv), .val (.ref sv), .val (.int (1 : Int32)), .val (.int (2 : Int32)), .val (.int cc), .val (.int e0), .unset, .unset, .unset] [(.int e1)])) (fun tgt k => ?_) ?_
    · skip
      by_cases hc197_2 : bb = (0 : Int32)
      · skip
        rw [if_pos hc197_2] at he1
        show Steps p.tables e below (T26.setTop (mkF m 197 #[.val (.int aa), .val (.int bb), .val (.int cc), .val (.int pk), .val (.int nd), .val (.ref dv), .val (.ref fv), .val (.ref sv), .val (.int (1 : Int32)), .val (.int (2 : Int32)), .val (.int cc), .val (.int e0), .unset, .unset, .unset] [(.int bb)])) tgt
        refine XS.ifYes X26.here hx rfl (pc0 := 197) (pc' := 204) rfl (hb hby at_197) rfl ((if0 _ _).trans (teq hc197_2).1) (by decide) (by decide) ?_
        show Steps p.tables e below (T26.setTop (mkF m 204 #[.val (.int aa), .val (.int bb), .val (.int cc), .val (.int pk), .val (.int nd), .val (.ref dv), .val (.ref fv), .val (.ref sv), .val (.int (1 : Int32)), .val (.int (2 : Int32)), .val (.int cc), .val (.int e0), .unset, .unset, .unset] [])) tgt
        refine XS.iconst X26.here hx rfl (hb hby at_204) ?_
        rw [he1] at k
        exact k
      · skip
        rw [if_neg hc197_2] at he1
        show Steps p.tables e below (T26.setTop (mkF m 197 #[.val (.int aa), .val (.int bb), .val (.int cc), .val (.int pk), .val (.int nd), .val (.ref dv), .val (.ref fv), .val (.ref sv), .val (.int (1 : Int32)), .val (.int (2 : Int32)), .val (.int cc), .val (.int e0), .unset, .unset, .unset] [(.int bb)])) tgt
        refine XS.ifNo X26.here hx rfl (hb hby at_197) rfl ((if0 _ _).trans (feq hc197_2).1) ?_
        show Steps p.tables e below (T26.setTop (mkF m 200 #[.val (.int aa), .val (.int bb), .val (.int cc), .val (.int pk), .val (.int nd), .val (.ref dv), .val (.ref fv), .val (.ref sv), .val (.int (1 : Int32)), .val (.int (2 : Int32)), .val (.int cc), .val (.int e0), .unset, .unset, .unset] [])) tgt
        refine XS.iconst X26.here hx rfl (hb hby at_200) ?_
        show Steps p.tables e below (T26.setTop (mkF m 201 #[.val (.int aa), .val (.int bb), .val (.int cc), .val (.int pk), .val (.int nd), .val (.ref dv), .val (.ref fv), .val (.ref sv), .val (.int (1 : Int32)), .val (.int (2 : Int32)), .val (.int cc), .val (.int e0), .unset, .unset, .unset] [(.int (1 : Int32))])) tgt
        refine XS.goto X26.here hx rfl (pc0 := 201) (pc' := 205) rfl (hb hby at_201) (by decide) (by decide) ?_
        rw [he1] at k
        exact k
    refine own_st (V := T26.setTop (mkF m 215 #[.val (.int aa), .val (.int bb), .val (.int cc), .val (.int pk), .val (.int nd), .val (.ref dv), .val (.ref fv), .val (.ref sv), .val (.int (1 : Int32)), .val (.int (2 : Int32)), .val (.int cc), .val (.int e0), .val (.int e1), .unset, .unset] [(.int nd)])) (fun tgt k => ?_) ?_
    · show Steps p.tables e below (T26.setTop (mkF m 205 #[.val (.int aa), .val (.int bb), .val (.int cc), .val (.int pk), .val (.int nd), .val (.ref dv), .val (.ref fv), .val (.ref sv), .val (.int (1 : Int32)), .val (.int (2 : Int32)), .val (.int cc), .val (.int e0), .unset, .unset, .unset] [(.int e1)])) tgt
      refine XS.istore X26.here hx rfl (hb hby at_205) rfl (l' := #[.val (.int aa), .val (.int bb), .val (.int cc), .val (.int pk), .val (.int nd), .val (.ref dv), .val (.ref fv), .val (.ref sv), .val (.int (1 : Int32)), .val (.int (2 : Int32)), .val (.int cc), .val (.int e0), .val (.int e1), .unset, .unset]) rfl ?_
      show Steps p.tables e below (T26.setTop (mkF m 207 #[.val (.int aa), .val (.int bb), .val (.int cc), .val (.int pk), .val (.int nd), .val (.ref dv), .val (.ref fv), .val (.ref sv), .val (.int (1 : Int32)), .val (.int (2 : Int32)), .val (.int cc), .val (.int e0), .val (.int e1), .unset, .unset] [])) tgt
      refine XS.iload X26.here hx rfl (hb hby at_207) rfl ?_
      show Steps p.tables e below (T26.setTop (mkF m 209 #[.val (.int aa), .val (.int bb), .val (.int cc), .val (.int pk), .val (.int nd), .val (.ref dv), .val (.ref fv), .val (.ref sv), .val (.int (1 : Int32)), .val (.int (2 : Int32)), .val (.int cc), .val (.int e0), .val (.int e1), .unset, .unset] [(.int (2 : Int32))])) tgt
      refine XS.iconst X26.here hx rfl (hb hby at_209) ?_
      show Steps p.tables e below (T26.setTop (mkF m 210 #[.val (.int aa), .val (.int bb), .val (.int cc), .val (.int pk), .val (.int nd), .val (.ref dv), .val (.ref fv), .val (.ref sv), .val (.int (1 : Int32)), .val (.int (2 : Int32)), .val (.int cc), .val (.int e0), .val (.int e1), .unset, .unset] [(.int (2 : Int32)), (.int (2 : Int32))])) tgt
      refine XS.icmpNo X26.here hx rfl (hb hby at_210) rfl (teq (by decide : (2 : Int32) = (2 : Int32))).2 ?_
      show Steps p.tables e below (T26.setTop (mkF m 213 #[.val (.int aa), .val (.int bb), .val (.int cc), .val (.int pk), .val (.int nd), .val (.ref dv), .val (.ref fv), .val (.ref sv), .val (.int (1 : Int32)), .val (.int (2 : Int32)), .val (.int cc), .val (.int e0), .val (.int e1), .unset, .unset] [])) tgt
      refine XS.iload X26.here hx rfl (hb hby at_213) rfl ?_
      exact k
    obtain ⟨e2, he2⟩ : ∃ z : Int32, z = (if nd = (0 : Int32) then (0 : Int32) else (1 : Int32)) := ⟨_, rfl⟩
    refine own_st (V := T26.setTop (mkF m 235 #[.val (.int aa), .val (.int bb), .val (.int cc), .val (.int pk), .val (.int nd), .val (.ref dv), .val (.ref fv), .val (.ref sv), .val (.int (1 : Int32)), .val (.int (2 : Int32)), .val (.int cc), .val (.int e0), .val (.int e1), .unset, .unset] [(.int e2)])) (fun tgt k => ?_) ?_
    · skip
      by_cases hc215_2 : nd = (0 : Int32)
      · skip
        rw [if_pos hc215_2] at he2
        show Steps p.tables e below (T26.setTop (mkF m 215 #[.val (.int aa), .val (.int bb), .val (.int cc), .val (.int pk), .val (.int nd), .val (.ref dv), .val (.ref fv), .val (.ref sv), .val (.int (1 : Int32)), .val (.int (2 : Int32)), .val (.int cc), .val (.int e0), .val (.int e1), .unset, .unset] [(.int nd)])) tgt
        refine XS.ifYes X26.here hx rfl (pc0 := 215) (pc' := 222) rfl (hb hby at_215) rfl ((if0 _ _).trans (teq hc215_2).1) (by decide) (by decide) ?_
        show Steps p.tables e below (T26.setTop (mkF m 222 #[.val (.int aa), .val (.int bb), .val (.int cc), .val (.int pk), .val (.int nd), .val (.ref dv), .val (.ref fv), .val (.ref sv), .val (.int (1 : Int32)), .val (.int (2 : Int32)), .val (.int cc), .val (.int e0), .val (.int e1), .unset, .unset] [])) tgt
        refine XS.iconst X26.here hx rfl (hb hby at_222) ?_
        show Steps p.tables e below (T26.setTop (mkF m 223 #[.val (.int aa), .val (.int bb), .val (.int cc), .val (.int pk), .val (.int nd), .val (.ref dv), .val (.ref fv), .val (.ref sv), .val (.int (1 : Int32)), .val (.int (2 : Int32)), .val (.int cc), .val (.int e0), .val (.int e1), .unset, .unset] [(.int (0 : Int32))])) tgt
        refine XS.goto X26.here hx rfl (pc0 := 223) (pc' := 235) rfl (hb hby at_223) (by decide) (by decide) ?_
        rw [he2] at k
        exact k
      · skip
        rw [if_neg hc215_2] at he2
        show Steps p.tables e below (T26.setTop (mkF m 215 #[.val (.int aa), .val (.int bb), .val (.int cc), .val (.int pk), .val (.int nd), .val (.ref dv), .val (.ref fv), .val (.ref sv), .val (.int (1 : Int32)), .val (.int (2 : Int32)), .val (.int cc), .val (.int e0), .val (.int e1), .unset, .unset] [(.int nd)])) tgt
        refine XS.ifNo X26.here hx rfl (hb hby at_215) rfl ((if0 _ _).trans (feq hc215_2).1) ?_
        show Steps p.tables e below (T26.setTop (mkF m 218 #[.val (.int aa), .val (.int bb), .val (.int cc), .val (.int pk), .val (.int nd), .val (.ref dv), .val (.ref fv), .val (.ref sv), .val (.int (1 : Int32)), .val (.int (2 : Int32)), .val (.int cc), .val (.int e0), .val (.int e1), .unset, .unset] [])) tgt
        refine XS.iconst X26.here hx rfl (hb hby at_218) ?_
        show Steps p.tables e below (T26.setTop (mkF m 219 #[.val (.int aa), .val (.int bb), .val (.int cc), .val (.int pk), .val (.int nd), .val (.ref dv), .val (.ref fv), .val (.ref sv), .val (.int (1 : Int32)), .val (.int (2 : Int32)), .val (.int cc), .val (.int e0), .val (.int e1), .unset, .unset] [(.int (1 : Int32))])) tgt
        refine XS.goto X26.here hx rfl (pc0 := 219) (pc' := 235) rfl (hb hby at_219) (by decide) (by decide) ?_
        rw [he2] at k
        exact k
    refine own_st (V := T26.setTop (mkF m 239 #[.val (.int aa), .val (.int bb), .val (.int cc), .val (.int pk), .val (.int nd), .val (.ref dv), .val (.ref fv), .val (.ref sv), .val (.int (1 : Int32)), .val (.int (2 : Int32)), .val (.int cc), .val (.int e0), .val (.int e1), .val (.int e2), .unset] [(.int cc)])) (fun tgt k => ?_) ?_
    · show Steps p.tables e below (T26.setTop (mkF m 235 #[.val (.int aa), .val (.int bb), .val (.int cc), .val (.int pk), .val (.int nd), .val (.ref dv), .val (.ref fv), .val (.ref sv), .val (.int (1 : Int32)), .val (.int (2 : Int32)), .val (.int cc), .val (.int e0), .val (.int e1), .unset, .unset] [(.int e2)])) tgt
      refine XS.istore X26.here hx rfl (hb hby at_235) rfl (l' := #[.val (.int aa), .val (.int bb), .val (.int cc), .val (.int pk), .val (.int nd), .val (.ref dv), .val (.ref fv), .val (.ref sv), .val (.int (1 : Int32)), .val (.int (2 : Int32)), .val (.int cc), .val (.int e0), .val (.int e1), .val (.int e2), .unset]) rfl ?_
      show Steps p.tables e below (T26.setTop (mkF m 237 #[.val (.int aa), .val (.int bb), .val (.int cc), .val (.int pk), .val (.int nd), .val (.ref dv), .val (.ref fv), .val (.ref sv), .val (.int (1 : Int32)), .val (.int (2 : Int32)), .val (.int cc), .val (.int e0), .val (.int e1), .val (.int e2), .unset] [])) tgt
      refine XS.iload X26.here hx rfl (hb hby at_237) rfl ?_
      exact k
    obtain ⟨xs, hxs⟩ : ∃ z : Int32, z = (if cc = (0 : Int32) then (1 : Int32) else (0 : Int32)) := ⟨_, rfl⟩
    refine own_st (V := T26.setTop (mkF m 247 #[.val (.int aa), .val (.int bb), .val (.int cc), .val (.int pk), .val (.int nd), .val (.ref dv), .val (.ref fv), .val (.ref sv), .val (.int (1 : Int32)), .val (.int (2 : Int32)), .val (.int cc), .val (.int e0), .val (.int e1), .val (.int e2), .unset] [(.int xs)])) (fun tgt k => ?_) ?_
    · skip
      by_cases hc239_2 : cc = (0 : Int32)
      · skip
        rw [if_pos hc239_2] at hxs
        show Steps p.tables e below (T26.setTop (mkF m 239 #[.val (.int aa), .val (.int bb), .val (.int cc), .val (.int pk), .val (.int nd), .val (.ref dv), .val (.ref fv), .val (.ref sv), .val (.int (1 : Int32)), .val (.int (2 : Int32)), .val (.int cc), .val (.int e0), .val (.int e1), .val (.int e2), .unset] [(.int cc)])) tgt
        refine XS.ifNo X26.here hx rfl (hb hby at_239) rfl ((if0 _ _).trans (teq hc239_2).2) ?_
        show Steps p.tables e below (T26.setTop (mkF m 242 #[.val (.int aa), .val (.int bb), .val (.int cc), .val (.int pk), .val (.int nd), .val (.ref dv), .val (.ref fv), .val (.ref sv), .val (.int (1 : Int32)), .val (.int (2 : Int32)), .val (.int cc), .val (.int e0), .val (.int e1), .val (.int e2), .unset] [])) tgt
        refine XS.iconst X26.here hx rfl (hb hby at_242) ?_
        show Steps p.tables e below (T26.setTop (mkF m 243 #[.val (.int aa), .val (.int bb), .val (.int cc), .val (.int pk), .val (.int nd), .val (.ref dv), .val (.ref fv), .val (.ref sv), .val (.int (1 : Int32)), .val (.int (2 : Int32)), .val (.int cc), .val (.int e0), .val (.int e1), .val (.int e2), .unset] [(.int (1 : Int32))])) tgt
        refine XS.goto X26.here hx rfl (pc0 := 243) (pc' := 247) rfl (hb hby at_243) (by decide) (by decide) ?_
        rw [hxs] at k
        exact k
      · skip
        rw [if_neg hc239_2] at hxs
        show Steps p.tables e below (T26.setTop (mkF m 239 #[.val (.int aa), .val (.int bb), .val (.int cc), .val (.int pk), .val (.int nd), .val (.ref dv), .val (.ref fv), .val (.ref sv), .val (.int (1 : Int32)), .val (.int (2 : Int32)), .val (.int cc), .val (.int e0), .val (.int e1), .val (.int e2), .unset] [(.int cc)])) tgt
        refine XS.ifYes X26.here hx rfl (pc0 := 239) (pc' := 246) rfl (hb hby at_239) rfl ((if0 _ _).trans (feq hc239_2).2) (by decide) (by decide) ?_
        show Steps p.tables e below (T26.setTop (mkF m 246 #[.val (.int aa), .val (.int bb), .val (.int cc), .val (.int pk), .val (.int nd), .val (.ref dv), .val (.ref fv), .val (.ref sv), .val (.int (1 : Int32)), .val (.int (2 : Int32)), .val (.int cc), .val (.int e0), .val (.int e1), .val (.int e2), .unset] [])) tgt
        refine XS.iconst X26.here hx rfl (hb hby at_246) ?_
        rw [hxs] at k
        exact k
    refine own_st (V := T26.setTop (mkF m 257 #[.val (.int aa), .val (.int bb), .val (.int cc), .val (.int pk), .val (.int nd), .val (.ref dv), .val (.ref fv), .val (.ref sv), .val (.int (1 : Int32)), .val (.int (2 : Int32)), .val (.int cc), .val (.int e0), .val (.int e1), .val (.int e2), .val (.int xs)] [(.int (0 : Int32)), (.ref sv)])) (fun tgt k => ?_) ?_
    · show Steps p.tables e below (T26.setTop (mkF m 247 #[.val (.int aa), .val (.int bb), .val (.int cc), .val (.int pk), .val (.int nd), .val (.ref dv), .val (.ref fv), .val (.ref sv), .val (.int (1 : Int32)), .val (.int (2 : Int32)), .val (.int cc), .val (.int e0), .val (.int e1), .val (.int e2), .unset] [(.int xs)])) tgt
      refine XS.istore X26.here hx rfl (hb hby at_247) rfl (l' := #[.val (.int aa), .val (.int bb), .val (.int cc), .val (.int pk), .val (.int nd), .val (.ref dv), .val (.ref fv), .val (.ref sv), .val (.int (1 : Int32)), .val (.int (2 : Int32)), .val (.int cc), .val (.int e0), .val (.int e1), .val (.int e2), .val (.int xs)]) rfl ?_
      show Steps p.tables e below (T26.setTop (mkF m 249 #[.val (.int aa), .val (.int bb), .val (.int cc), .val (.int pk), .val (.int nd), .val (.ref dv), .val (.ref fv), .val (.ref sv), .val (.int (1 : Int32)), .val (.int (2 : Int32)), .val (.int cc), .val (.int e0), .val (.int e1), .val (.int e2), .val (.int xs)] [])) tgt
      refine XS.iload X26.here hx rfl (hb hby at_249) rfl ?_
      show Steps p.tables e below (T26.setTop (mkF m 251 #[.val (.int aa), .val (.int bb), .val (.int cc), .val (.int pk), .val (.int nd), .val (.ref dv), .val (.ref fv), .val (.ref sv), .val (.int (1 : Int32)), .val (.int (2 : Int32)), .val (.int cc), .val (.int e0), .val (.int e1), .val (.int e2), .val (.int xs)] [(.int (1 : Int32))])) tgt
      refine XS.ifNo X26.here hx rfl (hb hby at_251) rfl ((if0 _ _).trans (feq (by decide : ¬ ((1 : Int32) = (0 : Int32)))).1) ?_
      show Steps p.tables e below (T26.setTop (mkF m 254 #[.val (.int aa), .val (.int bb), .val (.int cc), .val (.int pk), .val (.int nd), .val (.ref dv), .val (.ref fv), .val (.ref sv), .val (.int (1 : Int32)), .val (.int (2 : Int32)), .val (.int cc), .val (.int e0), .val (.int e1), .val (.int e2), .val (.int xs)] [])) tgt
      refine XS.aload X26.here hx rfl (hb hby at_254) rfl rfl ?_
      show Steps p.tables e below (T26.setTop (mkF m 256 #[.val (.int aa), .val (.int bb), .val (.int cc), .val (.int pk), .val (.int nd), .val (.ref dv), .val (.ref fv), .val (.ref sv), .val (.int (1 : Int32)), .val (.int (2 : Int32)), .val (.int cc), .val (.int e0), .val (.int e1), .val (.int e2), .val (.int xs)] [(.ref sv)])) tgt
      refine XS.iconst X26.here hx rfl (hb hby at_256) ?_
      exact k
    obtain ⟨cq27, kq27, q27a, q27b, q27c⟩ := isOf hZ rfl g26_0
    obtain ⟨_, _, ⟨T27, L27, k27, n27⟩, -, X27, ⟨Lc27, hQ27, l27, y27, z27⟩, st27⟩ := X26.virtualBack hx (y := (⟨"com/example/chainwright/chainwright/State", "isChosen", "(I)Z"⟩ : MethodName)) (z := (⟨"com/example/chainwright/chainwright/State", "isChosen", "(I)Z"⟩ : MethodName)) hown (mvT hZ (hw _ (List.mem_of_getElem? (i := 16) rfl))) (mvT hZ (hw _ (List.mem_of_getElem? (i := 17) rfl))) (notFace_of_selects (args := #[]) (mvT hZ (hw _ (List.mem_of_getElem? (i := 19) rfl)))) (mvT hZ (hw _ (List.mem_of_getElem? (i := 19) rfl))) (mvT hZ (hw _ (List.mem_of_getElem? (i := 18) rfl))) (by decide) (backOf (W := 0) (rm3 l Z a0 hw [] sv (0 : Int32) dv 3 (own_up (own_up (own_up (own_up (fun _ => 0) 0 aa) 1 bb) 2 cc) 2 nd) 0 T26.heap n0 Zs26 g26_1 g26_4 (by first | assumption | decide | rfl) (by first | assumption | decide | rfl)) hZ (hw _ (List.mem_of_getElem? (i := 20) rfl)) (hw _ (List.mem_of_getElem? (i := 3) rfl)) (by decide) (by decide)) q27a q27c (g := (mkF m 257 #[.val (.int aa), .val (.int bb), .val (.int cc), .val (.int pk), .val (.int nd), .val (.ref dv), .val (.ref fv), .val (.ref sv), .val (.int (1 : Int32)), .val (.int (2 : Int32)), .val (.int cc), .val (.int e0), .val (.int e1), .val (.int e2), .val (.int xs)] [(.int (0 : Int32)), (.ref sv)])) rfl (by rw [hml]; rfl) (Steps.refl _) (argsL := [(.int (0 : Int32))]) (rest := []) (lenOf pd_0_1 rfl) rfl (by show 2 * 0 + _ ≤ _; exact Nat.le_of_eq rfl) (hb hby at_257) (fun _ _ => ⟨rfl, rfl, (by decide : 3 + 0 ≤ _), (by decide : 9 + 0 ≤ _)⟩)
    dsimp only [Pt.U, Pt.locs, Pt.cells, Pt.slots] at X27 l27 y27 z27 st27 hQ27
    subst l27 y27 z27
    obtain ⟨rfl, N27q, K27⟩ := hQ27
    have N27 := Fr.app N26 N27q
    refine own_st (fun tgt k => st27.trans k) ?_
    show own_Go p e below _ (T27.setTop (mkF m 260 #[.val (.int aa), .val (.int bb), .val (.int cc), .val (.int pk), .val (.int nd), .val (.ref dv), .val (.ref fv), .val (.ref sv), .val (.int (1 : Int32)), .val (.int (2 : Int32)), .val (.int cc), .val (.int e0), .val (.int e1), .val (.int e2), .val (.int xs)] [(.int (if (own_up (own_up (own_up (own_up (fun _ => 0) 0 aa) 1 bb) 2 cc) 2 nd) 0 = 0 then (0 : Int32) else (1 : Int32)))]))
    refine own_st (V := T27.setTop (mkF m 268 #[.val (.int aa), .val (.int bb), .val (.int cc), .val (.int pk), .val (.int nd), .val (.ref dv), .val (.ref fv), .val (.ref sv), .val (.int (1 : Int32)), .val (.int (2 : Int32)), .val (.int cc), .val (.int e0), .val (.int e1), .val (.int e2), .val (.int xs)] [(.int (1 : Int32)), (.ref sv)])) (fun tgt k => ?_) ?_
    · show Steps p.tables e below (T27.setTop (mkF m 260 #[.val (.int aa), .val (.int bb), .val (.int cc), .val (.int pk), .val (.int nd), .val (.ref dv), .val (.ref fv), .val (.ref sv), .val (.int (1 : Int32)), .val (.int (2 : Int32)), .val (.int cc), .val (.int e0), .val (.int e1), .val (.int e2), .val (.int xs)] [(.int (if (own_up (own_up (own_up (own_up (fun _ => 0) 0 aa) 1 bb) 2 cc) 2 nd) 0 = 0 then (0 : Int32) else (1 : Int32)))])) tgt
      refine XS.iload X27.here hx rfl (hb hby at_260) rfl ?_
      show Steps p.tables e below (T27.setTop (mkF m 262 #[.val (.int aa), .val (.int bb), .val (.int cc), .val (.int pk), .val (.int nd), .val (.ref dv), .val (.ref fv), .val (.ref sv), .val (.int (1 : Int32)), .val (.int (2 : Int32)), .val (.int cc), .val (.int e0), .val (.int e1), .val (.int e2), .val (.int xs)] [(.int e0), (.int (if (own_up (own_up (own_up (own_up (fun _ => 0) 0 aa) 1 bb) 2 cc) 2 nd) 0 = 0 then (0 : Int32) else (1 : Int32)))])) tgt
      refine XS.icmpNo X27.here hx rfl (hb hby at_262) rfl (teq (by simp [own_up, he0])).2 ?_
      show Steps p.tables e below (T27.setTop (mkF m 265 #[.val (.int aa), .val (.int bb), .val (.int cc), .val (.int pk), .val (.int nd), .val (.ref dv), .val (.ref fv), .val (.ref sv), .val (.int (1 : Int32)), .val (.int (2 : Int32)), .val (.int cc), .val (.int e0), .val (.int e1), .val (.int e2), .val (.int xs)] [])) tgt
      refine XS.aload X27.here hx rfl (hb hby at_265) rfl rfl ?_
      show Steps p.tables e below (T27.setTop (mkF m 267 #[.val (.int aa), .val (.int bb), .val (.int cc), .val (.int pk), .val (.int nd), .val (.ref dv), .val (.ref fv), .val (.ref sv), .val (.int (1 : Int32)), .val (.int (2 : Int32)), .val (.int cc), .val (.int e0), .val (.int e1), .val (.int e2), .val (.int xs)] [(.ref sv)])) tgt
      refine XS.iconst X27.here hx rfl (hb hby at_267) ?_
      exact k
    obtain ⟨cq28, kq28, q28a, q28b, q28c⟩ := isOf hZ K27 g26_0
    obtain ⟨_, _, ⟨T28, L28, k28, n28⟩, -, X28, ⟨Lc28, hQ28, l28, y28, z28⟩, st28⟩ := X27.virtualBack hx (y := (⟨"com/example/chainwright/chainwright/State", "isChosen", "(I)Z"⟩ : MethodName)) (z := (⟨"com/example/chainwright/chainwright/State", "isChosen", "(I)Z"⟩ : MethodName)) hown (mvT hZ (hw _ (List.mem_of_getElem? (i := 16) rfl))) (mvT hZ (hw _ (List.mem_of_getElem? (i := 17) rfl))) (notFace_of_selects (args := #[]) (mvT hZ (hw _ (List.mem_of_getElem? (i := 19) rfl)))) (mvT hZ (hw _ (List.mem_of_getElem? (i := 19) rfl))) (mvT hZ (hw _ (List.mem_of_getElem? (i := 18) rfl))) (by decide) (backOf (W := 0) (rm3 l Z a0 hw [] sv (1 : Int32) dv 3 (own_up (own_up (own_up (own_up (fun _ => 0) 0 aa) 1 bb) 2 cc) 2 nd) 1 T26.heap n0 Zs26 g26_1 g26_4 (by first | assumption | decide | rfl) (by first | assumption | decide | rfl)) hZ (hw _ (List.mem_of_getElem? (i := 20) rfl)) (hw _ (List.mem_of_getElem? (i := 3) rfl)) (by decide) (by decide)) q28a q28c (g := (mkF m 268 #[.val (.int aa), .val (.int bb), .val (.int cc), .val (.int pk), .val (.int nd), .val (.ref dv), .val (.ref fv), .val (.ref sv), .val (.int (1 : Int32)), .val (.int (2 : Int32)), .val (.int cc), .val (.int e0), .val (.int e1), .val (.int e2), .val (.int xs)] [(.int (1 : Int32)), (.ref sv)])) rfl (by rw [hml]; rfl) (Steps.refl _) (argsL := [(.int (1 : Int32))]) (rest := []) (lenOf pd_0_1 rfl) rfl (by show 2 * 0 + _ ≤ _; exact Nat.le_of_eq rfl) (hb hby at_268) (fun _ _ => ⟨rfl, K27, (by decide : 3 + 0 ≤ _), (by decide : 9 + 0 ≤ _)⟩)
    dsimp only [Pt.U, Pt.locs, Pt.cells, Pt.slots] at X28 l28 y28 z28 st28 hQ28
    subst l28 y28 z28
    obtain ⟨rfl, N28q, K28⟩ := hQ28
    have N28 := Fr.app N27 N28q
    refine own_st (fun tgt k => st28.trans k) ?_
    show own_Go p e below _ (T28.setTop (mkF m 271 #[.val (.int aa), .val (.int bb), .val (.int cc), .val (.int pk), .val (.int nd), .val (.ref dv), .val (.ref fv), .val (.ref sv), .val (.int (1 : Int32)), .val (.int (2 : Int32)), .val (.int cc), .val (.int e0), .val (.int e1), .val (.int e2), .val (.int xs)] [(.int (if (own_up (own_up (own_up (own_up (fun _ => 0) 0 aa) 1 bb) 2 cc) 2 nd) 1 = 0 then (0 : Int32) else (1 : Int32)))]))
    refine own_st (V := T28.setTop (mkF m 279 #[.val (.int aa), .val (.int bb), .val (.int cc), .val (.int pk), .val (.int nd), .val (.ref dv), .val (.ref fv), .val (.ref sv), .val (.int (1 : Int32)), .val (.int (2 : Int32)), .val (.int cc), .val (.int e0), .val (.int e1), .val (.int e2), .val (.int xs)] [(.int (2 : Int32)), (.ref sv)])) (fun tgt k => ?_) ?_
    · show Steps p.tables e below (T28.setTop (mkF m 271 #[.val (.int aa), .val (.int bb), .val (.int cc), .val (.int pk), .val (.int nd), .val (.ref dv), .val (.ref fv), .val (.ref sv), .val (.int (1 : Int32)), .val (.int (2 : Int32)), .val (.int cc), .val (.int e0), .val (.int e1), .val (.int e2), .val (.int xs)] [(.int (if (own_up (own_up (own_up (own_up (fun _ => 0) 0 aa) 1 bb) 2 cc) 2 nd) 1 = 0 then (0 : Int32) else (1 : Int32)))])) tgt
      refine XS.iload X28.here hx rfl (hb hby at_271) rfl ?_
      show Steps p.tables e below (T28.setTop (mkF m 273 #[.val (.int aa), .val (.int bb), .val (.int cc), .val (.int pk), .val (.int nd), .val (.ref dv), .val (.ref fv), .val (.ref sv), .val (.int (1 : Int32)), .val (.int (2 : Int32)), .val (.int cc), .val (.int e0), .val (.int e1), .val (.int e2), .val (.int xs)] [(.int e1), (.int (if (own_up (own_up (own_up (own_up (fun _ => 0) 0 aa) 1 bb) 2 cc) 2 nd) 1 = 0 then (0 : Int32) else (1 : Int32)))])) tgt
      refine XS.icmpNo X28.here hx rfl (hb hby at_273) rfl (teq (by simp [own_up, he1])).2 ?_
      show Steps p.tables e below (T28.setTop (mkF m 276 #[.val (.int aa), .val (.int bb), .val (.int cc), .val (.int pk), .val (.int nd), .val (.ref dv), .val (.ref fv), .val (.ref sv), .val (.int (1 : Int32)), .val (.int (2 : Int32)), .val (.int cc), .val (.int e0), .val (.int e1), .val (.int e2), .val (.int xs)] [])) tgt
      refine XS.aload X28.here hx rfl (hb hby at_276) rfl rfl ?_
      show Steps p.tables e below (T28.setTop (mkF m 278 #[.val (.int aa), .val (.int bb), .val (.int cc), .val (.int pk), .val (.int nd), .val (.ref dv), .val (.ref fv), .val (.ref sv), .val (.int (1 : Int32)), .val (.int (2 : Int32)), .val (.int cc), .val (.int e0), .val (.int e1), .val (.int e2), .val (.int xs)] [(.ref sv)])) tgt
      refine XS.iconst X28.here hx rfl (hb hby at_278) ?_
      exact k
    obtain ⟨cq29, kq29, q29a, q29b, q29c⟩ := isOf hZ K28 g26_0
    obtain ⟨_, _, ⟨T29, L29, k29, n29⟩, -, X29, ⟨Lc29, hQ29, l29, y29, z29⟩, st29⟩ := X28.virtualBack hx (y := (⟨"com/example/chainwright/chainwright/State", "isChosen", "(I)Z"⟩ : MethodName)) (z := (⟨"com/example/chainwright/chainwright/State", "isChosen", "(I)Z"⟩ : MethodName)) hown (mvT hZ (hw _ (List.mem_of_getElem? (i := 16) rfl))) (mvT hZ (hw _ (List.mem_of_getElem? (i := 17) rfl))) (notFace_of_selects (args := #[]) (mvT hZ (hw _ (List.mem_of_getElem? (i := 19) rfl)))) (mvT hZ (hw _ (List.mem_of_getElem? (i := 19) rfl))) (mvT hZ (hw _ (List.mem_of_getElem? (i := 18) rfl))) (by decide) (backOf (W := 0) (rm3 l Z a0 hw [] sv (2 : Int32) dv 3 (own_up (own_up (own_up (own_up (fun _ => 0) 0 aa) 1 bb) 2 cc) 2 nd) 2 T26.heap n0 Zs26 g26_1 g26_4 (by first | assumption | decide | rfl) (by first | assumption | decide | rfl)) hZ (hw _ (List.mem_of_getElem? (i := 20) rfl)) (hw _ (List.mem_of_getElem? (i := 3) rfl)) (by decide) (by decide)) q29a q29c (g := (mkF m 279 #[.val (.int aa), .val (.int bb), .val (.int cc), .val (.int pk), .val (.int nd), .val (.ref dv), .val (.ref fv), .val (.ref sv), .val (.int (1 : Int32)), .val (.int (2 : Int32)), .val (.int cc), .val (.int e0), .val (.int e1), .val (.int e2), .val (.int xs)] [(.int (2 : Int32)), (.ref sv)])) rfl (by rw [hml]; rfl) (Steps.refl _) (argsL := [(.int (2 : Int32))]) (rest := []) (lenOf pd_0_1 rfl) rfl (by show 2 * 0 + _ ≤ _; exact Nat.le_of_eq rfl) (hb hby at_279) (fun _ _ => ⟨rfl, K28, (by decide : 3 + 0 ≤ _), (by decide : 9 + 0 ≤ _)⟩)
    dsimp only [Pt.U, Pt.locs, Pt.cells, Pt.slots] at X29 l29 y29 z29 st29 hQ29
    subst l29 y29 z29
    obtain ⟨rfl, N29q, K29⟩ := hQ29
    have N29 := Fr.app N28 N29q
    refine own_st (fun tgt k => st29.trans k) ?_
    show own_Go p e below _ (T29.setTop (mkF m 282 #[.val (.int aa), .val (.int bb), .val (.int cc), .val (.int pk), .val (.int nd), .val (.ref dv), .val (.ref fv), .val (.ref sv), .val (.int (1 : Int32)), .val (.int (2 : Int32)), .val (.int cc), .val (.int e0), .val (.int e1), .val (.int e2), .val (.int xs)] [(.int (if (own_up (own_up (own_up (own_up (fun _ => 0) 0 aa) 1 bb) 2 cc) 2 nd) 2 = 0 then (0 : Int32) else (1 : Int32)))]))
    refine own_st (V := T29.setTop (mkF m 289 #[.val (.int aa), .val (.int bb), .val (.int cc), .val (.int pk), .val (.int nd), .val (.ref dv), .val (.ref fv), .val (.ref sv), .val (.int (1 : Int32)), .val (.int (2 : Int32)), .val (.int cc), .val (.int e0), .val (.int e1), .val (.int e2), .val (.int xs)] [(.ref sv)])) (fun tgt k => ?_) ?_
    · show Steps p.tables e below (T29.setTop (mkF m 282 #[.val (.int aa), .val (.int bb), .val (.int cc), .val (.int pk), .val (.int nd), .val (.ref dv), .val (.ref fv), .val (.ref sv), .val (.int (1 : Int32)), .val (.int (2 : Int32)), .val (.int cc), .val (.int e0), .val (.int e1), .val (.int e2), .val (.int xs)] [(.int (if (own_up (own_up (own_up (own_up (fun _ => 0) 0 aa) 1 bb) 2 cc) 2 nd) 2 = 0 then (0 : Int32) else (1 : Int32)))])) tgt
      refine XS.iload X29.here hx rfl (hb hby at_282) rfl ?_
      show Steps p.tables e below (T29.setTop (mkF m 284 #[.val (.int aa), .val (.int bb), .val (.int cc), .val (.int pk), .val (.int nd), .val (.ref dv), .val (.ref fv), .val (.ref sv), .val (.int (1 : Int32)), .val (.int (2 : Int32)), .val (.int cc), .val (.int e0), .val (.int e1), .val (.int e2), .val (.int xs)] [(.int e2), (.int (if (own_up (own_up (own_up (own_up (fun _ => 0) 0 aa) 1 bb) 2 cc) 2 nd) 2 = 0 then (0 : Int32) else (1 : Int32)))])) tgt
      refine XS.icmpNo X29.here hx rfl (hb hby at_284) rfl (teq (by simp [own_up, he2])).2 ?_
      show Steps p.tables e below (T29.setTop (mkF m 287 #[.val (.int aa), .val (.int bb), .val (.int cc), .val (.int pk), .val (.int nd), .val (.ref dv), .val (.ref fv), .val (.ref sv), .val (.int (1 : Int32)), .val (.int (2 : Int32)), .val (.int cc), .val (.int e0), .val (.int e1), .val (.int e2), .val (.int xs)] [])) tgt
      refine XS.aload X29.here hx rfl (hb hby at_287) rfl rfl ?_
      exact k
    obtain ⟨cq30, kq30, q30a, q30b, q30c⟩ := isOf hZ K29 g26_0
    obtain ⟨_, _, ⟨T30, L30, k30, n30⟩, -, X30, ⟨Lc30, hQ30, l30, y30, z30⟩, st30⟩ := X29.virtualBack hx (y := (⟨"com/example/chainwright/chainwright/State", "size", "()I"⟩ : MethodName)) (z := (⟨"com/example/chainwright/chainwright/State", "size", "()I"⟩ : MethodName)) hown (mvT hZ (hw _ (List.mem_of_getElem? (i := 28) rfl))) (mvT hZ (hw _ (List.mem_of_getElem? (i := 29) rfl))) (notFace_of_selects (args := #[]) (mvT hZ (hw _ (List.mem_of_getElem? (i := 31) rfl)))) (mvT hZ (hw _ (List.mem_of_getElem? (i := 31) rfl))) (mvT hZ (hw _ (List.mem_of_getElem? (i := 30) rfl))) (by decide) (backOf (W := 0) (rm5 l Z a0 hw [] sv (if (own_up (own_up (own_up (fun _ => 0) 0 aa) 1 bb) 2 cc) 2 = 0 then (0 : Int32) + (1 : Int32) else (0 : Int32)) T26.heap n0 Zs26 g26_3) hZ (hw _ (List.mem_of_getElem? (i := 32) rfl)) (hw _ (List.mem_of_getElem? (i := 3) rfl)) (by decide) (by decide)) q30a q30c (g := (mkF m 289 #[.val (.int aa), .val (.int bb), .val (.int cc), .val (.int pk), .val (.int nd), .val (.ref dv), .val (.ref fv), .val (.ref sv), .val (.int (1 : Int32)), .val (.int (2 : Int32)), .val (.int cc), .val (.int e0), .val (.int e1), .val (.int e2), .val (.int xs)] [(.ref sv)])) rfl (by rw [hml]; rfl) (Steps.refl _) (argsL := []) (rest := []) (lenOf pd_0_3 rfl) rfl (by show 2 * 0 + _ ≤ _; exact Nat.le_of_eq rfl) (hb hby at_289) (fun _ _ => ⟨rfl, K29, (by decide : 3 + 0 ≤ _), (by decide : 9 + 0 ≤ _)⟩)
    dsimp only [Pt.U, Pt.locs, Pt.cells, Pt.slots] at X30 l30 y30 z30 st30 hQ30
    subst l30 y30 z30
    obtain ⟨rfl, N30q, K30⟩ := hQ30
    have N30 := Fr.app N29 N30q
    refine own_st (fun tgt k => st30.trans k) ?_
    show own_Go p e below _ (T30.setTop (mkF m 292 #[.val (.int aa), .val (.int bb), .val (.int cc), .val (.int pk), .val (.int nd), .val (.ref dv), .val (.ref fv), .val (.ref sv), .val (.int (1 : Int32)), .val (.int (2 : Int32)), .val (.int cc), .val (.int e0), .val (.int e1), .val (.int e2), .val (.int xs)] [(.int (if (own_up (own_up (own_up (fun _ => 0) 0 aa) 1 bb) 2 cc) 2 = 0 then (0 : Int32) + (1 : Int32) else (0 : Int32)))]))
    refine own_st (V := T30.setTop (mkF m 302 #[.val (.int aa), .val (.int bb), .val (.int cc), .val (.int pk), .val (.int nd), .val (.ref dv), .val (.ref fv), .val (.ref sv), .val (.int (1 : Int32)), .val (.int (2 : Int32)), .val (.int cc), .val (.int e0), .val (.int e1), .val (.int e2), .val (.int xs)] [(.int (1 : Int32))])) (fun tgt k => ?_) ?_
    · show Steps p.tables e below (T30.setTop (mkF m 292 #[.val (.int aa), .val (.int bb), .val (.int cc), .val (.int pk), .val (.int nd), .val (.ref dv), .val (.ref fv), .val (.ref sv), .val (.int (1 : Int32)), .val (.int (2 : Int32)), .val (.int cc), .val (.int e0), .val (.int e1), .val (.int e2), .val (.int xs)] [(.int (if (own_up (own_up (own_up (fun _ => 0) 0 aa) 1 bb) 2 cc) 2 = 0 then (0 : Int32) + (1 : Int32) else (0 : Int32)))])) tgt
      refine XS.iload X30.here hx rfl (hb hby at_292) rfl ?_
      show Steps p.tables e below (T30.setTop (mkF m 294 #[.val (.int aa), .val (.int bb), .val (.int cc), .val (.int pk), .val (.int nd), .val (.ref dv), .val (.ref fv), .val (.ref sv), .val (.int (1 : Int32)), .val (.int (2 : Int32)), .val (.int cc), .val (.int e0), .val (.int e1), .val (.int e2), .val (.int xs)] [(.int xs), (.int (if (own_up (own_up (own_up (fun _ => 0) 0 aa) 1 bb) 2 cc) 2 = 0 then (0 : Int32) + (1 : Int32) else (0 : Int32)))])) tgt
      refine XS.icmpNo X30.here hx rfl (hb hby at_294) rfl (teq (by simp [own_up, hxs])).2 ?_
      show Steps p.tables e below (T30.setTop (mkF m 297 #[.val (.int aa), .val (.int bb), .val (.int cc), .val (.int pk), .val (.int nd), .val (.ref dv), .val (.ref fv), .val (.ref sv), .val (.int (1 : Int32)), .val (.int (2 : Int32)), .val (.int cc), .val (.int e0), .val (.int e1), .val (.int e2), .val (.int xs)] [])) tgt
      refine XS.iconst X30.here hx rfl (hb hby at_297) ?_
      show Steps p.tables e below (T30.setTop (mkF m 298 #[.val (.int aa), .val (.int bb), .val (.int cc), .val (.int pk), .val (.int nd), .val (.ref dv), .val (.ref fv), .val (.ref sv), .val (.int (1 : Int32)), .val (.int (2 : Int32)), .val (.int cc), .val (.int e0), .val (.int e1), .val (.int e2), .val (.int xs)] [(.int (1 : Int32))])) tgt
      refine XS.goto X30.here hx rfl (pc0 := 298) (pc' := 302) rfl (hb hby at_298) (by decide) (by decide) ?_
      exact k
    refine own_retN X30 hx hlk (t := .boolean) (z' := (1 : Int32)) Bd.returns (by simp) rfl (hb hby at_302) ?_ (by decide) (by decide)
    show Q0 Z aa bb cc pk nd h0 n0 (some (.int (1 : Int32))) T30.heap _
    rw [K30]
    exact ⟨rfl, N30⟩
set_option maxRecDepth 65536 in
set_option maxHeartbeats 40000000 in
theorem comes_1 {Post : Tables → Env → Array Value → State → Outcome → State → Prop} (hpost : ∀ tb e args s v u, (limb_1_1.after args s (.returned v) u = true ∧ limb_1_2.after args s (.returned v) u = true ∧ True) → FrameEnd s (.returned v) u (Jvm.fieldLocs frame_1_writes args s ++ Jvm.arrayLocs frame_1_arrays args s ++ Jvm.staticLocs frame_1_statics s) 16 128 → Post tb e args s (.returned v) u) :
    ArmFor flags0 classFile x code maxLocals ret World_1 tables_1 room_1 Calls_1 rest_1 Pre_1 Post := by
  intro l hfl _ _ p e ha hc hk s m args below hf hA hF happ hP
  obtain ⟨hcalls, hrest, hpre⟩ := hP
  obtain ⟨-, -, -, hnamed, -, -, -, hat⟩ := (Spec.applies_iff hf).mp happ
  obtain ⟨hg, hn⟩ := and_e (Cond.before_iff.mp (show (Jvm.Cond.and given_1 narrow_1).before args s = true from hpre))
  obtain ⟨hcount, g0⟩ := and_e hg
  obtain ⟨a0, g1⟩ := and_e g0
  obtain ⟨a1, g2⟩ := and_e g1
  obtain ⟨a2, g3⟩ := and_e g2
  obtain ⟨a3, g4⟩ := and_e g3
  have a4 := g4
  obtain ⟨w0, w1, w2, w3, w4, rfl⟩ : ∃ w0 w1 w2 w3 w4 : Value, args = #[w0, w1, w2, w3, w4] := by
    have hs : args.size = 5 := by simpa [Cond.value, given_1] using hcount
    obtain ⟨L⟩ := args
    match L, hs with
    | [w0, w1, w2, w3, w4], _ => exact ⟨w0, w1, w2, w3, w4, rfl⟩
  have hw := fun d (hd : d ∈ tables_1) => atoms_spec (ws := Jvm.Cond.code x code maxLocals ret :: tables_1) hat d (List.mem_cons_of_mem _ hd)
  obtain ⟨i0, ei0⟩ := is_v a0
  obtain rfl : w0 = (.int i0) := Option.some.inj ei0
  obtain ⟨i1, ei1⟩ := is_v a1
  obtain rfl : w1 = (.int i1) := Option.some.inj ei1
  obtain ⟨i2, ei2⟩ := is_v a2
  obtain rfl : w2 = (.int i2) := Option.some.inj ei2
  obtain ⟨i3, ei3⟩ := is_v a3
  obtain rfl : w3 = (.int i3) := Option.some.inj ei3
  obtain ⟨i4, ei4⟩ := is_v a4
  obtain rfl : w4 = (.int i4) := Option.some.inj ei4
  obtain ⟨n, o, h1, h2, h3, _, L, rfl, ⟨rfl, N⟩, hq⟩ := rm0 l s _ hw tables_1 i0 i1 i2 i3 i4 s.heap s.heap.size (Nat.le_refl _) p e ha hc hk s m _ below hf ((Spec.applies_iff_loose hf).mp happ).1 ⟨rfl, State.Warmed39.refl s, rfl⟩ trivial
  refine ⟨n, _, h1, h2, h3, hpost _ _ _ _ _ _ ⟨Cond.after_iff.mpr rfl, Cond.after_iff.mpr (eq_i res_at (Term.int_eval (1)) rfl), trivial⟩ ⟨hq.1, hq.2.1, (hq.2.2.sift fun y hy => Or.inr (N y hy)).mono (by decide) (by decide)⟩⟩
theorem main_1_1 : Claimed_1_1 := comes_1 fun _ _ _ _ _ _ h hF => ⟨h.1, hF⟩
theorem main_1_2 : Claimed_1_2 := comes_1 fun _ _ _ _ _ _ h hF => ⟨h.2.1, hF⟩
end Jvm.Pilot.@@N@@
namespace Jvm.Pilot.@@N@@
open Jvm Jvm.ClassFile Sem Op Lib Jvm.Free Jvm.Stand Jvm.Pilot.@@N@@.Jvm.D
/-! MADE BY PROGRAM (witnessworld.py) out of the Statement's table words and the real class files: 9 classes; the members and pool entries that the words name. The judged class is class 1, her method 1. -/
namespace start1
open Jvm.ClassFile
def u (s : String) : CpInfo := .utf8 (stringToUtf16 s)
/-- a pool by its gaps: so many unusable entries, then the entry; so many at the end -/
def gap : Nat → List CpInfo → List CpInfo
  | 0, r => r
  | n + 1, r => .unusable :: gap n r
def poolList (es : List (Nat × CpInfo)) (last : Nat) : List CpInfo := es.foldr (fun e r => gap e.1 (e.2 :: r)) (gap last [])
def pool (es : List (Nat × CpInfo)) (last : Nat) : Array CpInfo := ⟨poolList es last⟩
def fileOf (pool : Array CpInfo) (this : Nat) (attrs : Array Attribute := #[]) (ms : Array MethodInfo := #[]) (fl : Nat := 33) (sup : Nat := 0) (ifs : Array Nat := #[]) (fds : Array FieldInfo := #[]) : ClassFile where
  minorVersion := 0
  majorVersion := 65
  constantPool := pool
  accessFlags := fl
  thisClass := this
  superClass := sup
  interfaces := ifs
  fields := fds
  methods := ms
  attributes := attrs
def plain (name : String) (sup : Option ClassId) : Class where
  name := name
  kind := .ordinary
  loader := none
  accessFlags := 33
  super := sup
  interfaces := #[]
  cf := none
  fields := #[]
  methods := #[]
  instanceTypes := #[]
  staticTypes := #[]
  resolved := #[]
  callSites := []
  init := .initialized
  statics := none
  mirror := none

def pool0 : Array CpInfo := pool [(5, u "<init>"), (0, u "()V"), (1, .class_ 10), (1, u "java/lang/Object")] 113

def k0c0 : Code := { maxStack := 0, maxLocals := 1, code := object_method_1_code, exceptionTable := #[], attributes := #[] }
def k0m0 : Method := { name := "<init>", desc := "()V", sig := { parameters := [], returnType := none }, accessFlags := 1, code := some k0c0 }
/-- java/lang/Object -/
def k0 : Class := { plain "java/lang/Object" none with
  accessFlags := 33
  interfaces := #[]
  cf := some (fileOf pool0 8 #[] #[{ accessFlags := 1, nameIndex := 5, descriptorIndex := 6, attributes := #[] }] 33 0 #[] #[])
  fields := #[]
  methods := #[k0m0]
  instanceTypes := #[]
  staticTypes := #[]
  resolved := Array.replicate 124 none
  statics := none }

def pool1 : Array CpInfo := pool [(2, .class_ 4), (1, u "java/lang/Object"), (0, u "<init>"), (0, u "()V"), (0, .class_ 8), (0, u "com/example/chainwright/chainwright/State"), (0, .methodref 7 10), (0, .nameAndType 5 11), (0, u "([I[II)V"), (0, .methodref 7 13), (0, .nameAndType 14 15), (0, u "isChosen"), (0, u "(I)Z"), (0, .integer 2147483647), (0, .methodref 7 18), (0, .nameAndType 19 20), (0, u "choose"), (0, u "(II)V"), (0, .methodref 7 22), (0, .nameAndType 23 24), (0, u "size"), (0, u "()I"), (0, .class_ 26), (0, u "com/example/chainwright/chainwright/StateIsChosenPinLaw"), (2, u "law"), (0, u "(IIIII)Z")] 5

def k1m0 : Method := { name := "<init>", desc := "()V", sig := { parameters := [], returnType := none }, accessFlags := 1, code := none }
def k1c1 : Code := { maxStack := 5, maxLocals := 15, code := code, exceptionTable := #[], attributes := #[] }
def k1m1 : Method := { name := "law", desc := "(IIIII)Z", sig := { parameters := [.int, .int, .int, .int, .int], returnType := some .boolean }, accessFlags := 9, code := some k1c1 }
/-- com/example/chainwright/chainwright/StateIsChosenPinLaw -/
def k1 : Class := { plain "com/example/chainwright/chainwright/StateIsChosenPinLaw" (some 0) with
  accessFlags := 49
  interfaces := #[]
  cf := some (fileOf pool1 25 #[] #[{ accessFlags := 1, nameIndex := 5, descriptorIndex := 6, attributes := #[] }, { accessFlags := 9, nameIndex := 29, descriptorIndex := 30, attributes := #[] }] 49 2 #[] #[])
  fields := #[]
  methods := #[k1m0, k1m1]
  instanceTypes := #[]
  staticTypes := #[]
  resolved := Array.replicate 36 none
  statics := none }

def pool2 : Array CpInfo := pool [(1, .methodref 2 3), (0, .class_ 4), (0, .nameAndType 5 6), (0, u "java/lang/Object"), (0, u "<init>"), (0, u "()V"), (0, .fieldref 8 9), (0, .class_ 10), (0, .nameAndType 11 12), (0, u "com/example/chainwright/chainwright/State"), (0, u "deadlines"), (0, u "[I"), (0, .fieldref 8 14), (0, .nameAndType 15 12), (0, u "floors"), (0, .fieldref 8 17), (0, .nameAndType 18 19), (0, u "size"), (0, u "I"), (0, .methodref 8 21), (0, .nameAndType 22 23), (0, u "isChosen"), (0, u "(I)Z"), (12, u "NOT_CHOSEN"), (2, u "([I[II)V"), (3, u "()I"), (3, u "choose"), (0, u "(II)V")] 6

def k2c0 : Code := { maxStack := 2, maxLocals := 4, code := prog_29_method_1_code, exceptionTable := #[], attributes := #[] }
def k2m0 : Method := { name := "<init>", desc := "([I[II)V", sig := { parameters := [(.array .int), (.array .int), .int], returnType := none }, accessFlags := 0, code := some k2c0 }
def k2c1 : Code := { maxStack := 1, maxLocals := 1, code := prog_29_method_3_code, exceptionTable := #[], attributes := #[] }
def k2m1 : Method := { name := "size", desc := "()I", sig := { parameters := [], returnType := some .int }, accessFlags := 0, code := some k2c1 }
def k2c2 : Code := { maxStack := 2, maxLocals := 2, code := prog_29_method_5_code, exceptionTable := #[], attributes := #[] }
def k2m2 : Method := { name := "isChosen", desc := "(I)Z", sig := { parameters := [.int], returnType := some .boolean }, accessFlags := 0, code := some k2c2 }
def k2c3 : Code := { maxStack := 3, maxLocals := 3, code := prog_29_method_7_code, exceptionTable := #[], attributes := #[] }
def k2m3 : Method := { name := "choose", desc := "(II)V", sig := { parameters := [.int, .int], returnType := none }, accessFlags := 0, code := some k2c3 }
/-- com/example/chainwright/chainwright/State -/
def k2 : Class := { plain "com/example/chainwright/chainwright/State" (some 0) with
  accessFlags := 48
  interfaces := #[]
  cf := some (fileOf pool2 8 #[] #[{ accessFlags := 0, nameIndex := 5, descriptorIndex := 39, attributes := #[] }, { accessFlags := 0, nameIndex := 18, descriptorIndex := 43, attributes := #[] }, { accessFlags := 0, nameIndex := 22, descriptorIndex := 23, attributes := #[] }, { accessFlags := 0, nameIndex := 47, descriptorIndex := 48, attributes := #[] }] 48 2 #[] #[{ accessFlags := 24, nameIndex := 36, descriptorIndex := 19, attributes := #[] }, { accessFlags := 18, nameIndex := 11, descriptorIndex := 12, attributes := #[] }, { accessFlags := 18, nameIndex := 15, descriptorIndex := 12, attributes := #[] }, { accessFlags := 2, nameIndex := 18, descriptorIndex := 19, attributes := #[] }])
  fields := #[{ name := "NOT_CHOSEN", type := .int, accessFlags := 24, slot := 0, constantValue := 0 }, { name := "deadlines", type := (.array .int), accessFlags := 18, slot := 0, constantValue := 0 }, { name := "floors", type := (.array .int), accessFlags := 18, slot := 1, constantValue := 0 }, { name := "size", type := .int, accessFlags := 2, slot := 2, constantValue := 0 }]
  methods := #[k2m0, k2m1, k2m2, k2m3]
  instanceTypes := #[(.array .int), (.array .int), .int]
  staticTypes := #[.int]
  resolved := Array.replicate 55 none
  statics := none }

def pool3 : Array CpInfo := pool [(1, u "java/lang/Cloneable"), (0, .class_ 1), (0, u "java/lang/Object"), (0, .class_ 3)] 3

/-- java/lang/Cloneable -/
def k3 : Class := { plain "java/lang/Cloneable" (some 0) with
  accessFlags := 1537
  interfaces := #[]
  cf := some (fileOf pool3 2 #[] #[] 1537 4 #[] #[])
  fields := #[]
  methods := #[]
  instanceTypes := #[]
  staticTypes := #[]
  resolved := Array.replicate 8 none
  statics := none }

def pool4 : Array CpInfo := pool [(1, u "java/io/Serializable"), (0, .class_ 1), (0, u "java/lang/Object"), (0, .class_ 3)] 3

/-- java/io/Serializable -/
def k4 : Class := { plain "java/io/Serializable" (some 0) with
  accessFlags := 1537
  interfaces := #[]
  cf := some (fileOf pool4 2 #[] #[] 1537 4 #[] #[])
  fields := #[]
  methods := #[]
  instanceTypes := #[]
  staticTypes := #[]
  resolved := Array.replicate 8 none
  statics := none }

/-- the primitive byte -/
def k5 : Class := { plain "byte" none with kind := .primitive 'B', accessFlags := 0x411 }
/-- [B -/
def k6 : Class := { plain "[B" (some 0) with kind := .array 5 .byte, interfaces := #[3, 4], accessFlags := 1041 }

/-- the primitive int -/
def k7 : Class := { plain "int" none with kind := .primitive 'I', accessFlags := 0x411 }
/-- [I -/
def k8 : Class := { plain "[I" (some 0) with kind := .array 7 .int, interfaces := #[3, 4], accessFlags := 1041 }

def heap : Heap := #[]
def classes : Array Class := #[k0, k1, k2, k3, k4, k5, k6, k7, k8]
def interned : List (Array UInt16 × Addr) := []
def slotsUsed : Nat := 0
def theMethod : MethodId := ⟨1, 1⟩
def args0 : Array Value := #[.int 5, .int 3, .int 0, .int 7, .int 9]
def aboutOver (below : List Frame) : State where
  vm := { classes := classes, interned := interned.toArray }
  heap := heap
  slotsUsed := slotsUsed
  threads := #[{ frames := .invoking theMethod args0 :: below }]
def below0 : List Frame := [.native { method := ⟨0, 0⟩, args := #[] }]
def about1 : State := aboutOver below0
def p0 : Program := .bare "" "" ""
def e0 : Env := launch0.env 0 0 0
theorem w_frames : about1.frames = Frame.invoking theMethod args0 :: below0 := rfl
set_option maxRecDepth 65536 in
theorem w_args : argsFit about1.vm theMethod args0 = true := by decide +kernel
set_option maxRecDepth 65536 in
theorem w_heap : heapFits about1 = true := by decide +kernel
set_option maxRecDepth 65536 in
theorem w_runnable : about1.curStatus? = some .runnable := by decide +kernel
set_option maxRecDepth 65536 in
theorem w_alone : about1.alone = true := by decide +kernel
set_option maxRecDepth 65536 in
theorem w_named : about1.methodNamed? x = some theMethod := by decide +kernel
set_option maxRecDepth 65536 in
theorem w_hears : about1.hears theMethod below0 = true := by decide +kernel
set_option maxRecDepth 65536 in
theorem w_ripe : about1.ripe theMethod args0 below0 = true := by decide +kernel
theorem w_running : about1.status = .running := rfl
set_option maxRecDepth 65536 in
theorem w_room : about1.hasRoom e0.platform room_1 = true :=
  launch0.hasRoom_least _ room_1 (by decide +kernel) (by decide +kernel) (by decide +kernel) (by decide +kernel) (by decide +kernel) (by decide +kernel)
theorem allAtoms_all (ts : List Jvm.Cond) (a : Array Jvm.Value) (st : Jvm.State) : (allAtoms ts).before a st = ts.all (fun c => c.before a st) := by
  induction ts with
  | nil => rfl
  | cons c t ih =>
    show (Jvm.Cond.and c (allAtoms t)).before a st = _
    rw [Jvm.Cond.before_and, ih, List.all_cons]
def words1 : List Jvm.Cond := Jvm.Cond.code x code maxLocals ret :: tables_1
/-- a 'code' word, met by the world's own term for the bytes: nothing is compared byte by byte -/
theorem code_word {y : MethodName} {bytes : ByteArray} {mx : Nat} {rt : Option FieldType} {a : Array Value} {s : State} {m : MethodId} {meth : Method} {c : Code} (h1 : s.methodNamed? y = some m) (h2 : s.vm.method? m = some meth) (h3 : meth.code = some c) (h4 : c.code = bytes)
    (h5 : (c.maxLocals == mx && c.exceptionTable.isEmpty && decide (c.maxStack ≤ mostOperands) && decide (meth.sig.returnType = rt) && !meth.locks && decide (parseMethodDescriptor y.desc = some meth.sig)) = true) : (Jvm.Cond.code y bytes mx rt).before a s = true := by
  simp only [Bool.and_eq_true, beq_iff_eq, Bool.not_eq_true', decide_eq_true_eq] at h5
  obtain ⟨⟨⟨⟨⟨g1, g2⟩, g3⟩, g4⟩, g5⟩, g6⟩ := h5
  simp [Cond.before, Cond.holds, Cond.value, h1, h2, h3, h4, g1, g2, g3, g4, g5, g6]
def isCode : Jvm.Cond → Bool
  | .code _ _ _ _ => true
  | _ => false
theorem all_split {L : List Jvm.Cond} {P : Jvm.Cond → Bool} (h1 : L.all (fun c => isCode c || P c) = true) (h2 : ∀ c ∈ L.filter isCode, P c = true) : L.all P = true := by
  refine List.all_eq_true.mpr fun c hc => ?_
  have h := List.all_eq_true.mp h1 c hc
  rcases Bool.eq_false_or_eq_true (isCode c) with hi | hi
  · exact h2 c (List.mem_filter.mpr ⟨hc, hi⟩)
  · simpa [hi] using h
set_option maxRecDepth 65536 in
theorem w_c0 : (Jvm.Cond.code x code maxLocals ret).before args0 about1 = true := code_word (m := ⟨1, 1⟩) (meth := k1m1) (c := k1c1) (by decide +kernel) rfl rfl rfl (by decide +kernel)
set_option maxRecDepth 65536 in
theorem w_c1 : (Jvm.Cond.code ({ cls := "com/example/chainwright/chainwright/State", name := "<init>", desc := "([I[II)V" } : Jvm.MethodName) prog_29_method_1_code (4 : Nat) (Option.none : Option Jvm.ClassFile.FieldType)).before args0 about1 = true := code_word (m := ⟨2, 0⟩) (meth := k2m0) (c := k2c0) (by decide +kernel) rfl rfl rfl (by decide +kernel)
set_option maxRecDepth 65536 in
theorem w_c2 : (Jvm.Cond.code ({ cls := "java/lang/Object", name := "<init>", desc := "()V" } : Jvm.MethodName) object_method_1_code (1 : Nat) (Option.none : Option Jvm.ClassFile.FieldType)).before args0 about1 = true := code_word (m := ⟨0, 0⟩) (meth := k0m0) (c := k0c0) (by decide +kernel) rfl rfl rfl (by decide +kernel)
set_option maxRecDepth 65536 in
theorem w_c3 : (Jvm.Cond.code ({ cls := "com/example/chainwright/chainwright/State", name := "isChosen", desc := "(I)Z" } : Jvm.MethodName) prog_29_method_5_code (2 : Nat) (Option.some Jvm.ClassFile.FieldType.boolean)).before args0 about1 = true := code_word (m := ⟨2, 2⟩) (meth := k2m2) (c := k2c2) (by decide +kernel) rfl rfl rfl (by decide +kernel)
set_option maxRecDepth 65536 in
theorem w_c4 : (Jvm.Cond.code ({ cls := "com/example/chainwright/chainwright/State", name := "choose", desc := "(II)V" } : Jvm.MethodName) prog_29_method_7_code (3 : Nat) (Option.none : Option Jvm.ClassFile.FieldType)).before args0 about1 = true := code_word (m := ⟨2, 3⟩) (meth := k2m3) (c := k2c3) (by decide +kernel) rfl rfl rfl (by decide +kernel)
set_option maxRecDepth 65536 in
theorem w_c5 : (Jvm.Cond.code ({ cls := "com/example/chainwright/chainwright/State", name := "size", desc := "()I" } : Jvm.MethodName) prog_29_method_3_code (1 : Nat) (Option.some Jvm.ClassFile.FieldType.int)).before args0 about1 = true := code_word (m := ⟨2, 1⟩) (meth := k2m1) (c := k2c1) (by decide +kernel) rfl rfl rfl (by decide +kernel)
def codes1 : List Jvm.Cond := [Jvm.Cond.code x code maxLocals ret, Jvm.Cond.code ({ cls := "com/example/chainwright/chainwright/State", name := "<init>", desc := "([I[II)V" } : Jvm.MethodName) prog_29_method_1_code (4 : Nat) (Option.none : Option Jvm.ClassFile.FieldType), Jvm.Cond.code ({ cls := "java/lang/Object", name := "<init>", desc := "()V" } : Jvm.MethodName) object_method_1_code (1 : Nat) (Option.none : Option Jvm.ClassFile.FieldType), Jvm.Cond.code ({ cls := "com/example/chainwright/chainwright/State", name := "isChosen", desc := "(I)Z" } : Jvm.MethodName) prog_29_method_5_code (2 : Nat) (Option.some Jvm.ClassFile.FieldType.boolean), Jvm.Cond.code ({ cls := "com/example/chainwright/chainwright/State", name := "choose", desc := "(II)V" } : Jvm.MethodName) prog_29_method_7_code (3 : Nat) (Option.none : Option Jvm.ClassFile.FieldType), Jvm.Cond.code ({ cls := "com/example/chainwright/chainwright/State", name := "size", desc := "()I" } : Jvm.MethodName) prog_29_method_3_code (1 : Nat) (Option.some Jvm.ClassFile.FieldType.int)]
set_option maxRecDepth 65536 in
theorem codes_eq : words1.filter isCode = codes1 := rfl
theorem w_codes : ∀ c ∈ words1.filter isCode, c.before args0 about1 = true := by
  rw [codes_eq]
  intro c hc
  simp only [codes1, List.mem_cons, List.not_mem_nil, or_false] at hc
  rcases hc with rfl | rfl | rfl | rfl | rfl | rfl
  · exact w_c0
  · exact w_c1
  · exact w_c2
  · exact w_c3
  · exact w_c4
  · exact w_c5
set_option maxRecDepth 65536 in
theorem w_t1 : (words1.take 24).all (fun c => isCode c || c.before args0 about1) = true := by decide +kernel
set_option maxRecDepth 65536 in
theorem w_t2 : (words1.drop 24).all (fun c => isCode c || c.before args0 about1) = true := by decide +kernel
theorem w_tables : (allAtoms (Jvm.Cond.code x code maxLocals ret :: tables_1)).before args0 about1 = true := by
  rw [allAtoms_all]
  show words1.all (fun c => c.before args0 about1) = true
  refine all_split ?_ w_codes
  rw [← List.take_append_drop 24 words1, List.all_append, w_t1, w_t2]
  rfl
set_option maxRecDepth 65536 in
theorem w_case : (Jvm.Cond.and given_1 narrow_1).before args0 about1 = true := by decide +kernel
theorem w_applies : (headSpec (Jvm.Cond.code x code maxLocals ret :: tables_1) room_1).applies x e0.platform about1 = true :=
  (Spec.applies_iff w_frames).mpr ⟨w_running, w_runnable, w_alone, w_named, w_hears, w_ripe, w_room, w_tables⟩
theorem atStart : AtStart classFile x code maxLocals ret World_1 tables_1 room_1 Calls_1 rest_1 Pre_1 launch0 p0 e0 about1 theMethod args0 below0 :=
  ⟨lists_1, trivial, launch0.admits_env _ _ _, launch0.least_env, fairChoices_fair.cas, fairChoices_fair.clock, w_frames, w_args, w_heap, w_applies, trivial, trivial, w_case⟩
end start1
theorem witness_1 : WitnessClaimed_1 := ⟨start1.p0, start1.e0, start1.about1, start1.theMethod, start1.args0, start1.below0, start1.atStart⟩
end Jvm.Pilot.@@N@@
