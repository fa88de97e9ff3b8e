import JvmDerived
import JvmDerived.Pilot.@@N@@Statement
import JvmDerived.Pilot.@@N@@Code
set_option linter.unusedVariables false
set_option linter.unusedSimpArgs false
namespace Jvm.Own
open Jvm Jvm.ClassFile Sem Op Lib Jvm.Free Jvm.Stand Jvm.LawKit Jvm.RoadKit
/-! ## A heap told by a list: each new object or array by its address and what its cell is -/
abbrev Des : Type := State → Cell → Prop
abbrev RL : Type := List (Addr × Des)
/-- an object of class C, its fields (name, descriptor, value), all declared in C -/
def Obj (C : String) (fs : List (String × String × Value)) : Des := fun Z c =>
  Exa Z (#[c] : Heap) 0 C ∧ (∀ (j : Nat) (x : String × String × Value), fs[j]? = some x → Fld Z (#[c] : Heap) 0 C x.1 x.2.1 x.2.2) ∧
  ∀ (i j : Nat) (x y : String × String × Value), i ≠ j → fs[i]? = some x → fs[j]? = some y → Jvm.RoadKit.slotOf Z C x.1 x.2.1 ≠ Jvm.RoadKit.slotOf Z C y.1 y.2.1
/-- an array of ty, all its values -/
def Ar (ty : FieldType) (vs : List Value) : Des := fun Z c => Z.isArrayOf c ty ∧ c.vm ≠ .unknown ∧ c.slots.toList = vs ∧ (∀ v ∈ vs, fits ty v = true) ∧ Exa Z (#[c] : Heap) 0 ("[" ++ ty.toString)
/-- every one of L lies in h, at or behind n0, no two at one place -/
def Rep (Z : State) (n0 : Nat) (h : Heap) (L : RL) : Prop := n0 ≤ h.size ∧ (L.map (·.1)).Nodup ∧ ∀ x ∈ L, n0 ≤ x.1 ∧ ∃ c : Cell, h[x.1]? = some c ∧ x.2 Z c
section Facts
variable {Z : State} {n0 : Nat} {h h' : Heap} {L : RL} {a : Addr} {c : Cell} {C n d : String} {v w : Value} {i j : Nat} {fs : List (String × String × Value)} {P P' : Des} {ty : FieldType} {vs : List Value}
theorem one_eq {c c' : Cell} (q : (#[c] : Heap)[0]? = some c') : c' = c := by simpa using q.symm
theorem fld_of (hc : h[a]? = some c) (F : Fld Z (#[c] : Heap) 0 C n d v) : Fld Z h a C n d v := by
  obtain ⟨cell, cf, k, i, f, h1, r⟩ := F
  cases one_eq h1
  exact ⟨_, cf, k, i, f, hc, r⟩
theorem fld_to (hc : h[a]? = some c) (F : Fld Z h a C n d v) : Fld Z (#[c] : Heap) 0 C n d v := by
  obtain ⟨cell, cf, k, i, f, h1, r⟩ := F
  cases hc.symm.trans h1
  exact ⟨_, cf, k, i, f, rfl, r⟩
theorem exa_of (hc : h[a]? = some c) (F : Exa Z (#[c] : Heap) 0 C) : Exa Z h a C := by
  obtain ⟨cell, k, h1, r⟩ := F
  cases one_eq h1
  exact ⟨_, k, hc, r⟩
theorem exa_to (hc : h[a]? = some c) (F : Exa Z h a C) : Exa Z (#[c] : Heap) 0 C := by
  obtain ⟨cell, k, h1, r⟩ := F
  cases hc.symm.trans h1
  exact ⟨_, k, rfl, r⟩
theorem Rep.nil (h : Heap) : Rep Z h.size h [] := ⟨Nat.le_refl _, List.nodup_nil, fun _ q => nomatch q⟩
theorem Rep.at (R : Rep Z n0 h L) (hi : L[i]? = some (a, P)) : n0 ≤ a ∧ ∃ c : Cell, h[a]? = some c ∧ P Z c := R.2.2 _ (List.mem_of_getElem? hi)
theorem Rep.ge (R : Rep Z n0 h L) (hi : L[i]? = some (a, P)) : n0 ≤ a := (R.at hi).1
theorem Rep.fld (R : Rep Z n0 h L) (hi : L[i]? = some (a, Obj C fs)) (hj : fs[j]? = some (n, d, v)) : Fld Z h a C n d v := by
  obtain ⟨-, c, hc, -, F, -⟩ := R.at hi
  exact fld_of hc (F j _ hj)
theorem Rep.exa (R : Rep Z n0 h L) (hi : L[i]? = some (a, Obj C fs)) : Exa Z h a C := by
  obtain ⟨-, c, hc, E, -⟩ := R.at hi
  exact exa_of hc E
theorem Rep.arr (R : Rep Z n0 h L) (hi : L[i]? = some (a, Ar ty vs)) : ∃ cl : Cell, Arr Z h a cl ty ∧ cl.slots.toList = vs := by
  obtain ⟨-, c, hc, A, B, V, -⟩ := R.at hi
  exact ⟨c, ⟨hc, A, B⟩, V⟩
theorem Rep.arr' (R : Rep Z n0 h L) (hi : L[i]? = some (a, Ar ty vs)) : ∃ cl : Cell, Arr Z h a cl ty ∧ cl.slots.toList = vs ∧ (∀ v ∈ vs, fits ty v = true) ∧ Exa Z h a ("[" ++ ty.toString) := by
  obtain ⟨-, c, hc, A, B, V, F, E⟩ := R.at hi
  exact ⟨c, ⟨hc, A, B⟩, V, F, exa_of hc E⟩
theorem wr_one {sl : Nat} (hc : h[a]? = some c) (W : Wr h h' a sl v) : Wr (#[c] : Heap) (#[c.setSlot sl v] : Heap) 0 sl v := by
  obtain ⟨cell, h1, h2, h3, -⟩ := W
  cases hc.symm.trans h1
  exact ⟨_, rfl, h2, h3, rfl⟩
theorem Rep.upd {sl : Nat} (R : Rep Z n0 h L) (hi : L[i]? = some (a, P)) (W : Wr h h' a sl v) (hP : ∀ c : Cell, h[a]? = some c → P Z c → P' Z (c.setSlot sl v)) : Rep Z n0 h' (L.set i (a, P')) := by
  have em : (L.set i (a, P')).map (·.1) = L.map (·.1) := by
    rw [List.map_set]
    apply List.ext_getElem?
    intro k
    rw [List.getElem?_set]
    split
    · rename_i e; subst e
      split
      · simp [hi]
      · rename_i e; simp only [List.length_map] at e; simp [List.getElem?_eq_none (Nat.le_of_not_lt e)]
    · rfl
  have il : i < L.length := (List.getElem?_eq_some_iff.mp hi).1
  refine ⟨by rw [W.size]; exact R.1, by rw [em]; exact R.2.1, fun x hx => ?_⟩
  obtain ⟨k, hk⟩ := List.mem_iff_getElem?.mp hx
  rw [List.getElem?_set] at hk
  split at hk
  · rename_i e; subst e
    cases hk
    obtain ⟨g, c, hc, p⟩ := R.at hi
    obtain ⟨c', e1, -, -, -, -, -, e7⟩ := wr_at W hc
    exact ⟨g, c', e1, by rw [(e7 rfl).1]; exact hP c hc p⟩
  · rename_i e
    obtain ⟨g, c, hc, p⟩ := R.2.2 x (List.mem_of_getElem? hk)
    have ne : x.1 ≠ a := fun q => by
      refine e ((List.getElem?_inj (l := L.map (·.1)) (by simpa using il) R.2.1).mp ?_)
      simp [hi, hk, q]
    obtain ⟨c', e1, -, -, -, e5, -⟩ := wr_at W hc
    exact ⟨g, c', e1, by rw [e5 ne]; exact p⟩
theorem Rep.put (R : Rep Z n0 h L) (hi : L[i]? = some (a, Obj C fs)) (hj : fs[j]? = some (n, d, w)) (W : Wr h h' a (Jvm.RoadKit.slotOf Z C n d) v) : Rep Z n0 h' (L.set i (a, Obj C (fs.set j (n, d, v)))) := by
  refine R.upd hi W fun c hc ⟨E, F, S⟩ => ?_
  have W1 := wr_one hc W
  have jl : j < fs.length := (List.getElem?_eq_some_iff.mp hj).1
  have key : ∀ (k : Nat) (x : String × String × Value), (fs.set j (n, d, v))[k]? = some x → ∃ y, fs[k]? = some y ∧ y.1 = x.1 ∧ y.2.1 = x.2.1 ∧ (k ≠ j → y = x) ∧ (k = j → x = (n, d, v)) := by
    intro k x hk
    rw [List.getElem?_set] at hk
    split at hk
    · rename_i e; subst e
      have hx := (Option.some.inj hk).symm
      exact ⟨(n, d, w), hj, by rw [hx], by rw [hx], fun q => absurd rfl q, fun _ => hx⟩
    · rename_i e
      exact ⟨x, hk, rfl, rfl, fun _ => rfl, fun q => absurd q.symm e⟩
  refine ⟨E.wr W1, fun k x hk => ?_, fun k k' x y ne hk hk' => ?_⟩
  · obtain ⟨y, y1, y2, y3, y4, y5⟩ := key k x hk
    by_cases e : k = j
    · subst e
      have hx := y5 rfl
      rw [hx]
      exact (F _ _ hj).same W1
    · have hx := y4 e
      subst hx
      have s : Jvm.RoadKit.slotOf Z C y.1 y.2.1 ≠ Jvm.RoadKit.slotOf Z C n d := S k j y (n, d, w) e y1 hj
      exact Fld.other W1 (F k y y1) (Or.inr s)
  · have kx := key k x hk
    have ky := key k' y hk'
    obtain ⟨x', x1, x2, x3, _⟩ := kx
    obtain ⟨y', y1, y2, y3, _⟩ := ky
    have := S k k' x' y' ne x1 y1
    rw [x2, x3, y2, y3] at this
    exact this
theorem Rep.sto {k : Nat} (R : Rep Z n0 h L) (hi : L[i]? = some (a, Ar ty vs)) (W : Wr h h' a k v) (hf : fits ty v = true) : Rep Z n0 h' (L.set i (a, Ar ty (vs.set k v))) := by
  refine R.upd hi W fun c hc ⟨A, B, V, F, E⟩ => ⟨A, B, ?_, fun x hx => ?_, E.wr (wr_one hc W)⟩
  · show (c.slots.setIfInBounds k v).toList = _
    rw [Array.toList_setIfInBounds, V]
  · rcases List.mem_or_eq_of_mem_set hx with q | q
    · exact F x q
    · rw [q]; exact hf
theorem Rep.add (R : Rep Z n0 h L) (E : Ext h h') (g : a = h.size) (hc : h'[a]? = some c) (p : P Z c) : Rep Z n0 h' ((a, P) :: L) := by
  refine ⟨Nat.le_trans R.1 E.1, ?_, fun x hx => ?_⟩
  · rw [List.map_cons, List.nodup_cons]
    refine ⟨fun q => ?_, R.2.1⟩
    obtain ⟨x, hx, e⟩ := List.mem_map.mp q
    obtain ⟨-, c, hc, -⟩ := R.2.2 x hx
    have := (Array.getElem?_eq_some_iff.mp hc).1
    exact absurd (e.trans g) (Nat.ne_of_lt this)
  · rcases List.mem_cons.mp hx with rfl | hx
    · exact ⟨g ▸ R.1, c, hc, p⟩
    · obtain ⟨q, c, hc, p⟩ := R.2.2 x hx
      exact ⟨q, c, E.2 _ _ hc, p⟩
theorem Rep.ext (R : Rep Z n0 h L) (E : Ext h h') : Rep Z n0 h' L := ⟨Nat.le_trans R.1 E.1, R.2.1, fun x hx => by
  obtain ⟨q, c, hc, p⟩ := R.2.2 x hx
  exact ⟨q, c, E.2 _ _ hc, p⟩⟩
theorem perm_front {α : Type} : ∀ (L : List α) (i : Nat) (x : α), L[i]? = some x → (x :: L.eraseIdx i).Perm L
  | [], _, _, q => nomatch q
  | y :: t, 0, x, q => by cases q; exact List.Perm.refl _
  | y :: t, i + 1, x, q => by
    have ih := perm_front t i x (by simpa using q)
    exact (List.Perm.swap y x (t.eraseIdx i)).trans (ih.cons y)
theorem Rep.front {x : Addr × Des} {L' : RL} (R : Rep Z n0 h L) (i : Nat) (hi : L[i]? = some x) (e : L.eraseIdx i = L') : Rep Z n0 h (x :: L') := by
  subst e
  have pm : (x :: L.eraseIdx i).Perm L := perm_front L i x hi
  exact ⟨R.1, (pm.map _).nodup_iff.mpr R.2.1, fun y hy => R.2.2 y (pm.mem_iff.mp hy)⟩
theorem Rep.tail {x : Addr × Des} (R : Rep Z n0 h (x :: L)) : Rep Z n0 h L := ⟨R.1, (List.nodup_cons.mp (by simpa using R.2.1)).2, fun y hy => R.2.2 y (List.mem_cons_of_mem _ hy)⟩
/-- several entries brought to the front, one after the other -/
def pk : List Nat → RL → Option RL
  | [], L => some L
  | i :: is, L => match L[i]? with
    | some x => pk is (x :: L.eraseIdx i)
    | none => none
theorem Rep.pick {L' : RL} : ∀ {L : RL} (R : Rep Z n0 h L) (is : List Nat) (e : pk is L = some L'), Rep Z n0 h L'
  | _, R, [], e => by cases e; exact R
  | L, R, i :: is, e => by
    unfold pk at e
    split at e
    · rename_i x hx
      exact Rep.pick (R.front i hx rfl) is e
    · cases e
/-- k entries kept, the j behind them forgotten -/
theorem Rep.cut {L' : RL} (R : Rep Z n0 h L) (k j : Nat) (e : L.take k ++ L.drop (k + j) = L') : Rep Z n0 h L' := by
  subst e
  have sb : (L.take k ++ L.drop (k + j)).Sublist L := by
    have q : (L.take k ++ L.drop (k + j)).Sublist (L.take k ++ L.drop k) := List.Sublist.append (List.Sublist.refl _) (by rw [← List.drop_drop]; exact List.drop_sublist _ _)
    rwa [List.take_append_drop] at q
  exact ⟨R.1, List.Pairwise.sublist (sb.map _) R.2.1, fun x hx => R.2.2 x (sb.subset hx)⟩
/-- what the sheet says of the fields of a new object, one by one -/
def LaidAll (Z : State) (a0 : Array Value) (C : String) : List (String × String × Value) → Prop
  | [] => True
  | x :: r => (Laid Z a0 C C x.1 x.2.1 ∧ ∃ ty, parseFieldDescriptor x.2.1 = some ty ∧ x.2.2 = defaultValue ty) ∧ LaidAll Z a0 C r
theorem LaidAll.mem {a0 : Array Value} : ∀ {fs : List (String × String × Value)}, LaidAll Z a0 C fs → ∀ x ∈ fs, Laid Z a0 C C x.1 x.2.1 ∧ ∃ ty, parseFieldDescriptor x.2.1 = some ty ∧ x.2.2 = defaultValue ty
  | [], _, _, hx => nomatch hx
  | y :: r, q, x, hx => (List.mem_cons.mp hx).elim (fun e => e ▸ q.1) (LaidAll.mem q.2 x)
theorem Rep.newO {a0 : Array Value} (R : Rep Z n0 h L) (E : Ext h h') (g : a = h.size) (A : Exa Z h' a C) (D : ∀ {O nm d : String} {ty : FieldType}, Laid Z a0 C O nm d → parseFieldDescriptor d = some ty → Fld Z h' a O nm d (defaultValue ty)) (hl : LaidAll Z a0 C fs) (hn : (fs.map (·.1)).Nodup) : Rep Z n0 h' ((a, Obj C fs) :: L) := by
  obtain ⟨c, k, hc, r⟩ := id A
  refine R.add E g hc ⟨exa_to hc A, fun j x hx => ?_, fun i j x y ne hx hy e => ?_⟩
  · obtain ⟨l, ty, p, q⟩ := hl.mem x (List.mem_of_getElem? hx)
    rw [q]; exact fld_to hc (D l p)
  · obtain ⟨l, ty, p, q⟩ := hl.mem x (List.mem_of_getElem? hx)
    obtain ⟨l', ty', p', q'⟩ := hl.mem y (List.mem_of_getElem? hy)
    refine slot_ne l l' (fun en => ne ?_) p p' e
    refine (List.getElem?_inj (l := fs.map (·.1)) (by simpa using (List.getElem?_eq_some_iff.mp hx).1) hn).mp ?_
    simp [hx, hy, en]
theorem Rep.newAr {z : Int32} {k : ClassId} (R : Rep Z n0 h L) (E : Ext h h') (g : a = h.size) (A : Arr Z h' a (newA k ty z) ty) (X : Exa Z h' a ("[" ++ ty.toString)) (hf : fits ty (defaultValue ty) = true) (hv : List.replicate z.toNatClampNeg (defaultValue ty) = vs) : Rep Z n0 h' ((a, Ar ty vs) :: L) := by
  refine R.add E g A.1 ⟨A.2.1, A.2.2, ?_, fun v hq => ?_, exa_to A.1 X⟩
  · rw [← hv]; simp [newA]
  · rw [← hv] at hq; rw [List.eq_of_mem_replicate hq]; exact hf
theorem in_of {cl : Cell} {q : Int32} (V : cl.slots.toList = vs) (hq : ¬ q < 0) (hv : q.toNatClampNeg < vs.length) : ¬ (q < 0 ∨ cl.slots.size ≤ q.toNatClampNeg) := by
  rintro (q1 | q1)
  · exact hq q1
  · rw [← V, Array.length_toList] at hv; omega
theorem at_of {cl : Cell} {k : Nat} (V : cl.slots.toList = vs) (hv : vs[k]? = some v) : cl.slots[k]? = some v := by
  rw [← hv, ← V, Array.getElem?_toList]
theorem lt_of {k : Nat} (hv : vs[k]? = some v) : k < vs.length := (List.getElem?_eq_some_iff.mp hv).1
end Facts
/-! ## One law a step -/
section Steps
variable {p : Program} {l : Launch} {e : Env} {R : Room} {s : State} {m : MethodId} {args : Array Value} {below : List Frame} {meth : Method} {c : Code} {T : State} {locs : List Loc} {cells slots : Nat} {Z : State} {a0 : Array Value} {h : Heap} {n0 : Nat} {L : RL}
theorem gGet (X : Stand p l e R s m args below meth c T locs cells slots) (hx : p.tables.exec = Jvm.exec) (hZ : Z.Warmed39 s.vm) {own C n d host : String} {index : Nat} (hown : s.vm.findClass own = some m.cls) (w : (Cond.fieldLink own index C n d).before a0 Z = true ∨ (Cond.fieldLinkNest own index C n d host).before a0 Z = true)
    (eT : T.heap = h) (Q : Rep Z n0 h L) (i j : Nat) {a : Addr} {fs : List (String × String × Value)} {v : Value} (hi : L[i]? = some (a, Obj C fs)) (hj : fs[j]? = some (n, d, v)) {g : JFrame} (hg : g.method = m) {rest : List Value} (hs : g.stack = .ref a :: rest) (hd : decode c.code g.pc = .ok (.getfield index, 3)) :
    ∃ T', Stand p l e R s m args below meth c T' locs cells slots ∧ T'.heap = h ∧ ∀ target, Steps p.tables e below (T'.setTop { g with pc := g.pc + 3, stack := v :: rest }) target → Steps p.tables e below (T.setTop g) target :=
  getF X hx hZ hown w Via.refl eT (Q.fld hi hj) hg hs hd
theorem gPut (X : Stand p l e R s m args below meth c T locs cells slots) (hx : p.tables.exec = Jvm.exec) (hZ : Z.Warmed39 s.vm) {own C n d host : String} {index kk : Nat} {ty : FieldType} (hown : s.vm.findClass own = some m.cls) (w : (Cond.fieldLink own index C n d).before a0 Z = true ∨ (Cond.fieldLinkNest own index C n d host).before a0 Z = true)
    (eT : T.heap = h) (N : Fr n0 locs) (Q : Rep Z n0 h L) (i j : Nat) {a : Addr} {fs : List (String × String × Value)} {v old : Value} (hi : L[i]? = some (a, Obj C fs)) (hj : fs[j]? = some (n, d, old))
    (Lw : (Cond.lays C C n d).before a0 Z = true ∨ ((Cond.laysFinal C C n d).before a0 Z = true ∧ own = C ∧ meth.name = "<init>")) (wi : (Cond.instantiable C kk).before a0 Z = true)
    (hty : parseFieldDescriptor d = some ty) (hn : narrow ty v = v) (hf : fits ty v = true) {g : JFrame} (hg : g.method = m) {rest : List Value} (hs : g.stack = v :: .ref a :: rest) (hd : decode c.code g.pc = .ok (.putfield index, 3)) :
    ∃ T' h' locs', Stand p l e R s m args below meth c T' locs' cells slots ∧ T'.heap = h' ∧ Fr n0 locs' ∧ Rep Z n0 h' (L.set i (a, Obj C (fs.set j (n, d, v)))) ∧ ∀ target, Steps p.tables e below (T'.setTop { g with pc := g.pc + 3, stack := rest }) target → Steps p.tables e below (T.setTop g) target := by
  obtain ⟨T', h', X', e', W, st⟩ := putF X hx hZ hown w Via.refl eT (Q.fld hi hj) (Q.exa hi) Lw wi hty hn hf hg hs hd
  exact ⟨T', h', _, X', e', Fr.snoc X' N (Q.ge hi), Q.put hi hj W, st⟩
theorem gNew (X : Stand p l e R s m args below meth c T locs cells slots) (hx : p.tables.exec = Jvm.exec) (hZ : Z.Warmed39 s.vm) {own C : String} {index n : Nat} (hown : s.vm.findClass own = some m.cls) (w : (Cond.classLink own index C).before a0 Z = true) (wi : (Cond.instantiable C n).before a0 Z = true) (wz : (Cond.initialized C).before a0 Z = true)
    (eT : T.heap = h) (Q : Rep Z n0 h L) {fs : List (String × String × Value)} (hl : LaidAll Z a0 C fs) (hn : (fs.map (·.1)).Nodup) {g : JFrame} (hg : g.method = m) (hd : decode c.code g.pc = .ok (.new index, 3)) (hc : cells + 1 ≤ R.cells) (hs : slots + n ≤ R.slots) :
    ∃ T' h' a, Stand p l e R s m args below meth c T' locs (cells + 1) (slots + n) ∧ T'.heap = h' ∧ Rep Z n0 h' ((a, Obj C fs) :: L) ∧ ∀ target, Steps p.tables e below (T'.setTop { g with pc := g.pc + 3, stack := .ref a :: g.stack }) target → Steps p.tables e below (T.setTop g) target := by
  obtain ⟨T', h', X', e', E, A, D, -, st⟩ := newO X hx hZ hown w wi wz eT hg hd hc hs
  exact ⟨T', h', _, X', e', Q.newO E rfl A D hl hn, st⟩
theorem gNewP (X : Stand p l e R s m args below meth c T locs cells slots) (hx : p.tables.exec = Jvm.exec) (hZ : Z.Warmed39 s.vm) {aty : ArrayType} (w : (Cond.arrayClass (newarray.typeOf aty)).before a0 Z = true)
    (eT : T.heap = h) (Q : Rep Z n0 h L) {g : JFrame} (hg : g.method = m) (hd : decode c.code g.pc = .ok (.newarray aty, 2)) {n : Int32} {rest : List Value} (hs : g.stack = .int n :: rest) (hn : ¬ n < 0) (cap : Nat) (hcap : n.toNatClampNeg ≤ cap) (hb : cap * 8 ≤ 536870912) (hc : cells + 1 ≤ R.cells) (hl : slots + cap ≤ R.slots)
    {vs : List Value} (hv : List.replicate n.toNatClampNeg (defaultValue (newarray.typeOf aty)) = vs) :
    ∃ T' h' a, Stand p l e R s m args below meth c T' locs (cells + 1) (slots + cap) ∧ T'.heap = h' ∧ Rep Z n0 h' ((a, Ar (newarray.typeOf aty) vs) :: L) ∧ ∀ target, Steps p.tables e below (T'.setTop { g with pc := g.pc + 2, stack := .ref a :: rest }) target → Steps p.tables e below (T.setTop g) target := by
  obtain ⟨T', h', cA, X', e', E, A, EX, st⟩ := newPE X hx hZ w eT hg hd hs hn hcap hb hc hl rfl
  exact ⟨T', h', _, X', e', Q.newAr E rfl A EX (by cases aty <;> rfl) hv, st⟩
theorem gLen (X : Stand p l e R s m args below meth c T locs cells slots) (hx : p.tables.exec = Jvm.exec) (hZ : Z.Warmed39 s.vm) (eT : T.heap = h) (Q : Rep Z n0 h L) (i : Nat) {a : Addr} {ty : FieldType} {vs : List Value} (hi : L[i]? = some (a, Ar ty vs))
    {g : JFrame} (hg : g.method = m) {rest : List Value} (hs : g.stack = .ref a :: rest) (hd : decode c.code g.pc = .ok (.arraylength, 1)) {z : Int32} (hz : Int32.ofNat vs.length = z) :
    ∀ target, Steps p.tables e below (T.setTop { g with pc := g.pc + 1, stack := .int z :: rest }) target → Steps p.tables e below (T.setTop g) target := by
  obtain ⟨cl, A, V⟩ := Q.arr hi
  intro target k
  refine X.arraylength hx (cell := cl) (by rw [eT]; exact A.1) (State.isArrayOf_alike hZ.alike A.2.1) hg hs hd _ ?_
  have q : cl.slots.size.toInt32 = z := by rw [← hz, ← V, Array.length_toList]
  rw [q]; exact k
theorem gIald (X : Stand p l e R s m args below meth c T locs cells slots) (hx : p.tables.exec = Jvm.exec) (hZ : Z.Warmed39 s.vm) (eT : T.heap = h) (Q : Rep Z n0 h L) (i : Nat) {a : Addr} {vs : List Value} (hi : L[i]? = some (a, Ar .int vs))
    {j : Int32} {v : Value} (hj : ¬ j < 0) (hv : vs[j.toNatClampNeg]? = some v) {g : JFrame} (hg : g.method = m) {rest : List Value} (hs : g.stack = .int j :: .ref a :: rest) (hd : decode c.code g.pc = .ok (.iaload, 1)) :
    ∀ target, Steps p.tables e below (T.setTop { g with pc := g.pc + 1, stack := v :: rest }) target → Steps p.tables e below (T.setTop g) target := by
  obtain ⟨cl, A, V⟩ := Q.arr hi
  intro target k
  exact X.iaload hx (by rw [eT]; exact A.1) (State.isArrayOf_alike hZ.alike A.2.1) A.2.2 (in_of V hj (lt_of hv)) (at_of V hv) hg hs hd _ k
theorem gLald (X : Stand p l e R s m args below meth c T locs cells slots) (hx : p.tables.exec = Jvm.exec) (hZ : Z.Warmed39 s.vm) (eT : T.heap = h) (Q : Rep Z n0 h L) (i : Nat) {a : Addr} {vs : List Value} (hi : L[i]? = some (a, Ar .long vs))
    {j : Int32} {v : Value} (hj : ¬ j < 0) (hv : vs[j.toNatClampNeg]? = some v) {g : JFrame} (hg : g.method = m) {rest : List Value} (hs : g.stack = .int j :: .ref a :: rest) (hd : decode c.code g.pc = .ok (.laload, 1)) :
    ∀ target, Steps p.tables e below (T.setTop { g with pc := g.pc + 1, stack := v :: rest }) target → Steps p.tables e below (T.setTop g) target := by
  obtain ⟨cl, A, V⟩ := Q.arr hi
  intro target k
  exact X.laload hx (by rw [eT]; exact A.1) (State.isArrayOf_alike hZ.alike A.2.1) A.2.2 (in_of V hj (lt_of hv)) (at_of V hv) hg hs hd _ k
theorem gBald (X : Stand p l e R s m args below meth c T locs cells slots) (hx : p.tables.exec = Jvm.exec) (hZ : Z.Warmed39 s.vm) (eT : T.heap = h) (Q : Rep Z n0 h L) (i : Nat) {a : Addr} {vs : List Value} (hi : L[i]? = some (a, Ar .byte vs))
    {j : Int32} {v : Value} (hj : ¬ j < 0) (hv : vs[j.toNatClampNeg]? = some v) {g : JFrame} (hg : g.method = m) {rest : List Value} (hs : g.stack = .int j :: .ref a :: rest) (hd : decode c.code g.pc = .ok (.baload, 1)) :
    ∀ target, Steps p.tables e below (T.setTop { g with pc := g.pc + 1, stack := v :: rest }) target → Steps p.tables e below (T.setTop g) target := by
  obtain ⟨cl, A, V⟩ := Q.arr hi
  intro target k
  exact X.baloadBytes hx (by rw [eT]; exact A.1) (State.isArrayOf_alike hZ.alike A.2.1) A.2.2 (in_of V hj (lt_of hv)) (at_of V hv) hg hs hd _ k
theorem gIst (X : Stand p l e R s m args below meth c T locs cells slots) (hx : p.tables.exec = Jvm.exec) (hZ : Z.Warmed39 s.vm) (eT : T.heap = h) (N : Fr n0 locs) (Q : Rep Z n0 h L) (i : Nat) {a : Addr} {vs : List Value} (hi : L[i]? = some (a, Ar .int vs))
    {j x : Int32} (hj : ¬ j < 0) (k : Nat) (hk : j.toNatClampNeg = k) (hv : k < vs.length) {g : JFrame} (hg : g.method = m) {rest : List Value} (hs : g.stack = .int x :: .int j :: .ref a :: rest) (hd : decode c.code g.pc = .ok (.iastore, 1)) :
    ∃ T' h' locs', Stand p l e R s m args below meth c T' locs' cells slots ∧ T'.heap = h' ∧ Fr n0 locs' ∧ Rep Z n0 h' (L.set i (a, Ar .int (vs.set k (.int x)))) ∧ ∀ target, Steps p.tables e below (T'.setTop { g with pc := g.pc + 1, stack := rest }) target → Steps p.tables e below (T.setTop g) target := by
  obtain ⟨cl, A, V⟩ := Q.arr hi
  subst hk
  obtain ⟨T', h', X', e', W, st⟩ := stI X hx hZ eT A (j := j) (x := x) (in_of V hj hv) hg hs hd
  exact ⟨T', h', _, X', e', Fr.snoc X' N (Q.ge hi), Q.sto hi W rfl, st⟩
theorem gLst (X : Stand p l e R s m args below meth c T locs cells slots) (hx : p.tables.exec = Jvm.exec) (hZ : Z.Warmed39 s.vm) (eT : T.heap = h) (N : Fr n0 locs) (Q : Rep Z n0 h L) (i : Nat) {a : Addr} {vs : List Value} (hi : L[i]? = some (a, Ar .long vs))
    {j : Int32} {x : Int64} (hj : ¬ j < 0) (k : Nat) (hk : j.toNatClampNeg = k) (hv : k < vs.length) {g : JFrame} (hg : g.method = m) {rest : List Value} (hs : g.stack = .long x :: .int j :: .ref a :: rest) (hd : decode c.code g.pc = .ok (.lastore, 1)) :
    ∃ T' h' locs', Stand p l e R s m args below meth c T' locs' cells slots ∧ T'.heap = h' ∧ Fr n0 locs' ∧ Rep Z n0 h' (L.set i (a, Ar .long (vs.set k (.long x)))) ∧ ∀ target, Steps p.tables e below (T'.setTop { g with pc := g.pc + 1, stack := rest }) target → Steps p.tables e below (T.setTop g) target := by
  obtain ⟨cl, A, V⟩ := Q.arr hi
  subst hk
  obtain ⟨T', h', X', e', W, st⟩ := stJ X hx hZ eT A (j := j) (x := x) (in_of V hj hv) hg hs hd
  exact ⟨T', h', _, X', e', Fr.snoc X' N (Q.ge hi), Q.sto hi W rfl, st⟩
theorem gBst (X : Stand p l e R s m args below meth c T locs cells slots) (hx : p.tables.exec = Jvm.exec) (hZ : Z.Warmed39 s.vm) (eT : T.heap = h) (N : Fr n0 locs) (Q : Rep Z n0 h L) (i : Nat) {a : Addr} {vs : List Value} (hi : L[i]? = some (a, Ar .byte vs))
    {j x : Int32} (hj : ¬ j < 0) (k : Nat) (hk : j.toNatClampNeg = k) (hv : k < vs.length) {g : JFrame} (hg : g.method = m) {rest : List Value} (hs : g.stack = .int x :: .int j :: .ref a :: rest) (hd : decode c.code g.pc = .ok (.bastore, 1)) :
    ∃ T' h' locs', Stand p l e R s m args below meth c T' locs' cells slots ∧ T'.heap = h' ∧ Fr n0 locs' ∧ Rep Z n0 h' (L.set i (a, Ar .byte (vs.set k (.int x.toInt8.toInt32)))) ∧ ∀ target, Steps p.tables e below (T'.setTop { g with pc := g.pc + 1, stack := rest }) target → Steps p.tables e below (T.setTop g) target := by
  obtain ⟨cl, A, V⟩ := Q.arr hi
  subst hk
  obtain ⟨T', h', X', e', W, st⟩ := stB X hx hZ eT A (j := j) (x := x) (in_of V hj hv) hg hs hd
  exact ⟨T', h', _, X', e', Fr.snoc X' N (Q.ge hi), Q.sto hi W (fits_nar_byte x), st⟩
theorem gClone (X : Stand p l e R s m args below meth c T locs cells slots) (hx : p.tables.exec = Jvm.exec) (hZ : Z.Warmed39 s.vm) {own ad : String} {index : Nat} (hown : s.vm.findClass own = some m.cls)
    (w1 : (Cond.methodLink own index ⟨ad, "clone", "()Ljava/lang/Object;"⟩).before a0 Z = true) (w2 : (Cond.sameMethod ad "java/lang/Object" "clone" "()Ljava/lang/Object;").before a0 Z = true) (w3 : (Cond.native ⟨"java/lang/Object", "clone", "()Ljava/lang/Object;"⟩).before a0 Z = true)
    (w4 : (Cond.instanceMethod ⟨"java/lang/Object", "clone", "()Ljava/lang/Object;"⟩).before a0 Z = true) (w5 : (Cond.selects ad ⟨ad, "clone", "()Ljava/lang/Object;"⟩ ⟨"java/lang/Object", "clone", "()Ljava/lang/Object;"⟩).before a0 Z = true) (w6 : (Cond.castable ad "java/lang/Cloneable").before a0 Z = true)
    (eT : T.heap = h) (Q : Rep Z n0 h L) (i : Nat) {a : Addr} {ty : FieldType} {vs : List Value} (hi : L[i]? = some (a, Ar ty vs)) (had : "[" ++ ty.toString = ad) {g : JFrame} (hg : g.method = m) (hsize : g.locals.size = c.maxLocals) {rest : List Value} (hs : g.stack = .ref a :: rest) (hd : decode c.code g.pc = .ok (.invokevirtual index, 3))
    (hf : 1 ≤ R.frames) {W : Nat} (cap : Nat) (hW : 2 * g.monitorRoom + (rest.map fun v => v.category).sum ≤ W) (hl : W + 14 ≤ R.locals) (hcap : vs.length ≤ cap) (hc : cells + 1 ≤ R.cells) (hsl : slots + cap ≤ R.slots) :
    ∃ T' h' b, Stand p l e R s m args below meth c T' locs (cells + 1) (slots + cap) ∧ T'.heap = h' ∧ Rep Z n0 h' ((b, Ar ty vs) :: L) ∧ Exa Z h' b ad ∧
      ∀ target, Steps p.tables e below (T'.setTop { g with pc := g.pc + 3, stack := .ref b :: rest }) target → Steps p.tables e below (T.setTop g) target := by
  subst had
  obtain ⟨cl, A, V, F, E⟩ := Q.arr' hi
  have FC : FitC Z cl := fitC_of A fun k hk v hv => F v (by rw [← V]; exact Array.mem_toList_iff.mpr (Array.mem_of_getElem? hv))
  obtain ⟨T', h', X', e', ex, A', E', st⟩ := cloneA X hx hZ hown w1 w2 w3 w4 w5 w6 eT A E FC hg hsize hs hd hf hW hl (by rw [← V, Array.length_toList] at hcap; exact hcap) hc hsl
  exact ⟨T', h', _, X', e', Q.add ex rfl A'.1 ⟨A'.2.1, A'.2.2, V, F, exa_to A'.1 E'⟩, E', st⟩
theorem gCast (X : Stand p l e R s m args below meth c T locs cells slots) (hx : p.tables.exec = Jvm.exec) (hZ : Z.Warmed39 s.vm) {own K : String} {index : Nat} (hown : s.vm.findClass own = some m.cls) (w : (Cond.classLink own index K).before a0 Z = true) (eT : T.heap = h) {a : Addr} (E : Exa Z h a K)
    {g : JFrame} (hg : g.method = m) {rest : List Value} (hs : g.stack = .ref a :: rest) (hd : decode c.code g.pc = .ok (.checkcast index, 3)) : ∃ T', Stand p l e R s m args below meth c T' locs cells slots ∧ T'.heap = h ∧ ∀ target, Steps p.tables e below (T'.setTop { g with pc := g.pc + 3 }) target → Steps p.tables e below (T.setTop g) target :=
  castY X hx hZ hown w eT (Ins.self E) hg hs hd
theorem arv_of {a : Addr} {ty : FieldType} {vs : List Value} {dv : Value} {cl : Cell} (A : Arr Z h a cl ty) (V : cl.slots.toList = vs) (F : ∀ v ∈ vs, fits ty v = true) (hl : vs.length < 2 ^ 31) : Arv Z h a cl.cls ty (Int32.ofNat vs.length) vs dv := by
  have q : (Int32.ofNat vs.length).toNatClampNeg = vs.length := by
    rw [Int32.toNatClampNeg, Int32.toInt_ofNat_of_lt hl]; rfl
  have S : cl.slots.size = vs.length := by rw [← V, Array.length_toList]
  have G : ∀ k, k < cl.slots.size → cl.slots[k]? = some (vs.getD k dv) := fun k hk => by
    rw [← Array.getElem?_toList, V, List.getD_eq_getElem?_getD, List.getElem?_eq_getElem (by omega)]; rfl
  refine ⟨cl, A, rfl, by rw [q, S], ?_, G, fun k hk => ?_⟩
  · rw [Int32.lt_iff_toInt_lt, Int32.toInt_ofNat_of_lt hl, show (0 : Int32).toInt = 0 from rfl]; omega
  · rw [List.getD_eq_getElem?_getD, List.getElem?_eq_getElem (by omega)]
    exact F _ (List.getElem_mem _)
theorem Rep.kept {h' : Heap} {i : Nat} {b : Addr} {P P' : Des} {cb : Cell} (Q : Rep Z n0 h L) (hi : L[i]? = some (b, P)) (K : Keep h h' [b]) (hc : h'[b]? = some cb) (p : P' Z cb) : Rep Z n0 h' (L.set i (b, P')) := by
  have em : (L.set i (b, P')).map (·.1) = L.map (·.1) := by
    rw [List.map_set]
    apply List.ext_getElem?
    intro k
    rw [List.getElem?_set]
    split
    · rename_i e; subst e
      split
      · simp [hi]
      · rename_i e; simp only [List.length_map] at e; simp [List.getElem?_eq_none (Nat.le_of_not_lt e)]
    · rfl
  have il : i < L.length := (List.getElem?_eq_some_iff.mp hi).1
  refine ⟨Nat.le_trans Q.1 K.1, by rw [em]; exact Q.2.1, fun x hx => ?_⟩
  obtain ⟨k, hk⟩ := List.mem_iff_getElem?.mp hx
  rw [List.getElem?_set] at hk
  split at hk
  · rename_i e; subst e
    cases hk
    exact ⟨Q.ge hi, cb, hc, p⟩
  · rename_i e
    obtain ⟨g, c, hc', p'⟩ := Q.2.2 x (List.mem_of_getElem? hk)
    have ne : x.1 ≠ b := fun q => by
      refine e ((List.getElem?_inj (l := L.map (·.1)) (by simpa using il) Q.2.1).mp ?_)
      simp [hi, hk, q]
    exact ⟨g, c, K.2.1 _ _ hc' (by simpa using ne), p'⟩
theorem gCopy (X : Stand p l e R s m args below meth c T locs cells slots) (hx : p.tables.exec = Jvm.exec) (hZ : Z.Warmed39 s.vm) {own : String} {index : Nat} (hown : s.vm.findClass own = some m.cls)
    (w1 : (Cond.methodLink own index Jvm.Stand.acN).before a0 Z = true) (w2 : (Cond.native Jvm.Stand.acN).before a0 Z = true) (w3 : (Cond.static Jvm.Stand.acN).before a0 Z = true) (w4 : (Cond.initialized "java/lang/System").before a0 Z = true) (eT : T.heap = h) (N : Fr n0 locs) (Q : Rep Z n0 h L) (i j : Nat)
    {a b : Addr} {ty : FieldType} {vs vd : List Value} (hi : L[i]? = some (a, Ar ty vs)) (hj : L[j]? = some (b, Ar ty vd)) (hty : refKind ty = false) (l1 : vs.length < 2 ^ 31) (l2 : vd.length < 2 ^ 31) {sp dp nn : Int32} (h1 : ¬ sp < 0) (h2 : ¬ dp < 0) (h3 : ¬ nn < 0) (si di ni : Nat) (es : sp.toNatClampNeg = si) (ed : dp.toNatClampNeg = di) (en : nn.toNatClampNeg = ni)
    (h4 : si + ni ≤ vs.length) (h5 : di + ni ≤ vd.length)
    {g : JFrame} (hg : g.method = m) (hsize : g.locals.size = c.maxLocals) {rest : List Value} (hs : g.stack = .int nn :: .int dp :: .ref b :: .int sp :: .ref a :: rest) (hd : decode c.code g.pc = .ok (.invokestatic index, 3))
    (hf : 1 ≤ R.frames) {W : Nat} (hW : 2 * g.monitorRoom + (rest.map fun v => v.category).sum ≤ W) (hlo : W + (nativeFrameWords "java/lang/System" "arraycopy" 5 + 11) ≤ R.locals) :
    ∃ T' h' L', Stand p l e R s m args below meth c T' L' cells slots ∧ T'.heap = h' ∧ Fr n0 L' ∧ Rep Z n0 h' (L.set j (b, Ar ty (vd.take di ++ (vs.drop si).take ni ++ vd.drop (di + ni)))) ∧
      ∀ target, Steps p.tables e below (T'.setTop { g with pc := g.pc + 3, stack := rest }) target → Steps p.tables e below (T.setTop g) target := by
  subst es ed en
  obtain ⟨ca, A, Va, Fa, Ea⟩ := Q.arr' hi
  obtain ⟨cb, B, Vb, Fb, Eb⟩ := Q.arr' hj
  have za : (Int32.ofNat vs.length).toNatClampNeg = vs.length := by rw [Int32.toNatClampNeg, Int32.toInt_ofNat_of_lt l1]; rfl
  have zb : (Int32.ofNat vd.length).toNatClampNeg = vd.length := by rw [Int32.toNatClampNeg, Int32.toInt_ofNat_of_lt l2]; rfl
  have hus : (vs.drop sp.toNatClampNeg).take nn.toNatClampNeg = (List.range nn.toNatClampNeg).map fun k => vs.getD (sp.toNatClampNeg + k) .null := by
    apply List.ext_getElem?
    intro k
    rw [List.getElem?_take, List.getElem?_drop, List.getElem?_map]
    by_cases q : k < nn.toNatClampNeg
    · rw [if_pos q, List.getElem?_range q, List.getElem?_eq_getElem (by omega)]
      simp [List.getD_eq_getElem?_getD, List.getElem?_eq_getElem (show sp.toNatClampNeg + k < vs.length by omega)]
    · rw [if_neg q, List.getElem?_eq_none (by simpa using q)]; rfl
  obtain ⟨T', h', L', X', e', N', K, ⟨c', A', -, S', -, H', G'⟩, st⟩ := cpA X hx hZ hown w1 w2 w3 w4 eT (arv_of (dv := .null) A Va Fa l1) (arv_of (dv := .null) B Vb Fb l2) (Or.inl ⟨rfl, hty⟩) h1 h2 h3 (by rw [za]; exact h4) (by rw [zb]; exact h5) hus h5 N (Q.ge hj) hg hsize hs hd hf hW hlo
  refine ⟨T', h', L', X', e', N', Q.kept hj K A'.1 ⟨A'.2.1, A'.2.2, ?_, fun v hv => ?_, exa_to A'.1 (Eb.keep K)⟩, st⟩
  · apply List.ext_getElem?
    intro k
    rw [Array.getElem?_toList]
    by_cases q : k < c'.slots.size
    · rw [H' k q, List.getD_eq_getElem?_getD, List.getElem?_eq_getElem]
      · rfl
      · rw [S', zb] at q; simp only [List.length_append, List.length_take, List.length_drop]; omega
    · rw [Array.getElem?_eq_none (by omega), List.getElem?_eq_none]
      rw [S', zb] at q; simp only [List.length_append, List.length_take, List.length_drop]; omega
  · rcases List.mem_append.mp hv with hv | hv
    · rcases List.mem_append.mp hv with hv | hv
      · exact Fb v (List.mem_of_mem_take hv)
      · exact Fa v (List.mem_of_mem_drop (List.mem_of_mem_take hv))
    · exact Fb v (List.mem_of_mem_drop hv)
theorem gMono (X : Stand p l e R s m args below meth c T locs cells slots) {cells' slots' : Nat} (h1 : cells ≤ cells') (h2 : slots ≤ slots') : Stand p l e R s m args below meth c T locs cells' slots' := { X with same := X.same.mono h1 h2 }
theorem retI (X : Stand p l e R s m args below meth c T locs cells slots) (hx : p.tables.exec = Jvm.exec) {pc : Nat} {Ls : Array Slot} {z : Int32} {rest : List Value} (hret : meth.sig.returnType = some .int) (hd : decode c.code pc = .ok (.ireturn, 1)) {fs : List Frame}
    (hl : ∀ (f : JFrame) (acts : List Action), f.method = m → f.locked = none → f.entered = [] → (doReturn e (T.setTop f) acts (some (.int z))).1 = T.setFrames fs) : Steps p.tables e below (T.setTop (mkF m pc Ls (.int z :: rest))) (T.setFrames fs) := by
  have hm' : T.vm.method? m = some meth := X.method'
  have hn : narrow .int (.int z) = .int z := rfl
  show Steps p.tables e below (T.setTop { method := m, pc := pc, locals := Ls, stack := _ :: rest, locked := none }) _
  jvm_step X.here [X.here.top, hx, hd, hm', hret, hn]
  first | (intro acts; rw [hl _ acts rfl rfl rfl]) | rw [hl _ _ rfl rfl rfl]
  exact Steps.refl _
theorem retL (X : Stand p l e R s m args below meth c T locs cells slots) (hx : p.tables.exec = Jvm.exec) {pc : Nat} {Ls : Array Slot} {z : Int64} {rest : List Value} (hret : meth.sig.returnType = some .long) (hd : decode c.code pc = .ok (.lreturn, 1)) {fs : List Frame}
    (hl : ∀ (f : JFrame) (acts : List Action), f.method = m → f.locked = none → f.entered = [] → (doReturn e (T.setTop f) acts (some (.long z))).1 = T.setFrames fs) : Steps p.tables e below (T.setTop (mkF m pc Ls (.long z :: rest))) (T.setFrames fs) := by
  have hm' : T.vm.method? m = some meth := X.method'
  have hn : narrow .long (.long z) = .long z := rfl
  show Steps p.tables e below (T.setTop { method := m, pc := pc, locals := Ls, stack := _ :: rest, locked := none }) _
  jvm_step X.here [X.here.top, hx, hd, hm', hret, hn]
  first | (intro acts; rw [hl _ acts rfl rfl rfl]) | rw [hl _ _ rfl rfl rfl]
  exact Steps.refl _
theorem retA (X : Stand p l e R s m args below meth c T locs cells slots) (hx : p.tables.exec = Jvm.exec) {pc : Nat} {Ls : Array Slot} {a : Addr} {rest : List Value} {t : FieldType} (ht : t.isReference = true) (hret : meth.sig.returnType = some t) (hd : decode c.code pc = .ok (.areturn, 1)) {fs : List Frame}
    (hl : ∀ (f : JFrame) (acts : List Action), f.method = m → f.locked = none → f.entered = [] → (doReturn e (T.setTop f) acts (some (.ref a))).1 = T.setFrames fs) : Steps p.tables e below (T.setTop (mkF m pc Ls (.ref a :: rest))) (T.setFrames fs) := by
  have hm' : T.vm.method? m = some meth := X.method'
  show Steps p.tables e below (T.setTop { method := m, pc := pc, locals := Ls, stack := _ :: rest, locked := none }) _
  jvm_step X.here [X.here.top, hx, hd, hm', hret, ht, Value.isRef]
  first | (intro acts; rw [hl _ acts rfl rfl rfl]) | rw [hl _ _ rfl rfl rfl]
  exact Steps.refl _
end Steps
abbrev iushr (x y : Int32) : Int32 := (x.toUInt32 >>> (y &&& 31).toUInt32).toInt32
abbrev lushr (x : Int64) (y : Int32) : Int64 := (x.toUInt64 >>> (y &&& 0x3f).toInt64.toUInt64).toInt64
abbrev ishl (x y : Int32) : Int32 := x <<< (y &&& 31)
abbrev ishr (x y : Int32) : Int32 := x >>> (y &&& 31)
abbrev lshl (x : Int64) (y : Int32) : Int64 := x <<< (y &&& 0x3f).toInt64
abbrev lshr (x : Int64) (y : Int32) : Int64 := x >>> (y &&& 0x3f).toInt64
/-- a boolean told by a condition, as an int of the machine's -/
abbrev bz (P : Prop) [Decidable P] : Int32 := if P then 1 else 0
theorem nar_b (P : Prop) [Decidable P] : nar .boolean (bz P) = bz P := by unfold bz; split <;> rfl
theorem bz_t {P : Prop} [Decidable P] (h : P) : bz P = 1 := if_pos h
theorem bz_congr {P Q : Prop} [Decidable P] [Decidable Q] (h : P ↔ Q) : bz P = bz Q := by
  by_cases q : Q
  · rw [bz, bz, if_pos q, if_pos (h.mpr q)]
  · rw [bz, bz, if_neg q, if_neg (fun p => q (h.mp p))]
theorem bz_one {P : Prop} [Decidable P] (h : P ↔ True) : bz P = 1 := if_pos (h.mpr trivial)
theorem bz_zero {P : Prop} [Decidable P] (h : P ↔ False) : bz P = 0 := if_neg h.mp
theorem ow_bne_t {P : Prop} [Decidable P] (h : P) : ifCond.holds .ne (bz P) = true := by rw [if0, bz_t h]; decide
theorem ow_bne_f {P : Prop} [Decidable P] (h : ¬ P) : ifCond.holds .ne (bz P) = false := by rw [if0, bz, if_neg h]; decide
theorem ow_beq_t {P : Prop} [Decidable P] (h : ¬ P) : ifCond.holds .eq (bz P) = true := by rw [if0, bz, if_neg h]; decide
theorem ow_beq_f {P : Prop} [Decidable P] (h : P) : ifCond.holds .eq (bz P) = false := by rw [if0, bz_t h]; decide
theorem bz_f {P : Prop} [Decidable P] (h : ¬ P) : bz P = 0 := if_neg h
theorem ite_or_t {α : Type} {c d : Prop} [Decidable c] [Decidable d] {a y : α} (h : c) : (if c ∨ d then a else y) = a := if_pos (Or.inl h)
theorem ite_or_f {α : Type} {c d : Prop} [Decidable c] [Decidable d] {a y : α} (h : ¬ c) : (if c ∨ d then a else y) = (if d then a else y) := by
  by_cases q : d
  · rw [if_pos q, if_pos (Or.inr q)]
  · rw [if_neg q, if_neg (fun z => z.elim h q)]
theorem ite_and_t {α : Type} {c d : Prop} [Decidable c] [Decidable d] {a y : α} (h : c) : (if c ∧ d then a else y) = (if d then a else y) := by
  by_cases q : d
  · rw [if_pos q, if_pos ⟨h, q⟩]
  · rw [if_neg q, if_neg (fun z => q z.2)]
theorem ite_and_f {α : Type} {c d : Prop} [Decidable c] [Decidable d] {a y : α} (h : ¬ c) : (if c ∧ d then a else y) = y := if_neg fun q => h q.1
theorem xDup2 {tb : Tables} [Ours tb] {e : Env} {below : List Frame} {T target : State} {m : MethodId} {c : Code} {g : JFrame} (h : At T m c below) (hx : tb.exec = Jvm.exec) (hg : g.method = m) {x y : Value} {rest : List Value} (hd : decode c.code g.pc = .ok (.dup2, 1)) (hs : g.stack = x :: y :: rest) (hc : x.category = 1) (hc' : y.category = 1)
    (hr : Steps tb e below (T.setTop { g with pc := g.pc + 1, stack := x :: y :: x :: y :: rest }) target) : Steps tb e below (T.setTop g) target := by
  subst hg
  jvm_step h [h.top, hx, hd, hs, hc, hc']
  exact hr
theorem xDupX2 {tb : Tables} [Ours tb] {e : Env} {below : List Frame} {T target : State} {m : MethodId} {c : Code} {g : JFrame} (h : At T m c below) (hx : tb.exec = Jvm.exec) (hg : g.method = m) {x y z : Value} {rest : List Value} (hd : decode c.code g.pc = .ok (.dup_x2, 1)) (hs : g.stack = x :: y :: z :: rest) (hc : x.category = 1) (hc' : y.category = 1) (hc'' : z.category = 1)
    (hr : Steps tb e below (T.setTop { g with pc := g.pc + 1, stack := x :: y :: z :: x :: rest }) target) : Steps tb e below (T.setTop g) target := by
  subst hg
  jvm_step h [h.top, hx, hd, hs, hc, hc', hc'']
  exact hr
theorem ow_fin {P : Prop} [Decidable P] (h : P) : some (Value.int (nar .boolean (bz P))) = some (Value.int (1 : Int32)) := by rw [bz_t h]; rfl
theorem ow_fin' {P : Prop} [Decidable P] (h : P) : some (Value.int (bz P)) = some (Value.int (1 : Int32)) := by rw [bz_t h]
end Jvm.Own
namespace Jvm.Own
open Jvm Jvm.RoadKit
/-! ## Longs and ints as natural numbers -/
def nj (x : Int64) : Nat := x.toBitVec.toNat
def ni (x : Int32) : Nat := x.toBitVec.toNat
theorem nj_lt (x : Int64) : nj x < 18446744073709551616 := x.toBitVec.isLt
theorem ni_lt (x : Int32) : ni x < 4294967296 := x.toBitVec.isLt
theorem nj_inj {x y : Int64} (h : nj x = nj y) : x = y := Int64.toBitVec_inj.mp (BitVec.eq_of_toNat_eq h)
theorem ni_inj {x y : Int32} (h : ni x = ni y) : x = y := Int32.toBitVec_inj.mp (BitVec.eq_of_toNat_eq h)
theorem nj_int (x : Int64) : x.toInt = if nj x < 9223372036854775808 then (nj x : Int) else (nj x : Int) - 18446744073709551616 := by
  show x.toBitVec.toInt = _
  rw [BitVec.toInt_eq_toNat_cond]
  show (if 2 * nj x < 2 ^ 64 then (nj x : Int) else (nj x : Int) - (2 ^ 64 : Nat)) = _
  split <;> split <;> omega
theorem ni_int (x : Int32) : x.toInt = if ni x < 2147483648 then (ni x : Int) else (ni x : Int) - 4294967296 := by
  show x.toBitVec.toInt = _
  rw [BitVec.toInt_eq_toNat_cond]
  show (if 2 * ni x < 2 ^ 32 then (ni x : Int) else (ni x : Int) - (2 ^ 32 : Nat)) = _
  split <;> split <;> omega
theorem nj_and (x y : Int64) : nj (x &&& y) = nj x &&& nj y := by show (x.toBitVec &&& y.toBitVec).toNat = _; rw [BitVec.toNat_and]; rfl
theorem nj_or (x y : Int64) : nj (x ||| y) = nj x ||| nj y := by show (x.toBitVec ||| y.toBitVec).toNat = _; rw [BitVec.toNat_or]; rfl
theorem nj_xor (x y : Int64) : nj (x ^^^ y) = nj x ^^^ nj y := by show (x.toBitVec ^^^ y.toBitVec).toNat = _; rw [BitVec.toNat_xor]; rfl
theorem nj_add (x y : Int64) : nj (x + y) = (nj x + nj y) % 18446744073709551616 := by show (x.toBitVec + y.toBitVec).toNat = _; rw [BitVec.toNat_add]; rfl
theorem nj_sub (x y : Int64) : nj (x - y) = (18446744073709551616 - nj y + nj x) % 18446744073709551616 := by show (x.toBitVec - y.toBitVec).toNat = _; rw [BitVec.toNat_sub]; rfl
theorem ni_and (x y : Int32) : ni (x &&& y) = ni x &&& ni y := by show (x.toBitVec &&& y.toBitVec).toNat = _; rw [BitVec.toNat_and]; rfl
theorem nj_lushr (x : Int64) (q : Int32) (k : Nat) (hk : ni q % 64 = k) : nj (lushr x q) = nj x / 2 ^ k := by
  show (x.toBitVec >>> ((q &&& 0x3f).toInt64.toBitVec % 64)).toNat = x.toBitVec.toNat / 2 ^ k
  have h5 := (sm64 q k hk).2
  rw [BitVec.ushiftRight_eq', BitVec.toNat_ushiftRight, Nat.shiftRight_eq_div_pow, BitVec.toNat_umod, (sm64 q k hk).1, BitVec.toNat_ofNat]; congr 2; show k % 2 ^ 64 % 64 = k; omega
theorem nj_lshl (x : Int64) (q : Int32) (k : Nat) (hk : ni q % 64 = k) : nj (lshl x q) = nj x * 2 ^ k % 18446744073709551616 := by
  show (x.toBitVec <<< ((q &&& 0x3f).toInt64.toBitVec.smod 64)).toNat = _
  rw [BitVec.shiftLeft_eq', (sm64 q k hk).1, smod64 k (sm64 q k hk).2, BitVec.toNat_shiftLeft, Nat.shiftLeft_eq]; rfl
theorem ni_l2i (x : Int64) : ni x.toInt32 = nj x % 4294967296 := by
  show (x.toBitVec.signExtend 32).toNat = _
  rw [BitVec.signExtend_eq_setWidth_of_le _ (by decide), BitVec.toNat_setWidth]; rfl
theorem nj_i2l (x : Int32) (h : ni x < 2147483648) : nj x.toInt64 = ni x := by
  have e := nj_int x.toInt64
  rw [Int32.toInt_toInt64, ni_int, if_pos h] at e
  have := nj_lt x.toInt64
  split at e <;> omega
theorem mask_n (x k : Nat) : x &&& (2 ^ k - 1) = x % 2 ^ k := Nat.and_two_pow_sub_one_eq_mod x k
theorem lt64 {x y : Int64} : x < y ↔ x.toInt < y.toInt := Int64.lt_iff_toInt_lt
theorem lt32 {x y : Int32} : x < y ↔ x.toInt < y.toInt := Int32.lt_iff_toInt_lt
/-- the byte at place k of a long, as javac reads it into an int -/
theorem byteI (w : Int64) (q : Int32) (k : Nat) (hk : ni q % 64 = k) : ((lushr w q).toInt32 &&& (255 : Int32)) = Int32.ofNat (nj w / 2 ^ k % 256) := by
  apply ni_inj
  rw [ni_and, ni_l2i, nj_lushr w q k hk, show ni (255 : Int32) = 2 ^ 8 - 1 from rfl, mask_n]
  show _ = (BitVec.ofNat 32 _).toNat
  rw [BitVec.toNat_ofNat]
  omega
theorem byteJ (w : Int64) (q : Int32) (k : Nat) (hk : ni q % 64 = k) : ((lushr w q) &&& (255 : Int64)) = Int64.ofNat (nj w / 2 ^ k % 256) := by
  apply nj_inj
  rw [nj_and, nj_lushr w q k hk, show nj (255 : Int64) = 2 ^ 8 - 1 from rfl, mask_n]
  show _ = (BitVec.ofNat 64 _).toNat
  rw [BitVec.toNat_ofNat]
  omega
theorem all8 {P : Int8 → Prop} (h : ∀ n : Fin 256, P (Int8.ofNat n.1)) (y : Int8) : P y := by
  have q := h ⟨y.toBitVec.toNat, y.toBitVec.isLt⟩
  have e : Int8.ofNat y.toBitVec.toNat = y := by
    apply Int8.toBitVec_inj.mp
    show BitVec.ofNat 8 y.toBitVec.toNat = y.toBitVec
    rw [BitVec.ofNat_toNat]; simp
  rw [e] at q; exact q
/-- an int told by its natural number -/
theorem ofni (x : Int32) : Int32.ofNat (ni x) = x := by
  apply ni_inj
  show (BitVec.ofNat 32 x.toBitVec.toNat).toNat = x.toBitVec.toNat
  rw [BitVec.toNat_ofNat, Nat.mod_eq_of_lt x.toBitVec.isLt]
/-- (x & 0x7fffffff) % m for a small m -/
theorem remN (x : Int32) (m : Int32) (k : Nat) (hm : ni m = k) (h0 : 0 < k) (h1 : k < 2147483648) : ∃ n : Nat, n < k ∧ ((x &&& (2147483647 : Int32)) % m) = Int32.ofNat n := by
  have e1 : ni (x &&& (2147483647 : Int32)) = ni x % 2147483648 := by rw [ni_and, show ni (2147483647 : Int32) = 2 ^ 31 - 1 from rfl, mask_n]
  have m1 : m.toInt = k := by rw [ni_int, if_pos (by omega), hm]
  have a1 : (x &&& (2147483647 : Int32)).toInt = (ni x % 2147483648 : Nat) := by rw [ni_int, if_pos (by omega), e1]
  obtain ⟨p, -⟩ := c_irem (x &&& (2147483647 : Int32)) m k m1
  have r := p (by omega)
  refine ⟨ni x % 2147483648 % k, Nat.mod_lt _ h0, ?_⟩
  have q : ni x % 2147483648 % k < k := Nat.mod_lt _ h0
  apply Int32.toInt_inj.mp
  rw [r, a1, Int32.toInt_ofNat_of_lt (by omega)]; rfl
end Jvm.Own
namespace Jvm.Own
open Jvm Jvm.ClassFile Jvm.RoadKit
/-! ## Arrays of small natural numbers -/
def nv (x : Nat) : Value := .int (Int32.ofNat x)
def nl (xs : List Nat) : List Value := xs.map nv
theorem nl_len (xs : List Nat) : (nl xs).length = xs.length := by simp [nl]
theorem n_int {i : Nat} (h : i < 1000) : (Int32.ofNat i).toInt = i := Int32.toInt_ofNat_of_lt (by omega)
theorem n_nn {i : Nat} (h : i < 1000) : ¬ Int32.ofNat i < 0 := by rw [Int32.lt_iff_toInt_lt, n_int h, show (0 : Int32).toInt = 0 from rfl]; omega
theorem n_ix {i : Nat} (h : i < 1000) : (Int32.ofNat i).toNatClampNeg = i := by rw [Int32.toNatClampNeg, n_int h]; rfl
theorem nl_get {xs : List Nat} {i : Nat} (h : i < xs.length) : (nl xs)[i]? = some (.int (Int32.ofNat (xs.getD i 0))) := by
  simp [nl, nv, List.getD_eq_getElem?_getD, h]
theorem nl_at {xs : List Nat} {i : Nat} (h : i < xs.length) (b : i < 1000) : (nl xs)[(Int32.ofNat i).toNatClampNeg]? = some (.int (Int32.ofNat (xs.getD i 0))) := by rw [n_ix b]; exact nl_get h
theorem nl_lt {xs : List Nat} {i : Nat} (h : i < xs.length) : i < (nl xs).length := by rw [nl_len]; exact h
theorem nl_set (xs : List Nat) (i v : Nat) : (nl xs).set i (.int (Int32.ofNat v)) = nl (xs.set i v) := by simp [nl, nv, List.map_set]
theorem n_one (i : Nat) : Int32.ofNat i + (1 : Int32) = Int32.ofNat (i + 1) := (Int32.ofNat_add i 1).symm
theorem n_add (a b : Nat) : Int32.ofNat a + Int32.ofNat b = Int32.ofNat (a + b) := (Int32.ofNat_add a b).symm
theorem n_pred {i : Nat} (h : 1 ≤ i) : Int32.ofNat i - (1 : Int32) = Int32.ofNat (i - 1) := by
  obtain ⟨j, rfl⟩ : ∃ j, i = j + 1 := ⟨i - 1, by omega⟩
  rw [← n_one, show j + 1 - 1 = j from rfl]
  apply Int32.toBitVec_inj.mp
  show (Int32.ofNat j).toBitVec + 1#32 - 1#32 = _
  exact BitVec.add_sub_cancel _ _
theorem n_lt {i n : Nat} (h : i < n) (b : n < 1000) : Int32.ofNat i < Int32.ofNat n := by rw [Int32.lt_iff_toInt_lt, n_int b, n_int (by omega)]; omega
theorem n_nlt {i n : Nat} (h : n ≤ i) (b : i < 1000) : ¬ Int32.ofNat i < Int32.ofNat n := by rw [Int32.lt_iff_toInt_lt, n_int b, n_int (by omega)]; omega
theorem n_inj {i n : Nat} (h : Int32.ofNat i = Int32.ofNat n) (b : i < 1000) (b' : n < 1000) : i = n := by
  have := congrArg Int32.toInt h
  rw [n_int b, n_int b'] at this; omega
theorem n_rep (k : Nat) : List.replicate k (Value.int (0 : Int32)) = nl (List.replicate k 0) := by simp [nl, nv]
def One1 (s : Slot) : Prop := s = .unset ∨ ∃ w, s = .val w ∧ w.category = 1
theorem One1.v {w : Value} (h : w.category = 1) : One1 (.val w) := Or.inr ⟨w, rfl, h⟩
theorem One1.u : One1 .unset := Or.inl rfl
end Jvm.Own
namespace Jvm.Pilot.@@N@@
open Jvm Jvm.ClassFile Sem Op Lib Jvm.Free Jvm.Stand Jvm.LawKit Jvm.RoadKit Bundle Jvm.Own Jvm.Pilot.@@N@@.Jvm.D
theorem d4_0 : decode jdk_29_method_65_code 0 = .ok (.iload_n 0, 1) := by decide +kernel
theorem d4_1 : decode jdk_29_method_65_code 1 = .ok (.iload_n 1, 1) := by decide +kernel
theorem d4_2 : decode jdk_29_method_65_code 2 = .ok (.if_icmp .lt 7, 3) := by decide +kernel
theorem d4_9 : decode jdk_29_method_65_code 9 = .ok (.iload_n 1, 1) := by decide +kernel
theorem d4_5 : decode jdk_29_method_65_code 5 = .ok (.iload_n 0, 1) := by decide +kernel
theorem d4_6 : decode jdk_29_method_65_code 6 = .ok (.goto 4, 3) := by decide +kernel
theorem d4_10 : decode jdk_29_method_65_code 10 = .ok (.ireturn, 1) := by decide +kernel
theorem ef_4 (m : MethodId) (x0 : Int32) (x1 : Int32) : entryFrame m #[(.int x0), (.int x1)] 2 = mkF m 0 #[.val (.int x0), .val (.int x1)] [] := by first | (simp [entryFrame, mkF, argsToLocals, Value.category]; done) | rfl
def F4 (ux : Int32) (wx : Int32) : Int32 :=
  (if ux < wx then wx else ux)
def Q4 (Z : State) (ux : Int32) (wx : Int32) (n0 : Nat) (Rst : RL) (v : Option Value) (h : Heap) (L : List Loc) : Prop := v = some (.int (F4 ux wx)) ∧ Fr n0 L ∧ Rep Z n0 h (Rst)
set_option maxRecDepth 65536 in
set_option maxHeartbeats 40000000 in
theorem rm4 (l : Launch) (Z : State) (a0 : Array Value) (hw : ∀ d ∈ tables_1, d.before a0 Z = true) (ws : List Jvm.Cond) (ux : Int32) (wx : Int32) (h0 : Heap) (n0 : Nat) (Rst : RL) (R0 : Rep Z n0 h0 (Rst)) :
    MetFree l (⟨"java/lang/Math", "max", "(II)I"⟩ : MethodName) (head1 (Jvm.Cond.code (⟨"java/lang/Math", "max", "(II)I"⟩ : MethodName) jdk_29_method_65_code 2 (some .int) :: ws) ({ frames := 0, cells := 0, slots := 0, locals := 0 } : Room)) (fun a U => a = #[(.int ux), (.int wx)] ∧ Z.Warmed39 U.vm ∧ U.heap = h0) (fun _ _ _ _ _ => True) (fun _ U o U' => ∃ v L, o = .returned v ∧ Q4 Z ux wx n0 Rst v U'.heap L ∧ FrameEnd U o U' L ({ frames := 0, cells := 0, slots := 0, locals := 0 } : Room).cells ({ frames := 0, cells := 0, slots := 0, locals := 0 } : Room).slots) := by
  refine MetFree.of_bodySF (Jvm.Free.JP.mathPlain rfl (by decide +kernel)) hisR ?_
  intro p e s m args below meth c s₁ Bd hml0 hP hK
  obtain ⟨rfl, hZ, hh⟩ := hP
  have hx := Bd.exec
  have hby := Bd.bytes
  have hml : c.maxLocals = 2 := hml0
  have hown : s.vm.findClass "java/lang/Math" = some m.cls := findClass_of_methodNamed Bd.named
  have hnm := (name_of_methodNamed Bd.named Bd.method).1
  have X0 : Stand p l e ({ frames := 0, cells := 0, slots := 0, locals := 0 } : Room) s m #[(.int ux), (.int wx)] below meth c s₁ [] 0 0 := Stand.of_body Bd
  have e0 : s₁.heap = h0 := by rw [← hh, Bd.state]; rfl
  have N0 := Fr.nil n0
  have pre0 : ∀ t, Steps p.tables e below (s₁.setTop (mkF m 0 #[.val (.int ux), .val (.int wx)] [])) t → Steps p.tables e below (s₁.setTop (entryFrame m #[(.int ux), (.int wx)] 2)) t := fun t k => castTop (ef_4 m ux wx) k
  have pre3 : ∀ t, Steps p.tables e below (s₁.setTop (mkF m 2 #[.val (.int ux), .val (.int wx)] [(.int wx), (.int ux)])) t → Steps p.tables e below (s₁.setTop (entryFrame m #[(.int ux), (.int wx)] 2)) t := fun t k => pre0 t (by
    show Steps p.tables e below (s₁.setTop (mkF m 0 #[.val (.int ux), .val (.int wx)] [])) _
    refine XS.iloadN X0.here hx rfl (hb hby d4_0) rfl ?_
    refine XS.iloadN X0.here hx rfl (hb hby d4_1) rfl ?_
    exact k)
  have tl2 : ∀ t, Steps p.tables e below (s₁.setTop (mkF m 10 #[.val (.int ux), .val (.int wx)] [(.int (if ux < wx then wx else ux))])) t → Steps p.tables e below (s₁.setTop (mkF m 2 #[.val (.int ux), .val (.int wx)] [(.int wx), (.int ux)])) t := fun t k => by
    by_cases hb1 : ux < wx
    · refine XS.icmpYes X0.here hx rfl (pc0 := 2) (pc' := 9) rfl (hb hby d4_2) rfl (tlt hb1).1 (by decide) (by decide) ?_
      rw [show (if ux < wx then wx else ux) = wx from if_pos hb1] at k
      show Steps p.tables e below (s₁.setTop (mkF m 9 #[.val (.int ux), .val (.int wx)] [])) _
      refine XS.iloadN X0.here hx rfl (hb hby d4_9) rfl ?_
      exact k
    · refine XS.icmpNo X0.here hx rfl (hb hby d4_2) rfl (flt hb1).1 ?_
      rw [show (if ux < wx then wx else ux) = ux from if_neg hb1] at k
      show Steps p.tables e below (s₁.setTop (mkF m 5 #[.val (.int ux), .val (.int wx)] [])) _
      refine XS.iloadN X0.here hx rfl (hb hby d4_5) rfl ?_
      refine XS.goto X0.here hx rfl (pc0 := 6) (pc' := 10) rfl (hb hby d4_6) (by decide) (by decide) ?_
      exact k
  have pre4 : ∀ t, Steps p.tables e below (s₁.setTop (mkF m 10 #[.val (.int ux), .val (.int wx)] [(.int (if ux < wx then wx else ux))])) t → Steps p.tables e below (s₁.setTop (entryFrame m #[(.int ux), (.int wx)] 2)) t := fun t k => pre3 t (by
    exact tl2 t k)
  obtain ⟨fs, hr, hrun, hended, hW, hsame⟩ := X0.leave (v := some (.int (if ux < wx then wx else ux))) (fun h => by rw [Bd.returns] at h; cases h) (BodyLoose.notSynchronized Bd)
  refine ⟨_, _, pre4 _ ?_, hrun, hended, _, _, rfl, ?_, ⟨_, rfl⟩, hW, hsame.mono (by decide) (by decide)⟩
  · show Steps p.tables e below (s₁.setTop (mkF m 10 #[.val (.int ux), .val (.int wx)] [(.int (if ux < wx then wx else ux))])) _
    exact Jvm.Own.retI X0 hx Bd.returns (hb hby d4_10) hr
  · show Q4 Z ux wx n0 Rst _ s₁.heap _
    rw [e0]
    exact ⟨(by rfl), N0, R0⟩
theorem d6_0 : decode jdk_29_method_69_code 0 = .ok (.iload_n 0, 1) := by decide +kernel
theorem d6_1 : decode jdk_29_method_69_code 1 = .ok (.iload_n 1, 1) := by decide +kernel
theorem d6_2 : decode jdk_29_method_69_code 2 = .ok (.if_icmp .gt 7, 3) := by decide +kernel
theorem d6_9 : decode jdk_29_method_69_code 9 = .ok (.iload_n 1, 1) := by decide +kernel
theorem d6_5 : decode jdk_29_method_69_code 5 = .ok (.iload_n 0, 1) := by decide +kernel
theorem d6_6 : decode jdk_29_method_69_code 6 = .ok (.goto 4, 3) := by decide +kernel
theorem d6_10 : decode jdk_29_method_69_code 10 = .ok (.ireturn, 1) := by decide +kernel
theorem ef_6 (m : MethodId) (x0 : Int32) (x1 : Int32) : entryFrame m #[(.int x0), (.int x1)] 2 = mkF m 0 #[.val (.int x0), .val (.int x1)] [] := by first | (simp [entryFrame, mkF, argsToLocals, Value.category]; done) | rfl
def F6 (ux : Int32) (wx : Int32) : Int32 :=
  (if wx < ux then wx else ux)
def Q6 (Z : State) (ux : Int32) (wx : Int32) (n0 : Nat) (Rst : RL) (v : Option Value) (h : Heap) (L : List Loc) : Prop := v = some (.int (F6 ux wx)) ∧ Fr n0 L ∧ Rep Z n0 h (Rst)
set_option maxRecDepth 65536 in
set_option maxHeartbeats 40000000 in
theorem rm6 (l : Launch) (Z : State) (a0 : Array Value) (hw : ∀ d ∈ tables_1, d.before a0 Z = true) (ws : List Jvm.Cond) (ux : Int32) (wx : Int32) (h0 : Heap) (n0 : Nat) (Rst : RL) (R0 : Rep Z n0 h0 (Rst)) :
    MetFree l (⟨"java/lang/Math", "min", "(II)I"⟩ : MethodName) (head1 (Jvm.Cond.code (⟨"java/lang/Math", "min", "(II)I"⟩ : MethodName) jdk_29_method_69_code 2 (some .int) :: ws) ({ frames := 0, cells := 0, slots := 0, locals := 0 } : Room)) (fun a U => a = #[(.int ux), (.int wx)] ∧ Z.Warmed39 U.vm ∧ U.heap = h0) (fun _ _ _ _ _ => True) (fun _ U o U' => ∃ v L, o = .returned v ∧ Q6 Z ux wx n0 Rst v U'.heap L ∧ FrameEnd U o U' L ({ frames := 0, cells := 0, slots := 0, locals := 0 } : Room).cells ({ frames := 0, cells := 0, slots := 0, locals := 0 } : Room).slots) := by
  refine MetFree.of_bodySF (Jvm.Free.JP.mathPlain rfl (by decide +kernel)) hisR ?_
  intro p e s m args below meth c s₁ Bd hml0 hP hK
  obtain ⟨rfl, hZ, hh⟩ := hP
  have hx := Bd.exec
  have hby := Bd.bytes
  have hml : c.maxLocals = 2 := hml0
  have hown : s.vm.findClass "java/lang/Math" = some m.cls := findClass_of_methodNamed Bd.named
  have hnm := (name_of_methodNamed Bd.named Bd.method).1
  have X0 : Stand p l e ({ frames := 0, cells := 0, slots := 0, locals := 0 } : Room) s m #[(.int ux), (.int wx)] below meth c s₁ [] 0 0 := Stand.of_body Bd
  have e0 : s₁.heap = h0 := by rw [← hh, Bd.state]; rfl
  have N0 := Fr.nil n0
  have pre0 : ∀ t, Steps p.tables e below (s₁.setTop (mkF m 0 #[.val (.int ux), .val (.int wx)] [])) t → Steps p.tables e below (s₁.setTop (entryFrame m #[(.int ux), (.int wx)] 2)) t := fun t k => castTop (ef_6 m ux wx) k
  have pre3 : ∀ t, Steps p.tables e below (s₁.setTop (mkF m 2 #[.val (.int ux), .val (.int wx)] [(.int wx), (.int ux)])) t → Steps p.tables e below (s₁.setTop (entryFrame m #[(.int ux), (.int wx)] 2)) t := fun t k => pre0 t (by
    show Steps p.tables e below (s₁.setTop (mkF m 0 #[.val (.int ux), .val (.int wx)] [])) _
    refine XS.iloadN X0.here hx rfl (hb hby d6_0) rfl ?_
    refine XS.iloadN X0.here hx rfl (hb hby d6_1) rfl ?_
    exact k)
  have tl2 : ∀ t, Steps p.tables e below (s₁.setTop (mkF m 10 #[.val (.int ux), .val (.int wx)] [(.int (if wx < ux then wx else ux))])) t → Steps p.tables e below (s₁.setTop (mkF m 2 #[.val (.int ux), .val (.int wx)] [(.int wx), (.int ux)])) t := fun t k => by
    by_cases hb1 : wx < ux
    · refine XS.icmpYes X0.here hx rfl (pc0 := 2) (pc' := 9) rfl (hb hby d6_2) rfl (tlt hb1).2.2.1 (by decide) (by decide) ?_
      rw [show (if wx < ux then wx else ux) = wx from if_pos hb1] at k
      show Steps p.tables e below (s₁.setTop (mkF m 9 #[.val (.int ux), .val (.int wx)] [])) _
      refine XS.iloadN X0.here hx rfl (hb hby d6_9) rfl ?_
      exact k
    · refine XS.icmpNo X0.here hx rfl (hb hby d6_2) rfl (flt hb1).2.2.1 ?_
      rw [show (if wx < ux then wx else ux) = ux from if_neg hb1] at k
      show Steps p.tables e below (s₁.setTop (mkF m 5 #[.val (.int ux), .val (.int wx)] [])) _
      refine XS.iloadN X0.here hx rfl (hb hby d6_5) rfl ?_
      refine XS.goto X0.here hx rfl (pc0 := 6) (pc' := 10) rfl (hb hby d6_6) (by decide) (by decide) ?_
      exact k
  have pre4 : ∀ t, Steps p.tables e below (s₁.setTop (mkF m 10 #[.val (.int ux), .val (.int wx)] [(.int (if wx < ux then wx else ux))])) t → Steps p.tables e below (s₁.setTop (entryFrame m #[(.int ux), (.int wx)] 2)) t := fun t k => pre3 t (by
    exact tl2 t k)
  obtain ⟨fs, hr, hrun, hended, hW, hsame⟩ := X0.leave (v := some (.int (if wx < ux then wx else ux))) (fun h => by rw [Bd.returns] at h; cases h) (BodyLoose.notSynchronized Bd)
  refine ⟨_, _, pre4 _ ?_, hrun, hended, _, _, rfl, ?_, ⟨_, rfl⟩, hW, hsame.mono (by decide) (by decide)⟩
  · show Steps p.tables e below (s₁.setTop (mkF m 10 #[.val (.int ux), .val (.int wx)] [(.int (if wx < ux then wx else ux))])) _
    exact Jvm.Own.retI X0 hx Bd.returns (hb hby d6_10) hr
  · show Q6 Z ux wx n0 Rst _ s₁.heap _
    rw [e0]
    exact ⟨(by rfl), N0, R0⟩
theorem own_max {a b : Nat} (ha : a < 1000) (hb : b < 1000) : F4 (Int32.ofNat a) (Int32.ofNat b) = Int32.ofNat (max a b) := by
  unfold F4
  by_cases q : a < b
  · rw [if_pos (n_lt q hb), Nat.max_eq_right (Nat.le_of_lt q)]
  · rw [if_neg (n_nlt (by omega) ha), Nat.max_eq_left (by omega)]
theorem own_min {a b : Nat} (ha : a < 1000) (hb : b < 1000) (h : b ≤ a) : F6 (Int32.ofNat a) (Int32.ofNat b) = Int32.ofNat b := by
  unfold F6
  by_cases q : b < a
  · rw [if_pos (n_lt q ha)]
  · rw [if_neg (n_nlt (by omega) hb), show a = b by omega]
theorem own_copy {xs : List Nat} {n : Nat} (h : n ≤ xs.length) : (nl (List.replicate n 0)).take 0 ++ ((nl xs).drop 0).take n ++ (nl (List.replicate n 0)).drop (0 + n) = nl (xs.take n) := by
  simp [nl, List.map_take]
theorem d5_0 : decode jdk_65_method_123_code 0 = .ok (.iload_n 1, 1) := by decide +kernel
theorem d5_1 : decode jdk_65_method_123_code 1 = .ok (.aload_n 0, 1) := by decide +kernel
theorem d5_2 : decode jdk_65_method_123_code 2 = .ok (.arraylength, 1) := by decide +kernel
theorem d5_3 : decode jdk_65_method_123_code 3 = .ok (.if_icmp .ne 11, 3) := by decide +kernel
theorem d5_14 : decode jdk_65_method_123_code 14 = .ok (.iload_n 1, 1) := by decide +kernel
theorem d5_15 : decode jdk_65_method_123_code 15 = .ok (.newarray .int, 2) := by decide +kernel
theorem d5_17 : decode jdk_65_method_123_code 17 = .ok (.astore_n 2, 1) := by decide +kernel
theorem d5_18 : decode jdk_65_method_123_code 18 = .ok (.aload_n 0, 1) := by decide +kernel
theorem d5_19 : decode jdk_65_method_123_code 19 = .ok (.iconst 0, 1) := by decide +kernel
theorem d5_20 : decode jdk_65_method_123_code 20 = .ok (.aload_n 2, 1) := by decide +kernel
theorem d5_21 : decode jdk_65_method_123_code 21 = .ok (.iconst 0, 1) := by decide +kernel
theorem d5_22 : decode jdk_65_method_123_code 22 = .ok (.aload_n 0, 1) := by decide +kernel
theorem d5_23 : decode jdk_65_method_123_code 23 = .ok (.arraylength, 1) := by decide +kernel
theorem d5_24 : decode jdk_65_method_123_code 24 = .ok (.iload_n 1, 1) := by decide +kernel
theorem d5_25 : decode jdk_65_method_123_code 25 = .ok (.invokestatic 304, 3) := by decide +kernel
theorem pd__28II_29I : parseMethodDescriptor "(II)I" = some ⟨[.int, .int], some .int⟩ := by decide +kernel
theorem d5_28 : decode jdk_65_method_123_code 28 = .ok (.invokestatic 150, 3) := by decide +kernel
theorem d5_31 : decode jdk_65_method_123_code 31 = .ok (.aload_n 2, 1) := by decide +kernel
theorem d5_32 : decode jdk_65_method_123_code 32 = .ok (.areturn, 1) := by decide +kernel
theorem pn_java_util_Arrays : plainName "java/util/Arrays" = true := by first | (simp [plainName, overriddenIn]; done) | decide +kernel
theorem ef_5 (m : MethodId) (x0 : Addr) (x1 : Nat) : entryFrame m #[(.ref x0), (.int (Int32.ofNat x1))] 3 = mkF m 0 #[.val (.ref x0), .val (.int (Int32.ofNat x1)), .unset] [] := by first | (simp [entryFrame, mkF, argsToLocals, Value.category]; done) | rfl
def Q5 (Z : State) (ax : Addr) (nx : Nat) (xs : List Nat) (n0 : Nat) (Rst : RL) (v : Option Value) (h : Heap) (L : List Loc) : Prop := ∃ bx : Addr, v = some (.ref bx) ∧ Fr n0 L ∧ Rep Z n0 h ((bx, Ar .int (nl (xs.take nx))) :: (ax, Ar .int (nl xs)) :: Rst)
set_option maxRecDepth 65536 in
set_option maxHeartbeats 40000000 in
theorem rm5 (l : Launch) (Z : State) (a0 : Array Value) (hw : ∀ d ∈ tables_1, d.before a0 Z = true) (ws : List Jvm.Cond) (ax : Addr) (nx : Nat) (xs : List Nat) (h0 : Heap) (n0 : Nat) (Rst : RL) (R0 : Rep Z n0 h0 ((ax, Ar .int (nl xs)) :: Rst)) (hle : nx ≤ xs.length) (hlx : xs.length ≤ 8) (hne : ¬ nx = xs.length) :
    MetFree l (⟨"java/util/Arrays", "copyOf", "([II)[I"⟩ : MethodName) (head1 (Jvm.Cond.code (⟨"java/util/Arrays", "copyOf", "([II)[I"⟩ : MethodName) jdk_65_method_123_code 3 (some (.array .int)) :: ws) ({ frames := 1, cells := 1, slots := 8, locals := 18 } : Room)) (fun a U => a = #[(.ref ax), (.int (Int32.ofNat nx))] ∧ Z.Warmed39 U.vm ∧ U.heap = h0) (fun _ _ _ _ _ => True) (fun _ U o U' => ∃ v L, o = .returned v ∧ Q5 Z ax nx xs n0 Rst v U'.heap L ∧ FrameEnd U o U' L ({ frames := 1, cells := 1, slots := 8, locals := 18 } : Room).cells ({ frames := 1, cells := 1, slots := 8, locals := 18 } : Room).slots) := by
  refine MetFree.of_bodySF (plainFor_of_name pn_java_util_Arrays) hisR ?_
  intro p e s m args below meth c s₁ Bd hml0 hP hK
  obtain ⟨rfl, hZ, hh⟩ := hP
  have hx := Bd.exec
  have hby := Bd.bytes
  have hml : c.maxLocals = 3 := hml0
  have hown : s.vm.findClass "java/util/Arrays" = some m.cls := findClass_of_methodNamed Bd.named
  have hnm := (name_of_methodNamed Bd.named Bd.method).1
  have X0 : Stand p l e ({ frames := 1, cells := 1, slots := 8, locals := 18 } : Room) s m #[(.ref ax), (.int (Int32.ofNat nx))] below meth c s₁ [] 0 0 := Stand.of_body Bd
  have e0 : s₁.heap = h0 := by rw [← hh, Bd.state]; rfl
  have N0 := Fr.nil n0
  have pre0 : ∀ t, Steps p.tables e below (s₁.setTop (mkF m 0 #[.val (.ref ax), .val (.int (Int32.ofNat nx)), .unset] [])) t → Steps p.tables e below (s₁.setTop (entryFrame m #[(.ref ax), (.int (Int32.ofNat nx))] 3)) t := fun t k => castTop (ef_5 m ax nx) k
  have pre2 : ∀ t, Steps p.tables e below (s₁.setTop (mkF m 3 #[.val (.ref ax), .val (.int (Int32.ofNat nx)), .unset] [(.int (Int32.ofNat xs.length)), (.int (Int32.ofNat nx))])) t → Steps p.tables e below (s₁.setTop (entryFrame m #[(.ref ax), (.int (Int32.ofNat nx))] 3)) t := fun t k => pre0 t (by
    show Steps p.tables e below (s₁.setTop (mkF m 0 #[.val (.ref ax), .val (.int (Int32.ofNat nx)), .unset] [])) _
    refine XS.iloadN X0.here hx rfl (hb hby d5_0) rfl ?_
    refine XS.aloadN X0.here hx rfl (hb hby d5_1) rfl rfl ?_
    refine gLen X0 hx hZ e0 R0 0 rfl (g := (mkF m 2 #[.val (.ref ax), .val (.int (Int32.ofNat nx)), .unset] [(.ref ax), (.int (Int32.ofNat nx))])) rfl rfl (hb hby d5_2) (z := (Int32.ofNat xs.length)) (by rw [nl_len]) _ ?_
    exact k)
  have hb1 : ¬ ((Int32.ofNat nx) = (Int32.ofNat xs.length)) := fun q => hne (n_inj q (by omega) (by omega))
  have pre3 : ∀ t, Steps p.tables e below (s₁.setTop (mkF m 15 #[.val (.ref ax), .val (.int (Int32.ofNat nx)), .unset] [(.int (Int32.ofNat nx))])) t → Steps p.tables e below (s₁.setTop (entryFrame m #[(.ref ax), (.int (Int32.ofNat nx))] 3)) t := fun t k => pre2 t (by
    show Steps p.tables e below (s₁.setTop (mkF m 3 #[.val (.ref ax), .val (.int (Int32.ofNat nx)), .unset] [(.int (Int32.ofNat xs.length)), (.int (Int32.ofNat nx))])) _
    refine XS.icmpYes X0.here hx rfl (pc0 := 3) (pc' := 14) rfl (hb hby d5_3) rfl (feq hb1).2 (by decide) (by decide) ?_
    refine XS.iloadN X0.here hx rfl (hb hby d5_14) rfl ?_
    exact k)
  obtain ⟨T4, h4, b4, X4, e4, R4, st4⟩ := gNewP X0 hx hZ (hw _ (List.mem_of_getElem? (i := 0) rfl)) e0 R0 (g := (mkF m 15 #[.val (.ref ax), .val (.int (Int32.ofNat nx)), .unset] [(.int (Int32.ofNat nx))])) rfl (hb hby d5_15) rfl (n_nn (by omega)) 8 (by rw [n_ix (by omega)]; omega) (by decide) (by decide) (by decide) (vs := (nl (List.replicate nx 0))) (by rw [n_ix (by omega)]; exact n_rep _)
  replace R4 : Rep Z n0 h4 ((b4, Ar .int (nl (List.replicate nx 0))) :: (ax, Ar .int (nl xs)) :: Rst) := R4
  have pre5 : ∀ t, Steps p.tables e below (T4.setTop (mkF m 17 #[.val (.ref ax), .val (.int (Int32.ofNat nx)), .unset] [(.ref b4)])) t → Steps p.tables e below (s₁.setTop (entryFrame m #[(.ref ax), (.int (Int32.ofNat nx))] 3)) t := fun t k => pre3 t (st4 t k)
  have pre6 : ∀ t, Steps p.tables e below (T4.setTop (mkF m 25 #[.val (.ref ax), .val (.int (Int32.ofNat nx)), .val (.ref b4)] [(.int (Int32.ofNat nx)), (.int (Int32.ofNat xs.length)), (.int (0 : Int32)), (.ref b4), (.int (0 : Int32)), (.ref ax)])) t → Steps p.tables e below (s₁.setTop (entryFrame m #[(.ref ax), (.int (Int32.ofNat nx))] 3)) t := fun t k => pre5 t (by
    show Steps p.tables e below (T4.setTop (mkF m 17 #[.val (.ref ax), .val (.int (Int32.ofNat nx)), .unset] [(.ref b4)])) _
    refine XS.astoreN X4.here hx rfl (hb hby d5_17) rfl rfl (l' := #[.val (.ref ax), .val (.int (Int32.ofNat nx)), .val (.ref b4)]) rfl ?_
    refine XS.aloadN X4.here hx rfl (hb hby d5_18) rfl rfl ?_
    refine XS.iconst X4.here hx rfl (hb hby d5_19) ?_
    refine XS.aloadN X4.here hx rfl (hb hby d5_20) rfl rfl ?_
    refine XS.iconst X4.here hx rfl (hb hby d5_21) ?_
    refine XS.aloadN X4.here hx rfl (hb hby d5_22) rfl rfl ?_
    refine gLen X4 hx hZ e4 R4 1 rfl (g := (mkF m 23 #[.val (.ref ax), .val (.int (Int32.ofNat nx)), .val (.ref b4)] [(.ref ax), (.int (0 : Int32)), (.ref b4), (.int (0 : Int32)), (.ref ax)])) rfl rfl (hb hby d5_23) (z := (Int32.ofNat xs.length)) (by rw [nl_len]) _ ?_
    show Steps p.tables e below (T4.setTop (mkF m 24 #[.val (.ref ax), .val (.int (Int32.ofNat nx)), .val (.ref b4)] [(.int (Int32.ofNat xs.length)), (.int (0 : Int32)), (.ref b4), (.int (0 : Int32)), (.ref ax)])) _
    refine XS.iloadN X4.here hx rfl (hb hby d5_24) rfl ?_
    exact k)
  obtain ⟨_, _, ⟨T7, L7, k7, n7⟩, -, X7, ⟨Lc7, hQ7, l7, y7, z7⟩, st7⟩ := Jvm.LawKit.callS X4 hx (y := (⟨"java/lang/Math", "min", "(II)I"⟩ : MethodName)) hown (mvT hZ (hw _ (List.mem_of_getElem? (i := 51) rfl))) (mvT hZ (hw _ (List.mem_of_getElem? (i := 52) rfl))) (mvT hZ (hw _ (List.mem_of_getElem? (i := 20) rfl))) (mvT hZ (hw _ (List.mem_of_getElem? (i := 53) rfl))) (by decide) (backOf (W := 4) (rm6 l Z a0 hw [] (Int32.ofNat xs.length) (Int32.ofNat nx)  h4 n0 _ R4 ) hZ (hw _ (List.mem_of_getElem? (i := 53) rfl)) (hw _ (List.mem_of_getElem? (i := 20) rfl)) (by decide) (by decide)) (g := (mkF m 25 #[.val (.ref ax), .val (.int (Int32.ofNat nx)), .val (.ref b4)] [(.int (Int32.ofNat nx)), (.int (Int32.ofNat xs.length)), (.int (0 : Int32)), (.ref b4), (.int (0 : Int32)), (.ref ax)])) rfl (by rw [hml]; rfl) (argsL := [(.int (Int32.ofNat xs.length)), (.int (Int32.ofNat nx))]) (rest := [(.int (0 : Int32)), (.ref b4), (.int (0 : Int32)), (.ref ax)]) (lenOf pd__28II_29I rfl) rfl (by show 2 * 0 + _ ≤ _; exact Nat.le_of_eq rfl) (hb hby d5_25) (fun _ _ => ⟨rfl, e4, (by decide : 1 + 0 ≤ _), (by decide : 8 + 0 ≤ _)⟩)
  dsimp only [Pt.U, Pt.locs, Pt.cells, Pt.slots] at X7 l7 y7 z7 st7 hQ7
  subst y7 z7
  obtain ⟨rfl, N7q, R7⟩ := hQ7
  have N7 : Fr n0 L7 := by rw [l7]; exact Fr.app N0 N7q
  replace R7 : Rep Z n0 T7.heap ((b4, Ar .int (nl (List.replicate nx 0))) :: (ax, Ar .int (nl xs)) :: Rst) := R7
  have pre8 : ∀ t, Steps p.tables e below (T7.setTop (mkF m 28 #[.val (.ref ax), .val (.int (Int32.ofNat nx)), .val (.ref b4)] [(.int (F6 (Int32.ofNat xs.length) (Int32.ofNat nx))), (.int (0 : Int32)), (.ref b4), (.int (0 : Int32)), (.ref ax)])) t → Steps p.tables e below (s₁.setTop (entryFrame m #[(.ref ax), (.int (Int32.ofNat nx))] 3)) t := fun t k => pre6 t (st7 t k)
  rw [own_min (by omega) (by omega) hle] at pre8
  obtain ⟨T9, h9, ls9, X9, e9, N9, R9, st9⟩ := gCopy X7 hx hZ hown (hw _ (List.mem_of_getElem? (i := 54) rfl)) (hw _ (List.mem_of_getElem? (i := 57) rfl)) (hw _ (List.mem_of_getElem? (i := 55) rfl)) (hw _ (List.mem_of_getElem? (i := 56) rfl)) rfl N7 R7 1 0 rfl rfl rfl (by rw [nl_len]; omega) (by rw [nl_len, List.length_replicate]; omega) (sp := (0 : Int32)) (dp := (0 : Int32)) (nn := (Int32.ofNat nx)) (by decide) (by decide) (n_nn (by omega)) 0 0 nx (rfl) (rfl) (n_ix (by omega)) (by rw [nl_len]; omega) (by rw [nl_len, List.length_replicate]; omega) (g := (mkF m 28 #[.val (.ref ax), .val (.int (Int32.ofNat nx)), .val (.ref b4)] [(.int (Int32.ofNat nx)), (.int (0 : Int32)), (.ref b4), (.int (0 : Int32)), (.ref ax)])) rfl (by rw [hml]; rfl) rfl (hb hby d5_28) (by decide) (W := 0) (by show 2 * 0 + _ ≤ _; exact Nat.le_of_eq rfl) (by decide)
  replace R9 : Rep Z n0 h9 ((b4, Ar .int (nl (xs.take nx))) :: (ax, Ar .int (nl xs)) :: Rst) := own_copy hle ▸ R9
  have pre10 : ∀ t, Steps p.tables e below (T9.setTop (mkF m 31 #[.val (.ref ax), .val (.int (Int32.ofNat nx)), .val (.ref b4)] [])) t → Steps p.tables e below (s₁.setTop (entryFrame m #[(.ref ax), (.int (Int32.ofNat nx))] 3)) t := fun t k => pre8 t (st9 t k)
  have pre11 : ∀ t, Steps p.tables e below (T9.setTop (mkF m 32 #[.val (.ref ax), .val (.int (Int32.ofNat nx)), .val (.ref b4)] [(.ref b4)])) t → Steps p.tables e below (s₁.setTop (entryFrame m #[(.ref ax), (.int (Int32.ofNat nx))] 3)) t := fun t k => pre10 t (by
    show Steps p.tables e below (T9.setTop (mkF m 31 #[.val (.ref ax), .val (.int (Int32.ofNat nx)), .val (.ref b4)] [])) _
    refine XS.aloadN X9.here hx rfl (hb hby d5_31) rfl rfl ?_
    exact k)
  obtain ⟨fs, hr, hrun, hended, hW, hsame⟩ := X9.leave (v := some (.ref b4)) (fun h => by rw [Bd.returns] at h; cases h) (BodyLoose.notSynchronized Bd)
  refine ⟨_, _, pre11 _ ?_, hrun, hended, _, _, rfl, ?_, ⟨_, rfl⟩, hW, hsame.mono (by decide) (by decide)⟩
  · show Steps p.tables e below (T9.setTop (mkF m 32 #[.val (.ref ax), .val (.int (Int32.ofNat nx)), .val (.ref b4)] [(.ref b4)])) _
    exact Jvm.Own.retA X9 hx (t := (.array .int)) rfl Bd.returns (hb hby d5_32) hr
  · show Q5 Z ax nx xs n0 Rst _ T9.heap _
    rw [e9]
    exact ⟨b4, rfl, N9, (by exact R9)⟩
theorem d2_87 : decode prog_15_method_1_code 87 = .ok (.iload 7, 2) := by decide +kernel
theorem d2_89 : decode prog_15_method_1_code 89 = .ok (.iload 6, 2) := by decide +kernel
theorem d2_91 : decode prog_15_method_1_code 91 = .ok (.if_icmp .ge 27, 3) := by decide +kernel
theorem d2_94 : decode prog_15_method_1_code 94 = .ok (.aload 5, 2) := by decide +kernel
theorem d2_96 : decode prog_15_method_1_code 96 = .ok (.iload 7, 2) := by decide +kernel
theorem d2_98 : decode prog_15_method_1_code 98 = .ok (.iaload, 1) := by decide +kernel
theorem d2_99 : decode prog_15_method_1_code 99 = .ok (.istore 8, 2) := by decide +kernel
theorem d2_101 : decode prog_15_method_1_code 101 = .ok (.aload_n 0, 1) := by decide +kernel
theorem d2_102 : decode prog_15_method_1_code 102 = .ok (.getfield 33, 3) := by decide +kernel
theorem d2_105 : decode prog_15_method_1_code 105 = .ok (.iload 8, 2) := by decide +kernel
theorem d2_107 : decode prog_15_method_1_code 107 = .ok (.dup2, 1) := by decide +kernel
theorem d2_108 : decode prog_15_method_1_code 108 = .ok (.iaload, 1) := by decide +kernel
theorem d2_109 : decode prog_15_method_1_code 109 = .ok (.iconst 1, 1) := by decide +kernel
theorem d2_110 : decode prog_15_method_1_code 110 = .ok (.iadd, 1) := by decide +kernel
theorem d2_111 : decode prog_15_method_1_code 111 = .ok (.iastore, 1) := by decide +kernel
theorem d2_112 : decode prog_15_method_1_code 112 = .ok (.iinc 7 1, 3) := by decide +kernel
theorem d2_115 : decode prog_15_method_1_code 115 = .ok (.goto (-28), 3) := by decide +kernel
set_option maxRecDepth 65536 in
set_option maxHeartbeats 40000000 in
theorem l1_turn {p : Program} {l : Launch} {e : Env} {R : Room} {s : State} {m : MethodId} {args : Array Value} {below : List Frame} {meth : Method} {c : Code} {T0 : State} {locs : List Loc} {cells slots : Nat} {Z : State} {a0 : Array Value} {h0 : Heap} {n0 : Nat} {Rst : RL} (ax : Addr) (ix : Addr) (b1 : Addr) (b2 : Addr) (b3 : Addr) (b4 : Addr) (b5 : Addr) (b6 : Addr) (b7 : Addr) (cnt : Nat) (sz : Nat) (cap : Nat) (i : Nat) (s8 : Slot) (en : List Nat) (es : List Nat)
    (X0 : Stand p l e R s m args below meth c T0 locs cells slots) (hx : p.tables.exec = Jvm.exec) (hZ : Z.Warmed39 s.vm) (hw : ∀ d ∈ tables_1, d.before a0 Z = true) (hby : c.code = prog_15_method_1_code) (hml : c.maxLocals = 9) (hown : s.vm.findClass "com/example/witgen/witgen/regex/Partition" = some m.cls) (e0 : T0.heap = h0) (N0 : Fr n0 locs) (R0 : Rep Z n0 h0 ((ax, Obj "com/example/witgen/witgen/regex/Partition" [("elements", "[I", (.ref b1)), ("location", "[I", (.ref b2)), ("blockOf", "[I", (.ref b3)), ("start", "[I", (.ref b4)), ("end", "[I", (.ref b5)), ("marked", "[I", (.ref b6)), ("touched", "[I", (.ref b7)), ("blocks", "I", (.int (Int32.ofNat cnt))), ("touchedCount", "I", (.int (0 : Int32)))]) :: (b5, Ar .int (nl en)) :: (ix, Ar .int (nl es)) :: Rst)) (hi : i < sz) (hbd : sz < 1000) (hs8 : One1 s8) (hin98 : i < es.length) (hbd98 : i < 1000) (hin108 : (es.getD i 0) < en.length) (hbd108 : (es.getD i 0) < 1000) (hsn111 : (es.getD i 0) < en.length) (hsb111 : (es.getD i 0) < 1000) :
    ∃ (T' : State) (h' : Heap) (locs' : List Loc), Stand p l e R s m args below meth c T' locs' cells slots ∧ T'.heap = h' ∧ Fr n0 locs' ∧ Rep Z n0 h' ((ax, Obj "com/example/witgen/witgen/regex/Partition" [("elements", "[I", (.ref b1)), ("location", "[I", (.ref b2)), ("blockOf", "[I", (.ref b3)), ("start", "[I", (.ref b4)), ("end", "[I", (.ref b5)), ("marked", "[I", (.ref b6)), ("touched", "[I", (.ref b7)), ("blocks", "I", (.int (Int32.ofNat cnt))), ("touchedCount", "I", (.int (0 : Int32)))]) :: (b5, Ar .int (nl (en.set (es.getD i 0) ((en.getD (es.getD i 0) 0) + 1)))) :: (ix, Ar .int (nl es)) :: Rst) ∧ ∀ t, Steps p.tables e below (T'.setTop (mkF m 87 #[.val (.ref ax), .val (.ref ix), .val (.int (Int32.ofNat cnt)), .val (.int (Int32.ofNat sz)), .val (.int (Int32.ofNat cap)), .val (.ref ix), .val (.int (Int32.ofNat sz)), .val (.int (Int32.ofNat (i + 1))), .val (.int (Int32.ofNat (es.getD i 0)))] [])) t → Steps p.tables e below (T0.setTop (mkF m 87 #[.val (.ref ax), .val (.ref ix), .val (.int (Int32.ofNat cnt)), .val (.int (Int32.ofNat sz)), .val (.int (Int32.ofNat cap)), .val (.ref ix), .val (.int (Int32.ofNat sz)), .val (.int (Int32.ofNat i)), s8] [])) t := by
  have pre0 : ∀ t, Steps p.tables e below (T0.setTop (mkF m 87 #[.val (.ref ax), .val (.ref ix), .val (.int (Int32.ofNat cnt)), .val (.int (Int32.ofNat sz)), .val (.int (Int32.ofNat cap)), .val (.ref ix), .val (.int (Int32.ofNat sz)), .val (.int (Int32.ofNat i)), s8] [])) t → Steps p.tables e below (T0.setTop (mkF m 87 #[.val (.ref ax), .val (.ref ix), .val (.int (Int32.ofNat cnt)), .val (.int (Int32.ofNat sz)), .val (.int (Int32.ofNat cap)), .val (.ref ix), .val (.int (Int32.ofNat sz)), .val (.int (Int32.ofNat i)), s8] [])) t := fun t k => k
  have pre2 : ∀ t, Steps p.tables e below (T0.setTop (mkF m 91 #[.val (.ref ax), .val (.ref ix), .val (.int (Int32.ofNat cnt)), .val (.int (Int32.ofNat sz)), .val (.int (Int32.ofNat cap)), .val (.ref ix), .val (.int (Int32.ofNat sz)), .val (.int (Int32.ofNat i)), s8] [(.int (Int32.ofNat sz)), (.int (Int32.ofNat i))])) t → Steps p.tables e below (T0.setTop (mkF m 87 #[.val (.ref ax), .val (.ref ix), .val (.int (Int32.ofNat cnt)), .val (.int (Int32.ofNat sz)), .val (.int (Int32.ofNat cap)), .val (.ref ix), .val (.int (Int32.ofNat sz)), .val (.int (Int32.ofNat i)), s8] [])) t := fun t k => pre0 t (by
    show Steps p.tables e below (T0.setTop (mkF m 87 #[.val (.ref ax), .val (.ref ix), .val (.int (Int32.ofNat cnt)), .val (.int (Int32.ofNat sz)), .val (.int (Int32.ofNat cap)), .val (.ref ix), .val (.int (Int32.ofNat sz)), .val (.int (Int32.ofNat i)), s8] [])) _
    refine XS.iload X0.here hx rfl (hb hby d2_87) rfl ?_
    refine XS.iload X0.here hx rfl (hb hby d2_89) rfl ?_
    exact k)
  have hb1 : (Int32.ofNat i) < (Int32.ofNat sz) := n_lt hi hbd
  have pre3 : ∀ t, Steps p.tables e below (T0.setTop (mkF m 102 #[.val (.ref ax), .val (.ref ix), .val (.int (Int32.ofNat cnt)), .val (.int (Int32.ofNat sz)), .val (.int (Int32.ofNat cap)), .val (.ref ix), .val (.int (Int32.ofNat sz)), .val (.int (Int32.ofNat i)), .val (.int (Int32.ofNat (es.getD i 0)))] [(.ref ax)])) t → Steps p.tables e below (T0.setTop (mkF m 87 #[.val (.ref ax), .val (.ref ix), .val (.int (Int32.ofNat cnt)), .val (.int (Int32.ofNat sz)), .val (.int (Int32.ofNat cap)), .val (.ref ix), .val (.int (Int32.ofNat sz)), .val (.int (Int32.ofNat i)), s8] [])) t := fun t k => pre2 t (by
    show Steps p.tables e below (T0.setTop (mkF m 91 #[.val (.ref ax), .val (.ref ix), .val (.int (Int32.ofNat cnt)), .val (.int (Int32.ofNat sz)), .val (.int (Int32.ofNat cap)), .val (.ref ix), .val (.int (Int32.ofNat sz)), .val (.int (Int32.ofNat i)), s8] [(.int (Int32.ofNat sz)), (.int (Int32.ofNat i))])) _
    refine XS.icmpNo X0.here hx rfl (hb hby d2_91) rfl (tlt hb1).2.1 ?_
    refine XS.aload X0.here hx rfl (hb hby d2_94) rfl rfl ?_
    refine XS.iload X0.here hx rfl (hb hby d2_96) rfl ?_
    refine gIald X0 hx hZ e0 R0 2 rfl (j := (Int32.ofNat i)) (v := (.int (Int32.ofNat (es.getD i 0)))) (n_nn hbd98) (nl_at hin98 hbd98) (g := (mkF m 98 #[.val (.ref ax), .val (.ref ix), .val (.int (Int32.ofNat cnt)), .val (.int (Int32.ofNat sz)), .val (.int (Int32.ofNat cap)), .val (.ref ix), .val (.int (Int32.ofNat sz)), .val (.int (Int32.ofNat i)), s8] [(.int (Int32.ofNat i)), (.ref ix)])) rfl rfl (hb hby d2_98) _ ?_
    refine XS.istoreS X0.here hx rfl (hb hby d2_99) rfl (o := s8) rfl hs8 ?_
    refine XS.aloadN X0.here hx rfl (hb hby d2_101) rfl rfl ?_
    exact k)
  obtain ⟨T4, X4, e4, st4⟩ := gGet X0 hx hZ hown (host := "") (Or.inl (hw _ (List.mem_of_getElem? (i := 39) rfl))) e0 R0 0 4 rfl rfl (g := (mkF m 102 #[.val (.ref ax), .val (.ref ix), .val (.int (Int32.ofNat cnt)), .val (.int (Int32.ofNat sz)), .val (.int (Int32.ofNat cap)), .val (.ref ix), .val (.int (Int32.ofNat sz)), .val (.int (Int32.ofNat i)), .val (.int (Int32.ofNat (es.getD i 0)))] [(.ref ax)])) rfl rfl (hb hby d2_102)
  have pre5 : ∀ t, Steps p.tables e below (T4.setTop (mkF m 105 #[.val (.ref ax), .val (.ref ix), .val (.int (Int32.ofNat cnt)), .val (.int (Int32.ofNat sz)), .val (.int (Int32.ofNat cap)), .val (.ref ix), .val (.int (Int32.ofNat sz)), .val (.int (Int32.ofNat i)), .val (.int (Int32.ofNat (es.getD i 0)))] [(.ref b5)])) t → Steps p.tables e below (T0.setTop (mkF m 87 #[.val (.ref ax), .val (.ref ix), .val (.int (Int32.ofNat cnt)), .val (.int (Int32.ofNat sz)), .val (.int (Int32.ofNat cap)), .val (.ref ix), .val (.int (Int32.ofNat sz)), .val (.int (Int32.ofNat i)), s8] [])) t := fun t k => pre3 t (st4 t k)
  have pre6 : ∀ t, Steps p.tables e below (T4.setTop (mkF m 111 #[.val (.ref ax), .val (.ref ix), .val (.int (Int32.ofNat cnt)), .val (.int (Int32.ofNat sz)), .val (.int (Int32.ofNat cap)), .val (.ref ix), .val (.int (Int32.ofNat sz)), .val (.int (Int32.ofNat i)), .val (.int (Int32.ofNat (es.getD i 0)))] [(.int (Int32.ofNat ((en.getD (es.getD i 0) 0) + 1))), (.int (Int32.ofNat (es.getD i 0))), (.ref b5)])) t → Steps p.tables e below (T0.setTop (mkF m 87 #[.val (.ref ax), .val (.ref ix), .val (.int (Int32.ofNat cnt)), .val (.int (Int32.ofNat sz)), .val (.int (Int32.ofNat cap)), .val (.ref ix), .val (.int (Int32.ofNat sz)), .val (.int (Int32.ofNat i)), s8] [])) t := fun t k => pre5 t (by
    show Steps p.tables e below (T4.setTop (mkF m 105 #[.val (.ref ax), .val (.ref ix), .val (.int (Int32.ofNat cnt)), .val (.int (Int32.ofNat sz)), .val (.int (Int32.ofNat cap)), .val (.ref ix), .val (.int (Int32.ofNat sz)), .val (.int (Int32.ofNat i)), .val (.int (Int32.ofNat (es.getD i 0)))] [(.ref b5)])) _
    refine XS.iload X4.here hx rfl (hb hby d2_105) rfl ?_
    refine xDup2 X4.here hx rfl (hb hby d2_107) rfl rfl rfl ?_
    refine gIald X4 hx hZ e4 R0 1 rfl (j := (Int32.ofNat (es.getD i 0))) (v := (.int (Int32.ofNat (en.getD (es.getD i 0) 0)))) (n_nn hbd108) (nl_at hin108 hbd108) (g := (mkF m 108 #[.val (.ref ax), .val (.ref ix), .val (.int (Int32.ofNat cnt)), .val (.int (Int32.ofNat sz)), .val (.int (Int32.ofNat cap)), .val (.ref ix), .val (.int (Int32.ofNat sz)), .val (.int (Int32.ofNat i)), .val (.int (Int32.ofNat (es.getD i 0)))] [(.int (Int32.ofNat (es.getD i 0))), (.ref b5), (.int (Int32.ofNat (es.getD i 0))), (.ref b5)])) rfl rfl (hb hby d2_108) _ ?_
    refine XS.iconst X4.here hx rfl (hb hby d2_109) ?_
    refine XS.iadd X4.here hx rfl (hb hby d2_110) rfl ?_
    change Steps p.tables e below (T4.setTop (mkF m 111 #[.val (.ref ax), .val (.ref ix), .val (.int (Int32.ofNat cnt)), .val (.int (Int32.ofNat sz)), .val (.int (Int32.ofNat cap)), .val (.ref ix), .val (.int (Int32.ofNat sz)), .val (.int (Int32.ofNat i)), .val (.int (Int32.ofNat (es.getD i 0)))] [(.int ((Int32.ofNat (en.getD (es.getD i 0) 0)) + (1 : Int32))), (.int (Int32.ofNat (es.getD i 0))), (.ref b5)])) _
    rw [n_one]
    exact k)
  obtain ⟨T7, h7, ls7, X7, e7, N7, R7, st7⟩ := gIst X4 hx hZ e4 N0 R0 1 rfl (j := (Int32.ofNat (es.getD i 0))) (n_nn hsb111) ((es.getD i 0)) (n_ix hsb111) (nl_lt hsn111) (g := (mkF m 111 #[.val (.ref ax), .val (.ref ix), .val (.int (Int32.ofNat cnt)), .val (.int (Int32.ofNat sz)), .val (.int (Int32.ofNat cap)), .val (.ref ix), .val (.int (Int32.ofNat sz)), .val (.int (Int32.ofNat i)), .val (.int (Int32.ofNat (es.getD i 0)))] [(.int (Int32.ofNat ((en.getD (es.getD i 0) 0) + 1))), (.int (Int32.ofNat (es.getD i 0))), (.ref b5)])) rfl rfl (hb hby d2_111)
  replace R7 : Rep Z n0 h7 ((ax, Obj "com/example/witgen/witgen/regex/Partition" [("elements", "[I", (.ref b1)), ("location", "[I", (.ref b2)), ("blockOf", "[I", (.ref b3)), ("start", "[I", (.ref b4)), ("end", "[I", (.ref b5)), ("marked", "[I", (.ref b6)), ("touched", "[I", (.ref b7)), ("blocks", "I", (.int (Int32.ofNat cnt))), ("touchedCount", "I", (.int (0 : Int32)))]) :: (b5, Ar .int (nl (en.set (es.getD i 0) ((en.getD (es.getD i 0) 0) + 1)))) :: (ix, Ar .int (nl es)) :: Rst) := by rw [← nl_set en (es.getD i 0) ((en.getD (es.getD i 0) 0) + 1)]; exact R7
  have pre8 : ∀ t, Steps p.tables e below (T7.setTop (mkF m 112 #[.val (.ref ax), .val (.ref ix), .val (.int (Int32.ofNat cnt)), .val (.int (Int32.ofNat sz)), .val (.int (Int32.ofNat cap)), .val (.ref ix), .val (.int (Int32.ofNat sz)), .val (.int (Int32.ofNat i)), .val (.int (Int32.ofNat (es.getD i 0)))] [])) t → Steps p.tables e below (T0.setTop (mkF m 87 #[.val (.ref ax), .val (.ref ix), .val (.int (Int32.ofNat cnt)), .val (.int (Int32.ofNat sz)), .val (.int (Int32.ofNat cap)), .val (.ref ix), .val (.int (Int32.ofNat sz)), .val (.int (Int32.ofNat i)), s8] [])) t := fun t k => pre6 t (st7 t k)
  have pre9 : ∀ t, Steps p.tables e below (T7.setTop (mkF m 87 #[.val (.ref ax), .val (.ref ix), .val (.int (Int32.ofNat cnt)), .val (.int (Int32.ofNat sz)), .val (.int (Int32.ofNat cap)), .val (.ref ix), .val (.int (Int32.ofNat sz)), .val (.int (Int32.ofNat (i + 1))), .val (.int (Int32.ofNat (es.getD i 0)))] [])) t → Steps p.tables e below (T0.setTop (mkF m 87 #[.val (.ref ax), .val (.ref ix), .val (.int (Int32.ofNat cnt)), .val (.int (Int32.ofNat sz)), .val (.int (Int32.ofNat cap)), .val (.ref ix), .val (.int (Int32.ofNat sz)), .val (.int (Int32.ofNat i)), s8] [])) t := fun t k => pre8 t (by
    show Steps p.tables e below (T7.setTop (mkF m 112 #[.val (.ref ax), .val (.ref ix), .val (.int (Int32.ofNat cnt)), .val (.int (Int32.ofNat sz)), .val (.int (Int32.ofNat cap)), .val (.ref ix), .val (.int (Int32.ofNat sz)), .val (.int (Int32.ofNat i)), .val (.int (Int32.ofNat (es.getD i 0)))] [])) _
    refine XS.iinc X7.here hx rfl (hb hby d2_112) rfl (l' := #[.val (.ref ax), .val (.ref ix), .val (.int (Int32.ofNat cnt)), .val (.int (Int32.ofNat sz)), .val (.int (Int32.ofNat cap)), .val (.ref ix), .val (.int (Int32.ofNat sz)), .val (.int ((Int32.ofNat i) + (1 : Int32))), .val (.int (Int32.ofNat (es.getD i 0)))]) rfl ?_
    change Steps p.tables e below (T7.setTop (mkF m 115 #[.val (.ref ax), .val (.ref ix), .val (.int (Int32.ofNat cnt)), .val (.int (Int32.ofNat sz)), .val (.int (Int32.ofNat cap)), .val (.ref ix), .val (.int (Int32.ofNat sz)), .val (.int ((Int32.ofNat i) + (1 : Int32))), .val (.int (Int32.ofNat (es.getD i 0)))] [])) _
    rw [n_one]
    show Steps p.tables e below (T7.setTop (mkF m 115 #[.val (.ref ax), .val (.ref ix), .val (.int (Int32.ofNat cnt)), .val (.int (Int32.ofNat sz)), .val (.int (Int32.ofNat cap)), .val (.ref ix), .val (.int (Int32.ofNat sz)), .val (.int (Int32.ofNat (i + 1))), .val (.int (Int32.ofNat (es.getD i 0)))] [])) _
    refine XS.goto X7.here hx rfl (pc0 := 115) (pc' := 87) rfl (hb hby d2_115) (by decide) (by decide) ?_
    exact k)
  exact ⟨T7, h7, _, X7, e7, N7, R7, pre9⟩
set_option maxRecDepth 65536 in
set_option maxHeartbeats 40000000 in
theorem l1_out {p : Program} {l : Launch} {e : Env} {R : Room} {s : State} {m : MethodId} {args : Array Value} {below : List Frame} {meth : Method} {c : Code} {T0 : State} {locs : List Loc} {cells slots : Nat} {Z : State} {a0 : Array Value} {h0 : Heap} {n0 : Nat} {Rst : RL} (ax : Addr) (ix : Addr) (b1 : Addr) (b2 : Addr) (b3 : Addr) (b4 : Addr) (b5 : Addr) (b6 : Addr) (b7 : Addr) (cnt : Nat) (sz : Nat) (cap : Nat) (i : Nat) (s8 : Slot) (en : List Nat) (es : List Nat)
    (X0 : Stand p l e R s m args below meth c T0 locs cells slots) (hx : p.tables.exec = Jvm.exec) (hZ : Z.Warmed39 s.vm) (hw : ∀ d ∈ tables_1, d.before a0 Z = true) (hby : c.code = prog_15_method_1_code) (hml : c.maxLocals = 9) (hown : s.vm.findClass "com/example/witgen/witgen/regex/Partition" = some m.cls) (e0 : T0.heap = h0) (N0 : Fr n0 locs) (R0 : Rep Z n0 h0 ((ax, Obj "com/example/witgen/witgen/regex/Partition" [("elements", "[I", (.ref b1)), ("location", "[I", (.ref b2)), ("blockOf", "[I", (.ref b3)), ("start", "[I", (.ref b4)), ("end", "[I", (.ref b5)), ("marked", "[I", (.ref b6)), ("touched", "[I", (.ref b7)), ("blocks", "I", (.int (Int32.ofNat cnt))), ("touchedCount", "I", (.int (0 : Int32)))]) :: (b5, Ar .int (nl en)) :: (ix, Ar .int (nl es)) :: Rst)) (hi : sz ≤ i) (hbd : i < 1000) :
    ∃ (T' : State) (h' : Heap) (locs' : List Loc), Stand p l e R s m args below meth c T' locs' cells slots ∧ T'.heap = h' ∧ Fr n0 locs' ∧ Rep Z n0 h' ((ax, Obj "com/example/witgen/witgen/regex/Partition" [("elements", "[I", (.ref b1)), ("location", "[I", (.ref b2)), ("blockOf", "[I", (.ref b3)), ("start", "[I", (.ref b4)), ("end", "[I", (.ref b5)), ("marked", "[I", (.ref b6)), ("touched", "[I", (.ref b7)), ("blocks", "I", (.int (Int32.ofNat cnt))), ("touchedCount", "I", (.int (0 : Int32)))]) :: (b5, Ar .int (nl en)) :: (ix, Ar .int (nl es)) :: Rst) ∧ ∀ t, Steps p.tables e below (T'.setTop (mkF m 118 #[.val (.ref ax), .val (.ref ix), .val (.int (Int32.ofNat cnt)), .val (.int (Int32.ofNat sz)), .val (.int (Int32.ofNat cap)), .val (.ref ix), .val (.int (Int32.ofNat sz)), .val (.int (Int32.ofNat i)), s8] [])) t → Steps p.tables e below (T0.setTop (mkF m 87 #[.val (.ref ax), .val (.ref ix), .val (.int (Int32.ofNat cnt)), .val (.int (Int32.ofNat sz)), .val (.int (Int32.ofNat cap)), .val (.ref ix), .val (.int (Int32.ofNat sz)), .val (.int (Int32.ofNat i)), s8] [])) t := by
  have pre0 : ∀ t, Steps p.tables e below (T0.setTop (mkF m 87 #[.val (.ref ax), .val (.ref ix), .val (.int (Int32.ofNat cnt)), .val (.int (Int32.ofNat sz)), .val (.int (Int32.ofNat cap)), .val (.ref ix), .val (.int (Int32.ofNat sz)), .val (.int (Int32.ofNat i)), s8] [])) t → Steps p.tables e below (T0.setTop (mkF m 87 #[.val (.ref ax), .val (.ref ix), .val (.int (Int32.ofNat cnt)), .val (.int (Int32.ofNat sz)), .val (.int (Int32.ofNat cap)), .val (.ref ix), .val (.int (Int32.ofNat sz)), .val (.int (Int32.ofNat i)), s8] [])) t := fun t k => k
  have pre2 : ∀ t, Steps p.tables e below (T0.setTop (mkF m 91 #[.val (.ref ax), .val (.ref ix), .val (.int (Int32.ofNat cnt)), .val (.int (Int32.ofNat sz)), .val (.int (Int32.ofNat cap)), .val (.ref ix), .val (.int (Int32.ofNat sz)), .val (.int (Int32.ofNat i)), s8] [(.int (Int32.ofNat sz)), (.int (Int32.ofNat i))])) t → Steps p.tables e below (T0.setTop (mkF m 87 #[.val (.ref ax), .val (.ref ix), .val (.int (Int32.ofNat cnt)), .val (.int (Int32.ofNat sz)), .val (.int (Int32.ofNat cap)), .val (.ref ix), .val (.int (Int32.ofNat sz)), .val (.int (Int32.ofNat i)), s8] [])) t := fun t k => pre0 t (by
    show Steps p.tables e below (T0.setTop (mkF m 87 #[.val (.ref ax), .val (.ref ix), .val (.int (Int32.ofNat cnt)), .val (.int (Int32.ofNat sz)), .val (.int (Int32.ofNat cap)), .val (.ref ix), .val (.int (Int32.ofNat sz)), .val (.int (Int32.ofNat i)), s8] [])) _
    refine XS.iload X0.here hx rfl (hb hby d2_87) rfl ?_
    refine XS.iload X0.here hx rfl (hb hby d2_89) rfl ?_
    exact k)
  have hb1 : ¬ ((Int32.ofNat i) < (Int32.ofNat sz)) := n_nlt hi hbd
  have pre3 : ∀ t, Steps p.tables e below (T0.setTop (mkF m 118 #[.val (.ref ax), .val (.ref ix), .val (.int (Int32.ofNat cnt)), .val (.int (Int32.ofNat sz)), .val (.int (Int32.ofNat cap)), .val (.ref ix), .val (.int (Int32.ofNat sz)), .val (.int (Int32.ofNat i)), s8] [])) t → Steps p.tables e below (T0.setTop (mkF m 87 #[.val (.ref ax), .val (.ref ix), .val (.int (Int32.ofNat cnt)), .val (.int (Int32.ofNat sz)), .val (.int (Int32.ofNat cap)), .val (.ref ix), .val (.int (Int32.ofNat sz)), .val (.int (Int32.ofNat i)), s8] [])) t := fun t k => pre2 t (by
    show Steps p.tables e below (T0.setTop (mkF m 91 #[.val (.ref ax), .val (.ref ix), .val (.int (Int32.ofNat cnt)), .val (.int (Int32.ofNat sz)), .val (.int (Int32.ofNat cap)), .val (.ref ix), .val (.int (Int32.ofNat sz)), .val (.int (Int32.ofNat i)), s8] [(.int (Int32.ofNat sz)), (.int (Int32.ofNat i))])) _
    refine XS.icmpYes X0.here hx rfl (pc0 := 91) (pc' := 118) rfl (hb hby d2_91) rfl (flt hb1).2.1 (by decide) (by decide) ?_
    exact k)
  exact ⟨T0, h0, _, X0, e0, N0, R0, pre3⟩
def s1 (es : List Nat) : Nat → Nat → List Nat → List Nat
  | 0, _, en => en
  | k + 1, i, en => s1 es k (i + 1) (en.set (es.getD i 0) (en.getD (es.getD i 0) 0 + 1))
def ok1 (es : List Nat) : Nat → Nat → List Nat → Bool
  | 0, _, _ => true
  | k + 1, i, en => decide (i < es.length) && decide (i < 1000) && decide (es.getD i 0 < en.length) && decide (es.getD i 0 < 1000) && ok1 es k (i + 1) (en.set (es.getD i 0) (en.getD (es.getD i 0) 0 + 1))
theorem l1_loop {p : Program} {l : Launch} {e : Env} {R : Room} {s : State} {m : MethodId} {args : Array Value} {below : List Frame} {meth : Method} {c : Code} {cells slots : Nat} {Z : State} {a0 : Array Value} {n0 : Nat} {Rst : RL} (ax ix : Addr) (b1 b2 b3 b4 b5 b6 b7 : Addr) (cnt sz cap : Nat) (es : List Nat) (hbd : sz < 1000) (hx : p.tables.exec = Jvm.exec) (hZ : Z.Warmed39 s.vm) (hw : ∀ d ∈ tables_1, d.before a0 Z = true) (hby : c.code = prog_15_method_1_code) (hml : c.maxLocals = 9) (hown : s.vm.findClass "com/example/witgen/witgen/regex/Partition" = some m.cls) :
    ∀ (k i : Nat) (s8 : Slot) (en : List Nat) (T0 : State) (locs : List Loc) (h0 : Heap), i + k = sz → ok1 es k i en = true → One1 s8 → Stand p l e R s m args below meth c T0 locs cells slots → T0.heap = h0 → Fr n0 locs → Rep Z n0 h0 ((ax, Obj "com/example/witgen/witgen/regex/Partition" [("elements", "[I", (.ref b1)), ("location", "[I", (.ref b2)), ("blockOf", "[I", (.ref b3)), ("start", "[I", (.ref b4)), ("end", "[I", (.ref b5)), ("marked", "[I", (.ref b6)), ("touched", "[I", (.ref b7)), ("blocks", "I", (.int (Int32.ofNat cnt))), ("touchedCount", "I", (.int (0 : Int32)))]) :: (b5, Ar .int (nl en)) :: (ix, Ar .int (nl es)) :: Rst) →
      ∃ (s8' : Slot) (T' : State) (h' : Heap) (locs' : List Loc), One1 s8' ∧ Stand p l e R s m args below meth c T' locs' cells slots ∧ T'.heap = h' ∧ Fr n0 locs' ∧ Rep Z n0 h' ((ax, Obj "com/example/witgen/witgen/regex/Partition" [("elements", "[I", (.ref b1)), ("location", "[I", (.ref b2)), ("blockOf", "[I", (.ref b3)), ("start", "[I", (.ref b4)), ("end", "[I", (.ref b5)), ("marked", "[I", (.ref b6)), ("touched", "[I", (.ref b7)), ("blocks", "I", (.int (Int32.ofNat cnt))), ("touchedCount", "I", (.int (0 : Int32)))]) :: (b5, Ar .int (nl (s1 es k i en))) :: (ix, Ar .int (nl es)) :: Rst) ∧ ∀ t, Steps p.tables e below (T'.setTop (mkF m 118 #[.val (.ref ax), .val (.ref ix), .val (.int (Int32.ofNat cnt)), .val (.int (Int32.ofNat sz)), .val (.int (Int32.ofNat cap)), .val (.ref ix), .val (.int (Int32.ofNat sz)), .val (.int (Int32.ofNat sz)), s8'] [])) t → Steps p.tables e below (T0.setTop (mkF m 87 #[.val (.ref ax), .val (.ref ix), .val (.int (Int32.ofNat cnt)), .val (.int (Int32.ofNat sz)), .val (.int (Int32.ofNat cap)), .val (.ref ix), .val (.int (Int32.ofNat sz)), .val (.int (Int32.ofNat i)), s8] [])) t := by
  intro k
  induction k with
  | zero =>
    intro i s8 en T0 locs h0 hi ok o8 X0 e0 N0 R0
    have hi' : i = sz := by omega
    subst hi'
    obtain ⟨T1, h1, ls1, X1, e1, N1, R1, st1⟩ := l1_out ax ix b1 b2 b3 b4 b5 b6 b7 cnt i cap i s8 en es X0 hx hZ hw hby hml hown e0 N0 R0 (Nat.le_refl _) hbd
    exact ⟨s8, T1, h1, ls1, o8, X1, e1, N1, R1, st1⟩
  | succ k ih =>
    intro i s8 en T0 locs h0 hi ok o8 X0 e0 N0 R0
    simp only [ok1, Bool.and_eq_true, decide_eq_true_eq] at ok
    obtain ⟨⟨⟨⟨a1, a2⟩, a3⟩, a4⟩, a5⟩ := ok
    obtain ⟨T1, h1, ls1, X1, e1, N1, R1, st1⟩ := l1_turn ax ix b1 b2 b3 b4 b5 b6 b7 cnt sz cap i s8 en es X0 hx hZ hw hby hml hown e0 N0 R0 (by omega) hbd o8 a1 a2 a3 a4 a3 a4
    obtain ⟨s8', T2, h2, ls2, o2, X2, e2, N2, R2, st2⟩ := ih (i + 1) (.val (.int (Int32.ofNat (es.getD i 0)))) _ T1 ls1 h1 (by omega) a5 (One1.v rfl) X1 e1 N1 R1
    exact ⟨s8', T2, h2, ls2, o2, X2, e2, N2, R2, fun t q => st1 t (st2 t q)⟩
theorem d2_121 : decode prog_15_method_1_code 121 = .ok (.iload 5, 2) := by decide +kernel
theorem d2_123 : decode prog_15_method_1_code 123 = .ok (.iload_n 2, 1) := by decide +kernel
theorem d2_124 : decode prog_15_method_1_code 124 = .ok (.if_icmp .ge 28, 3) := by decide +kernel
theorem d2_127 : decode prog_15_method_1_code 127 = .ok (.aload_n 0, 1) := by decide +kernel
theorem d2_128 : decode prog_15_method_1_code 128 = .ok (.getfield 33, 3) := by decide +kernel
theorem d2_131 : decode prog_15_method_1_code 131 = .ok (.iload 5, 2) := by decide +kernel
theorem d2_133 : decode prog_15_method_1_code 133 = .ok (.dup2, 1) := by decide +kernel
theorem d2_134 : decode prog_15_method_1_code 134 = .ok (.iaload, 1) := by decide +kernel
theorem d2_135 : decode prog_15_method_1_code 135 = .ok (.aload_n 0, 1) := by decide +kernel
theorem d2_136 : decode prog_15_method_1_code 136 = .ok (.getfield 33, 3) := by decide +kernel
theorem d2_139 : decode prog_15_method_1_code 139 = .ok (.iload 5, 2) := by decide +kernel
theorem d2_141 : decode prog_15_method_1_code 141 = .ok (.iconst 1, 1) := by decide +kernel
theorem d2_142 : decode prog_15_method_1_code 142 = .ok (.isub, 1) := by decide +kernel
theorem d2_143 : decode prog_15_method_1_code 143 = .ok (.iaload, 1) := by decide +kernel
theorem d2_144 : decode prog_15_method_1_code 144 = .ok (.iadd, 1) := by decide +kernel
theorem d2_145 : decode prog_15_method_1_code 145 = .ok (.iastore, 1) := by decide +kernel
theorem d2_146 : decode prog_15_method_1_code 146 = .ok (.iinc 5 1, 3) := by decide +kernel
theorem d2_149 : decode prog_15_method_1_code 149 = .ok (.goto (-28), 3) := by decide +kernel
set_option maxRecDepth 65536 in
set_option maxHeartbeats 40000000 in
theorem l2_turn {p : Program} {l : Launch} {e : Env} {R : Room} {s : State} {m : MethodId} {args : Array Value} {below : List Frame} {meth : Method} {c : Code} {T0 : State} {locs : List Loc} {cells slots : Nat} {Z : State} {a0 : Array Value} {h0 : Heap} {n0 : Nat} {Rst : RL} (ax : Addr) (ix : Addr) (b1 : Addr) (b2 : Addr) (b3 : Addr) (b4 : Addr) (b5 : Addr) (b6 : Addr) (b7 : Addr) (cnt : Nat) (sz : Nat) (cap : Nat) (i : Nat) (s6 : Slot) (s7 : Slot) (s8 : Slot) (en : List Nat)
    (X0 : Stand p l e R s m args below meth c T0 locs cells slots) (hx : p.tables.exec = Jvm.exec) (hZ : Z.Warmed39 s.vm) (hw : ∀ d ∈ tables_1, d.before a0 Z = true) (hby : c.code = prog_15_method_1_code) (hml : c.maxLocals = 9) (hown : s.vm.findClass "com/example/witgen/witgen/regex/Partition" = some m.cls) (e0 : T0.heap = h0) (N0 : Fr n0 locs) (R0 : Rep Z n0 h0 ((ax, Obj "com/example/witgen/witgen/regex/Partition" [("elements", "[I", (.ref b1)), ("location", "[I", (.ref b2)), ("blockOf", "[I", (.ref b3)), ("start", "[I", (.ref b4)), ("end", "[I", (.ref b5)), ("marked", "[I", (.ref b6)), ("touched", "[I", (.ref b7)), ("blocks", "I", (.int (Int32.ofNat cnt))), ("touchedCount", "I", (.int (0 : Int32)))]) :: (b5, Ar .int (nl en)) :: Rst)) (hi : i < cnt) (hbd : cnt < 1000) (hin134 : i < en.length) (hbd134 : i < 1000) (hpr142 : 1 ≤ i) (hin143 : (i - 1) < en.length) (hbd143 : (i - 1) < 1000) (hsn145 : i < en.length) (hsb145 : i < 1000) :
    ∃ (T' : State) (h' : Heap) (locs' : List Loc), Stand p l e R s m args below meth c T' locs' cells slots ∧ T'.heap = h' ∧ Fr n0 locs' ∧ Rep Z n0 h' ((ax, Obj "com/example/witgen/witgen/regex/Partition" [("elements", "[I", (.ref b1)), ("location", "[I", (.ref b2)), ("blockOf", "[I", (.ref b3)), ("start", "[I", (.ref b4)), ("end", "[I", (.ref b5)), ("marked", "[I", (.ref b6)), ("touched", "[I", (.ref b7)), ("blocks", "I", (.int (Int32.ofNat cnt))), ("touchedCount", "I", (.int (0 : Int32)))]) :: (b5, Ar .int (nl (en.set i ((en.getD i 0) + (en.getD (i - 1) 0))))) :: Rst) ∧ ∀ t, Steps p.tables e below (T'.setTop (mkF m 121 #[.val (.ref ax), .val (.ref ix), .val (.int (Int32.ofNat cnt)), .val (.int (Int32.ofNat sz)), .val (.int (Int32.ofNat cap)), .val (.int (Int32.ofNat (i + 1))), s6, s7, s8] [])) t → Steps p.tables e below (T0.setTop (mkF m 121 #[.val (.ref ax), .val (.ref ix), .val (.int (Int32.ofNat cnt)), .val (.int (Int32.ofNat sz)), .val (.int (Int32.ofNat cap)), .val (.int (Int32.ofNat i)), s6, s7, s8] [])) t := by
  have pre0 : ∀ t, Steps p.tables e below (T0.setTop (mkF m 121 #[.val (.ref ax), .val (.ref ix), .val (.int (Int32.ofNat cnt)), .val (.int (Int32.ofNat sz)), .val (.int (Int32.ofNat cap)), .val (.int (Int32.ofNat i)), s6, s7, s8] [])) t → Steps p.tables e below (T0.setTop (mkF m 121 #[.val (.ref ax), .val (.ref ix), .val (.int (Int32.ofNat cnt)), .val (.int (Int32.ofNat sz)), .val (.int (Int32.ofNat cap)), .val (.int (Int32.ofNat i)), s6, s7, s8] [])) t := fun t k => k
  have pre2 : ∀ t, Steps p.tables e below (T0.setTop (mkF m 124 #[.val (.ref ax), .val (.ref ix), .val (.int (Int32.ofNat cnt)), .val (.int (Int32.ofNat sz)), .val (.int (Int32.ofNat cap)), .val (.int (Int32.ofNat i)), s6, s7, s8] [(.int (Int32.ofNat cnt)), (.int (Int32.ofNat i))])) t → Steps p.tables e below (T0.setTop (mkF m 121 #[.val (.ref ax), .val (.ref ix), .val (.int (Int32.ofNat cnt)), .val (.int (Int32.ofNat sz)), .val (.int (Int32.ofNat cap)), .val (.int (Int32.ofNat i)), s6, s7, s8] [])) t := fun t k => pre0 t (by
    show Steps p.tables e below (T0.setTop (mkF m 121 #[.val (.ref ax), .val (.ref ix), .val (.int (Int32.ofNat cnt)), .val (.int (Int32.ofNat sz)), .val (.int (Int32.ofNat cap)), .val (.int (Int32.ofNat i)), s6, s7, s8] [])) _
    refine XS.iload X0.here hx rfl (hb hby d2_121) rfl ?_
    refine XS.iloadN X0.here hx rfl (hb hby d2_123) rfl ?_
    exact k)
  have hb1 : (Int32.ofNat i) < (Int32.ofNat cnt) := n_lt hi hbd
  have pre3 : ∀ t, Steps p.tables e below (T0.setTop (mkF m 128 #[.val (.ref ax), .val (.ref ix), .val (.int (Int32.ofNat cnt)), .val (.int (Int32.ofNat sz)), .val (.int (Int32.ofNat cap)), .val (.int (Int32.ofNat i)), s6, s7, s8] [(.ref ax)])) t → Steps p.tables e below (T0.setTop (mkF m 121 #[.val (.ref ax), .val (.ref ix), .val (.int (Int32.ofNat cnt)), .val (.int (Int32.ofNat sz)), .val (.int (Int32.ofNat cap)), .val (.int (Int32.ofNat i)), s6, s7, s8] [])) t := fun t k => pre2 t (by
    show Steps p.tables e below (T0.setTop (mkF m 124 #[.val (.ref ax), .val (.ref ix), .val (.int (Int32.ofNat cnt)), .val (.int (Int32.ofNat sz)), .val (.int (Int32.ofNat cap)), .val (.int (Int32.ofNat i)), s6, s7, s8] [(.int (Int32.ofNat cnt)), (.int (Int32.ofNat i))])) _
    refine XS.icmpNo X0.here hx rfl (hb hby d2_124) rfl (tlt hb1).2.1 ?_
    refine XS.aloadN X0.here hx rfl (hb hby d2_127) rfl rfl ?_
    exact k)
  obtain ⟨T4, X4, e4, st4⟩ := gGet X0 hx hZ hown (host := "") (Or.inl (hw _ (List.mem_of_getElem? (i := 39) rfl))) e0 R0 0 4 rfl rfl (g := (mkF m 128 #[.val (.ref ax), .val (.ref ix), .val (.int (Int32.ofNat cnt)), .val (.int (Int32.ofNat sz)), .val (.int (Int32.ofNat cap)), .val (.int (Int32.ofNat i)), s6, s7, s8] [(.ref ax)])) rfl rfl (hb hby d2_128)
  have pre5 : ∀ t, Steps p.tables e below (T4.setTop (mkF m 131 #[.val (.ref ax), .val (.ref ix), .val (.int (Int32.ofNat cnt)), .val (.int (Int32.ofNat sz)), .val (.int (Int32.ofNat cap)), .val (.int (Int32.ofNat i)), s6, s7, s8] [(.ref b5)])) t → Steps p.tables e below (T0.setTop (mkF m 121 #[.val (.ref ax), .val (.ref ix), .val (.int (Int32.ofNat cnt)), .val (.int (Int32.ofNat sz)), .val (.int (Int32.ofNat cap)), .val (.int (Int32.ofNat i)), s6, s7, s8] [])) t := fun t k => pre3 t (st4 t k)
  have pre6 : ∀ t, Steps p.tables e below (T4.setTop (mkF m 136 #[.val (.ref ax), .val (.ref ix), .val (.int (Int32.ofNat cnt)), .val (.int (Int32.ofNat sz)), .val (.int (Int32.ofNat cap)), .val (.int (Int32.ofNat i)), s6, s7, s8] [(.ref ax), (.int (Int32.ofNat (en.getD i 0))), (.int (Int32.ofNat i)), (.ref b5)])) t → Steps p.tables e below (T0.setTop (mkF m 121 #[.val (.ref ax), .val (.ref ix), .val (.int (Int32.ofNat cnt)), .val (.int (Int32.ofNat sz)), .val (.int (Int32.ofNat cap)), .val (.int (Int32.ofNat i)), s6, s7, s8] [])) t := fun t k => pre5 t (by
    show Steps p.tables e below (T4.setTop (mkF m 131 #[.val (.ref ax), .val (.ref ix), .val (.int (Int32.ofNat cnt)), .val (.int (Int32.ofNat sz)), .val (.int (Int32.ofNat cap)), .val (.int (Int32.ofNat i)), s6, s7, s8] [(.ref b5)])) _
    refine XS.iload X4.here hx rfl (hb hby d2_131) rfl ?_
    refine xDup2 X4.here hx rfl (hb hby d2_133) rfl rfl rfl ?_
    refine gIald X4 hx hZ e4 R0 1 rfl (j := (Int32.ofNat i)) (v := (.int (Int32.ofNat (en.getD i 0)))) (n_nn hbd134) (nl_at hin134 hbd134) (g := (mkF m 134 #[.val (.ref ax), .val (.ref ix), .val (.int (Int32.ofNat cnt)), .val (.int (Int32.ofNat sz)), .val (.int (Int32.ofNat cap)), .val (.int (Int32.ofNat i)), s6, s7, s8] [(.int (Int32.ofNat i)), (.ref b5), (.int (Int32.ofNat i)), (.ref b5)])) rfl rfl (hb hby d2_134) _ ?_
    refine XS.aloadN X4.here hx rfl (hb hby d2_135) rfl rfl ?_
    exact k)
  obtain ⟨T7, X7, e7, st7⟩ := gGet X4 hx hZ hown (host := "") (Or.inl (hw _ (List.mem_of_getElem? (i := 39) rfl))) e4 R0 0 4 rfl rfl (g := (mkF m 136 #[.val (.ref ax), .val (.ref ix), .val (.int (Int32.ofNat cnt)), .val (.int (Int32.ofNat sz)), .val (.int (Int32.ofNat cap)), .val (.int (Int32.ofNat i)), s6, s7, s8] [(.ref ax), (.int (Int32.ofNat (en.getD i 0))), (.int (Int32.ofNat i)), (.ref b5)])) rfl rfl (hb hby d2_136)
  have pre8 : ∀ t, Steps p.tables e below (T7.setTop (mkF m 139 #[.val (.ref ax), .val (.ref ix), .val (.int (Int32.ofNat cnt)), .val (.int (Int32.ofNat sz)), .val (.int (Int32.ofNat cap)), .val (.int (Int32.ofNat i)), s6, s7, s8] [(.ref b5), (.int (Int32.ofNat (en.getD i 0))), (.int (Int32.ofNat i)), (.ref b5)])) t → Steps p.tables e below (T0.setTop (mkF m 121 #[.val (.ref ax), .val (.ref ix), .val (.int (Int32.ofNat cnt)), .val (.int (Int32.ofNat sz)), .val (.int (Int32.ofNat cap)), .val (.int (Int32.ofNat i)), s6, s7, s8] [])) t := fun t k => pre6 t (st7 t k)
  have pre9 : ∀ t, Steps p.tables e below (T7.setTop (mkF m 145 #[.val (.ref ax), .val (.ref ix), .val (.int (Int32.ofNat cnt)), .val (.int (Int32.ofNat sz)), .val (.int (Int32.ofNat cap)), .val (.int (Int32.ofNat i)), s6, s7, s8] [(.int (Int32.ofNat ((en.getD i 0) + (en.getD (i - 1) 0)))), (.int (Int32.ofNat i)), (.ref b5)])) t → Steps p.tables e below (T0.setTop (mkF m 121 #[.val (.ref ax), .val (.ref ix), .val (.int (Int32.ofNat cnt)), .val (.int (Int32.ofNat sz)), .val (.int (Int32.ofNat cap)), .val (.int (Int32.ofNat i)), s6, s7, s8] [])) t := fun t k => pre8 t (by
    show Steps p.tables e below (T7.setTop (mkF m 139 #[.val (.ref ax), .val (.ref ix), .val (.int (Int32.ofNat cnt)), .val (.int (Int32.ofNat sz)), .val (.int (Int32.ofNat cap)), .val (.int (Int32.ofNat i)), s6, s7, s8] [(.ref b5), (.int (Int32.ofNat (en.getD i 0))), (.int (Int32.ofNat i)), (.ref b5)])) _
    refine XS.iload X7.here hx rfl (hb hby d2_139) rfl ?_
    refine XS.iconst X7.here hx rfl (hb hby d2_141) ?_
    refine XS.isub X7.here hx rfl (hb hby d2_142) rfl ?_
    change Steps p.tables e below (T7.setTop (mkF m 143 #[.val (.ref ax), .val (.ref ix), .val (.int (Int32.ofNat cnt)), .val (.int (Int32.ofNat sz)), .val (.int (Int32.ofNat cap)), .val (.int (Int32.ofNat i)), s6, s7, s8] [(.int ((Int32.ofNat i) - (1 : Int32))), (.ref b5), (.int (Int32.ofNat (en.getD i 0))), (.int (Int32.ofNat i)), (.ref b5)])) _
    rw [n_pred hpr142]
    show Steps p.tables e below (T7.setTop (mkF m 143 #[.val (.ref ax), .val (.ref ix), .val (.int (Int32.ofNat cnt)), .val (.int (Int32.ofNat sz)), .val (.int (Int32.ofNat cap)), .val (.int (Int32.ofNat i)), s6, s7, s8] [(.int (Int32.ofNat (i - 1))), (.ref b5), (.int (Int32.ofNat (en.getD i 0))), (.int (Int32.ofNat i)), (.ref b5)])) _
    refine gIald X7 hx hZ e7 R0 1 rfl (j := (Int32.ofNat (i - 1))) (v := (.int (Int32.ofNat (en.getD (i - 1) 0)))) (n_nn hbd143) (nl_at hin143 hbd143) (g := (mkF m 143 #[.val (.ref ax), .val (.ref ix), .val (.int (Int32.ofNat cnt)), .val (.int (Int32.ofNat sz)), .val (.int (Int32.ofNat cap)), .val (.int (Int32.ofNat i)), s6, s7, s8] [(.int (Int32.ofNat (i - 1))), (.ref b5), (.int (Int32.ofNat (en.getD i 0))), (.int (Int32.ofNat i)), (.ref b5)])) rfl rfl (hb hby d2_143) _ ?_
    refine XS.iadd X7.here hx rfl (hb hby d2_144) rfl ?_
    change Steps p.tables e below (T7.setTop (mkF m 145 #[.val (.ref ax), .val (.ref ix), .val (.int (Int32.ofNat cnt)), .val (.int (Int32.ofNat sz)), .val (.int (Int32.ofNat cap)), .val (.int (Int32.ofNat i)), s6, s7, s8] [(.int ((Int32.ofNat (en.getD i 0)) + (Int32.ofNat (en.getD (i - 1) 0)))), (.int (Int32.ofNat i)), (.ref b5)])) _
    rw [n_add]
    exact k)
  obtain ⟨T10, h10, ls10, X10, e10, N10, R10, st10⟩ := gIst X7 hx hZ e7 N0 R0 1 rfl (j := (Int32.ofNat i)) (n_nn hsb145) (i) (n_ix hsb145) (nl_lt hsn145) (g := (mkF m 145 #[.val (.ref ax), .val (.ref ix), .val (.int (Int32.ofNat cnt)), .val (.int (Int32.ofNat sz)), .val (.int (Int32.ofNat cap)), .val (.int (Int32.ofNat i)), s6, s7, s8] [(.int (Int32.ofNat ((en.getD i 0) + (en.getD (i - 1) 0)))), (.int (Int32.ofNat i)), (.ref b5)])) rfl rfl (hb hby d2_145)
  replace R10 : Rep Z n0 h10 ((ax, Obj "com/example/witgen/witgen/regex/Partition" [("elements", "[I", (.ref b1)), ("location", "[I", (.ref b2)), ("blockOf", "[I", (.ref b3)), ("start", "[I", (.ref b4)), ("end", "[I", (.ref b5)), ("marked", "[I", (.ref b6)), ("touched", "[I", (.ref b7)), ("blocks", "I", (.int (Int32.ofNat cnt))), ("touchedCount", "I", (.int (0 : Int32)))]) :: (b5, Ar .int (nl (en.set i ((en.getD i 0) + (en.getD (i - 1) 0))))) :: Rst) := by rw [← nl_set en i ((en.getD i 0) + (en.getD (i - 1) 0))]; exact R10
  have pre11 : ∀ t, Steps p.tables e below (T10.setTop (mkF m 146 #[.val (.ref ax), .val (.ref ix), .val (.int (Int32.ofNat cnt)), .val (.int (Int32.ofNat sz)), .val (.int (Int32.ofNat cap)), .val (.int (Int32.ofNat i)), s6, s7, s8] [])) t → Steps p.tables e below (T0.setTop (mkF m 121 #[.val (.ref ax), .val (.ref ix), .val (.int (Int32.ofNat cnt)), .val (.int (Int32.ofNat sz)), .val (.int (Int32.ofNat cap)), .val (.int (Int32.ofNat i)), s6, s7, s8] [])) t := fun t k => pre9 t (st10 t k)
  have pre12 : ∀ t, Steps p.tables e below (T10.setTop (mkF m 121 #[.val (.ref ax), .val (.ref ix), .val (.int (Int32.ofNat cnt)), .val (.int (Int32.ofNat sz)), .val (.int (Int32.ofNat cap)), .val (.int (Int32.ofNat (i + 1))), s6, s7, s8] [])) t → Steps p.tables e below (T0.setTop (mkF m 121 #[.val (.ref ax), .val (.ref ix), .val (.int (Int32.ofNat cnt)), .val (.int (Int32.ofNat sz)), .val (.int (Int32.ofNat cap)), .val (.int (Int32.ofNat i)), s6, s7, s8] [])) t := fun t k => pre11 t (by
    show Steps p.tables e below (T10.setTop (mkF m 146 #[.val (.ref ax), .val (.ref ix), .val (.int (Int32.ofNat cnt)), .val (.int (Int32.ofNat sz)), .val (.int (Int32.ofNat cap)), .val (.int (Int32.ofNat i)), s6, s7, s8] [])) _
    refine XS.iinc X10.here hx rfl (hb hby d2_146) rfl (l' := #[.val (.ref ax), .val (.ref ix), .val (.int (Int32.ofNat cnt)), .val (.int (Int32.ofNat sz)), .val (.int (Int32.ofNat cap)), .val (.int ((Int32.ofNat i) + (1 : Int32))), s6, s7, s8]) rfl ?_
    change Steps p.tables e below (T10.setTop (mkF m 149 #[.val (.ref ax), .val (.ref ix), .val (.int (Int32.ofNat cnt)), .val (.int (Int32.ofNat sz)), .val (.int (Int32.ofNat cap)), .val (.int ((Int32.ofNat i) + (1 : Int32))), s6, s7, s8] [])) _
    rw [n_one]
    show Steps p.tables e below (T10.setTop (mkF m 149 #[.val (.ref ax), .val (.ref ix), .val (.int (Int32.ofNat cnt)), .val (.int (Int32.ofNat sz)), .val (.int (Int32.ofNat cap)), .val (.int (Int32.ofNat (i + 1))), s6, s7, s8] [])) _
    refine XS.goto X10.here hx rfl (pc0 := 149) (pc' := 121) rfl (hb hby d2_149) (by decide) (by decide) ?_
    exact k)
  exact ⟨T10, h10, _, X10, e10, N10, R10, pre12⟩
set_option maxRecDepth 65536 in
set_option maxHeartbeats 40000000 in
theorem l2_out {p : Program} {l : Launch} {e : Env} {R : Room} {s : State} {m : MethodId} {args : Array Value} {below : List Frame} {meth : Method} {c : Code} {T0 : State} {locs : List Loc} {cells slots : Nat} {Z : State} {a0 : Array Value} {h0 : Heap} {n0 : Nat} {Rst : RL} (ax : Addr) (ix : Addr) (b1 : Addr) (b2 : Addr) (b3 : Addr) (b4 : Addr) (b5 : Addr) (b6 : Addr) (b7 : Addr) (cnt : Nat) (sz : Nat) (cap : Nat) (i : Nat) (s6 : Slot) (s7 : Slot) (s8 : Slot) (en : List Nat)
    (X0 : Stand p l e R s m args below meth c T0 locs cells slots) (hx : p.tables.exec = Jvm.exec) (hZ : Z.Warmed39 s.vm) (hw : ∀ d ∈ tables_1, d.before a0 Z = true) (hby : c.code = prog_15_method_1_code) (hml : c.maxLocals = 9) (hown : s.vm.findClass "com/example/witgen/witgen/regex/Partition" = some m.cls) (e0 : T0.heap = h0) (N0 : Fr n0 locs) (R0 : Rep Z n0 h0 ((ax, Obj "com/example/witgen/witgen/regex/Partition" [("elements", "[I", (.ref b1)), ("location", "[I", (.ref b2)), ("blockOf", "[I", (.ref b3)), ("start", "[I", (.ref b4)), ("end", "[I", (.ref b5)), ("marked", "[I", (.ref b6)), ("touched", "[I", (.ref b7)), ("blocks", "I", (.int (Int32.ofNat cnt))), ("touchedCount", "I", (.int (0 : Int32)))]) :: (b5, Ar .int (nl en)) :: Rst)) (hi : cnt ≤ i) (hbd : i < 1000) :
    ∃ (T' : State) (h' : Heap) (locs' : List Loc), Stand p l e R s m args below meth c T' locs' cells slots ∧ T'.heap = h' ∧ Fr n0 locs' ∧ Rep Z n0 h' ((ax, Obj "com/example/witgen/witgen/regex/Partition" [("elements", "[I", (.ref b1)), ("location", "[I", (.ref b2)), ("blockOf", "[I", (.ref b3)), ("start", "[I", (.ref b4)), ("end", "[I", (.ref b5)), ("marked", "[I", (.ref b6)), ("touched", "[I", (.ref b7)), ("blocks", "I", (.int (Int32.ofNat cnt))), ("touchedCount", "I", (.int (0 : Int32)))]) :: (b5, Ar .int (nl en)) :: Rst) ∧ ∀ t, Steps p.tables e below (T'.setTop (mkF m 152 #[.val (.ref ax), .val (.ref ix), .val (.int (Int32.ofNat cnt)), .val (.int (Int32.ofNat sz)), .val (.int (Int32.ofNat cap)), .val (.int (Int32.ofNat i)), s6, s7, s8] [])) t → Steps p.tables e below (T0.setTop (mkF m 121 #[.val (.ref ax), .val (.ref ix), .val (.int (Int32.ofNat cnt)), .val (.int (Int32.ofNat sz)), .val (.int (Int32.ofNat cap)), .val (.int (Int32.ofNat i)), s6, s7, s8] [])) t := by
  have pre0 : ∀ t, Steps p.tables e below (T0.setTop (mkF m 121 #[.val (.ref ax), .val (.ref ix), .val (.int (Int32.ofNat cnt)), .val (.int (Int32.ofNat sz)), .val (.int (Int32.ofNat cap)), .val (.int (Int32.ofNat i)), s6, s7, s8] [])) t → Steps p.tables e below (T0.setTop (mkF m 121 #[.val (.ref ax), .val (.ref ix), .val (.int (Int32.ofNat cnt)), .val (.int (Int32.ofNat sz)), .val (.int (Int32.ofNat cap)), .val (.int (Int32.ofNat i)), s6, s7, s8] [])) t := fun t k => k
  have pre2 : ∀ t, Steps p.tables e below (T0.setTop (mkF m 124 #[.val (.ref ax), .val (.ref ix), .val (.int (Int32.ofNat cnt)), .val (.int (Int32.ofNat sz)), .val (.int (Int32.ofNat cap)), .val (.int (Int32.ofNat i)), s6, s7, s8] [(.int (Int32.ofNat cnt)), (.int (Int32.ofNat i))])) t → Steps p.tables e below (T0.setTop (mkF m 121 #[.val (.ref ax), .val (.ref ix), .val (.int (Int32.ofNat cnt)), .val (.int (Int32.ofNat sz)), .val (.int (Int32.ofNat cap)), .val (.int (Int32.ofNat i)), s6, s7, s8] [])) t := fun t k => pre0 t (by
    show Steps p.tables e below (T0.setTop (mkF m 121 #[.val (.ref ax), .val (.ref ix), .val (.int (Int32.ofNat cnt)), .val (.int (Int32.ofNat sz)), .val (.int (Int32.ofNat cap)), .val (.int (Int32.ofNat i)), s6, s7, s8] [])) _
    refine XS.iload X0.here hx rfl (hb hby d2_121) rfl ?_
    refine XS.iloadN X0.here hx rfl (hb hby d2_123) rfl ?_
    exact k)
  have hb1 : ¬ ((Int32.ofNat i) < (Int32.ofNat cnt)) := n_nlt hi hbd
  have pre3 : ∀ t, Steps p.tables e below (T0.setTop (mkF m 152 #[.val (.ref ax), .val (.ref ix), .val (.int (Int32.ofNat cnt)), .val (.int (Int32.ofNat sz)), .val (.int (Int32.ofNat cap)), .val (.int (Int32.ofNat i)), s6, s7, s8] [])) t → Steps p.tables e below (T0.setTop (mkF m 121 #[.val (.ref ax), .val (.ref ix), .val (.int (Int32.ofNat cnt)), .val (.int (Int32.ofNat sz)), .val (.int (Int32.ofNat cap)), .val (.int (Int32.ofNat i)), s6, s7, s8] [])) t := fun t k => pre2 t (by
    show Steps p.tables e below (T0.setTop (mkF m 124 #[.val (.ref ax), .val (.ref ix), .val (.int (Int32.ofNat cnt)), .val (.int (Int32.ofNat sz)), .val (.int (Int32.ofNat cap)), .val (.int (Int32.ofNat i)), s6, s7, s8] [(.int (Int32.ofNat cnt)), (.int (Int32.ofNat i))])) _
    refine XS.icmpYes X0.here hx rfl (pc0 := 124) (pc' := 152) rfl (hb hby d2_124) rfl (flt hb1).2.1 (by decide) (by decide) ?_
    exact k)
  exact ⟨T0, h0, _, X0, e0, N0, R0, pre3⟩
def s2 : Nat → Nat → List Nat → List Nat
  | 0, _, en => en
  | k + 1, i, en => s2 k (i + 1) (en.set i (en.getD i 0 + en.getD (i - 1) 0))
def ok2 : Nat → Nat → List Nat → Bool
  | 0, _, _ => true
  | k + 1, i, en => decide (1 ≤ i) && decide (i < en.length) && decide (i < 1000) && ok2 k (i + 1) (en.set i (en.getD i 0 + en.getD (i - 1) 0))
theorem l2_loop {p : Program} {l : Launch} {e : Env} {R : Room} {s : State} {m : MethodId} {args : Array Value} {below : List Frame} {meth : Method} {c : Code} {cells slots : Nat} {Z : State} {a0 : Array Value} {n0 : Nat} {Rst : RL} (ax ix : Addr) (b1 b2 b3 b4 b5 b6 b7 : Addr) (cnt sz cap : Nat) (s6 s7 s8 : Slot) (hbd : cnt < 1000) (hx : p.tables.exec = Jvm.exec) (hZ : Z.Warmed39 s.vm) (hw : ∀ d ∈ tables_1, d.before a0 Z = true) (hby : c.code = prog_15_method_1_code) (hml : c.maxLocals = 9) (hown : s.vm.findClass "com/example/witgen/witgen/regex/Partition" = some m.cls) :
    ∀ (k i : Nat) (en : List Nat) (T0 : State) (locs : List Loc) (h0 : Heap), i + k = cnt → ok2 k i en = true → Stand p l e R s m args below meth c T0 locs cells slots → T0.heap = h0 → Fr n0 locs → Rep Z n0 h0 ((ax, Obj "com/example/witgen/witgen/regex/Partition" [("elements", "[I", (.ref b1)), ("location", "[I", (.ref b2)), ("blockOf", "[I", (.ref b3)), ("start", "[I", (.ref b4)), ("end", "[I", (.ref b5)), ("marked", "[I", (.ref b6)), ("touched", "[I", (.ref b7)), ("blocks", "I", (.int (Int32.ofNat cnt))), ("touchedCount", "I", (.int (0 : Int32)))]) :: (b5, Ar .int (nl en)) :: Rst) →
      ∃ (T' : State) (h' : Heap) (locs' : List Loc), Stand p l e R s m args below meth c T' locs' cells slots ∧ T'.heap = h' ∧ Fr n0 locs' ∧ Rep Z n0 h' ((ax, Obj "com/example/witgen/witgen/regex/Partition" [("elements", "[I", (.ref b1)), ("location", "[I", (.ref b2)), ("blockOf", "[I", (.ref b3)), ("start", "[I", (.ref b4)), ("end", "[I", (.ref b5)), ("marked", "[I", (.ref b6)), ("touched", "[I", (.ref b7)), ("blocks", "I", (.int (Int32.ofNat cnt))), ("touchedCount", "I", (.int (0 : Int32)))]) :: (b5, Ar .int (nl (s2 k i en))) :: Rst) ∧ ∀ t, Steps p.tables e below (T'.setTop (mkF m 152 #[.val (.ref ax), .val (.ref ix), .val (.int (Int32.ofNat cnt)), .val (.int (Int32.ofNat sz)), .val (.int (Int32.ofNat cap)), .val (.int (Int32.ofNat cnt)), s6, s7, s8] [])) t → Steps p.tables e below (T0.setTop (mkF m 121 #[.val (.ref ax), .val (.ref ix), .val (.int (Int32.ofNat cnt)), .val (.int (Int32.ofNat sz)), .val (.int (Int32.ofNat cap)), .val (.int (Int32.ofNat i)), s6, s7, s8] [])) t := by
  intro k
  induction k with
  | zero =>
    intro i en T0 locs h0 hi ok X0 e0 N0 R0
    have hi' : i = cnt := by omega
    subst hi'
    exact l2_out ax ix b1 b2 b3 b4 b5 b6 b7 i sz cap i s6 s7 s8 en X0 hx hZ hw hby hml hown e0 N0 R0 (Nat.le_refl _) hbd
  | succ k ih =>
    intro i en T0 locs h0 hi ok X0 e0 N0 R0
    simp only [ok2, Bool.and_eq_true, decide_eq_true_eq] at ok
    obtain ⟨⟨⟨a0', a1⟩, a2⟩, a5⟩ := ok
    obtain ⟨T1, h1, ls1, X1, e1, N1, R1, st1⟩ := l2_turn ax ix b1 b2 b3 b4 b5 b6 b7 cnt sz cap i s6 s7 s8 en X0 hx hZ hw hby hml hown e0 N0 R0 (by omega) hbd a1 a2 a0' (by omega) (by omega) a1 a2
    obtain ⟨T2, h2, ls2, X2, e2, N2, R2, st2⟩ := ih (i + 1) _ T1 ls1 h1 (by omega) a5 X1 e1 N1 R1
    exact ⟨T2, h2, ls2, X2, e2, N2, R2, fun t q => st1 t (st2 t q)⟩
theorem d2_155 : decode prog_15_method_1_code 155 = .ok (.iload 5, 2) := by decide +kernel
theorem d2_157 : decode prog_15_method_1_code 157 = .ok (.iload_n 2, 1) := by decide +kernel
theorem d2_158 : decode prog_15_method_1_code 158 = .ok (.if_icmp .ge 34, 3) := by decide +kernel
theorem d2_161 : decode prog_15_method_1_code 161 = .ok (.aload_n 0, 1) := by decide +kernel
theorem d2_162 : decode prog_15_method_1_code 162 = .ok (.getfield 30, 3) := by decide +kernel
theorem d2_165 : decode prog_15_method_1_code 165 = .ok (.iload 5, 2) := by decide +kernel
theorem d2_167 : decode prog_15_method_1_code 167 = .ok (.iload 5, 2) := by decide +kernel
theorem d2_169 : decode prog_15_method_1_code 169 = .ok (.ifCond .ne 7, 3) := by decide +kernel
theorem d2_172 : decode prog_15_method_1_code 172 = .ok (.iconst 0, 1) := by decide +kernel
theorem d2_173 : decode prog_15_method_1_code 173 = .ok (.goto 12, 3) := by decide +kernel
theorem d2_185 : decode prog_15_method_1_code 185 = .ok (.iastore, 1) := by decide +kernel
theorem d2_186 : decode prog_15_method_1_code 186 = .ok (.iinc 5 1, 3) := by decide +kernel
theorem d2_189 : decode prog_15_method_1_code 189 = .ok (.goto (-34), 3) := by decide +kernel
set_option maxRecDepth 65536 in
set_option maxHeartbeats 40000000 in
theorem l3_zero {p : Program} {l : Launch} {e : Env} {R : Room} {s : State} {m : MethodId} {args : Array Value} {below : List Frame} {meth : Method} {c : Code} {T0 : State} {locs : List Loc} {cells slots : Nat} {Z : State} {a0 : Array Value} {h0 : Heap} {n0 : Nat} {Rst : RL} (ax : Addr) (ix : Addr) (b1 : Addr) (b2 : Addr) (b3 : Addr) (b4 : Addr) (b5 : Addr) (b6 : Addr) (b7 : Addr) (cnt : Nat) (sz : Nat) (cap : Nat) (i : Nat) (s6 : Slot) (s7 : Slot) (s8 : Slot) (st : List Nat) (en : List Nat)
    (X0 : Stand p l e R s m args below meth c T0 locs cells slots) (hx : p.tables.exec = Jvm.exec) (hZ : Z.Warmed39 s.vm) (hw : ∀ d ∈ tables_1, d.before a0 Z = true) (hby : c.code = prog_15_method_1_code) (hml : c.maxLocals = 9) (hown : s.vm.findClass "com/example/witgen/witgen/regex/Partition" = some m.cls) (e0 : T0.heap = h0) (N0 : Fr n0 locs) (R0 : Rep Z n0 h0 ((ax, Obj "com/example/witgen/witgen/regex/Partition" [("elements", "[I", (.ref b1)), ("location", "[I", (.ref b2)), ("blockOf", "[I", (.ref b3)), ("start", "[I", (.ref b4)), ("end", "[I", (.ref b5)), ("marked", "[I", (.ref b6)), ("touched", "[I", (.ref b7)), ("blocks", "I", (.int (Int32.ofNat cnt))), ("touchedCount", "I", (.int (0 : Int32)))]) :: (b4, Ar .int (nl st)) :: (b5, Ar .int (nl en)) :: Rst)) (hi : i < cnt) (hbd : cnt < 1000) (hz : i = 0) (hsn185 : i < st.length) (hsb185 : i < 1000) :
    ∃ (T' : State) (h' : Heap) (locs' : List Loc), Stand p l e R s m args below meth c T' locs' cells slots ∧ T'.heap = h' ∧ Fr n0 locs' ∧ Rep Z n0 h' ((ax, Obj "com/example/witgen/witgen/regex/Partition" [("elements", "[I", (.ref b1)), ("location", "[I", (.ref b2)), ("blockOf", "[I", (.ref b3)), ("start", "[I", (.ref b4)), ("end", "[I", (.ref b5)), ("marked", "[I", (.ref b6)), ("touched", "[I", (.ref b7)), ("blocks", "I", (.int (Int32.ofNat cnt))), ("touchedCount", "I", (.int (0 : Int32)))]) :: (b4, Ar .int (nl (st.set i 0))) :: (b5, Ar .int (nl en)) :: Rst) ∧ ∀ t, Steps p.tables e below (T'.setTop (mkF m 155 #[.val (.ref ax), .val (.ref ix), .val (.int (Int32.ofNat cnt)), .val (.int (Int32.ofNat sz)), .val (.int (Int32.ofNat cap)), .val (.int (Int32.ofNat (i + 1))), s6, s7, s8] [])) t → Steps p.tables e below (T0.setTop (mkF m 155 #[.val (.ref ax), .val (.ref ix), .val (.int (Int32.ofNat cnt)), .val (.int (Int32.ofNat sz)), .val (.int (Int32.ofNat cap)), .val (.int (Int32.ofNat i)), s6, s7, s8] [])) t := by
  have pre0 : ∀ t, Steps p.tables e below (T0.setTop (mkF m 155 #[.val (.ref ax), .val (.ref ix), .val (.int (Int32.ofNat cnt)), .val (.int (Int32.ofNat sz)), .val (.int (Int32.ofNat cap)), .val (.int (Int32.ofNat i)), s6, s7, s8] [])) t → Steps p.tables e below (T0.setTop (mkF m 155 #[.val (.ref ax), .val (.ref ix), .val (.int (Int32.ofNat cnt)), .val (.int (Int32.ofNat sz)), .val (.int (Int32.ofNat cap)), .val (.int (Int32.ofNat i)), s6, s7, s8] [])) t := fun t k => k
  have pre2 : ∀ t, Steps p.tables e below (T0.setTop (mkF m 158 #[.val (.ref ax), .val (.ref ix), .val (.int (Int32.ofNat cnt)), .val (.int (Int32.ofNat sz)), .val (.int (Int32.ofNat cap)), .val (.int (Int32.ofNat i)), s6, s7, s8] [(.int (Int32.ofNat cnt)), (.int (Int32.ofNat i))])) t → Steps p.tables e below (T0.setTop (mkF m 155 #[.val (.ref ax), .val (.ref ix), .val (.int (Int32.ofNat cnt)), .val (.int (Int32.ofNat sz)), .val (.int (Int32.ofNat cap)), .val (.int (Int32.ofNat i)), s6, s7, s8] [])) t := fun t k => pre0 t (by
    show Steps p.tables e below (T0.setTop (mkF m 155 #[.val (.ref ax), .val (.ref ix), .val (.int (Int32.ofNat cnt)), .val (.int (Int32.ofNat sz)), .val (.int (Int32.ofNat cap)), .val (.int (Int32.ofNat i)), s6, s7, s8] [])) _
    refine XS.iload X0.here hx rfl (hb hby d2_155) rfl ?_
    refine XS.iloadN X0.here hx rfl (hb hby d2_157) rfl ?_
    exact k)
  have hb1 : (Int32.ofNat i) < (Int32.ofNat cnt) := n_lt hi hbd
  have pre3 : ∀ t, Steps p.tables e below (T0.setTop (mkF m 162 #[.val (.ref ax), .val (.ref ix), .val (.int (Int32.ofNat cnt)), .val (.int (Int32.ofNat sz)), .val (.int (Int32.ofNat cap)), .val (.int (Int32.ofNat i)), s6, s7, s8] [(.ref ax)])) t → Steps p.tables e below (T0.setTop (mkF m 155 #[.val (.ref ax), .val (.ref ix), .val (.int (Int32.ofNat cnt)), .val (.int (Int32.ofNat sz)), .val (.int (Int32.ofNat cap)), .val (.int (Int32.ofNat i)), s6, s7, s8] [])) t := fun t k => pre2 t (by
    show Steps p.tables e below (T0.setTop (mkF m 158 #[.val (.ref ax), .val (.ref ix), .val (.int (Int32.ofNat cnt)), .val (.int (Int32.ofNat sz)), .val (.int (Int32.ofNat cap)), .val (.int (Int32.ofNat i)), s6, s7, s8] [(.int (Int32.ofNat cnt)), (.int (Int32.ofNat i))])) _
    refine XS.icmpNo X0.here hx rfl (hb hby d2_158) rfl (tlt hb1).2.1 ?_
    refine XS.aloadN X0.here hx rfl (hb hby d2_161) rfl rfl ?_
    exact k)
  obtain ⟨T4, X4, e4, st4⟩ := gGet X0 hx hZ hown (host := "") (Or.inl (hw _ (List.mem_of_getElem? (i := 37) rfl))) e0 R0 0 3 rfl rfl (g := (mkF m 162 #[.val (.ref ax), .val (.ref ix), .val (.int (Int32.ofNat cnt)), .val (.int (Int32.ofNat sz)), .val (.int (Int32.ofNat cap)), .val (.int (Int32.ofNat i)), s6, s7, s8] [(.ref ax)])) rfl rfl (hb hby d2_162)
  have pre5 : ∀ t, Steps p.tables e below (T4.setTop (mkF m 165 #[.val (.ref ax), .val (.ref ix), .val (.int (Int32.ofNat cnt)), .val (.int (Int32.ofNat sz)), .val (.int (Int32.ofNat cap)), .val (.int (Int32.ofNat i)), s6, s7, s8] [(.ref b4)])) t → Steps p.tables e below (T0.setTop (mkF m 155 #[.val (.ref ax), .val (.ref ix), .val (.int (Int32.ofNat cnt)), .val (.int (Int32.ofNat sz)), .val (.int (Int32.ofNat cap)), .val (.int (Int32.ofNat i)), s6, s7, s8] [])) t := fun t k => pre3 t (st4 t k)
  have pre7 : ∀ t, Steps p.tables e below (T4.setTop (mkF m 169 #[.val (.ref ax), .val (.ref ix), .val (.int (Int32.ofNat cnt)), .val (.int (Int32.ofNat sz)), .val (.int (Int32.ofNat cap)), .val (.int (Int32.ofNat i)), s6, s7, s8] [(.int (Int32.ofNat i)), (.int (Int32.ofNat i)), (.ref b4)])) t → Steps p.tables e below (T0.setTop (mkF m 155 #[.val (.ref ax), .val (.ref ix), .val (.int (Int32.ofNat cnt)), .val (.int (Int32.ofNat sz)), .val (.int (Int32.ofNat cap)), .val (.int (Int32.ofNat i)), s6, s7, s8] [])) t := fun t k => pre5 t (by
    show Steps p.tables e below (T4.setTop (mkF m 165 #[.val (.ref ax), .val (.ref ix), .val (.int (Int32.ofNat cnt)), .val (.int (Int32.ofNat sz)), .val (.int (Int32.ofNat cap)), .val (.int (Int32.ofNat i)), s6, s7, s8] [(.ref b4)])) _
    refine XS.iload X4.here hx rfl (hb hby d2_165) rfl ?_
    refine XS.iload X4.here hx rfl (hb hby d2_167) rfl ?_
    exact k)
  have hb6 : (Int32.ofNat i) = (0 : Int32) := by rw [hz]; rfl
  have pre8 : ∀ t, Steps p.tables e below (T4.setTop (mkF m 185 #[.val (.ref ax), .val (.ref ix), .val (.int (Int32.ofNat cnt)), .val (.int (Int32.ofNat sz)), .val (.int (Int32.ofNat cap)), .val (.int (Int32.ofNat i)), s6, s7, s8] [(.int (0 : Int32)), (.int (Int32.ofNat i)), (.ref b4)])) t → Steps p.tables e below (T0.setTop (mkF m 155 #[.val (.ref ax), .val (.ref ix), .val (.int (Int32.ofNat cnt)), .val (.int (Int32.ofNat sz)), .val (.int (Int32.ofNat cap)), .val (.int (Int32.ofNat i)), s6, s7, s8] [])) t := fun t k => pre7 t (by
    show Steps p.tables e below (T4.setTop (mkF m 169 #[.val (.ref ax), .val (.ref ix), .val (.int (Int32.ofNat cnt)), .val (.int (Int32.ofNat sz)), .val (.int (Int32.ofNat cap)), .val (.int (Int32.ofNat i)), s6, s7, s8] [(.int (Int32.ofNat i)), (.int (Int32.ofNat i)), (.ref b4)])) _
    refine XS.ifNo X4.here hx rfl (hb hby d2_169) rfl ((if0 _ _).trans (teq hb6).2) ?_
    refine XS.iconst X4.here hx rfl (hb hby d2_172) ?_
    refine XS.goto X4.here hx rfl (pc0 := 173) (pc' := 185) rfl (hb hby d2_173) (by decide) (by decide) ?_
    exact k)
  obtain ⟨T9, h9, ls9, X9, e9, N9, R9, st9⟩ := gIst X4 hx hZ e4 N0 R0 1 rfl (j := (Int32.ofNat i)) (n_nn hsb185) (i) (n_ix hsb185) (nl_lt hsn185) (g := (mkF m 185 #[.val (.ref ax), .val (.ref ix), .val (.int (Int32.ofNat cnt)), .val (.int (Int32.ofNat sz)), .val (.int (Int32.ofNat cap)), .val (.int (Int32.ofNat i)), s6, s7, s8] [(.int (0 : Int32)), (.int (Int32.ofNat i)), (.ref b4)])) rfl rfl (hb hby d2_185)
  replace R9 : Rep Z n0 h9 ((ax, Obj "com/example/witgen/witgen/regex/Partition" [("elements", "[I", (.ref b1)), ("location", "[I", (.ref b2)), ("blockOf", "[I", (.ref b3)), ("start", "[I", (.ref b4)), ("end", "[I", (.ref b5)), ("marked", "[I", (.ref b6)), ("touched", "[I", (.ref b7)), ("blocks", "I", (.int (Int32.ofNat cnt))), ("touchedCount", "I", (.int (0 : Int32)))]) :: (b4, Ar .int (nl (st.set i 0))) :: (b5, Ar .int (nl en)) :: Rst) := by rw [← nl_set st i 0]; exact R9
  have pre10 : ∀ t, Steps p.tables e below (T9.setTop (mkF m 186 #[.val (.ref ax), .val (.ref ix), .val (.int (Int32.ofNat cnt)), .val (.int (Int32.ofNat sz)), .val (.int (Int32.ofNat cap)), .val (.int (Int32.ofNat i)), s6, s7, s8] [])) t → Steps p.tables e below (T0.setTop (mkF m 155 #[.val (.ref ax), .val (.ref ix), .val (.int (Int32.ofNat cnt)), .val (.int (Int32.ofNat sz)), .val (.int (Int32.ofNat cap)), .val (.int (Int32.ofNat i)), s6, s7, s8] [])) t := fun t k => pre8 t (st9 t k)
  have pre11 : ∀ t, Steps p.tables e below (T9.setTop (mkF m 155 #[.val (.ref ax), .val (.ref ix), .val (.int (Int32.ofNat cnt)), .val (.int (Int32.ofNat sz)), .val (.int (Int32.ofNat cap)), .val (.int (Int32.ofNat (i + 1))), s6, s7, s8] [])) t → Steps p.tables e below (T0.setTop (mkF m 155 #[.val (.ref ax), .val (.ref ix), .val (.int (Int32.ofNat cnt)), .val (.int (Int32.ofNat sz)), .val (.int (Int32.ofNat cap)), .val (.int (Int32.ofNat i)), s6, s7, s8] [])) t := fun t k => pre10 t (by
    show Steps p.tables e below (T9.setTop (mkF m 186 #[.val (.ref ax), .val (.ref ix), .val (.int (Int32.ofNat cnt)), .val (.int (Int32.ofNat sz)), .val (.int (Int32.ofNat cap)), .val (.int (Int32.ofNat i)), s6, s7, s8] [])) _
    refine XS.iinc X9.here hx rfl (hb hby d2_186) rfl (l' := #[.val (.ref ax), .val (.ref ix), .val (.int (Int32.ofNat cnt)), .val (.int (Int32.ofNat sz)), .val (.int (Int32.ofNat cap)), .val (.int ((Int32.ofNat i) + (1 : Int32))), s6, s7, s8]) rfl ?_
    change Steps p.tables e below (T9.setTop (mkF m 189 #[.val (.ref ax), .val (.ref ix), .val (.int (Int32.ofNat cnt)), .val (.int (Int32.ofNat sz)), .val (.int (Int32.ofNat cap)), .val (.int ((Int32.ofNat i) + (1 : Int32))), s6, s7, s8] [])) _
    rw [n_one]
    show Steps p.tables e below (T9.setTop (mkF m 189 #[.val (.ref ax), .val (.ref ix), .val (.int (Int32.ofNat cnt)), .val (.int (Int32.ofNat sz)), .val (.int (Int32.ofNat cap)), .val (.int (Int32.ofNat (i + 1))), s6, s7, s8] [])) _
    refine XS.goto X9.here hx rfl (pc0 := 189) (pc' := 155) rfl (hb hby d2_189) (by decide) (by decide) ?_
    exact k)
  exact ⟨T9, h9, _, X9, e9, N9, R9, pre11⟩
theorem d2_176 : decode prog_15_method_1_code 176 = .ok (.aload_n 0, 1) := by decide +kernel
theorem d2_177 : decode prog_15_method_1_code 177 = .ok (.getfield 33, 3) := by decide +kernel
theorem d2_180 : decode prog_15_method_1_code 180 = .ok (.iload 5, 2) := by decide +kernel
theorem d2_182 : decode prog_15_method_1_code 182 = .ok (.iconst 1, 1) := by decide +kernel
theorem d2_183 : decode prog_15_method_1_code 183 = .ok (.isub, 1) := by decide +kernel
theorem d2_184 : decode prog_15_method_1_code 184 = .ok (.iaload, 1) := by decide +kernel
set_option maxRecDepth 65536 in
set_option maxHeartbeats 40000000 in
theorem l3_turn {p : Program} {l : Launch} {e : Env} {R : Room} {s : State} {m : MethodId} {args : Array Value} {below : List Frame} {meth : Method} {c : Code} {T0 : State} {locs : List Loc} {cells slots : Nat} {Z : State} {a0 : Array Value} {h0 : Heap} {n0 : Nat} {Rst : RL} (ax : Addr) (ix : Addr) (b1 : Addr) (b2 : Addr) (b3 : Addr) (b4 : Addr) (b5 : Addr) (b6 : Addr) (b7 : Addr) (cnt : Nat) (sz : Nat) (cap : Nat) (i : Nat) (s6 : Slot) (s7 : Slot) (s8 : Slot) (st : List Nat) (en : List Nat)
    (X0 : Stand p l e R s m args below meth c T0 locs cells slots) (hx : p.tables.exec = Jvm.exec) (hZ : Z.Warmed39 s.vm) (hw : ∀ d ∈ tables_1, d.before a0 Z = true) (hby : c.code = prog_15_method_1_code) (hml : c.maxLocals = 9) (hown : s.vm.findClass "com/example/witgen/witgen/regex/Partition" = some m.cls) (e0 : T0.heap = h0) (N0 : Fr n0 locs) (R0 : Rep Z n0 h0 ((ax, Obj "com/example/witgen/witgen/regex/Partition" [("elements", "[I", (.ref b1)), ("location", "[I", (.ref b2)), ("blockOf", "[I", (.ref b3)), ("start", "[I", (.ref b4)), ("end", "[I", (.ref b5)), ("marked", "[I", (.ref b6)), ("touched", "[I", (.ref b7)), ("blocks", "I", (.int (Int32.ofNat cnt))), ("touchedCount", "I", (.int (0 : Int32)))]) :: (b4, Ar .int (nl st)) :: (b5, Ar .int (nl en)) :: Rst)) (hi : i < cnt) (hbd : cnt < 1000) (hz : ¬ i = 0) (hpr183 : 1 ≤ i) (hin184 : (i - 1) < en.length) (hbd184 : (i - 1) < 1000) (hsn185 : i < st.length) (hsb185 : i < 1000) :
    ∃ (T' : State) (h' : Heap) (locs' : List Loc), Stand p l e R s m args below meth c T' locs' cells slots ∧ T'.heap = h' ∧ Fr n0 locs' ∧ Rep Z n0 h' ((ax, Obj "com/example/witgen/witgen/regex/Partition" [("elements", "[I", (.ref b1)), ("location", "[I", (.ref b2)), ("blockOf", "[I", (.ref b3)), ("start", "[I", (.ref b4)), ("end", "[I", (.ref b5)), ("marked", "[I", (.ref b6)), ("touched", "[I", (.ref b7)), ("blocks", "I", (.int (Int32.ofNat cnt))), ("touchedCount", "I", (.int (0 : Int32)))]) :: (b4, Ar .int (nl (st.set i (en.getD (i - 1) 0)))) :: (b5, Ar .int (nl en)) :: Rst) ∧ ∀ t, Steps p.tables e below (T'.setTop (mkF m 155 #[.val (.ref ax), .val (.ref ix), .val (.int (Int32.ofNat cnt)), .val (.int (Int32.ofNat sz)), .val (.int (Int32.ofNat cap)), .val (.int (Int32.ofNat (i + 1))), s6, s7, s8] [])) t → Steps p.tables e below (T0.setTop (mkF m 155 #[.val (.ref ax), .val (.ref ix), .val (.int (Int32.ofNat cnt)), .val (.int (Int32.ofNat sz)), .val (.int (Int32.ofNat cap)), .val (.int (Int32.ofNat i)), s6, s7, s8] [])) t := by
  have pre0 : ∀ t, Steps p.tables e below (T0.setTop (mkF m 155 #[.val (.ref ax), .val (.ref ix), .val (.int (Int32.ofNat cnt)), .val (.int (Int32.ofNat sz)), .val (.int (Int32.ofNat cap)), .val (.int (Int32.ofNat i)), s6, s7, s8] [])) t → Steps p.tables e below (T0.setTop (mkF m 155 #[.val (.ref ax), .val (.ref ix), .val (.int (Int32.ofNat cnt)), .val (.int (Int32.ofNat sz)), .val (.int (Int32.ofNat cap)), .val (.int (Int32.ofNat i)), s6, s7, s8] [])) t := fun t k => k
  have pre2 : ∀ t, Steps p.tables e below (T0.setTop (mkF m 158 #[.val (.ref ax), .val (.ref ix), .val (.int (Int32.ofNat cnt)), .val (.int (Int32.ofNat sz)), .val (.int (Int32.ofNat cap)), .val (.int (Int32.ofNat i)), s6, s7, s8] [(.int (Int32.ofNat cnt)), (.int (Int32.ofNat i))])) t → Steps p.tables e below (T0.setTop (mkF m 155 #[.val (.ref ax), .val (.ref ix), .val (.int (Int32.ofNat cnt)), .val (.int (Int32.ofNat sz)), .val (.int (Int32.ofNat cap)), .val (.int (Int32.ofNat i)), s6, s7, s8] [])) t := fun t k => pre0 t (by
    show Steps p.tables e below (T0.setTop (mkF m 155 #[.val (.ref ax), .val (.ref ix), .val (.int (Int32.ofNat cnt)), .val (.int (Int32.ofNat sz)), .val (.int (Int32.ofNat cap)), .val (.int (Int32.ofNat i)), s6, s7, s8] [])) _
    refine XS.iload X0.here hx rfl (hb hby d2_155) rfl ?_
    refine XS.iloadN X0.here hx rfl (hb hby d2_157) rfl ?_
    exact k)
  have hb1 : (Int32.ofNat i) < (Int32.ofNat cnt) := n_lt hi hbd
  have pre3 : ∀ t, Steps p.tables e below (T0.setTop (mkF m 162 #[.val (.ref ax), .val (.ref ix), .val (.int (Int32.ofNat cnt)), .val (.int (Int32.ofNat sz)), .val (.int (Int32.ofNat cap)), .val (.int (Int32.ofNat i)), s6, s7, s8] [(.ref ax)])) t → Steps p.tables e below (T0.setTop (mkF m 155 #[.val (.ref ax), .val (.ref ix), .val (.int (Int32.ofNat cnt)), .val (.int (Int32.ofNat sz)), .val (.int (Int32.ofNat cap)), .val (.int (Int32.ofNat i)), s6, s7, s8] [])) t := fun t k => pre2 t (by
    show Steps p.tables e below (T0.setTop (mkF m 158 #[.val (.ref ax), .val (.ref ix), .val (.int (Int32.ofNat cnt)), .val (.int (Int32.ofNat sz)), .val (.int (Int32.ofNat cap)), .val (.int (Int32.ofNat i)), s6, s7, s8] [(.int (Int32.ofNat cnt)), (.int (Int32.ofNat i))])) _
    refine XS.icmpNo X0.here hx rfl (hb hby d2_158) rfl (tlt hb1).2.1 ?_
    refine XS.aloadN X0.here hx rfl (hb hby d2_161) rfl rfl ?_
    exact k)
  obtain ⟨T4, X4, e4, st4⟩ := gGet X0 hx hZ hown (host := "") (Or.inl (hw _ (List.mem_of_getElem? (i := 37) rfl))) e0 R0 0 3 rfl rfl (g := (mkF m 162 #[.val (.ref ax), .val (.ref ix), .val (.int (Int32.ofNat cnt)), .val (.int (Int32.ofNat sz)), .val (.int (Int32.ofNat cap)), .val (.int (Int32.ofNat i)), s6, s7, s8] [(.ref ax)])) rfl rfl (hb hby d2_162)
  have pre5 : ∀ t, Steps p.tables e below (T4.setTop (mkF m 165 #[.val (.ref ax), .val (.ref ix), .val (.int (Int32.ofNat cnt)), .val (.int (Int32.ofNat sz)), .val (.int (Int32.ofNat cap)), .val (.int (Int32.ofNat i)), s6, s7, s8] [(.ref b4)])) t → Steps p.tables e below (T0.setTop (mkF m 155 #[.val (.ref ax), .val (.ref ix), .val (.int (Int32.ofNat cnt)), .val (.int (Int32.ofNat sz)), .val (.int (Int32.ofNat cap)), .val (.int (Int32.ofNat i)), s6, s7, s8] [])) t := fun t k => pre3 t (st4 t k)
  have pre7 : ∀ t, Steps p.tables e below (T4.setTop (mkF m 169 #[.val (.ref ax), .val (.ref ix), .val (.int (Int32.ofNat cnt)), .val (.int (Int32.ofNat sz)), .val (.int (Int32.ofNat cap)), .val (.int (Int32.ofNat i)), s6, s7, s8] [(.int (Int32.ofNat i)), (.int (Int32.ofNat i)), (.ref b4)])) t → Steps p.tables e below (T0.setTop (mkF m 155 #[.val (.ref ax), .val (.ref ix), .val (.int (Int32.ofNat cnt)), .val (.int (Int32.ofNat sz)), .val (.int (Int32.ofNat cap)), .val (.int (Int32.ofNat i)), s6, s7, s8] [])) t := fun t k => pre5 t (by
    show Steps p.tables e below (T4.setTop (mkF m 165 #[.val (.ref ax), .val (.ref ix), .val (.int (Int32.ofNat cnt)), .val (.int (Int32.ofNat sz)), .val (.int (Int32.ofNat cap)), .val (.int (Int32.ofNat i)), s6, s7, s8] [(.ref b4)])) _
    refine XS.iload X4.here hx rfl (hb hby d2_165) rfl ?_
    refine XS.iload X4.here hx rfl (hb hby d2_167) rfl ?_
    exact k)
  have hb6 : ¬ ((Int32.ofNat i) = (0 : Int32)) := fun q => hz (n_inj (n := 0) q (by omega) (by decide))
  have pre8 : ∀ t, Steps p.tables e below (T4.setTop (mkF m 177 #[.val (.ref ax), .val (.ref ix), .val (.int (Int32.ofNat cnt)), .val (.int (Int32.ofNat sz)), .val (.int (Int32.ofNat cap)), .val (.int (Int32.ofNat i)), s6, s7, s8] [(.ref ax), (.int (Int32.ofNat i)), (.ref b4)])) t → Steps p.tables e below (T0.setTop (mkF m 155 #[.val (.ref ax), .val (.ref ix), .val (.int (Int32.ofNat cnt)), .val (.int (Int32.ofNat sz)), .val (.int (Int32.ofNat cap)), .val (.int (Int32.ofNat i)), s6, s7, s8] [])) t := fun t k => pre7 t (by
    show Steps p.tables e below (T4.setTop (mkF m 169 #[.val (.ref ax), .val (.ref ix), .val (.int (Int32.ofNat cnt)), .val (.int (Int32.ofNat sz)), .val (.int (Int32.ofNat cap)), .val (.int (Int32.ofNat i)), s6, s7, s8] [(.int (Int32.ofNat i)), (.int (Int32.ofNat i)), (.ref b4)])) _
    refine XS.ifYes X4.here hx rfl (pc0 := 169) (pc' := 176) rfl (hb hby d2_169) rfl ((if0 _ _).trans (feq hb6).2) (by decide) (by decide) ?_
    refine XS.aloadN X4.here hx rfl (hb hby d2_176) rfl rfl ?_
    exact k)
  obtain ⟨T9, X9, e9, st9⟩ := gGet X4 hx hZ hown (host := "") (Or.inl (hw _ (List.mem_of_getElem? (i := 39) rfl))) e4 R0 0 4 rfl rfl (g := (mkF m 177 #[.val (.ref ax), .val (.ref ix), .val (.int (Int32.ofNat cnt)), .val (.int (Int32.ofNat sz)), .val (.int (Int32.ofNat cap)), .val (.int (Int32.ofNat i)), s6, s7, s8] [(.ref ax), (.int (Int32.ofNat i)), (.ref b4)])) rfl rfl (hb hby d2_177)
  have pre10 : ∀ t, Steps p.tables e below (T9.setTop (mkF m 180 #[.val (.ref ax), .val (.ref ix), .val (.int (Int32.ofNat cnt)), .val (.int (Int32.ofNat sz)), .val (.int (Int32.ofNat cap)), .val (.int (Int32.ofNat i)), s6, s7, s8] [(.ref b5), (.int (Int32.ofNat i)), (.ref b4)])) t → Steps p.tables e below (T0.setTop (mkF m 155 #[.val (.ref ax), .val (.ref ix), .val (.int (Int32.ofNat cnt)), .val (.int (Int32.ofNat sz)), .val (.int (Int32.ofNat cap)), .val (.int (Int32.ofNat i)), s6, s7, s8] [])) t := fun t k => pre8 t (st9 t k)
  have pre11 : ∀ t, Steps p.tables e below (T9.setTop (mkF m 185 #[.val (.ref ax), .val (.ref ix), .val (.int (Int32.ofNat cnt)), .val (.int (Int32.ofNat sz)), .val (.int (Int32.ofNat cap)), .val (.int (Int32.ofNat i)), s6, s7, s8] [(.int (Int32.ofNat (en.getD (i - 1) 0))), (.int (Int32.ofNat i)), (.ref b4)])) t → Steps p.tables e below (T0.setTop (mkF m 155 #[.val (.ref ax), .val (.ref ix), .val (.int (Int32.ofNat cnt)), .val (.int (Int32.ofNat sz)), .val (.int (Int32.ofNat cap)), .val (.int (Int32.ofNat i)), s6, s7, s8] [])) t := fun t k => pre10 t (by
    show Steps p.tables e below (T9.setTop (mkF m 180 #[.val (.ref ax), .val (.ref ix), .val (.int (Int32.ofNat cnt)), .val (.int (Int32.ofNat sz)), .val (.int (Int32.ofNat cap)), .val (.int (Int32.ofNat i)), s6, s7, s8] [(.ref b5), (.int (Int32.ofNat i)), (.ref b4)])) _
    refine XS.iload X9.here hx rfl (hb hby d2_180) rfl ?_
    refine XS.iconst X9.here hx rfl (hb hby d2_182) ?_
    refine XS.isub X9.here hx rfl (hb hby d2_183) rfl ?_
    change Steps p.tables e below (T9.setTop (mkF m 184 #[.val (.ref ax), .val (.ref ix), .val (.int (Int32.ofNat cnt)), .val (.int (Int32.ofNat sz)), .val (.int (Int32.ofNat cap)), .val (.int (Int32.ofNat i)), s6, s7, s8] [(.int ((Int32.ofNat i) - (1 : Int32))), (.ref b5), (.int (Int32.ofNat i)), (.ref b4)])) _
    rw [n_pred hpr183]
    show Steps p.tables e below (T9.setTop (mkF m 184 #[.val (.ref ax), .val (.ref ix), .val (.int (Int32.ofNat cnt)), .val (.int (Int32.ofNat sz)), .val (.int (Int32.ofNat cap)), .val (.int (Int32.ofNat i)), s6, s7, s8] [(.int (Int32.ofNat (i - 1))), (.ref b5), (.int (Int32.ofNat i)), (.ref b4)])) _
    refine gIald X9 hx hZ e9 R0 2 rfl (j := (Int32.ofNat (i - 1))) (v := (.int (Int32.ofNat (en.getD (i - 1) 0)))) (n_nn hbd184) (nl_at hin184 hbd184) (g := (mkF m 184 #[.val (.ref ax), .val (.ref ix), .val (.int (Int32.ofNat cnt)), .val (.int (Int32.ofNat sz)), .val (.int (Int32.ofNat cap)), .val (.int (Int32.ofNat i)), s6, s7, s8] [(.int (Int32.ofNat (i - 1))), (.ref b5), (.int (Int32.ofNat i)), (.ref b4)])) rfl rfl (hb hby d2_184) _ ?_
    exact k)
  obtain ⟨T12, h12, ls12, X12, e12, N12, R12, st12⟩ := gIst X9 hx hZ e9 N0 R0 1 rfl (j := (Int32.ofNat i)) (n_nn hsb185) (i) (n_ix hsb185) (nl_lt hsn185) (g := (mkF m 185 #[.val (.ref ax), .val (.ref ix), .val (.int (Int32.ofNat cnt)), .val (.int (Int32.ofNat sz)), .val (.int (Int32.ofNat cap)), .val (.int (Int32.ofNat i)), s6, s7, s8] [(.int (Int32.ofNat (en.getD (i - 1) 0))), (.int (Int32.ofNat i)), (.ref b4)])) rfl rfl (hb hby d2_185)
  replace R12 : Rep Z n0 h12 ((ax, Obj "com/example/witgen/witgen/regex/Partition" [("elements", "[I", (.ref b1)), ("location", "[I", (.ref b2)), ("blockOf", "[I", (.ref b3)), ("start", "[I", (.ref b4)), ("end", "[I", (.ref b5)), ("marked", "[I", (.ref b6)), ("touched", "[I", (.ref b7)), ("blocks", "I", (.int (Int32.ofNat cnt))), ("touchedCount", "I", (.int (0 : Int32)))]) :: (b4, Ar .int (nl (st.set i (en.getD (i - 1) 0)))) :: (b5, Ar .int (nl en)) :: Rst) := by rw [← nl_set st i (en.getD (i - 1) 0)]; exact R12
  have pre13 : ∀ t, Steps p.tables e below (T12.setTop (mkF m 186 #[.val (.ref ax), .val (.ref ix), .val (.int (Int32.ofNat cnt)), .val (.int (Int32.ofNat sz)), .val (.int (Int32.ofNat cap)), .val (.int (Int32.ofNat i)), s6, s7, s8] [])) t → Steps p.tables e below (T0.setTop (mkF m 155 #[.val (.ref ax), .val (.ref ix), .val (.int (Int32.ofNat cnt)), .val (.int (Int32.ofNat sz)), .val (.int (Int32.ofNat cap)), .val (.int (Int32.ofNat i)), s6, s7, s8] [])) t := fun t k => pre11 t (st12 t k)
  have pre14 : ∀ t, Steps p.tables e below (T12.setTop (mkF m 155 #[.val (.ref ax), .val (.ref ix), .val (.int (Int32.ofNat cnt)), .val (.int (Int32.ofNat sz)), .val (.int (Int32.ofNat cap)), .val (.int (Int32.ofNat (i + 1))), s6, s7, s8] [])) t → Steps p.tables e below (T0.setTop (mkF m 155 #[.val (.ref ax), .val (.ref ix), .val (.int (Int32.ofNat cnt)), .val (.int (Int32.ofNat sz)), .val (.int (Int32.ofNat cap)), .val (.int (Int32.ofNat i)), s6, s7, s8] [])) t := fun t k => pre13 t (by
    show Steps p.tables e below (T12.setTop (mkF m 186 #[.val (.ref ax), .val (.ref ix), .val (.int (Int32.ofNat cnt)), .val (.int (Int32.ofNat sz)), .val (.int (Int32.ofNat cap)), .val (.int (Int32.ofNat i)), s6, s7, s8] [])) _
    refine XS.iinc X12.here hx rfl (hb hby d2_186) rfl (l' := #[.val (.ref ax), .val (.ref ix), .val (.int (Int32.ofNat cnt)), .val (.int (Int32.ofNat sz)), .val (.int (Int32.ofNat cap)), .val (.int ((Int32.ofNat i) + (1 : Int32))), s6, s7, s8]) rfl ?_
    change Steps p.tables e below (T12.setTop (mkF m 189 #[.val (.ref ax), .val (.ref ix), .val (.int (Int32.ofNat cnt)), .val (.int (Int32.ofNat sz)), .val (.int (Int32.ofNat cap)), .val (.int ((Int32.ofNat i) + (1 : Int32))), s6, s7, s8] [])) _
    rw [n_one]
    show Steps p.tables e below (T12.setTop (mkF m 189 #[.val (.ref ax), .val (.ref ix), .val (.int (Int32.ofNat cnt)), .val (.int (Int32.ofNat sz)), .val (.int (Int32.ofNat cap)), .val (.int (Int32.ofNat (i + 1))), s6, s7, s8] [])) _
    refine XS.goto X12.here hx rfl (pc0 := 189) (pc' := 155) rfl (hb hby d2_189) (by decide) (by decide) ?_
    exact k)
  exact ⟨T12, h12, _, X12, e12, N12, R12, pre14⟩
set_option maxRecDepth 65536 in
set_option maxHeartbeats 40000000 in
theorem l3_out {p : Program} {l : Launch} {e : Env} {R : Room} {s : State} {m : MethodId} {args : Array Value} {below : List Frame} {meth : Method} {c : Code} {T0 : State} {locs : List Loc} {cells slots : Nat} {Z : State} {a0 : Array Value} {h0 : Heap} {n0 : Nat} {Rst : RL} (ax : Addr) (ix : Addr) (b1 : Addr) (b2 : Addr) (b3 : Addr) (b4 : Addr) (b5 : Addr) (b6 : Addr) (b7 : Addr) (cnt : Nat) (sz : Nat) (cap : Nat) (i : Nat) (s6 : Slot) (s7 : Slot) (s8 : Slot) (st : List Nat) (en : List Nat)
    (X0 : Stand p l e R s m args below meth c T0 locs cells slots) (hx : p.tables.exec = Jvm.exec) (hZ : Z.Warmed39 s.vm) (hw : ∀ d ∈ tables_1, d.before a0 Z = true) (hby : c.code = prog_15_method_1_code) (hml : c.maxLocals = 9) (hown : s.vm.findClass "com/example/witgen/witgen/regex/Partition" = some m.cls) (e0 : T0.heap = h0) (N0 : Fr n0 locs) (R0 : Rep Z n0 h0 ((ax, Obj "com/example/witgen/witgen/regex/Partition" [("elements", "[I", (.ref b1)), ("location", "[I", (.ref b2)), ("blockOf", "[I", (.ref b3)), ("start", "[I", (.ref b4)), ("end", "[I", (.ref b5)), ("marked", "[I", (.ref b6)), ("touched", "[I", (.ref b7)), ("blocks", "I", (.int (Int32.ofNat cnt))), ("touchedCount", "I", (.int (0 : Int32)))]) :: (b4, Ar .int (nl st)) :: (b5, Ar .int (nl en)) :: Rst)) (hi : cnt ≤ i) (hbd : i < 1000) :
    ∃ (T' : State) (h' : Heap) (locs' : List Loc), Stand p l e R s m args below meth c T' locs' cells slots ∧ T'.heap = h' ∧ Fr n0 locs' ∧ Rep Z n0 h' ((ax, Obj "com/example/witgen/witgen/regex/Partition" [("elements", "[I", (.ref b1)), ("location", "[I", (.ref b2)), ("blockOf", "[I", (.ref b3)), ("start", "[I", (.ref b4)), ("end", "[I", (.ref b5)), ("marked", "[I", (.ref b6)), ("touched", "[I", (.ref b7)), ("blocks", "I", (.int (Int32.ofNat cnt))), ("touchedCount", "I", (.int (0 : Int32)))]) :: (b4, Ar .int (nl st)) :: (b5, Ar .int (nl en)) :: Rst) ∧ ∀ t, Steps p.tables e below (T'.setTop (mkF m 192 #[.val (.ref ax), .val (.ref ix), .val (.int (Int32.ofNat cnt)), .val (.int (Int32.ofNat sz)), .val (.int (Int32.ofNat cap)), .val (.int (Int32.ofNat i)), s6, s7, s8] [])) t → Steps p.tables e below (T0.setTop (mkF m 155 #[.val (.ref ax), .val (.ref ix), .val (.int (Int32.ofNat cnt)), .val (.int (Int32.ofNat sz)), .val (.int (Int32.ofNat cap)), .val (.int (Int32.ofNat i)), s6, s7, s8] [])) t := by
  have pre0 : ∀ t, Steps p.tables e below (T0.setTop (mkF m 155 #[.val (.ref ax), .val (.ref ix), .val (.int (Int32.ofNat cnt)), .val (.int (Int32.ofNat sz)), .val (.int (Int32.ofNat cap)), .val (.int (Int32.ofNat i)), s6, s7, s8] [])) t → Steps p.tables e below (T0.setTop (mkF m 155 #[.val (.ref ax), .val (.ref ix), .val (.int (Int32.ofNat cnt)), .val (.int (Int32.ofNat sz)), .val (.int (Int32.ofNat cap)), .val (.int (Int32.ofNat i)), s6, s7, s8] [])) t := fun t k => k
  have pre2 : ∀ t, Steps p.tables e below (T0.setTop (mkF m 158 #[.val (.ref ax), .val (.ref ix), .val (.int (Int32.ofNat cnt)), .val (.int (Int32.ofNat sz)), .val (.int (Int32.ofNat cap)), .val (.int (Int32.ofNat i)), s6, s7, s8] [(.int (Int32.ofNat cnt)), (.int (Int32.ofNat i))])) t → Steps p.tables e below (T0.setTop (mkF m 155 #[.val (.ref ax), .val (.ref ix), .val (.int (Int32.ofNat cnt)), .val (.int (Int32.ofNat sz)), .val (.int (Int32.ofNat cap)), .val (.int (Int32.ofNat i)), s6, s7, s8] [])) t := fun t k => pre0 t (by
    show Steps p.tables e below (T0.setTop (mkF m 155 #[.val (.ref ax), .val (.ref ix), .val (.int (Int32.ofNat cnt)), .val (.int (Int32.ofNat sz)), .val (.int (Int32.ofNat cap)), .val (.int (Int32.ofNat i)), s6, s7, s8] [])) _
    refine XS.iload X0.here hx rfl (hb hby d2_155) rfl ?_
    refine XS.iloadN X0.here hx rfl (hb hby d2_157) rfl ?_
    exact k)
  have hb1 : ¬ ((Int32.ofNat i) < (Int32.ofNat cnt)) := n_nlt hi hbd
  have pre3 : ∀ t, Steps p.tables e below (T0.setTop (mkF m 192 #[.val (.ref ax), .val (.ref ix), .val (.int (Int32.ofNat cnt)), .val (.int (Int32.ofNat sz)), .val (.int (Int32.ofNat cap)), .val (.int (Int32.ofNat i)), s6, s7, s8] [])) t → Steps p.tables e below (T0.setTop (mkF m 155 #[.val (.ref ax), .val (.ref ix), .val (.int (Int32.ofNat cnt)), .val (.int (Int32.ofNat sz)), .val (.int (Int32.ofNat cap)), .val (.int (Int32.ofNat i)), s6, s7, s8] [])) t := fun t k => pre2 t (by
    show Steps p.tables e below (T0.setTop (mkF m 158 #[.val (.ref ax), .val (.ref ix), .val (.int (Int32.ofNat cnt)), .val (.int (Int32.ofNat sz)), .val (.int (Int32.ofNat cap)), .val (.int (Int32.ofNat i)), s6, s7, s8] [(.int (Int32.ofNat cnt)), (.int (Int32.ofNat i))])) _
    refine XS.icmpYes X0.here hx rfl (pc0 := 158) (pc' := 192) rfl (hb hby d2_158) rfl (flt hb1).2.1 (by decide) (by decide) ?_
    exact k)
  exact ⟨T0, h0, _, X0, e0, N0, R0, pre3⟩
def s3 (en : List Nat) : Nat → Nat → List Nat → List Nat
  | 0, _, st => st
  | k + 1, i, st => s3 en k (i + 1) (st.set i (if i = 0 then 0 else en.getD (i - 1) 0))
def ok3 (en : List Nat) : Nat → Nat → List Nat → Bool
  | 0, _, _ => true
  | k + 1, i, st => decide (i < st.length) && decide (i < 1000) && decide (i - 1 < en.length) && ok3 en k (i + 1) (st.set i (if i = 0 then 0 else en.getD (i - 1) 0))
theorem l3_loop {p : Program} {l : Launch} {e : Env} {R : Room} {s : State} {m : MethodId} {args : Array Value} {below : List Frame} {meth : Method} {c : Code} {cells slots : Nat} {Z : State} {a0 : Array Value} {n0 : Nat} {Rst : RL} (ax ix : Addr) (b1 b2 b3 b4 b5 b6 b7 : Addr) (cnt sz cap : Nat) (s6 s7 s8 : Slot) (en : List Nat) (hbd : cnt < 1000) (hx : p.tables.exec = Jvm.exec) (hZ : Z.Warmed39 s.vm) (hw : ∀ d ∈ tables_1, d.before a0 Z = true) (hby : c.code = prog_15_method_1_code) (hml : c.maxLocals = 9) (hown : s.vm.findClass "com/example/witgen/witgen/regex/Partition" = some m.cls) :
    ∀ (k i : Nat) (st : List Nat) (T0 : State) (locs : List Loc) (h0 : Heap), i + k = cnt → ok3 en k i st = true → Stand p l e R s m args below meth c T0 locs cells slots → T0.heap = h0 → Fr n0 locs → Rep Z n0 h0 ((ax, Obj "com/example/witgen/witgen/regex/Partition" [("elements", "[I", (.ref b1)), ("location", "[I", (.ref b2)), ("blockOf", "[I", (.ref b3)), ("start", "[I", (.ref b4)), ("end", "[I", (.ref b5)), ("marked", "[I", (.ref b6)), ("touched", "[I", (.ref b7)), ("blocks", "I", (.int (Int32.ofNat cnt))), ("touchedCount", "I", (.int (0 : Int32)))]) :: (b4, Ar .int (nl st)) :: (b5, Ar .int (nl en)) :: Rst) →
      ∃ (T' : State) (h' : Heap) (locs' : List Loc), Stand p l e R s m args below meth c T' locs' cells slots ∧ T'.heap = h' ∧ Fr n0 locs' ∧ Rep Z n0 h' ((ax, Obj "com/example/witgen/witgen/regex/Partition" [("elements", "[I", (.ref b1)), ("location", "[I", (.ref b2)), ("blockOf", "[I", (.ref b3)), ("start", "[I", (.ref b4)), ("end", "[I", (.ref b5)), ("marked", "[I", (.ref b6)), ("touched", "[I", (.ref b7)), ("blocks", "I", (.int (Int32.ofNat cnt))), ("touchedCount", "I", (.int (0 : Int32)))]) :: (b4, Ar .int (nl (s3 en k i st))) :: (b5, Ar .int (nl en)) :: Rst) ∧ ∀ t, Steps p.tables e below (T'.setTop (mkF m 192 #[.val (.ref ax), .val (.ref ix), .val (.int (Int32.ofNat cnt)), .val (.int (Int32.ofNat sz)), .val (.int (Int32.ofNat cap)), .val (.int (Int32.ofNat cnt)), s6, s7, s8] [])) t → Steps p.tables e below (T0.setTop (mkF m 155 #[.val (.ref ax), .val (.ref ix), .val (.int (Int32.ofNat cnt)), .val (.int (Int32.ofNat sz)), .val (.int (Int32.ofNat cap)), .val (.int (Int32.ofNat i)), s6, s7, s8] [])) t := by
  intro k
  induction k with
  | zero =>
    intro i st T0 locs h0 hi ok X0 e0 N0 R0
    have hi' : i = cnt := by omega
    subst hi'
    exact l3_out ax ix b1 b2 b3 b4 b5 b6 b7 i sz cap i s6 s7 s8 st en X0 hx hZ hw hby hml hown e0 N0 R0 (Nat.le_refl _) hbd
  | succ k ih =>
    intro i st T0 locs h0 hi ok X0 e0 N0 R0
    simp only [ok3, Bool.and_eq_true, decide_eq_true_eq] at ok
    obtain ⟨⟨⟨a1, a2⟩, a3⟩, a5⟩ := ok
    by_cases hz : i = 0
    · rw [if_pos hz] at a5
      obtain ⟨T1, h1, ls1, X1, e1, N1, R1, st1⟩ := l3_zero ax ix b1 b2 b3 b4 b5 b6 b7 cnt sz cap i s6 s7 s8 st en X0 hx hZ hw hby hml hown e0 N0 R0 (by omega) hbd hz a1 a2
      obtain ⟨T2, h2, ls2, X2, e2, N2, R2, st2⟩ := ih (i + 1) _ T1 ls1 h1 (by omega) a5 X1 e1 N1 R1
      refine ⟨T2, h2, ls2, X2, e2, N2, ?_, fun t q => st1 t (st2 t q)⟩
      rw [s3, if_pos hz]; exact R2
    · rw [if_neg hz] at a5
      obtain ⟨T1, h1, ls1, X1, e1, N1, R1, st1⟩ := l3_turn ax ix b1 b2 b3 b4 b5 b6 b7 cnt sz cap i s6 s7 s8 st en X0 hx hZ hw hby hml hown e0 N0 R0 (by omega) hbd hz (by omega) a3 (by omega) a1 a2
      obtain ⟨T2, h2, ls2, X2, e2, N2, R2, st2⟩ := ih (i + 1) _ T1 ls1 h1 (by omega) a5 X1 e1 N1 R1
      refine ⟨T2, h2, ls2, X2, e2, N2, ?_, fun t q => st1 t (st2 t q)⟩
      rw [s3, if_neg hz]; exact R2
theorem d2_205 : decode prog_15_method_1_code 205 = .ok (.iload 6, 2) := by decide +kernel
theorem d2_207 : decode prog_15_method_1_code 207 = .ok (.iload_n 3, 1) := by decide +kernel
theorem d2_208 : decode prog_15_method_1_code 208 = .ok (.if_icmp .ge 42, 3) := by decide +kernel
theorem d2_211 : decode prog_15_method_1_code 211 = .ok (.aload_n 0, 1) := by decide +kernel
theorem d2_212 : decode prog_15_method_1_code 212 = .ok (.getfield 19, 3) := by decide +kernel
theorem d2_215 : decode prog_15_method_1_code 215 = .ok (.iload 6, 2) := by decide +kernel
theorem d2_217 : decode prog_15_method_1_code 217 = .ok (.aload 5, 2) := by decide +kernel
theorem d2_219 : decode prog_15_method_1_code 219 = .ok (.aload_n 1, 1) := by decide +kernel
theorem d2_220 : decode prog_15_method_1_code 220 = .ok (.iload 6, 2) := by decide +kernel
theorem d2_222 : decode prog_15_method_1_code 222 = .ok (.iaload, 1) := by decide +kernel
theorem d2_223 : decode prog_15_method_1_code 223 = .ok (.dup2, 1) := by decide +kernel
theorem d2_224 : decode prog_15_method_1_code 224 = .ok (.iaload, 1) := by decide +kernel
theorem d2_225 : decode prog_15_method_1_code 225 = .ok (.dup_x2, 1) := by decide +kernel
theorem d2_226 : decode prog_15_method_1_code 226 = .ok (.iconst 1, 1) := by decide +kernel
theorem d2_227 : decode prog_15_method_1_code 227 = .ok (.iadd, 1) := by decide +kernel
theorem d2_228 : decode prog_15_method_1_code 228 = .ok (.iastore, 1) := by decide +kernel
theorem d2_229 : decode prog_15_method_1_code 229 = .ok (.iastore, 1) := by decide +kernel
theorem d2_230 : decode prog_15_method_1_code 230 = .ok (.aload_n 0, 1) := by decide +kernel
theorem d2_231 : decode prog_15_method_1_code 231 = .ok (.getfield 13, 3) := by decide +kernel
theorem d2_234 : decode prog_15_method_1_code 234 = .ok (.aload_n 0, 1) := by decide +kernel
theorem d2_235 : decode prog_15_method_1_code 235 = .ok (.getfield 19, 3) := by decide +kernel
theorem d2_238 : decode prog_15_method_1_code 238 = .ok (.iload 6, 2) := by decide +kernel
theorem d2_240 : decode prog_15_method_1_code 240 = .ok (.iaload, 1) := by decide +kernel
theorem d2_241 : decode prog_15_method_1_code 241 = .ok (.iload 6, 2) := by decide +kernel
theorem d2_243 : decode prog_15_method_1_code 243 = .ok (.iastore, 1) := by decide +kernel
theorem d2_244 : decode prog_15_method_1_code 244 = .ok (.iinc 6 1, 3) := by decide +kernel
theorem d2_247 : decode prog_15_method_1_code 247 = .ok (.goto (-42), 3) := by decide +kernel
set_option maxRecDepth 65536 in
set_option maxHeartbeats 40000000 in
theorem l4_turn {p : Program} {l : Launch} {e : Env} {R : Room} {s : State} {m : MethodId} {args : Array Value} {below : List Frame} {meth : Method} {c : Code} {T0 : State} {locs : List Loc} {cells slots : Nat} {Z : State} {a0 : Array Value} {h0 : Heap} {n0 : Nat} {Rst : RL} (ax : Addr) (ix : Addr) (b1 : Addr) (b2 : Addr) (b3 : Addr) (b4 : Addr) (b5 : Addr) (b6 : Addr) (b7 : Addr) (cnt : Nat) (sz : Nat) (cap : Nat) (nx : Addr) (i : Nat) (s7 : Slot) (s8 : Slot) (el : List Nat) (lo : List Nat) (ns : List Nat) (es : List Nat)
    (X0 : Stand p l e R s m args below meth c T0 locs cells slots) (hx : p.tables.exec = Jvm.exec) (hZ : Z.Warmed39 s.vm) (hw : ∀ d ∈ tables_1, d.before a0 Z = true) (hby : c.code = prog_15_method_1_code) (hml : c.maxLocals = 9) (hown : s.vm.findClass "com/example/witgen/witgen/regex/Partition" = some m.cls) (e0 : T0.heap = h0) (N0 : Fr n0 locs) (R0 : Rep Z n0 h0 ((ax, Obj "com/example/witgen/witgen/regex/Partition" [("elements", "[I", (.ref b1)), ("location", "[I", (.ref b2)), ("blockOf", "[I", (.ref b3)), ("start", "[I", (.ref b4)), ("end", "[I", (.ref b5)), ("marked", "[I", (.ref b6)), ("touched", "[I", (.ref b7)), ("blocks", "I", (.int (Int32.ofNat cnt))), ("touchedCount", "I", (.int (0 : Int32)))]) :: (b1, Ar .int (nl el)) :: (b2, Ar .int (nl lo)) :: (nx, Ar .int (nl ns)) :: (ix, Ar .int (nl es)) :: Rst)) (hi : i < sz) (hbd : sz < 1000) (hin222 : i < es.length) (hbd222 : i < 1000) (hin224 : (es.getD i 0) < ns.length) (hbd224 : (es.getD i 0) < 1000) (hsn228 : (es.getD i 0) < ns.length) (hsb228 : (es.getD i 0) < 1000) (hsn229 : i < lo.length) (hsb229 : i < 1000) (hin240 : i < (lo.set i (ns.getD (es.getD i 0) 0)).length) (hbd240 : i < 1000) (hsn243 : ((lo.set i (ns.getD (es.getD i 0) 0)).getD i 0) < el.length) (hsb243 : ((lo.set i (ns.getD (es.getD i 0) 0)).getD i 0) < 1000) :
    ∃ (T' : State) (h' : Heap) (locs' : List Loc), Stand p l e R s m args below meth c T' locs' cells slots ∧ T'.heap = h' ∧ Fr n0 locs' ∧ Rep Z n0 h' ((ax, Obj "com/example/witgen/witgen/regex/Partition" [("elements", "[I", (.ref b1)), ("location", "[I", (.ref b2)), ("blockOf", "[I", (.ref b3)), ("start", "[I", (.ref b4)), ("end", "[I", (.ref b5)), ("marked", "[I", (.ref b6)), ("touched", "[I", (.ref b7)), ("blocks", "I", (.int (Int32.ofNat cnt))), ("touchedCount", "I", (.int (0 : Int32)))]) :: (b1, Ar .int (nl (el.set ((lo.set i (ns.getD (es.getD i 0) 0)).getD i 0) i))) :: (b2, Ar .int (nl (lo.set i (ns.getD (es.getD i 0) 0)))) :: (nx, Ar .int (nl (ns.set (es.getD i 0) ((ns.getD (es.getD i 0) 0) + 1)))) :: (ix, Ar .int (nl es)) :: Rst) ∧ ∀ t, Steps p.tables e below (T'.setTop (mkF m 205 #[.val (.ref ax), .val (.ref ix), .val (.int (Int32.ofNat cnt)), .val (.int (Int32.ofNat sz)), .val (.int (Int32.ofNat cap)), .val (.ref nx), .val (.int (Int32.ofNat (i + 1))), s7, s8] [])) t → Steps p.tables e below (T0.setTop (mkF m 205 #[.val (.ref ax), .val (.ref ix), .val (.int (Int32.ofNat cnt)), .val (.int (Int32.ofNat sz)), .val (.int (Int32.ofNat cap)), .val (.ref nx), .val (.int (Int32.ofNat i)), s7, s8] [])) t := by
  have pre0 : ∀ t, Steps p.tables e below (T0.setTop (mkF m 205 #[.val (.ref ax), .val (.ref ix), .val (.int (Int32.ofNat cnt)), .val (.int (Int32.ofNat sz)), .val (.int (Int32.ofNat cap)), .val (.ref nx), .val (.int (Int32.ofNat i)), s7, s8] [])) t → Steps p.tables e below (T0.setTop (mkF m 205 #[.val (.ref ax), .val (.ref ix), .val (.int (Int32.ofNat cnt)), .val (.int (Int32.ofNat sz)), .val (.int (Int32.ofNat cap)), .val (.ref nx), .val (.int (Int32.ofNat i)), s7, s8] [])) t := fun t k => k
  have pre2 : ∀ t, Steps p.tables e below (T0.setTop (mkF m 208 #[.val (.ref ax), .val (.ref ix), .val (.int (Int32.ofNat cnt)), .val (.int (Int32.ofNat sz)), .val (.int (Int32.ofNat cap)), .val (.ref nx), .val (.int (Int32.ofNat i)), s7, s8] [(.int (Int32.ofNat sz)), (.int (Int32.ofNat i))])) t → Steps p.tables e below (T0.setTop (mkF m 205 #[.val (.ref ax), .val (.ref ix), .val (.int (Int32.ofNat cnt)), .val (.int (Int32.ofNat sz)), .val (.int (Int32.ofNat cap)), .val (.ref nx), .val (.int (Int32.ofNat i)), s7, s8] [])) t := fun t k => pre0 t (by
    show Steps p.tables e below (T0.setTop (mkF m 205 #[.val (.ref ax), .val (.ref ix), .val (.int (Int32.ofNat cnt)), .val (.int (Int32.ofNat sz)), .val (.int (Int32.ofNat cap)), .val (.ref nx), .val (.int (Int32.ofNat i)), s7, s8] [])) _
    refine XS.iload X0.here hx rfl (hb hby d2_205) rfl ?_
    refine XS.iloadN X0.here hx rfl (hb hby d2_207) rfl ?_
    exact k)
  have hb1 : (Int32.ofNat i) < (Int32.ofNat sz) := n_lt hi hbd
  have pre3 : ∀ t, Steps p.tables e below (T0.setTop (mkF m 212 #[.val (.ref ax), .val (.ref ix), .val (.int (Int32.ofNat cnt)), .val (.int (Int32.ofNat sz)), .val (.int (Int32.ofNat cap)), .val (.ref nx), .val (.int (Int32.ofNat i)), s7, s8] [(.ref ax)])) t → Steps p.tables e below (T0.setTop (mkF m 205 #[.val (.ref ax), .val (.ref ix), .val (.int (Int32.ofNat cnt)), .val (.int (Int32.ofNat sz)), .val (.int (Int32.ofNat cap)), .val (.ref nx), .val (.int (Int32.ofNat i)), s7, s8] [])) t := fun t k => pre2 t (by
    show Steps p.tables e below (T0.setTop (mkF m 208 #[.val (.ref ax), .val (.ref ix), .val (.int (Int32.ofNat cnt)), .val (.int (Int32.ofNat sz)), .val (.int (Int32.ofNat cap)), .val (.ref nx), .val (.int (Int32.ofNat i)), s7, s8] [(.int (Int32.ofNat sz)), (.int (Int32.ofNat i))])) _
    refine XS.icmpNo X0.here hx rfl (hb hby d2_208) rfl (tlt hb1).2.1 ?_
    refine XS.aloadN X0.here hx rfl (hb hby d2_211) rfl rfl ?_
    exact k)
  obtain ⟨T4, X4, e4, st4⟩ := gGet X0 hx hZ hown (host := "") (Or.inl (hw _ (List.mem_of_getElem? (i := 24) rfl))) e0 R0 0 1 rfl rfl (g := (mkF m 212 #[.val (.ref ax), .val (.ref ix), .val (.int (Int32.ofNat cnt)), .val (.int (Int32.ofNat sz)), .val (.int (Int32.ofNat cap)), .val (.ref nx), .val (.int (Int32.ofNat i)), s7, s8] [(.ref ax)])) rfl rfl (hb hby d2_212)
  have pre5 : ∀ t, Steps p.tables e below (T4.setTop (mkF m 215 #[.val (.ref ax), .val (.ref ix), .val (.int (Int32.ofNat cnt)), .val (.int (Int32.ofNat sz)), .val (.int (Int32.ofNat cap)), .val (.ref nx), .val (.int (Int32.ofNat i)), s7, s8] [(.ref b2)])) t → Steps p.tables e below (T0.setTop (mkF m 205 #[.val (.ref ax), .val (.ref ix), .val (.int (Int32.ofNat cnt)), .val (.int (Int32.ofNat sz)), .val (.int (Int32.ofNat cap)), .val (.ref nx), .val (.int (Int32.ofNat i)), s7, s8] [])) t := fun t k => pre3 t (st4 t k)
  have pre6 : ∀ t, Steps p.tables e below (T4.setTop (mkF m 228 #[.val (.ref ax), .val (.ref ix), .val (.int (Int32.ofNat cnt)), .val (.int (Int32.ofNat sz)), .val (.int (Int32.ofNat cap)), .val (.ref nx), .val (.int (Int32.ofNat i)), s7, s8] [(.int (Int32.ofNat ((ns.getD (es.getD i 0) 0) + 1))), (.int (Int32.ofNat (es.getD i 0))), (.ref nx), (.int (Int32.ofNat (ns.getD (es.getD i 0) 0))), (.int (Int32.ofNat i)), (.ref b2)])) t → Steps p.tables e below (T0.setTop (mkF m 205 #[.val (.ref ax), .val (.ref ix), .val (.int (Int32.ofNat cnt)), .val (.int (Int32.ofNat sz)), .val (.int (Int32.ofNat cap)), .val (.ref nx), .val (.int (Int32.ofNat i)), s7, s8] [])) t := fun t k => pre5 t (by
    show Steps p.tables e below (T4.setTop (mkF m 215 #[.val (.ref ax), .val (.ref ix), .val (.int (Int32.ofNat cnt)), .val (.int (Int32.ofNat sz)), .val (.int (Int32.ofNat cap)), .val (.ref nx), .val (.int (Int32.ofNat i)), s7, s8] [(.ref b2)])) _
    refine XS.iload X4.here hx rfl (hb hby d2_215) rfl ?_
    refine XS.aload X4.here hx rfl (hb hby d2_217) rfl rfl ?_
    refine XS.aloadN X4.here hx rfl (hb hby d2_219) rfl rfl ?_
    refine XS.iload X4.here hx rfl (hb hby d2_220) rfl ?_
    refine gIald X4 hx hZ e4 R0 4 rfl (j := (Int32.ofNat i)) (v := (.int (Int32.ofNat (es.getD i 0)))) (n_nn hbd222) (nl_at hin222 hbd222) (g := (mkF m 222 #[.val (.ref ax), .val (.ref ix), .val (.int (Int32.ofNat cnt)), .val (.int (Int32.ofNat sz)), .val (.int (Int32.ofNat cap)), .val (.ref nx), .val (.int (Int32.ofNat i)), s7, s8] [(.int (Int32.ofNat i)), (.ref ix), (.ref nx), (.int (Int32.ofNat i)), (.ref b2)])) rfl rfl (hb hby d2_222) _ ?_
    refine xDup2 X4.here hx rfl (hb hby d2_223) rfl rfl rfl ?_
    refine gIald X4 hx hZ e4 R0 3 rfl (j := (Int32.ofNat (es.getD i 0))) (v := (.int (Int32.ofNat (ns.getD (es.getD i 0) 0)))) (n_nn hbd224) (nl_at hin224 hbd224) (g := (mkF m 224 #[.val (.ref ax), .val (.ref ix), .val (.int (Int32.ofNat cnt)), .val (.int (Int32.ofNat sz)), .val (.int (Int32.ofNat cap)), .val (.ref nx), .val (.int (Int32.ofNat i)), s7, s8] [(.int (Int32.ofNat (es.getD i 0))), (.ref nx), (.int (Int32.ofNat (es.getD i 0))), (.ref nx), (.int (Int32.ofNat i)), (.ref b2)])) rfl rfl (hb hby d2_224) _ ?_
    show Steps p.tables e below (T4.setTop (mkF m 225 #[.val (.ref ax), .val (.ref ix), .val (.int (Int32.ofNat cnt)), .val (.int (Int32.ofNat sz)), .val (.int (Int32.ofNat cap)), .val (.ref nx), .val (.int (Int32.ofNat i)), s7, s8] [(.int (Int32.ofNat (ns.getD (es.getD i 0) 0))), (.int (Int32.ofNat (es.getD i 0))), (.ref nx), (.int (Int32.ofNat i)), (.ref b2)])) _
    refine xDupX2 X4.here hx rfl (hb hby d2_225) rfl rfl rfl rfl ?_
    refine XS.iconst X4.here hx rfl (hb hby d2_226) ?_
    refine XS.iadd X4.here hx rfl (hb hby d2_227) rfl ?_
    change Steps p.tables e below (T4.setTop (mkF m 228 #[.val (.ref ax), .val (.ref ix), .val (.int (Int32.ofNat cnt)), .val (.int (Int32.ofNat sz)), .val (.int (Int32.ofNat cap)), .val (.ref nx), .val (.int (Int32.ofNat i)), s7, s8] [(.int ((Int32.ofNat (ns.getD (es.getD i 0) 0)) + (1 : Int32))), (.int (Int32.ofNat (es.getD i 0))), (.ref nx), (.int (Int32.ofNat (ns.getD (es.getD i 0) 0))), (.int (Int32.ofNat i)), (.ref b2)])) _
    rw [n_one]
    exact k)
  obtain ⟨T7, h7, ls7, X7, e7, N7, R7, st7⟩ := gIst X4 hx hZ e4 N0 R0 3 rfl (j := (Int32.ofNat (es.getD i 0))) (n_nn hsb228) ((es.getD i 0)) (n_ix hsb228) (nl_lt hsn228) (g := (mkF m 228 #[.val (.ref ax), .val (.ref ix), .val (.int (Int32.ofNat cnt)), .val (.int (Int32.ofNat sz)), .val (.int (Int32.ofNat cap)), .val (.ref nx), .val (.int (Int32.ofNat i)), s7, s8] [(.int (Int32.ofNat ((ns.getD (es.getD i 0) 0) + 1))), (.int (Int32.ofNat (es.getD i 0))), (.ref nx), (.int (Int32.ofNat (ns.getD (es.getD i 0) 0))), (.int (Int32.ofNat i)), (.ref b2)])) rfl rfl (hb hby d2_228)
  replace R7 : Rep Z n0 h7 ((ax, Obj "com/example/witgen/witgen/regex/Partition" [("elements", "[I", (.ref b1)), ("location", "[I", (.ref b2)), ("blockOf", "[I", (.ref b3)), ("start", "[I", (.ref b4)), ("end", "[I", (.ref b5)), ("marked", "[I", (.ref b6)), ("touched", "[I", (.ref b7)), ("blocks", "I", (.int (Int32.ofNat cnt))), ("touchedCount", "I", (.int (0 : Int32)))]) :: (b1, Ar .int (nl el)) :: (b2, Ar .int (nl lo)) :: (nx, Ar .int (nl (ns.set (es.getD i 0) ((ns.getD (es.getD i 0) 0) + 1)))) :: (ix, Ar .int (nl es)) :: Rst) := by rw [← nl_set ns (es.getD i 0) ((ns.getD (es.getD i 0) 0) + 1)]; exact R7
  have pre8 : ∀ t, Steps p.tables e below (T7.setTop (mkF m 229 #[.val (.ref ax), .val (.ref ix), .val (.int (Int32.ofNat cnt)), .val (.int (Int32.ofNat sz)), .val (.int (Int32.ofNat cap)), .val (.ref nx), .val (.int (Int32.ofNat i)), s7, s8] [(.int (Int32.ofNat (ns.getD (es.getD i 0) 0))), (.int (Int32.ofNat i)), (.ref b2)])) t → Steps p.tables e below (T0.setTop (mkF m 205 #[.val (.ref ax), .val (.ref ix), .val (.int (Int32.ofNat cnt)), .val (.int (Int32.ofNat sz)), .val (.int (Int32.ofNat cap)), .val (.ref nx), .val (.int (Int32.ofNat i)), s7, s8] [])) t := fun t k => pre6 t (st7 t k)
  obtain ⟨T9, h9, ls9, X9, e9, N9, R9, st9⟩ := gIst X7 hx hZ e7 N7 R7 2 rfl (j := (Int32.ofNat i)) (n_nn hsb229) (i) (n_ix hsb229) (nl_lt hsn229) (g := (mkF m 229 #[.val (.ref ax), .val (.ref ix), .val (.int (Int32.ofNat cnt)), .val (.int (Int32.ofNat sz)), .val (.int (Int32.ofNat cap)), .val (.ref nx), .val (.int (Int32.ofNat i)), s7, s8] [(.int (Int32.ofNat (ns.getD (es.getD i 0) 0))), (.int (Int32.ofNat i)), (.ref b2)])) rfl rfl (hb hby d2_229)
  replace R9 : Rep Z n0 h9 ((ax, Obj "com/example/witgen/witgen/regex/Partition" [("elements", "[I", (.ref b1)), ("location", "[I", (.ref b2)), ("blockOf", "[I", (.ref b3)), ("start", "[I", (.ref b4)), ("end", "[I", (.ref b5)), ("marked", "[I", (.ref b6)), ("touched", "[I", (.ref b7)), ("blocks", "I", (.int (Int32.ofNat cnt))), ("touchedCount", "I", (.int (0 : Int32)))]) :: (b1, Ar .int (nl el)) :: (b2, Ar .int (nl (lo.set i (ns.getD (es.getD i 0) 0)))) :: (nx, Ar .int (nl (ns.set (es.getD i 0) ((ns.getD (es.getD i 0) 0) + 1)))) :: (ix, Ar .int (nl es)) :: Rst) := by rw [← nl_set lo i (ns.getD (es.getD i 0) 0)]; exact R9
  have pre10 : ∀ t, Steps p.tables e below (T9.setTop (mkF m 230 #[.val (.ref ax), .val (.ref ix), .val (.int (Int32.ofNat cnt)), .val (.int (Int32.ofNat sz)), .val (.int (Int32.ofNat cap)), .val (.ref nx), .val (.int (Int32.ofNat i)), s7, s8] [])) t → Steps p.tables e below (T0.setTop (mkF m 205 #[.val (.ref ax), .val (.ref ix), .val (.int (Int32.ofNat cnt)), .val (.int (Int32.ofNat sz)), .val (.int (Int32.ofNat cap)), .val (.ref nx), .val (.int (Int32.ofNat i)), s7, s8] [])) t := fun t k => pre8 t (st9 t k)
  have pre11 : ∀ t, Steps p.tables e below (T9.setTop (mkF m 231 #[.val (.ref ax), .val (.ref ix), .val (.int (Int32.ofNat cnt)), .val (.int (Int32.ofNat sz)), .val (.int (Int32.ofNat cap)), .val (.ref nx), .val (.int (Int32.ofNat i)), s7, s8] [(.ref ax)])) t → Steps p.tables e below (T0.setTop (mkF m 205 #[.val (.ref ax), .val (.ref ix), .val (.int (Int32.ofNat cnt)), .val (.int (Int32.ofNat sz)), .val (.int (Int32.ofNat cap)), .val (.ref nx), .val (.int (Int32.ofNat i)), s7, s8] [])) t := fun t k => pre10 t (by
    show Steps p.tables e below (T9.setTop (mkF m 230 #[.val (.ref ax), .val (.ref ix), .val (.int (Int32.ofNat cnt)), .val (.int (Int32.ofNat sz)), .val (.int (Int32.ofNat cap)), .val (.ref nx), .val (.int (Int32.ofNat i)), s7, s8] [])) _
    refine XS.aloadN X9.here hx rfl (hb hby d2_230) rfl rfl ?_
    exact k)
  obtain ⟨T12, X12, e12, st12⟩ := gGet X9 hx hZ hown (host := "") (Or.inl (hw _ (List.mem_of_getElem? (i := 22) rfl))) e9 R9 0 0 rfl rfl (g := (mkF m 231 #[.val (.ref ax), .val (.ref ix), .val (.int (Int32.ofNat cnt)), .val (.int (Int32.ofNat sz)), .val (.int (Int32.ofNat cap)), .val (.ref nx), .val (.int (Int32.ofNat i)), s7, s8] [(.ref ax)])) rfl rfl (hb hby d2_231)
  have pre13 : ∀ t, Steps p.tables e below (T12.setTop (mkF m 234 #[.val (.ref ax), .val (.ref ix), .val (.int (Int32.ofNat cnt)), .val (.int (Int32.ofNat sz)), .val (.int (Int32.ofNat cap)), .val (.ref nx), .val (.int (Int32.ofNat i)), s7, s8] [(.ref b1)])) t → Steps p.tables e below (T0.setTop (mkF m 205 #[.val (.ref ax), .val (.ref ix), .val (.int (Int32.ofNat cnt)), .val (.int (Int32.ofNat sz)), .val (.int (Int32.ofNat cap)), .val (.ref nx), .val (.int (Int32.ofNat i)), s7, s8] [])) t := fun t k => pre11 t (st12 t k)
  have pre14 : ∀ t, Steps p.tables e below (T12.setTop (mkF m 235 #[.val (.ref ax), .val (.ref ix), .val (.int (Int32.ofNat cnt)), .val (.int (Int32.ofNat sz)), .val (.int (Int32.ofNat cap)), .val (.ref nx), .val (.int (Int32.ofNat i)), s7, s8] [(.ref ax), (.ref b1)])) t → Steps p.tables e below (T0.setTop (mkF m 205 #[.val (.ref ax), .val (.ref ix), .val (.int (Int32.ofNat cnt)), .val (.int (Int32.ofNat sz)), .val (.int (Int32.ofNat cap)), .val (.ref nx), .val (.int (Int32.ofNat i)), s7, s8] [])) t := fun t k => pre13 t (by
    show Steps p.tables e below (T12.setTop (mkF m 234 #[.val (.ref ax), .val (.ref ix), .val (.int (Int32.ofNat cnt)), .val (.int (Int32.ofNat sz)), .val (.int (Int32.ofNat cap)), .val (.ref nx), .val (.int (Int32.ofNat i)), s7, s8] [(.ref b1)])) _
    refine XS.aloadN X12.here hx rfl (hb hby d2_234) rfl rfl ?_
    exact k)
  obtain ⟨T15, X15, e15, st15⟩ := gGet X12 hx hZ hown (host := "") (Or.inl (hw _ (List.mem_of_getElem? (i := 24) rfl))) e12 R9 0 1 rfl rfl (g := (mkF m 235 #[.val (.ref ax), .val (.ref ix), .val (.int (Int32.ofNat cnt)), .val (.int (Int32.ofNat sz)), .val (.int (Int32.ofNat cap)), .val (.ref nx), .val (.int (Int32.ofNat i)), s7, s8] [(.ref ax), (.ref b1)])) rfl rfl (hb hby d2_235)
  have pre16 : ∀ t, Steps p.tables e below (T15.setTop (mkF m 238 #[.val (.ref ax), .val (.ref ix), .val (.int (Int32.ofNat cnt)), .val (.int (Int32.ofNat sz)), .val (.int (Int32.ofNat cap)), .val (.ref nx), .val (.int (Int32.ofNat i)), s7, s8] [(.ref b2), (.ref b1)])) t → Steps p.tables e below (T0.setTop (mkF m 205 #[.val (.ref ax), .val (.ref ix), .val (.int (Int32.ofNat cnt)), .val (.int (Int32.ofNat sz)), .val (.int (Int32.ofNat cap)), .val (.ref nx), .val (.int (Int32.ofNat i)), s7, s8] [])) t := fun t k => pre14 t (st15 t k)
  have pre17 : ∀ t, Steps p.tables e below (T15.setTop (mkF m 243 #[.val (.ref ax), .val (.ref ix), .val (.int (Int32.ofNat cnt)), .val (.int (Int32.ofNat sz)), .val (.int (Int32.ofNat cap)), .val (.ref nx), .val (.int (Int32.ofNat i)), s7, s8] [(.int (Int32.ofNat i)), (.int (Int32.ofNat ((lo.set i (ns.getD (es.getD i 0) 0)).getD i 0))), (.ref b1)])) t → Steps p.tables e below (T0.setTop (mkF m 205 #[.val (.ref ax), .val (.ref ix), .val (.int (Int32.ofNat cnt)), .val (.int (Int32.ofNat sz)), .val (.int (Int32.ofNat cap)), .val (.ref nx), .val (.int (Int32.ofNat i)), s7, s8] [])) t := fun t k => pre16 t (by
    show Steps p.tables e below (T15.setTop (mkF m 238 #[.val (.ref ax), .val (.ref ix), .val (.int (Int32.ofNat cnt)), .val (.int (Int32.ofNat sz)), .val (.int (Int32.ofNat cap)), .val (.ref nx), .val (.int (Int32.ofNat i)), s7, s8] [(.ref b2), (.ref b1)])) _
    refine XS.iload X15.here hx rfl (hb hby d2_238) rfl ?_
    refine gIald X15 hx hZ e15 R9 2 rfl (j := (Int32.ofNat i)) (v := (.int (Int32.ofNat ((lo.set i (ns.getD (es.getD i 0) 0)).getD i 0)))) (n_nn hbd240) (nl_at hin240 hbd240) (g := (mkF m 240 #[.val (.ref ax), .val (.ref ix), .val (.int (Int32.ofNat cnt)), .val (.int (Int32.ofNat sz)), .val (.int (Int32.ofNat cap)), .val (.ref nx), .val (.int (Int32.ofNat i)), s7, s8] [(.int (Int32.ofNat i)), (.ref b2), (.ref b1)])) rfl rfl (hb hby d2_240) _ ?_
    refine XS.iload X15.here hx rfl (hb hby d2_241) rfl ?_
    exact k)
  obtain ⟨T18, h18, ls18, X18, e18, N18, R18, st18⟩ := gIst X15 hx hZ e15 N9 R9 1 rfl (j := (Int32.ofNat ((lo.set i (ns.getD (es.getD i 0) 0)).getD i 0))) (n_nn hsb243) (((lo.set i (ns.getD (es.getD i 0) 0)).getD i 0)) (n_ix hsb243) (nl_lt hsn243) (g := (mkF m 243 #[.val (.ref ax), .val (.ref ix), .val (.int (Int32.ofNat cnt)), .val (.int (Int32.ofNat sz)), .val (.int (Int32.ofNat cap)), .val (.ref nx), .val (.int (Int32.ofNat i)), s7, s8] [(.int (Int32.ofNat i)), (.int (Int32.ofNat ((lo.set i (ns.getD (es.getD i 0) 0)).getD i 0))), (.ref b1)])) rfl rfl (hb hby d2_243)
  replace R18 : Rep Z n0 h18 ((ax, Obj "com/example/witgen/witgen/regex/Partition" [("elements", "[I", (.ref b1)), ("location", "[I", (.ref b2)), ("blockOf", "[I", (.ref b3)), ("start", "[I", (.ref b4)), ("end", "[I", (.ref b5)), ("marked", "[I", (.ref b6)), ("touched", "[I", (.ref b7)), ("blocks", "I", (.int (Int32.ofNat cnt))), ("touchedCount", "I", (.int (0 : Int32)))]) :: (b1, Ar .int (nl (el.set ((lo.set i (ns.getD (es.getD i 0) 0)).getD i 0) i))) :: (b2, Ar .int (nl (lo.set i (ns.getD (es.getD i 0) 0)))) :: (nx, Ar .int (nl (ns.set (es.getD i 0) ((ns.getD (es.getD i 0) 0) + 1)))) :: (ix, Ar .int (nl es)) :: Rst) := by rw [← nl_set el ((lo.set i (ns.getD (es.getD i 0) 0)).getD i 0) i]; exact R18
  have pre19 : ∀ t, Steps p.tables e below (T18.setTop (mkF m 244 #[.val (.ref ax), .val (.ref ix), .val (.int (Int32.ofNat cnt)), .val (.int (Int32.ofNat sz)), .val (.int (Int32.ofNat cap)), .val (.ref nx), .val (.int (Int32.ofNat i)), s7, s8] [])) t → Steps p.tables e below (T0.setTop (mkF m 205 #[.val (.ref ax), .val (.ref ix), .val (.int (Int32.ofNat cnt)), .val (.int (Int32.ofNat sz)), .val (.int (Int32.ofNat cap)), .val (.ref nx), .val (.int (Int32.ofNat i)), s7, s8] [])) t := fun t k => pre17 t (st18 t k)
  have pre20 : ∀ t, Steps p.tables e below (T18.setTop (mkF m 205 #[.val (.ref ax), .val (.ref ix), .val (.int (Int32.ofNat cnt)), .val (.int (Int32.ofNat sz)), .val (.int (Int32.ofNat cap)), .val (.ref nx), .val (.int (Int32.ofNat (i + 1))), s7, s8] [])) t → Steps p.tables e below (T0.setTop (mkF m 205 #[.val (.ref ax), .val (.ref ix), .val (.int (Int32.ofNat cnt)), .val (.int (Int32.ofNat sz)), .val (.int (Int32.ofNat cap)), .val (.ref nx), .val (.int (Int32.ofNat i)), s7, s8] [])) t := fun t k => pre19 t (by
    show Steps p.tables e below (T18.setTop (mkF m 244 #[.val (.ref ax), .val (.ref ix), .val (.int (Int32.ofNat cnt)), .val (.int (Int32.ofNat sz)), .val (.int (Int32.ofNat cap)), .val (.ref nx), .val (.int (Int32.ofNat i)), s7, s8] [])) _
    refine XS.iinc X18.here hx rfl (hb hby d2_244) rfl (l' := #[.val (.ref ax), .val (.ref ix), .val (.int (Int32.ofNat cnt)), .val (.int (Int32.ofNat sz)), .val (.int (Int32.ofNat cap)), .val (.ref nx), .val (.int ((Int32.ofNat i) + (1 : Int32))), s7, s8]) rfl ?_
    change Steps p.tables e below (T18.setTop (mkF m 247 #[.val (.ref ax), .val (.ref ix), .val (.int (Int32.ofNat cnt)), .val (.int (Int32.ofNat sz)), .val (.int (Int32.ofNat cap)), .val (.ref nx), .val (.int ((Int32.ofNat i) + (1 : Int32))), s7, s8] [])) _
    rw [n_one]
    show Steps p.tables e below (T18.setTop (mkF m 247 #[.val (.ref ax), .val (.ref ix), .val (.int (Int32.ofNat cnt)), .val (.int (Int32.ofNat sz)), .val (.int (Int32.ofNat cap)), .val (.ref nx), .val (.int (Int32.ofNat (i + 1))), s7, s8] [])) _
    refine XS.goto X18.here hx rfl (pc0 := 247) (pc' := 205) rfl (hb hby d2_247) (by decide) (by decide) ?_
    exact k)
  exact ⟨T18, h18, _, X18, e18, N18, R18, pre20⟩
set_option maxRecDepth 65536 in
set_option maxHeartbeats 40000000 in
theorem l4_out {p : Program} {l : Launch} {e : Env} {R : Room} {s : State} {m : MethodId} {args : Array Value} {below : List Frame} {meth : Method} {c : Code} {T0 : State} {locs : List Loc} {cells slots : Nat} {Z : State} {a0 : Array Value} {h0 : Heap} {n0 : Nat} {Rst : RL} (ax : Addr) (ix : Addr) (b1 : Addr) (b2 : Addr) (b3 : Addr) (b4 : Addr) (b5 : Addr) (b6 : Addr) (b7 : Addr) (cnt : Nat) (sz : Nat) (cap : Nat) (nx : Addr) (i : Nat) (s7 : Slot) (s8 : Slot) (el : List Nat) (lo : List Nat) (ns : List Nat) (es : List Nat)
    (X0 : Stand p l e R s m args below meth c T0 locs cells slots) (hx : p.tables.exec = Jvm.exec) (hZ : Z.Warmed39 s.vm) (hw : ∀ d ∈ tables_1, d.before a0 Z = true) (hby : c.code = prog_15_method_1_code) (hml : c.maxLocals = 9) (hown : s.vm.findClass "com/example/witgen/witgen/regex/Partition" = some m.cls) (e0 : T0.heap = h0) (N0 : Fr n0 locs) (R0 : Rep Z n0 h0 ((ax, Obj "com/example/witgen/witgen/regex/Partition" [("elements", "[I", (.ref b1)), ("location", "[I", (.ref b2)), ("blockOf", "[I", (.ref b3)), ("start", "[I", (.ref b4)), ("end", "[I", (.ref b5)), ("marked", "[I", (.ref b6)), ("touched", "[I", (.ref b7)), ("blocks", "I", (.int (Int32.ofNat cnt))), ("touchedCount", "I", (.int (0 : Int32)))]) :: (b1, Ar .int (nl el)) :: (b2, Ar .int (nl lo)) :: (nx, Ar .int (nl ns)) :: (ix, Ar .int (nl es)) :: Rst)) (hi : sz ≤ i) (hbd : i < 1000) :
    ∃ (T' : State) (h' : Heap) (locs' : List Loc), Stand p l e R s m args below meth c T' locs' cells slots ∧ T'.heap = h' ∧ Fr n0 locs' ∧ Rep Z n0 h' ((ax, Obj "com/example/witgen/witgen/regex/Partition" [("elements", "[I", (.ref b1)), ("location", "[I", (.ref b2)), ("blockOf", "[I", (.ref b3)), ("start", "[I", (.ref b4)), ("end", "[I", (.ref b5)), ("marked", "[I", (.ref b6)), ("touched", "[I", (.ref b7)), ("blocks", "I", (.int (Int32.ofNat cnt))), ("touchedCount", "I", (.int (0 : Int32)))]) :: (b1, Ar .int (nl el)) :: (b2, Ar .int (nl lo)) :: (nx, Ar .int (nl ns)) :: (ix, Ar .int (nl es)) :: Rst) ∧ ∀ t, Steps p.tables e below (T'.setTop (mkF m 250 #[.val (.ref ax), .val (.ref ix), .val (.int (Int32.ofNat cnt)), .val (.int (Int32.ofNat sz)), .val (.int (Int32.ofNat cap)), .val (.ref nx), .val (.int (Int32.ofNat i)), s7, s8] [])) t → Steps p.tables e below (T0.setTop (mkF m 205 #[.val (.ref ax), .val (.ref ix), .val (.int (Int32.ofNat cnt)), .val (.int (Int32.ofNat sz)), .val (.int (Int32.ofNat cap)), .val (.ref nx), .val (.int (Int32.ofNat i)), s7, s8] [])) t := by
  have pre0 : ∀ t, Steps p.tables e below (T0.setTop (mkF m 205 #[.val (.ref ax), .val (.ref ix), .val (.int (Int32.ofNat cnt)), .val (.int (Int32.ofNat sz)), .val (.int (Int32.ofNat cap)), .val (.ref nx), .val (.int (Int32.ofNat i)), s7, s8] [])) t → Steps p.tables e below (T0.setTop (mkF m 205 #[.val (.ref ax), .val (.ref ix), .val (.int (Int32.ofNat cnt)), .val (.int (Int32.ofNat sz)), .val (.int (Int32.ofNat cap)), .val (.ref nx), .val (.int (Int32.ofNat i)), s7, s8] [])) t := fun t k => k
  have pre2 : ∀ t, Steps p.tables e below (T0.setTop (mkF m 208 #[.val (.ref ax), .val (.ref ix), .val (.int (Int32.ofNat cnt)), .val (.int (Int32.ofNat sz)), .val (.int (Int32.ofNat cap)), .val (.ref nx), .val (.int (Int32.ofNat i)), s7, s8] [(.int (Int32.ofNat sz)), (.int (Int32.ofNat i))])) t → Steps p.tables e below (T0.setTop (mkF m 205 #[.val (.ref ax), .val (.ref ix), .val (.int (Int32.ofNat cnt)), .val (.int (Int32.ofNat sz)), .val (.int (Int32.ofNat cap)), .val (.ref nx), .val (.int (Int32.ofNat i)), s7, s8] [])) t := fun t k => pre0 t (by
    show Steps p.tables e below (T0.setTop (mkF m 205 #[.val (.ref ax), .val (.ref ix), .val (.int (Int32.ofNat cnt)), .val (.int (Int32.ofNat sz)), .val (.int (Int32.ofNat cap)), .val (.ref nx), .val (.int (Int32.ofNat i)), s7, s8] [])) _
    refine XS.iload X0.here hx rfl (hb hby d2_205) rfl ?_
    refine XS.iloadN X0.here hx rfl (hb hby d2_207) rfl ?_
    exact k)
  have hb1 : ¬ ((Int32.ofNat i) < (Int32.ofNat sz)) := n_nlt hi hbd
  have pre3 : ∀ t, Steps p.tables e below (T0.setTop (mkF m 250 #[.val (.ref ax), .val (.ref ix), .val (.int (Int32.ofNat cnt)), .val (.int (Int32.ofNat sz)), .val (.int (Int32.ofNat cap)), .val (.ref nx), .val (.int (Int32.ofNat i)), s7, s8] [])) t → Steps p.tables e below (T0.setTop (mkF m 205 #[.val (.ref ax), .val (.ref ix), .val (.int (Int32.ofNat cnt)), .val (.int (Int32.ofNat sz)), .val (.int (Int32.ofNat cap)), .val (.ref nx), .val (.int (Int32.ofNat i)), s7, s8] [])) t := fun t k => pre2 t (by
    show Steps p.tables e below (T0.setTop (mkF m 208 #[.val (.ref ax), .val (.ref ix), .val (.int (Int32.ofNat cnt)), .val (.int (Int32.ofNat sz)), .val (.int (Int32.ofNat cap)), .val (.ref nx), .val (.int (Int32.ofNat i)), s7, s8] [(.int (Int32.ofNat sz)), (.int (Int32.ofNat i))])) _
    refine XS.icmpYes X0.here hx rfl (pc0 := 208) (pc' := 250) rfl (hb hby d2_208) rfl (flt hb1).2.1 (by decide) (by decide) ?_
    exact k)
  exact ⟨T0, h0, _, X0, e0, N0, R0, pre3⟩
def s4 (es : List Nat) : Nat → Nat → List Nat → List Nat → List Nat → List Nat × List Nat × List Nat
  | 0, _, el, lo, ns => (el, lo, ns)
  | k + 1, i, el, lo, ns => s4 es k (i + 1) (el.set ((lo.set i (ns.getD (es.getD i 0) 0)).getD i 0) i) (lo.set i (ns.getD (es.getD i 0) 0)) (ns.set (es.getD i 0) (ns.getD (es.getD i 0) 0 + 1))
def ok4 (es : List Nat) : Nat → Nat → List Nat → List Nat → List Nat → Bool
  | 0, _, _, _, _ => true
  | k + 1, i, el, lo, ns => decide (i < es.length) && decide (i < 1000) && decide (es.getD i 0 < ns.length) && decide (es.getD i 0 < 1000) && decide (i < lo.length) && decide (i < (lo.set i (ns.getD (es.getD i 0) 0)).length) && decide ((lo.set i (ns.getD (es.getD i 0) 0)).getD i 0 < el.length) && decide ((lo.set i (ns.getD (es.getD i 0) 0)).getD i 0 < 1000) && ok4 es k (i + 1) (el.set ((lo.set i (ns.getD (es.getD i 0) 0)).getD i 0) i) (lo.set i (ns.getD (es.getD i 0) 0)) (ns.set (es.getD i 0) (ns.getD (es.getD i 0) 0 + 1))
theorem l4_loop {p : Program} {l : Launch} {e : Env} {R : Room} {s : State} {m : MethodId} {args : Array Value} {below : List Frame} {meth : Method} {c : Code} {cells slots : Nat} {Z : State} {a0 : Array Value} {n0 : Nat} {Rst : RL} (ax ix : Addr) (b1 b2 b3 b4 b5 b6 b7 : Addr) (cnt sz cap : Nat) (nx : Addr) (s7 s8 : Slot) (es : List Nat) (hbd : sz < 1000) (hx : p.tables.exec = Jvm.exec) (hZ : Z.Warmed39 s.vm) (hw : ∀ d ∈ tables_1, d.before a0 Z = true) (hby : c.code = prog_15_method_1_code) (hml : c.maxLocals = 9) (hown : s.vm.findClass "com/example/witgen/witgen/regex/Partition" = some m.cls) :
    ∀ (k i : Nat) (el lo ns : List Nat) (T0 : State) (locs : List Loc) (h0 : Heap), i + k = sz → ok4 es k i el lo ns = true → Stand p l e R s m args below meth c T0 locs cells slots → T0.heap = h0 → Fr n0 locs → Rep Z n0 h0 ((ax, Obj "com/example/witgen/witgen/regex/Partition" [("elements", "[I", (.ref b1)), ("location", "[I", (.ref b2)), ("blockOf", "[I", (.ref b3)), ("start", "[I", (.ref b4)), ("end", "[I", (.ref b5)), ("marked", "[I", (.ref b6)), ("touched", "[I", (.ref b7)), ("blocks", "I", (.int (Int32.ofNat cnt))), ("touchedCount", "I", (.int (0 : Int32)))]) :: (b1, Ar .int (nl el)) :: (b2, Ar .int (nl lo)) :: (nx, Ar .int (nl ns)) :: (ix, Ar .int (nl es)) :: Rst) →
      ∃ (T' : State) (h' : Heap) (locs' : List Loc), Stand p l e R s m args below meth c T' locs' cells slots ∧ T'.heap = h' ∧ Fr n0 locs' ∧ Rep Z n0 h' ((ax, Obj "com/example/witgen/witgen/regex/Partition" [("elements", "[I", (.ref b1)), ("location", "[I", (.ref b2)), ("blockOf", "[I", (.ref b3)), ("start", "[I", (.ref b4)), ("end", "[I", (.ref b5)), ("marked", "[I", (.ref b6)), ("touched", "[I", (.ref b7)), ("blocks", "I", (.int (Int32.ofNat cnt))), ("touchedCount", "I", (.int (0 : Int32)))]) :: (b1, Ar .int (nl (s4 es k i el lo ns).1)) :: (b2, Ar .int (nl (s4 es k i el lo ns).2.1)) :: (nx, Ar .int (nl (s4 es k i el lo ns).2.2)) :: (ix, Ar .int (nl es)) :: Rst) ∧ ∀ t, Steps p.tables e below (T'.setTop (mkF m 250 #[.val (.ref ax), .val (.ref ix), .val (.int (Int32.ofNat cnt)), .val (.int (Int32.ofNat sz)), .val (.int (Int32.ofNat cap)), .val (.ref nx), .val (.int (Int32.ofNat sz)), s7, s8] [])) t → Steps p.tables e below (T0.setTop (mkF m 205 #[.val (.ref ax), .val (.ref ix), .val (.int (Int32.ofNat cnt)), .val (.int (Int32.ofNat sz)), .val (.int (Int32.ofNat cap)), .val (.ref nx), .val (.int (Int32.ofNat i)), s7, s8] [])) t := by
  intro k
  induction k with
  | zero =>
    intro i el lo ns T0 locs h0 hi ok X0 e0 N0 R0
    have hi' : i = sz := by omega
    subst hi'
    exact l4_out ax ix b1 b2 b3 b4 b5 b6 b7 cnt i cap nx i s7 s8 el lo ns es X0 hx hZ hw hby hml hown e0 N0 R0 (Nat.le_refl _) hbd
  | succ k ih =>
    intro i el lo ns T0 locs h0 hi ok X0 e0 N0 R0
    simp only [ok4, Bool.and_eq_true, decide_eq_true_eq] at ok
    obtain ⟨⟨⟨⟨⟨⟨⟨⟨a1, a2⟩, a3⟩, a4⟩, a6⟩, a7⟩, a8⟩, a9⟩, a5⟩ := ok
    obtain ⟨T1, h1, ls1, X1, e1, N1, R1, st1⟩ := l4_turn ax ix b1 b2 b3 b4 b5 b6 b7 cnt sz cap nx i s7 s8 el lo ns es X0 hx hZ hw hby hml hown e0 N0 R0 (by omega) hbd a1 a2 a3 a4 a3 a4 a6 a2 a7 a2 a8 a9
    obtain ⟨T2, h2, ls2, X2, e2, N2, R2, st2⟩ := ih (i + 1) _ _ _ T1 ls1 h1 (by omega) a5 X1 e1 N1 R1
    exact ⟨T2, h2, ls2, X2, e2, N2, R2, fun t q => st1 t (st2 t q)⟩
def pN (es : List Nat) (cnt : Nat) : Nat := max es.length cnt
def pE1 (es : List Nat) (cnt : Nat) : List Nat := s1 es es.length 0 (List.replicate (max es.length cnt) 0)
def pEn (es : List Nat) (cnt : Nat) : List Nat := s2 (cnt - 1) 1 (pE1 es cnt)
def pSt (es : List Nat) (cnt : Nat) : List Nat := s3 (pEn es cnt) cnt 0 (List.replicate (max es.length cnt) 0)
def pS4 (es : List Nat) (cnt : Nat) : List Nat × List Nat × List Nat := s4 es es.length 0 (List.replicate es.length 0) (List.replicate es.length 0) ((pSt es cnt).take cnt)
def okC (es : List Nat) (cnt : Nat) : Bool := ok1 es es.length 0 (List.replicate (max es.length cnt) 0) && ok2 (cnt - 1) 1 (pE1 es cnt) && ok3 (pEn es cnt) cnt 0 (List.replicate (max es.length cnt) 0) && ok4 es es.length 0 (List.replicate es.length 0) (List.replicate es.length 0) ((pSt es cnt).take cnt) && decide (cnt ≤ (pSt es cnt).length) && decide ((pSt es cnt).length ≤ 8) && decide (¬ cnt = (pSt es cnt).length)
theorem okC.parts {es : List Nat} {cnt : Nat} (h : okC es cnt = true) : ok1 es es.length 0 (List.replicate (max es.length cnt) 0) = true ∧ ok2 (cnt - 1) 1 (pE1 es cnt) = true ∧ ok3 (pEn es cnt) cnt 0 (List.replicate (max es.length cnt) 0) = true ∧ ok4 es es.length 0 (List.replicate es.length 0) (List.replicate es.length 0) ((pSt es cnt).take cnt) = true ∧ cnt ≤ (pSt es cnt).length ∧ (pSt es cnt).length ≤ 8 ∧ ¬ cnt = (pSt es cnt).length := by
  simp only [okC, Bool.and_eq_true, decide_eq_true_eq] at h
  exact ⟨h.1.1.1.1.1.1, h.1.1.1.1.1.2, h.1.1.1.1.2, h.1.1.1.2, h.1.1.2, h.1.2, h.2⟩
theorem d2_0 : decode prog_15_method_1_code 0 = .ok (.aload_n 0, 1) := by decide +kernel
theorem d2_1 : decode prog_15_method_1_code 1 = .ok (.invokespecial 1, 3) := by decide +kernel
theorem d2_4 : decode prog_15_method_1_code 4 = .ok (.aload_n 1, 1) := by decide +kernel
theorem d2_5 : decode prog_15_method_1_code 5 = .ok (.arraylength, 1) := by decide +kernel
theorem d2_6 : decode prog_15_method_1_code 6 = .ok (.istore_n 3, 1) := by decide +kernel
theorem d2_7 : decode prog_15_method_1_code 7 = .ok (.iload_n 3, 1) := by decide +kernel
theorem d2_8 : decode prog_15_method_1_code 8 = .ok (.iload_n 2, 1) := by decide +kernel
theorem d2_9 : decode prog_15_method_1_code 9 = .ok (.invokestatic 7, 3) := by decide +kernel
theorem d2_12 : decode prog_15_method_1_code 12 = .ok (.istore 4, 2) := by decide +kernel
theorem d2_14 : decode prog_15_method_1_code 14 = .ok (.aload_n 0, 1) := by decide +kernel
theorem d2_15 : decode prog_15_method_1_code 15 = .ok (.iload_n 3, 1) := by decide +kernel
theorem d2_16 : decode prog_15_method_1_code 16 = .ok (.newarray .int, 2) := by decide +kernel
theorem d2_18 : decode prog_15_method_1_code 18 = .ok (.putfield 13, 3) := by decide +kernel
theorem d2_21 : decode prog_15_method_1_code 21 = .ok (.aload_n 0, 1) := by decide +kernel
theorem d2_22 : decode prog_15_method_1_code 22 = .ok (.iload_n 3, 1) := by decide +kernel
theorem d2_23 : decode prog_15_method_1_code 23 = .ok (.newarray .int, 2) := by decide +kernel
theorem d2_25 : decode prog_15_method_1_code 25 = .ok (.putfield 19, 3) := by decide +kernel
theorem d2_28 : decode prog_15_method_1_code 28 = .ok (.aload_n 0, 1) := by decide +kernel
theorem d2_29 : decode prog_15_method_1_code 29 = .ok (.aload_n 1, 1) := by decide +kernel
theorem d2_30 : decode prog_15_method_1_code 30 = .ok (.invokevirtual 22, 3) := by decide +kernel
theorem d2_33 : decode prog_15_method_1_code 33 = .ok (.checkcast 23, 3) := by decide +kernel
theorem d2_36 : decode prog_15_method_1_code 36 = .ok (.putfield 27, 3) := by decide +kernel
theorem d2_39 : decode prog_15_method_1_code 39 = .ok (.aload_n 0, 1) := by decide +kernel
theorem d2_40 : decode prog_15_method_1_code 40 = .ok (.iload 4, 2) := by decide +kernel
theorem d2_42 : decode prog_15_method_1_code 42 = .ok (.newarray .int, 2) := by decide +kernel
theorem d2_44 : decode prog_15_method_1_code 44 = .ok (.putfield 30, 3) := by decide +kernel
theorem d2_47 : decode prog_15_method_1_code 47 = .ok (.aload_n 0, 1) := by decide +kernel
theorem d2_48 : decode prog_15_method_1_code 48 = .ok (.iload 4, 2) := by decide +kernel
theorem d2_50 : decode prog_15_method_1_code 50 = .ok (.newarray .int, 2) := by decide +kernel
theorem d2_52 : decode prog_15_method_1_code 52 = .ok (.putfield 33, 3) := by decide +kernel
theorem d2_55 : decode prog_15_method_1_code 55 = .ok (.aload_n 0, 1) := by decide +kernel
theorem d2_56 : decode prog_15_method_1_code 56 = .ok (.iload 4, 2) := by decide +kernel
theorem d2_58 : decode prog_15_method_1_code 58 = .ok (.newarray .int, 2) := by decide +kernel
theorem d2_60 : decode prog_15_method_1_code 60 = .ok (.putfield 36, 3) := by decide +kernel
theorem d2_63 : decode prog_15_method_1_code 63 = .ok (.aload_n 0, 1) := by decide +kernel
theorem d2_64 : decode prog_15_method_1_code 64 = .ok (.iload 4, 2) := by decide +kernel
theorem d2_66 : decode prog_15_method_1_code 66 = .ok (.newarray .int, 2) := by decide +kernel
theorem d2_68 : decode prog_15_method_1_code 68 = .ok (.putfield 39, 3) := by decide +kernel
theorem d2_71 : decode prog_15_method_1_code 71 = .ok (.aload_n 0, 1) := by decide +kernel
theorem d2_72 : decode prog_15_method_1_code 72 = .ok (.iload_n 2, 1) := by decide +kernel
theorem d2_73 : decode prog_15_method_1_code 73 = .ok (.putfield 42, 3) := by decide +kernel
theorem d2_76 : decode prog_15_method_1_code 76 = .ok (.aload_n 1, 1) := by decide +kernel
theorem d2_77 : decode prog_15_method_1_code 77 = .ok (.astore 5, 2) := by decide +kernel
theorem d2_79 : decode prog_15_method_1_code 79 = .ok (.aload 5, 2) := by decide +kernel
theorem d2_81 : decode prog_15_method_1_code 81 = .ok (.arraylength, 1) := by decide +kernel
theorem d2_82 : decode prog_15_method_1_code 82 = .ok (.istore 6, 2) := by decide +kernel
theorem d2_84 : decode prog_15_method_1_code 84 = .ok (.iconst 0, 1) := by decide +kernel
theorem d2_85 : decode prog_15_method_1_code 85 = .ok (.istore 7, 2) := by decide +kernel
theorem d2_118 : decode prog_15_method_1_code 118 = .ok (.iconst 1, 1) := by decide +kernel
theorem d2_119 : decode prog_15_method_1_code 119 = .ok (.istore 5, 2) := by decide +kernel
theorem d2_152 : decode prog_15_method_1_code 152 = .ok (.iconst 0, 1) := by decide +kernel
theorem d2_153 : decode prog_15_method_1_code 153 = .ok (.istore 5, 2) := by decide +kernel
theorem d2_192 : decode prog_15_method_1_code 192 = .ok (.aload_n 0, 1) := by decide +kernel
theorem d2_193 : decode prog_15_method_1_code 193 = .ok (.getfield 30, 3) := by decide +kernel
theorem d2_196 : decode prog_15_method_1_code 196 = .ok (.iload_n 2, 1) := by decide +kernel
theorem d2_197 : decode prog_15_method_1_code 197 = .ok (.invokestatic 46, 3) := by decide +kernel
theorem pd__28_5bII_29_5bI : parseMethodDescriptor "([II)[I" = some ⟨[(.array .int), .int], some (.array .int)⟩ := by decide +kernel
theorem d2_200 : decode prog_15_method_1_code 200 = .ok (.astore 5, 2) := by decide +kernel
theorem d2_202 : decode prog_15_method_1_code 202 = .ok (.iconst 0, 1) := by decide +kernel
theorem d2_203 : decode prog_15_method_1_code 203 = .ok (.istore 6, 2) := by decide +kernel
theorem d2_250 : decode prog_15_method_1_code 250 = .ok (.return_, 1) := by decide +kernel
theorem pn_com_example_witgen_witgen_regex_Partition : plainName "com/example/witgen/witgen/regex/Partition" = true := by first | (simp [plainName, overriddenIn]; done) | decide +kernel
theorem ef_2 (m : MethodId) (x0 : Addr) (x1 : Addr) (x2 : Nat) : entryFrame m #[(.ref x0), (.ref x1), (.int (Int32.ofNat x2))] 9 = mkF m 0 #[.val (.ref x0), .val (.ref x1), .val (.int (Int32.ofNat x2)), .unset, .unset, .unset, .unset, .unset, .unset] [] := by first | (simp [entryFrame, mkF, argsToLocals, Value.category]; done) | rfl
def Q2 (Z : State) (ax : Addr) (ix : Addr) (cnt : Nat) (u1 : Value) (u2 : Value) (u3 : Value) (u4 : Value) (u5 : Value) (u6 : Value) (u7 : Value) (u9 : Value) (es : List Nat) (n0 : Nat) (Rst : RL) (v : Option Value) (h : Heap) (L : List Loc) : Prop := ∃ b1 : Addr, ∃ b2 : Addr, ∃ b3 : Addr, ∃ b4 : Addr, ∃ b5 : Addr, ∃ b6 : Addr, ∃ b7 : Addr, v = none ∧ Fr n0 L ∧ Rep Z n0 h ((ax, Obj "com/example/witgen/witgen/regex/Partition" [("elements", "[I", (.ref b1)), ("location", "[I", (.ref b2)), ("blockOf", "[I", (.ref b3)), ("start", "[I", (.ref b4)), ("end", "[I", (.ref b5)), ("marked", "[I", (.ref b6)), ("touched", "[I", (.ref b7)), ("blocks", "I", (.int (Int32.ofNat cnt))), ("touchedCount", "I", (.int (0 : Int32)))]) :: (b1, Ar .int (nl (pS4 es cnt).1)) :: (b2, Ar .int (nl (pS4 es cnt).2.1)) :: (b3, Ar .int (nl es)) :: (b4, Ar .int (nl (pSt es cnt))) :: (b5, Ar .int (nl (pEn es cnt))) :: (b6, Ar .int (nl (List.replicate (max es.length cnt) 0))) :: (b7, Ar .int (nl (List.replicate (max es.length cnt) 0))) :: (ix, Ar .int (nl es)) :: Rst)
set_option maxRecDepth 65536 in
set_option maxHeartbeats 40000000 in
theorem rm2 (l : Launch) (Z : State) (a0 : Array Value) (hw : ∀ d ∈ tables_1, d.before a0 Z = true) (ws : List Jvm.Cond) (ax : Addr) (ix : Addr) (cnt : Nat) (u1 : Value) (u2 : Value) (u3 : Value) (u4 : Value) (u5 : Value) (u6 : Value) (u7 : Value) (u9 : Value) (es : List Nat) (h0 : Heap) (n0 : Nat) (Rst : RL) (R0 : Rep Z n0 h0 ((ax, Obj "com/example/witgen/witgen/regex/Partition" [("elements", "[I", u1), ("location", "[I", u2), ("blockOf", "[I", u3), ("start", "[I", u4), ("end", "[I", u5), ("marked", "[I", u6), ("touched", "[I", u7), ("blocks", "I", u9), ("touchedCount", "I", (.int (0 : Int32)))]) :: (ix, Ar .int (nl es)) :: Rst)) (hl : es.length ≤ 4) (hc : cnt ≤ 8) (hc1 : 1 ≤ cnt) (hok0 : okC es cnt = true) :
    MetFree l (⟨"com/example/witgen/witgen/regex/Partition", "<init>", "([II)V"⟩ : MethodName) (head1 (Jvm.Cond.code (⟨"com/example/witgen/witgen/regex/Partition", "<init>", "([II)V"⟩ : MethodName) prog_15_method_1_code 9 none :: ws) ({ frames := 2, cells := 8, slots := 52, locals := 32 } : Room)) (fun a U => a = #[(.ref ax), (.ref ix), (.int (Int32.ofNat cnt))] ∧ Z.Warmed39 U.vm ∧ U.heap = h0) (fun _ _ _ _ _ => True) (fun _ U o U' => ∃ v L, o = .returned v ∧ Q2 Z ax ix cnt u1 u2 u3 u4 u5 u6 u7 u9 es n0 Rst v U'.heap L ∧ FrameEnd U o U' L ({ frames := 2, cells := 8, slots := 52, locals := 32 } : Room).cells ({ frames := 2, cells := 8, slots := 52, locals := 32 } : Room).slots) := by
  refine MetFree.of_bodySF (plainFor_of_name pn_com_example_witgen_witgen_regex_Partition) hisR ?_
  intro p e s m args below meth c s₁ Bd hml0 hP hK
  obtain ⟨rfl, hZ, hh⟩ := hP
  have hx := Bd.exec
  have hby := Bd.bytes
  have hml : c.maxLocals = 9 := hml0
  have hown : s.vm.findClass "com/example/witgen/witgen/regex/Partition" = some m.cls := findClass_of_methodNamed Bd.named
  have hnm := (name_of_methodNamed Bd.named Bd.method).1
  have X0 : Stand p l e ({ frames := 2, cells := 8, slots := 52, locals := 32 } : Room) s m #[(.ref ax), (.ref ix), (.int (Int32.ofNat cnt))] below meth c s₁ [] 0 0 := Stand.of_body Bd
  have e0 : s₁.heap = h0 := by rw [← hh, Bd.state]; rfl
  have N0 := Fr.nil n0
  have pre0 : ∀ t, Steps p.tables e below (s₁.setTop (mkF m 0 #[.val (.ref ax), .val (.ref ix), .val (.int (Int32.ofNat cnt)), .unset, .unset, .unset, .unset, .unset, .unset] [])) t → Steps p.tables e below (s₁.setTop (entryFrame m #[(.ref ax), (.ref ix), (.int (Int32.ofNat cnt))] 9)) t := fun t k => castTop (ef_2 m ax ix cnt) k
  have hok := (okC.parts hok0)
  have pre1 : ∀ t, Steps p.tables e below (s₁.setTop (mkF m 1 #[.val (.ref ax), .val (.ref ix), .val (.int (Int32.ofNat cnt)), .unset, .unset, .unset, .unset, .unset, .unset] [(.ref ax)])) t → Steps p.tables e below (s₁.setTop (entryFrame m #[(.ref ax), (.ref ix), (.int (Int32.ofNat cnt))] 9)) t := fun t k => pre0 t (by
    show Steps p.tables e below (s₁.setTop (mkF m 0 #[.val (.ref ax), .val (.ref ix), .val (.int (Int32.ofNat cnt)), .unset, .unset, .unset, .unset, .unset, .unset] [])) _
    refine XS.aloadN X0.here hx rfl (hb hby d2_0) rfl rfl ?_
    exact k)
  obtain ⟨T2, X2, e2, st2⟩ := initO X0 hx hZ hown (hw _ (List.mem_of_getElem? (i := 15) rfl)) (hw _ (List.mem_of_getElem? (i := 16) rfl)) (hw _ (List.mem_of_getElem? (i := 17) rfl)) e0 (g := (mkF m 1 #[.val (.ref ax), .val (.ref ix), .val (.int (Int32.ofNat cnt)), .unset, .unset, .unset, .unset, .unset, .unset] [(.ref ax)])) rfl (by rw [hml]; rfl) rfl (hb hby d2_1) (by decide) (W := 0) (by show 2 * 0 + _ ≤ _; exact Nat.le_of_eq rfl) (by decide)
  have pre3 : ∀ t, Steps p.tables e below (T2.setTop (mkF m 4 #[.val (.ref ax), .val (.ref ix), .val (.int (Int32.ofNat cnt)), .unset, .unset, .unset, .unset, .unset, .unset] [])) t → Steps p.tables e below (s₁.setTop (entryFrame m #[(.ref ax), (.ref ix), (.int (Int32.ofNat cnt))] 9)) t := fun t k => pre1 t (st2 t k)
  have pre4 : ∀ t, Steps p.tables e below (T2.setTop (mkF m 9 #[.val (.ref ax), .val (.ref ix), .val (.int (Int32.ofNat cnt)), .val (.int (Int32.ofNat es.length)), .unset, .unset, .unset, .unset, .unset] [(.int (Int32.ofNat cnt)), (.int (Int32.ofNat es.length))])) t → Steps p.tables e below (s₁.setTop (entryFrame m #[(.ref ax), (.ref ix), (.int (Int32.ofNat cnt))] 9)) t := fun t k => pre3 t (by
    show Steps p.tables e below (T2.setTop (mkF m 4 #[.val (.ref ax), .val (.ref ix), .val (.int (Int32.ofNat cnt)), .unset, .unset, .unset, .unset, .unset, .unset] [])) _
    refine XS.aloadN X2.here hx rfl (hb hby d2_4) rfl rfl ?_
    refine gLen X2 hx hZ e2 R0 1 rfl (g := (mkF m 5 #[.val (.ref ax), .val (.ref ix), .val (.int (Int32.ofNat cnt)), .unset, .unset, .unset, .unset, .unset, .unset] [(.ref ix)])) rfl rfl (hb hby d2_5) (z := (Int32.ofNat es.length)) (by rw [nl_len]) _ ?_
    refine XS.istoreN X2.here hx rfl (hb hby d2_6) rfl (l' := #[.val (.ref ax), .val (.ref ix), .val (.int (Int32.ofNat cnt)), .val (.int (Int32.ofNat es.length)), .unset, .unset, .unset, .unset, .unset]) rfl ?_
    refine XS.iloadN X2.here hx rfl (hb hby d2_7) rfl ?_
    refine XS.iloadN X2.here hx rfl (hb hby d2_8) rfl ?_
    exact k)
  obtain ⟨_, _, ⟨T5, L5, k5, n5⟩, -, X5, ⟨Lc5, hQ5, l5, y5, z5⟩, st5⟩ := Jvm.LawKit.callS X2 hx (y := (⟨"java/lang/Math", "max", "(II)I"⟩ : MethodName)) hown (mvT hZ (hw _ (List.mem_of_getElem? (i := 18) rfl))) (mvT hZ (hw _ (List.mem_of_getElem? (i := 19) rfl))) (mvT hZ (hw _ (List.mem_of_getElem? (i := 20) rfl))) (mvT hZ (hw _ (List.mem_of_getElem? (i := 21) rfl))) (by decide) (backOf (W := 0) (rm4 l Z a0 hw [] (Int32.ofNat es.length) (Int32.ofNat cnt)  h0 n0 _ R0 ) hZ (hw _ (List.mem_of_getElem? (i := 21) rfl)) (hw _ (List.mem_of_getElem? (i := 20) rfl)) (by decide) (by decide)) (g := (mkF m 9 #[.val (.ref ax), .val (.ref ix), .val (.int (Int32.ofNat cnt)), .val (.int (Int32.ofNat es.length)), .unset, .unset, .unset, .unset, .unset] [(.int (Int32.ofNat cnt)), (.int (Int32.ofNat es.length))])) rfl (by rw [hml]; rfl) (argsL := [(.int (Int32.ofNat es.length)), (.int (Int32.ofNat cnt))]) (rest := []) (lenOf pd__28II_29I rfl) rfl (by show 2 * 0 + _ ≤ _; exact Nat.le_of_eq rfl) (hb hby d2_9) (fun _ _ => ⟨rfl, e2, (by decide : 0 + 0 ≤ _), (by decide : 0 + 0 ≤ _)⟩)
  dsimp only [Pt.U, Pt.locs, Pt.cells, Pt.slots] at X5 l5 y5 z5 st5 hQ5
  subst y5 z5
  obtain ⟨rfl, N5q, R5⟩ := hQ5
  have N5 : Fr n0 L5 := by rw [l5]; exact Fr.app N0 N5q
  replace R5 : Rep Z n0 T5.heap ((ax, Obj "com/example/witgen/witgen/regex/Partition" [("elements", "[I", u1), ("location", "[I", u2), ("blockOf", "[I", u3), ("start", "[I", u4), ("end", "[I", u5), ("marked", "[I", u6), ("touched", "[I", u7), ("blocks", "I", u9), ("touchedCount", "I", (.int (0 : Int32)))]) :: (ix, Ar .int (nl es)) :: Rst) := R5
  have pre6 : ∀ t, Steps p.tables e below (T5.setTop (mkF m 12 #[.val (.ref ax), .val (.ref ix), .val (.int (Int32.ofNat cnt)), .val (.int (Int32.ofNat es.length)), .unset, .unset, .unset, .unset, .unset] [(.int (F4 (Int32.ofNat es.length) (Int32.ofNat cnt)))])) t → Steps p.tables e below (s₁.setTop (entryFrame m #[(.ref ax), (.ref ix), (.int (Int32.ofNat cnt))] 9)) t := fun t k => pre4 t (st5 t k)
  rw [own_max (by omega) (by omega)] at pre6
  have pre7 : ∀ t, Steps p.tables e below (T5.setTop (mkF m 16 #[.val (.ref ax), .val (.ref ix), .val (.int (Int32.ofNat cnt)), .val (.int (Int32.ofNat es.length)), .val (.int (Int32.ofNat (max es.length cnt))), .unset, .unset, .unset, .unset] [(.int (Int32.ofNat es.length)), (.ref ax)])) t → Steps p.tables e below (s₁.setTop (entryFrame m #[(.ref ax), (.ref ix), (.int (Int32.ofNat cnt))] 9)) t := fun t k => pre6 t (by
    show Steps p.tables e below (T5.setTop (mkF m 12 #[.val (.ref ax), .val (.ref ix), .val (.int (Int32.ofNat cnt)), .val (.int (Int32.ofNat es.length)), .unset, .unset, .unset, .unset, .unset] [(.int (Int32.ofNat (max es.length cnt)))])) _
    refine XS.istore X5.here hx rfl (hb hby d2_12) rfl (l' := #[.val (.ref ax), .val (.ref ix), .val (.int (Int32.ofNat cnt)), .val (.int (Int32.ofNat es.length)), .val (.int (Int32.ofNat (max es.length cnt))), .unset, .unset, .unset, .unset]) rfl ?_
    refine XS.aloadN X5.here hx rfl (hb hby d2_14) rfl rfl ?_
    refine XS.iloadN X5.here hx rfl (hb hby d2_15) rfl ?_
    exact k)
  obtain ⟨T8, h8, b8, X8, e8, R8, st8⟩ := gNewP X5 hx hZ (hw _ (List.mem_of_getElem? (i := 0) rfl)) rfl R5 (g := (mkF m 16 #[.val (.ref ax), .val (.ref ix), .val (.int (Int32.ofNat cnt)), .val (.int (Int32.ofNat es.length)), .val (.int (Int32.ofNat (max es.length cnt))), .unset, .unset, .unset, .unset] [(.int (Int32.ofNat es.length)), (.ref ax)])) rfl (hb hby d2_16) rfl (n_nn (by omega)) 4 (by rw [n_ix (by omega)]; omega) (by decide) (by decide) (by decide) (vs := (nl (List.replicate es.length 0))) (by rw [n_ix (by omega)]; exact n_rep _)
  replace R8 : Rep Z n0 h8 ((b8, Ar .int (nl (List.replicate es.length 0))) :: (ax, Obj "com/example/witgen/witgen/regex/Partition" [("elements", "[I", u1), ("location", "[I", u2), ("blockOf", "[I", u3), ("start", "[I", u4), ("end", "[I", u5), ("marked", "[I", u6), ("touched", "[I", u7), ("blocks", "I", u9), ("touchedCount", "I", (.int (0 : Int32)))]) :: (ix, Ar .int (nl es)) :: Rst) := R8
  have pre9 : ∀ t, Steps p.tables e below (T8.setTop (mkF m 18 #[.val (.ref ax), .val (.ref ix), .val (.int (Int32.ofNat cnt)), .val (.int (Int32.ofNat es.length)), .val (.int (Int32.ofNat (max es.length cnt))), .unset, .unset, .unset, .unset] [(.ref b8), (.ref ax)])) t → Steps p.tables e below (s₁.setTop (entryFrame m #[(.ref ax), (.ref ix), (.int (Int32.ofNat cnt))] 9)) t := fun t k => pre7 t (st8 t k)
  obtain ⟨T10, h10, ls10, X10, e10, N10, R10, st10⟩ := gPut X8 hx hZ hown (host := "") (Or.inl (hw _ (List.mem_of_getElem? (i := 22) rfl))) e8 N5 R8 1 0 rfl rfl (Or.inr ⟨(hw _ (List.mem_of_getElem? (i := 23) rfl)), rfl, hnm⟩) (hw _ (List.mem_of_getElem? (i := 10) rfl)) (ty := (.array .int)) (by decide) rfl rfl (g := (mkF m 18 #[.val (.ref ax), .val (.ref ix), .val (.int (Int32.ofNat cnt)), .val (.int (Int32.ofNat es.length)), .val (.int (Int32.ofNat (max es.length cnt))), .unset, .unset, .unset, .unset] [(.ref b8), (.ref ax)])) rfl rfl (hb hby d2_18)
  replace R10 : Rep Z n0 h10 ((b8, Ar .int (nl (List.replicate es.length 0))) :: (ax, Obj "com/example/witgen/witgen/regex/Partition" [("elements", "[I", (.ref b8)), ("location", "[I", u2), ("blockOf", "[I", u3), ("start", "[I", u4), ("end", "[I", u5), ("marked", "[I", u6), ("touched", "[I", u7), ("blocks", "I", u9), ("touchedCount", "I", (.int (0 : Int32)))]) :: (ix, Ar .int (nl es)) :: Rst) := R10
  have pre11 : ∀ t, Steps p.tables e below (T10.setTop (mkF m 21 #[.val (.ref ax), .val (.ref ix), .val (.int (Int32.ofNat cnt)), .val (.int (Int32.ofNat es.length)), .val (.int (Int32.ofNat (max es.length cnt))), .unset, .unset, .unset, .unset] [])) t → Steps p.tables e below (s₁.setTop (entryFrame m #[(.ref ax), (.ref ix), (.int (Int32.ofNat cnt))] 9)) t := fun t k => pre9 t (st10 t k)
  have pre12 : ∀ t, Steps p.tables e below (T10.setTop (mkF m 23 #[.val (.ref ax), .val (.ref ix), .val (.int (Int32.ofNat cnt)), .val (.int (Int32.ofNat es.length)), .val (.int (Int32.ofNat (max es.length cnt))), .unset, .unset, .unset, .unset] [(.int (Int32.ofNat es.length)), (.ref ax)])) t → Steps p.tables e below (s₁.setTop (entryFrame m #[(.ref ax), (.ref ix), (.int (Int32.ofNat cnt))] 9)) t := fun t k => pre11 t (by
    show Steps p.tables e below (T10.setTop (mkF m 21 #[.val (.ref ax), .val (.ref ix), .val (.int (Int32.ofNat cnt)), .val (.int (Int32.ofNat es.length)), .val (.int (Int32.ofNat (max es.length cnt))), .unset, .unset, .unset, .unset] [])) _
    refine XS.aloadN X10.here hx rfl (hb hby d2_21) rfl rfl ?_
    refine XS.iloadN X10.here hx rfl (hb hby d2_22) rfl ?_
    exact k)
  obtain ⟨T13, h13, b13, X13, e13, R13, st13⟩ := gNewP X10 hx hZ (hw _ (List.mem_of_getElem? (i := 0) rfl)) e10 R10 (g := (mkF m 23 #[.val (.ref ax), .val (.ref ix), .val (.int (Int32.ofNat cnt)), .val (.int (Int32.ofNat es.length)), .val (.int (Int32.ofNat (max es.length cnt))), .unset, .unset, .unset, .unset] [(.int (Int32.ofNat es.length)), (.ref ax)])) rfl (hb hby d2_23) rfl (n_nn (by omega)) 4 (by rw [n_ix (by omega)]; omega) (by decide) (by decide) (by decide) (vs := (nl (List.replicate es.length 0))) (by rw [n_ix (by omega)]; exact n_rep _)
  replace R13 : Rep Z n0 h13 ((b13, Ar .int (nl (List.replicate es.length 0))) :: (b8, Ar .int (nl (List.replicate es.length 0))) :: (ax, Obj "com/example/witgen/witgen/regex/Partition" [("elements", "[I", (.ref b8)), ("location", "[I", u2), ("blockOf", "[I", u3), ("start", "[I", u4), ("end", "[I", u5), ("marked", "[I", u6), ("touched", "[I", u7), ("blocks", "I", u9), ("touchedCount", "I", (.int (0 : Int32)))]) :: (ix, Ar .int (nl es)) :: Rst) := R13
  have pre14 : ∀ t, Steps p.tables e below (T13.setTop (mkF m 25 #[.val (.ref ax), .val (.ref ix), .val (.int (Int32.ofNat cnt)), .val (.int (Int32.ofNat es.length)), .val (.int (Int32.ofNat (max es.length cnt))), .unset, .unset, .unset, .unset] [(.ref b13), (.ref ax)])) t → Steps p.tables e below (s₁.setTop (entryFrame m #[(.ref ax), (.ref ix), (.int (Int32.ofNat cnt))] 9)) t := fun t k => pre12 t (st13 t k)
  obtain ⟨T15, h15, ls15, X15, e15, N15, R15, st15⟩ := gPut X13 hx hZ hown (host := "") (Or.inl (hw _ (List.mem_of_getElem? (i := 24) rfl))) e13 N10 R13 2 1 rfl rfl (Or.inr ⟨(hw _ (List.mem_of_getElem? (i := 25) rfl)), rfl, hnm⟩) (hw _ (List.mem_of_getElem? (i := 10) rfl)) (ty := (.array .int)) (by decide) rfl rfl (g := (mkF m 25 #[.val (.ref ax), .val (.ref ix), .val (.int (Int32.ofNat cnt)), .val (.int (Int32.ofNat es.length)), .val (.int (Int32.ofNat (max es.length cnt))), .unset, .unset, .unset, .unset] [(.ref b13), (.ref ax)])) rfl rfl (hb hby d2_25)
  replace R15 : Rep Z n0 h15 ((b13, Ar .int (nl (List.replicate es.length 0))) :: (b8, Ar .int (nl (List.replicate es.length 0))) :: (ax, Obj "com/example/witgen/witgen/regex/Partition" [("elements", "[I", (.ref b8)), ("location", "[I", (.ref b13)), ("blockOf", "[I", u3), ("start", "[I", u4), ("end", "[I", u5), ("marked", "[I", u6), ("touched", "[I", u7), ("blocks", "I", u9), ("touchedCount", "I", (.int (0 : Int32)))]) :: (ix, Ar .int (nl es)) :: Rst) := R15
  have pre16 : ∀ t, Steps p.tables e below (T15.setTop (mkF m 28 #[.val (.ref ax), .val (.ref ix), .val (.int (Int32.ofNat cnt)), .val (.int (Int32.ofNat es.length)), .val (.int (Int32.ofNat (max es.length cnt))), .unset, .unset, .unset, .unset] [])) t → Steps p.tables e below (s₁.setTop (entryFrame m #[(.ref ax), (.ref ix), (.int (Int32.ofNat cnt))] 9)) t := fun t k => pre14 t (st15 t k)
  have pre17 : ∀ t, Steps p.tables e below (T15.setTop (mkF m 30 #[.val (.ref ax), .val (.ref ix), .val (.int (Int32.ofNat cnt)), .val (.int (Int32.ofNat es.length)), .val (.int (Int32.ofNat (max es.length cnt))), .unset, .unset, .unset, .unset] [(.ref ix), (.ref ax)])) t → Steps p.tables e below (s₁.setTop (entryFrame m #[(.ref ax), (.ref ix), (.int (Int32.ofNat cnt))] 9)) t := fun t k => pre16 t (by
    show Steps p.tables e below (T15.setTop (mkF m 28 #[.val (.ref ax), .val (.ref ix), .val (.int (Int32.ofNat cnt)), .val (.int (Int32.ofNat es.length)), .val (.int (Int32.ofNat (max es.length cnt))), .unset, .unset, .unset, .unset] [])) _
    refine XS.aloadN X15.here hx rfl (hb hby d2_28) rfl rfl ?_
    refine XS.aloadN X15.here hx rfl (hb hby d2_29) rfl rfl ?_
    exact k)
  obtain ⟨T18, h18, b18, X18, e18, R18, E18, st18⟩ := gClone X15 hx hZ hown (hw _ (List.mem_of_getElem? (i := 26) rfl)) (hw _ (List.mem_of_getElem? (i := 27) rfl)) (hw _ (List.mem_of_getElem? (i := 31) rfl)) (hw _ (List.mem_of_getElem? (i := 29) rfl)) (hw _ (List.mem_of_getElem? (i := 30) rfl)) (hw _ (List.mem_of_getElem? (i := 32) rfl)) e15 R15 3 rfl (show _ = "[I" from rfl) (g := (mkF m 30 #[.val (.ref ax), .val (.ref ix), .val (.int (Int32.ofNat cnt)), .val (.int (Int32.ofNat es.length)), .val (.int (Int32.ofNat (max es.length cnt))), .unset, .unset, .unset, .unset] [(.ref ix), (.ref ax)])) rfl (by rw [hml]; rfl) rfl (hb hby d2_30) (by decide) (W := 1) 4 (by show 2 * 0 + _ ≤ _; exact Nat.le_of_eq rfl) (by decide) (by rw [nl_len]; omega) (by decide) (by decide)
  have pre19 : ∀ t, Steps p.tables e below (T18.setTop (mkF m 33 #[.val (.ref ax), .val (.ref ix), .val (.int (Int32.ofNat cnt)), .val (.int (Int32.ofNat es.length)), .val (.int (Int32.ofNat (max es.length cnt))), .unset, .unset, .unset, .unset] [(.ref b18), (.ref ax)])) t → Steps p.tables e below (s₁.setTop (entryFrame m #[(.ref ax), (.ref ix), (.int (Int32.ofNat cnt))] 9)) t := fun t k => pre17 t (st18 t k)
  obtain ⟨T20, X20, e20, st20⟩ := gCast X18 hx hZ hown (hw _ (List.mem_of_getElem? (i := 33) rfl)) e18 E18 (g := (mkF m 33 #[.val (.ref ax), .val (.ref ix), .val (.int (Int32.ofNat cnt)), .val (.int (Int32.ofNat es.length)), .val (.int (Int32.ofNat (max es.length cnt))), .unset, .unset, .unset, .unset] [(.ref b18), (.ref ax)])) rfl rfl (hb hby d2_33)
  have pre21 : ∀ t, Steps p.tables e below (T20.setTop (mkF m 36 #[.val (.ref ax), .val (.ref ix), .val (.int (Int32.ofNat cnt)), .val (.int (Int32.ofNat es.length)), .val (.int (Int32.ofNat (max es.length cnt))), .unset, .unset, .unset, .unset] [(.ref b18), (.ref ax)])) t → Steps p.tables e below (s₁.setTop (entryFrame m #[(.ref ax), (.ref ix), (.int (Int32.ofNat cnt))] 9)) t := fun t k => pre19 t (st20 t k)
  obtain ⟨T22, h22, ls22, X22, e22, N22, R22, st22⟩ := gPut X20 hx hZ hown (host := "") (Or.inl (hw _ (List.mem_of_getElem? (i := 35) rfl))) e20 N15 R18 3 2 rfl rfl (Or.inr ⟨(hw _ (List.mem_of_getElem? (i := 36) rfl)), rfl, hnm⟩) (hw _ (List.mem_of_getElem? (i := 10) rfl)) (ty := (.array .int)) (by decide) rfl rfl (g := (mkF m 36 #[.val (.ref ax), .val (.ref ix), .val (.int (Int32.ofNat cnt)), .val (.int (Int32.ofNat es.length)), .val (.int (Int32.ofNat (max es.length cnt))), .unset, .unset, .unset, .unset] [(.ref b18), (.ref ax)])) rfl rfl (hb hby d2_36)
  replace R22 : Rep Z n0 h22 ((b18, Ar .int (nl es)) :: (b13, Ar .int (nl (List.replicate es.length 0))) :: (b8, Ar .int (nl (List.replicate es.length 0))) :: (ax, Obj "com/example/witgen/witgen/regex/Partition" [("elements", "[I", (.ref b8)), ("location", "[I", (.ref b13)), ("blockOf", "[I", (.ref b18)), ("start", "[I", u4), ("end", "[I", u5), ("marked", "[I", u6), ("touched", "[I", u7), ("blocks", "I", u9), ("touchedCount", "I", (.int (0 : Int32)))]) :: (ix, Ar .int (nl es)) :: Rst) := R22
  have pre23 : ∀ t, Steps p.tables e below (T22.setTop (mkF m 39 #[.val (.ref ax), .val (.ref ix), .val (.int (Int32.ofNat cnt)), .val (.int (Int32.ofNat es.length)), .val (.int (Int32.ofNat (max es.length cnt))), .unset, .unset, .unset, .unset] [])) t → Steps p.tables e below (s₁.setTop (entryFrame m #[(.ref ax), (.ref ix), (.int (Int32.ofNat cnt))] 9)) t := fun t k => pre21 t (st22 t k)
  have pre24 : ∀ t, Steps p.tables e below (T22.setTop (mkF m 42 #[.val (.ref ax), .val (.ref ix), .val (.int (Int32.ofNat cnt)), .val (.int (Int32.ofNat es.length)), .val (.int (Int32.ofNat (max es.length cnt))), .unset, .unset, .unset, .unset] [(.int (Int32.ofNat (max es.length cnt))), (.ref ax)])) t → Steps p.tables e below (s₁.setTop (entryFrame m #[(.ref ax), (.ref ix), (.int (Int32.ofNat cnt))] 9)) t := fun t k => pre23 t (by
    show Steps p.tables e below (T22.setTop (mkF m 39 #[.val (.ref ax), .val (.ref ix), .val (.int (Int32.ofNat cnt)), .val (.int (Int32.ofNat es.length)), .val (.int (Int32.ofNat (max es.length cnt))), .unset, .unset, .unset, .unset] [])) _
    refine XS.aloadN X22.here hx rfl (hb hby d2_39) rfl rfl ?_
    refine XS.iload X22.here hx rfl (hb hby d2_40) rfl ?_
    exact k)
  obtain ⟨T25, h25, b25, X25, e25, R25, st25⟩ := gNewP X22 hx hZ (hw _ (List.mem_of_getElem? (i := 0) rfl)) e22 R22 (g := (mkF m 42 #[.val (.ref ax), .val (.ref ix), .val (.int (Int32.ofNat cnt)), .val (.int (Int32.ofNat es.length)), .val (.int (Int32.ofNat (max es.length cnt))), .unset, .unset, .unset, .unset] [(.int (Int32.ofNat (max es.length cnt))), (.ref ax)])) rfl (hb hby d2_42) rfl (n_nn (by omega)) 8 (by rw [n_ix (by omega)]; omega) (by decide) (by decide) (by decide) (vs := (nl (List.replicate (max es.length cnt) 0))) (by rw [n_ix (by omega)]; exact n_rep _)
  replace R25 : Rep Z n0 h25 ((b25, Ar .int (nl (List.replicate (max es.length cnt) 0))) :: (b18, Ar .int (nl es)) :: (b13, Ar .int (nl (List.replicate es.length 0))) :: (b8, Ar .int (nl (List.replicate es.length 0))) :: (ax, Obj "com/example/witgen/witgen/regex/Partition" [("elements", "[I", (.ref b8)), ("location", "[I", (.ref b13)), ("blockOf", "[I", (.ref b18)), ("start", "[I", u4), ("end", "[I", u5), ("marked", "[I", u6), ("touched", "[I", u7), ("blocks", "I", u9), ("touchedCount", "I", (.int (0 : Int32)))]) :: (ix, Ar .int (nl es)) :: Rst) := R25
  have pre26 : ∀ t, Steps p.tables e below (T25.setTop (mkF m 44 #[.val (.ref ax), .val (.ref ix), .val (.int (Int32.ofNat cnt)), .val (.int (Int32.ofNat es.length)), .val (.int (Int32.ofNat (max es.length cnt))), .unset, .unset, .unset, .unset] [(.ref b25), (.ref ax)])) t → Steps p.tables e below (s₁.setTop (entryFrame m #[(.ref ax), (.ref ix), (.int (Int32.ofNat cnt))] 9)) t := fun t k => pre24 t (st25 t k)
  obtain ⟨T27, h27, ls27, X27, e27, N27, R27, st27⟩ := gPut X25 hx hZ hown (host := "") (Or.inl (hw _ (List.mem_of_getElem? (i := 37) rfl))) e25 N22 R25 4 3 rfl rfl (Or.inr ⟨(hw _ (List.mem_of_getElem? (i := 38) rfl)), rfl, hnm⟩) (hw _ (List.mem_of_getElem? (i := 10) rfl)) (ty := (.array .int)) (by decide) rfl rfl (g := (mkF m 44 #[.val (.ref ax), .val (.ref ix), .val (.int (Int32.ofNat cnt)), .val (.int (Int32.ofNat es.length)), .val (.int (Int32.ofNat (max es.length cnt))), .unset, .unset, .unset, .unset] [(.ref b25), (.ref ax)])) rfl rfl (hb hby d2_44)
  replace R27 : Rep Z n0 h27 ((b25, Ar .int (nl (List.replicate (max es.length cnt) 0))) :: (b18, Ar .int (nl es)) :: (b13, Ar .int (nl (List.replicate es.length 0))) :: (b8, Ar .int (nl (List.replicate es.length 0))) :: (ax, Obj "com/example/witgen/witgen/regex/Partition" [("elements", "[I", (.ref b8)), ("location", "[I", (.ref b13)), ("blockOf", "[I", (.ref b18)), ("start", "[I", (.ref b25)), ("end", "[I", u5), ("marked", "[I", u6), ("touched", "[I", u7), ("blocks", "I", u9), ("touchedCount", "I", (.int (0 : Int32)))]) :: (ix, Ar .int (nl es)) :: Rst) := R27
  have pre28 : ∀ t, Steps p.tables e below (T27.setTop (mkF m 47 #[.val (.ref ax), .val (.ref ix), .val (.int (Int32.ofNat cnt)), .val (.int (Int32.ofNat es.length)), .val (.int (Int32.ofNat (max es.length cnt))), .unset, .unset, .unset, .unset] [])) t → Steps p.tables e below (s₁.setTop (entryFrame m #[(.ref ax), (.ref ix), (.int (Int32.ofNat cnt))] 9)) t := fun t k => pre26 t (st27 t k)
  have pre29 : ∀ t, Steps p.tables e below (T27.setTop (mkF m 50 #[.val (.ref ax), .val (.ref ix), .val (.int (Int32.ofNat cnt)), .val (.int (Int32.ofNat es.length)), .val (.int (Int32.ofNat (max es.length cnt))), .unset, .unset, .unset, .unset] [(.int (Int32.ofNat (max es.length cnt))), (.ref ax)])) t → Steps p.tables e below (s₁.setTop (entryFrame m #[(.ref ax), (.ref ix), (.int (Int32.ofNat cnt))] 9)) t := fun t k => pre28 t (by
    show Steps p.tables e below (T27.setTop (mkF m 47 #[.val (.ref ax), .val (.ref ix), .val (.int (Int32.ofNat cnt)), .val (.int (Int32.ofNat es.length)), .val (.int (Int32.ofNat (max es.length cnt))), .unset, .unset, .unset, .unset] [])) _
    refine XS.aloadN X27.here hx rfl (hb hby d2_47) rfl rfl ?_
    refine XS.iload X27.here hx rfl (hb hby d2_48) rfl ?_
    exact k)
  obtain ⟨T30, h30, b30, X30, e30, R30, st30⟩ := gNewP X27 hx hZ (hw _ (List.mem_of_getElem? (i := 0) rfl)) e27 R27 (g := (mkF m 50 #[.val (.ref ax), .val (.ref ix), .val (.int (Int32.ofNat cnt)), .val (.int (Int32.ofNat es.length)), .val (.int (Int32.ofNat (max es.length cnt))), .unset, .unset, .unset, .unset] [(.int (Int32.ofNat (max es.length cnt))), (.ref ax)])) rfl (hb hby d2_50) rfl (n_nn (by omega)) 8 (by rw [n_ix (by omega)]; omega) (by decide) (by decide) (by decide) (vs := (nl (List.replicate (max es.length cnt) 0))) (by rw [n_ix (by omega)]; exact n_rep _)
  replace R30 : Rep Z n0 h30 ((b30, Ar .int (nl (List.replicate (max es.length cnt) 0))) :: (b25, Ar .int (nl (List.replicate (max es.length cnt) 0))) :: (b18, Ar .int (nl es)) :: (b13, Ar .int (nl (List.replicate es.length 0))) :: (b8, Ar .int (nl (List.replicate es.length 0))) :: (ax, Obj "com/example/witgen/witgen/regex/Partition" [("elements", "[I", (.ref b8)), ("location", "[I", (.ref b13)), ("blockOf", "[I", (.ref b18)), ("start", "[I", (.ref b25)), ("end", "[I", u5), ("marked", "[I", u6), ("touched", "[I", u7), ("blocks", "I", u9), ("touchedCount", "I", (.int (0 : Int32)))]) :: (ix, Ar .int (nl es)) :: Rst) := R30
  have pre31 : ∀ t, Steps p.tables e below (T30.setTop (mkF m 52 #[.val (.ref ax), .val (.ref ix), .val (.int (Int32.ofNat cnt)), .val (.int (Int32.ofNat es.length)), .val (.int (Int32.ofNat (max es.length cnt))), .unset, .unset, .unset, .unset] [(.ref b30), (.ref ax)])) t → Steps p.tables e below (s₁.setTop (entryFrame m #[(.ref ax), (.ref ix), (.int (Int32.ofNat cnt))] 9)) t := fun t k => pre29 t (st30 t k)
  obtain ⟨T32, h32, ls32, X32, e32, N32, R32, st32⟩ := gPut X30 hx hZ hown (host := "") (Or.inl (hw _ (List.mem_of_getElem? (i := 39) rfl))) e30 N27 R30 5 4 rfl rfl (Or.inr ⟨(hw _ (List.mem_of_getElem? (i := 40) rfl)), rfl, hnm⟩) (hw _ (List.mem_of_getElem? (i := 10) rfl)) (ty := (.array .int)) (by decide) rfl rfl (g := (mkF m 52 #[.val (.ref ax), .val (.ref ix), .val (.int (Int32.ofNat cnt)), .val (.int (Int32.ofNat es.length)), .val (.int (Int32.ofNat (max es.length cnt))), .unset, .unset, .unset, .unset] [(.ref b30), (.ref ax)])) rfl rfl (hb hby d2_52)
  replace R32 : Rep Z n0 h32 ((b30, Ar .int (nl (List.replicate (max es.length cnt) 0))) :: (b25, Ar .int (nl (List.replicate (max es.length cnt) 0))) :: (b18, Ar .int (nl es)) :: (b13, Ar .int (nl (List.replicate es.length 0))) :: (b8, Ar .int (nl (List.replicate es.length 0))) :: (ax, Obj "com/example/witgen/witgen/regex/Partition" [("elements", "[I", (.ref b8)), ("location", "[I", (.ref b13)), ("blockOf", "[I", (.ref b18)), ("start", "[I", (.ref b25)), ("end", "[I", (.ref b30)), ("marked", "[I", u6), ("touched", "[I", u7), ("blocks", "I", u9), ("touchedCount", "I", (.int (0 : Int32)))]) :: (ix, Ar .int (nl es)) :: Rst) := R32
  have pre33 : ∀ t, Steps p.tables e below (T32.setTop (mkF m 55 #[.val (.ref ax), .val (.ref ix), .val (.int (Int32.ofNat cnt)), .val (.int (Int32.ofNat es.length)), .val (.int (Int32.ofNat (max es.length cnt))), .unset, .unset, .unset, .unset] [])) t → Steps p.tables e below (s₁.setTop (entryFrame m #[(.ref ax), (.ref ix), (.int (Int32.ofNat cnt))] 9)) t := fun t k => pre31 t (st32 t k)
  have pre34 : ∀ t, Steps p.tables e below (T32.setTop (mkF m 58 #[.val (.ref ax), .val (.ref ix), .val (.int (Int32.ofNat cnt)), .val (.int (Int32.ofNat es.length)), .val (.int (Int32.ofNat (max es.length cnt))), .unset, .unset, .unset, .unset] [(.int (Int32.ofNat (max es.length cnt))), (.ref ax)])) t → Steps p.tables e below (s₁.setTop (entryFrame m #[(.ref ax), (.ref ix), (.int (Int32.ofNat cnt))] 9)) t := fun t k => pre33 t (by
    show Steps p.tables e below (T32.setTop (mkF m 55 #[.val (.ref ax), .val (.ref ix), .val (.int (Int32.ofNat cnt)), .val (.int (Int32.ofNat es.length)), .val (.int (Int32.ofNat (max es.length cnt))), .unset, .unset, .unset, .unset] [])) _
    refine XS.aloadN X32.here hx rfl (hb hby d2_55) rfl rfl ?_
    refine XS.iload X32.here hx rfl (hb hby d2_56) rfl ?_
    exact k)
  obtain ⟨T35, h35, b35, X35, e35, R35, st35⟩ := gNewP X32 hx hZ (hw _ (List.mem_of_getElem? (i := 0) rfl)) e32 R32 (g := (mkF m 58 #[.val (.ref ax), .val (.ref ix), .val (.int (Int32.ofNat cnt)), .val (.int (Int32.ofNat es.length)), .val (.int (Int32.ofNat (max es.length cnt))), .unset, .unset, .unset, .unset] [(.int (Int32.ofNat (max es.length cnt))), (.ref ax)])) rfl (hb hby d2_58) rfl (n_nn (by omega)) 8 (by rw [n_ix (by omega)]; omega) (by decide) (by decide) (by decide) (vs := (nl (List.replicate (max es.length cnt) 0))) (by rw [n_ix (by omega)]; exact n_rep _)
  replace R35 : Rep Z n0 h35 ((b35, Ar .int (nl (List.replicate (max es.length cnt) 0))) :: (b30, Ar .int (nl (List.replicate (max es.length cnt) 0))) :: (b25, Ar .int (nl (List.replicate (max es.length cnt) 0))) :: (b18, Ar .int (nl es)) :: (b13, Ar .int (nl (List.replicate es.length 0))) :: (b8, Ar .int (nl (List.replicate es.length 0))) :: (ax, Obj "com/example/witgen/witgen/regex/Partition" [("elements", "[I", (.ref b8)), ("location", "[I", (.ref b13)), ("blockOf", "[I", (.ref b18)), ("start", "[I", (.ref b25)), ("end", "[I", (.ref b30)), ("marked", "[I", u6), ("touched", "[I", u7), ("blocks", "I", u9), ("touchedCount", "I", (.int (0 : Int32)))]) :: (ix, Ar .int (nl es)) :: Rst) := R35
  have pre36 : ∀ t, Steps p.tables e below (T35.setTop (mkF m 60 #[.val (.ref ax), .val (.ref ix), .val (.int (Int32.ofNat cnt)), .val (.int (Int32.ofNat es.length)), .val (.int (Int32.ofNat (max es.length cnt))), .unset, .unset, .unset, .unset] [(.ref b35), (.ref ax)])) t → Steps p.tables e below (s₁.setTop (entryFrame m #[(.ref ax), (.ref ix), (.int (Int32.ofNat cnt))] 9)) t := fun t k => pre34 t (st35 t k)
  obtain ⟨T37, h37, ls37, X37, e37, N37, R37, st37⟩ := gPut X35 hx hZ hown (host := "") (Or.inl (hw _ (List.mem_of_getElem? (i := 41) rfl))) e35 N32 R35 6 5 rfl rfl (Or.inr ⟨(hw _ (List.mem_of_getElem? (i := 42) rfl)), rfl, hnm⟩) (hw _ (List.mem_of_getElem? (i := 10) rfl)) (ty := (.array .int)) (by decide) rfl rfl (g := (mkF m 60 #[.val (.ref ax), .val (.ref ix), .val (.int (Int32.ofNat cnt)), .val (.int (Int32.ofNat es.length)), .val (.int (Int32.ofNat (max es.length cnt))), .unset, .unset, .unset, .unset] [(.ref b35), (.ref ax)])) rfl rfl (hb hby d2_60)
  replace R37 : Rep Z n0 h37 ((b35, Ar .int (nl (List.replicate (max es.length cnt) 0))) :: (b30, Ar .int (nl (List.replicate (max es.length cnt) 0))) :: (b25, Ar .int (nl (List.replicate (max es.length cnt) 0))) :: (b18, Ar .int (nl es)) :: (b13, Ar .int (nl (List.replicate es.length 0))) :: (b8, Ar .int (nl (List.replicate es.length 0))) :: (ax, Obj "com/example/witgen/witgen/regex/Partition" [("elements", "[I", (.ref b8)), ("location", "[I", (.ref b13)), ("blockOf", "[I", (.ref b18)), ("start", "[I", (.ref b25)), ("end", "[I", (.ref b30)), ("marked", "[I", (.ref b35)), ("touched", "[I", u7), ("blocks", "I", u9), ("touchedCount", "I", (.int (0 : Int32)))]) :: (ix, Ar .int (nl es)) :: Rst) := R37
  have pre38 : ∀ t, Steps p.tables e below (T37.setTop (mkF m 63 #[.val (.ref ax), .val (.ref ix), .val (.int (Int32.ofNat cnt)), .val (.int (Int32.ofNat es.length)), .val (.int (Int32.ofNat (max es.length cnt))), .unset, .unset, .unset, .unset] [])) t → Steps p.tables e below (s₁.setTop (entryFrame m #[(.ref ax), (.ref ix), (.int (Int32.ofNat cnt))] 9)) t := fun t k => pre36 t (st37 t k)
  have pre39 : ∀ t, Steps p.tables e below (T37.setTop (mkF m 66 #[.val (.ref ax), .val (.ref ix), .val (.int (Int32.ofNat cnt)), .val (.int (Int32.ofNat es.length)), .val (.int (Int32.ofNat (max es.length cnt))), .unset, .unset, .unset, .unset] [(.int (Int32.ofNat (max es.length cnt))), (.ref ax)])) t → Steps p.tables e below (s₁.setTop (entryFrame m #[(.ref ax), (.ref ix), (.int (Int32.ofNat cnt))] 9)) t := fun t k => pre38 t (by
    show Steps p.tables e below (T37.setTop (mkF m 63 #[.val (.ref ax), .val (.ref ix), .val (.int (Int32.ofNat cnt)), .val (.int (Int32.ofNat es.length)), .val (.int (Int32.ofNat (max es.length cnt))), .unset, .unset, .unset, .unset] [])) _
    refine XS.aloadN X37.here hx rfl (hb hby d2_63) rfl rfl ?_
    refine XS.iload X37.here hx rfl (hb hby d2_64) rfl ?_
    exact k)
  obtain ⟨T40, h40, b40, X40, e40, R40, st40⟩ := gNewP X37 hx hZ (hw _ (List.mem_of_getElem? (i := 0) rfl)) e37 R37 (g := (mkF m 66 #[.val (.ref ax), .val (.ref ix), .val (.int (Int32.ofNat cnt)), .val (.int (Int32.ofNat es.length)), .val (.int (Int32.ofNat (max es.length cnt))), .unset, .unset, .unset, .unset] [(.int (Int32.ofNat (max es.length cnt))), (.ref ax)])) rfl (hb hby d2_66) rfl (n_nn (by omega)) 8 (by rw [n_ix (by omega)]; omega) (by decide) (by decide) (by decide) (vs := (nl (List.replicate (max es.length cnt) 0))) (by rw [n_ix (by omega)]; exact n_rep _)
  replace R40 : Rep Z n0 h40 ((b40, Ar .int (nl (List.replicate (max es.length cnt) 0))) :: (b35, Ar .int (nl (List.replicate (max es.length cnt) 0))) :: (b30, Ar .int (nl (List.replicate (max es.length cnt) 0))) :: (b25, Ar .int (nl (List.replicate (max es.length cnt) 0))) :: (b18, Ar .int (nl es)) :: (b13, Ar .int (nl (List.replicate es.length 0))) :: (b8, Ar .int (nl (List.replicate es.length 0))) :: (ax, Obj "com/example/witgen/witgen/regex/Partition" [("elements", "[I", (.ref b8)), ("location", "[I", (.ref b13)), ("blockOf", "[I", (.ref b18)), ("start", "[I", (.ref b25)), ("end", "[I", (.ref b30)), ("marked", "[I", (.ref b35)), ("touched", "[I", u7), ("blocks", "I", u9), ("touchedCount", "I", (.int (0 : Int32)))]) :: (ix, Ar .int (nl es)) :: Rst) := R40
  have pre41 : ∀ t, Steps p.tables e below (T40.setTop (mkF m 68 #[.val (.ref ax), .val (.ref ix), .val (.int (Int32.ofNat cnt)), .val (.int (Int32.ofNat es.length)), .val (.int (Int32.ofNat (max es.length cnt))), .unset, .unset, .unset, .unset] [(.ref b40), (.ref ax)])) t → Steps p.tables e below (s₁.setTop (entryFrame m #[(.ref ax), (.ref ix), (.int (Int32.ofNat cnt))] 9)) t := fun t k => pre39 t (st40 t k)
  obtain ⟨T42, h42, ls42, X42, e42, N42, R42, st42⟩ := gPut X40 hx hZ hown (host := "") (Or.inl (hw _ (List.mem_of_getElem? (i := 43) rfl))) e40 N37 R40 7 6 rfl rfl (Or.inr ⟨(hw _ (List.mem_of_getElem? (i := 44) rfl)), rfl, hnm⟩) (hw _ (List.mem_of_getElem? (i := 10) rfl)) (ty := (.array .int)) (by decide) rfl rfl (g := (mkF m 68 #[.val (.ref ax), .val (.ref ix), .val (.int (Int32.ofNat cnt)), .val (.int (Int32.ofNat es.length)), .val (.int (Int32.ofNat (max es.length cnt))), .unset, .unset, .unset, .unset] [(.ref b40), (.ref ax)])) rfl rfl (hb hby d2_68)
  replace R42 : Rep Z n0 h42 ((b40, Ar .int (nl (List.replicate (max es.length cnt) 0))) :: (b35, Ar .int (nl (List.replicate (max es.length cnt) 0))) :: (b30, Ar .int (nl (List.replicate (max es.length cnt) 0))) :: (b25, Ar .int (nl (List.replicate (max es.length cnt) 0))) :: (b18, Ar .int (nl es)) :: (b13, Ar .int (nl (List.replicate es.length 0))) :: (b8, Ar .int (nl (List.replicate es.length 0))) :: (ax, Obj "com/example/witgen/witgen/regex/Partition" [("elements", "[I", (.ref b8)), ("location", "[I", (.ref b13)), ("blockOf", "[I", (.ref b18)), ("start", "[I", (.ref b25)), ("end", "[I", (.ref b30)), ("marked", "[I", (.ref b35)), ("touched", "[I", (.ref b40)), ("blocks", "I", u9), ("touchedCount", "I", (.int (0 : Int32)))]) :: (ix, Ar .int (nl es)) :: Rst) := R42
  have pre43 : ∀ t, Steps p.tables e below (T42.setTop (mkF m 71 #[.val (.ref ax), .val (.ref ix), .val (.int (Int32.ofNat cnt)), .val (.int (Int32.ofNat es.length)), .val (.int (Int32.ofNat (max es.length cnt))), .unset, .unset, .unset, .unset] [])) t → Steps p.tables e below (s₁.setTop (entryFrame m #[(.ref ax), (.ref ix), (.int (Int32.ofNat cnt))] 9)) t := fun t k => pre41 t (st42 t k)
  have pre44 : ∀ t, Steps p.tables e below (T42.setTop (mkF m 73 #[.val (.ref ax), .val (.ref ix), .val (.int (Int32.ofNat cnt)), .val (.int (Int32.ofNat es.length)), .val (.int (Int32.ofNat (max es.length cnt))), .unset, .unset, .unset, .unset] [(.int (Int32.ofNat cnt)), (.ref ax)])) t → Steps p.tables e below (s₁.setTop (entryFrame m #[(.ref ax), (.ref ix), (.int (Int32.ofNat cnt))] 9)) t := fun t k => pre43 t (by
    show Steps p.tables e below (T42.setTop (mkF m 71 #[.val (.ref ax), .val (.ref ix), .val (.int (Int32.ofNat cnt)), .val (.int (Int32.ofNat es.length)), .val (.int (Int32.ofNat (max es.length cnt))), .unset, .unset, .unset, .unset] [])) _
    refine XS.aloadN X42.here hx rfl (hb hby d2_71) rfl rfl ?_
    refine XS.iloadN X42.here hx rfl (hb hby d2_72) rfl ?_
    exact k)
  obtain ⟨T45, h45, ls45, X45, e45, N45, R45, st45⟩ := gPut X42 hx hZ hown (host := "") (Or.inl (hw _ (List.mem_of_getElem? (i := 45) rfl))) e42 N42 R42 7 7 rfl rfl (Or.inl (hw _ (List.mem_of_getElem? (i := 46) rfl))) (hw _ (List.mem_of_getElem? (i := 10) rfl)) (ty := .int) (by decide) rfl rfl (g := (mkF m 73 #[.val (.ref ax), .val (.ref ix), .val (.int (Int32.ofNat cnt)), .val (.int (Int32.ofNat es.length)), .val (.int (Int32.ofNat (max es.length cnt))), .unset, .unset, .unset, .unset] [(.int (Int32.ofNat cnt)), (.ref ax)])) rfl rfl (hb hby d2_73)
  replace R45 : Rep Z n0 h45 ((b40, Ar .int (nl (List.replicate (max es.length cnt) 0))) :: (b35, Ar .int (nl (List.replicate (max es.length cnt) 0))) :: (b30, Ar .int (nl (List.replicate (max es.length cnt) 0))) :: (b25, Ar .int (nl (List.replicate (max es.length cnt) 0))) :: (b18, Ar .int (nl es)) :: (b13, Ar .int (nl (List.replicate es.length 0))) :: (b8, Ar .int (nl (List.replicate es.length 0))) :: (ax, Obj "com/example/witgen/witgen/regex/Partition" [("elements", "[I", (.ref b8)), ("location", "[I", (.ref b13)), ("blockOf", "[I", (.ref b18)), ("start", "[I", (.ref b25)), ("end", "[I", (.ref b30)), ("marked", "[I", (.ref b35)), ("touched", "[I", (.ref b40)), ("blocks", "I", (.int (Int32.ofNat cnt))), ("touchedCount", "I", (.int (0 : Int32)))]) :: (ix, Ar .int (nl es)) :: Rst) := R45
  have pre46 : ∀ t, Steps p.tables e below (T45.setTop (mkF m 76 #[.val (.ref ax), .val (.ref ix), .val (.int (Int32.ofNat cnt)), .val (.int (Int32.ofNat es.length)), .val (.int (Int32.ofNat (max es.length cnt))), .unset, .unset, .unset, .unset] [])) t → Steps p.tables e below (s₁.setTop (entryFrame m #[(.ref ax), (.ref ix), (.int (Int32.ofNat cnt))] 9)) t := fun t k => pre44 t (st45 t k)
  have pre47 : ∀ t, Steps p.tables e below (T45.setTop (mkF m 87 #[.val (.ref ax), .val (.ref ix), .val (.int (Int32.ofNat cnt)), .val (.int (Int32.ofNat es.length)), .val (.int (Int32.ofNat (max es.length cnt))), .val (.ref ix), .val (.int (Int32.ofNat es.length)), .val (.int (0 : Int32)), .unset] [])) t → Steps p.tables e below (s₁.setTop (entryFrame m #[(.ref ax), (.ref ix), (.int (Int32.ofNat cnt))] 9)) t := fun t k => pre46 t (by
    show Steps p.tables e below (T45.setTop (mkF m 76 #[.val (.ref ax), .val (.ref ix), .val (.int (Int32.ofNat cnt)), .val (.int (Int32.ofNat es.length)), .val (.int (Int32.ofNat (max es.length cnt))), .unset, .unset, .unset, .unset] [])) _
    refine XS.aloadN X45.here hx rfl (hb hby d2_76) rfl rfl ?_
    refine XS.astore X45.here hx rfl (hb hby d2_77) rfl rfl (l' := #[.val (.ref ax), .val (.ref ix), .val (.int (Int32.ofNat cnt)), .val (.int (Int32.ofNat es.length)), .val (.int (Int32.ofNat (max es.length cnt))), .val (.ref ix), .unset, .unset, .unset]) rfl ?_
    refine XS.aload X45.here hx rfl (hb hby d2_79) rfl rfl ?_
    refine gLen X45 hx hZ e45 R45 8 rfl (g := (mkF m 81 #[.val (.ref ax), .val (.ref ix), .val (.int (Int32.ofNat cnt)), .val (.int (Int32.ofNat es.length)), .val (.int (Int32.ofNat (max es.length cnt))), .val (.ref ix), .unset, .unset, .unset] [(.ref ix)])) rfl rfl (hb hby d2_81) (z := (Int32.ofNat es.length)) (by rw [nl_len]) _ ?_
    refine XS.istore X45.here hx rfl (hb hby d2_82) rfl (l' := #[.val (.ref ax), .val (.ref ix), .val (.int (Int32.ofNat cnt)), .val (.int (Int32.ofNat es.length)), .val (.int (Int32.ofNat (max es.length cnt))), .val (.ref ix), .val (.int (Int32.ofNat es.length)), .unset, .unset]) rfl ?_
    refine XS.iconst X45.here hx rfl (hb hby d2_84) ?_
    refine XS.istore X45.here hx rfl (hb hby d2_85) rfl (l' := #[.val (.ref ax), .val (.ref ix), .val (.int (Int32.ofNat cnt)), .val (.int (Int32.ofNat es.length)), .val (.int (Int32.ofNat (max es.length cnt))), .val (.ref ix), .val (.int (Int32.ofNat es.length)), .val (.int (0 : Int32)), .unset]) rfl ?_
    exact k)
  have R48 : Rep Z n0 h45 ((ax, Obj "com/example/witgen/witgen/regex/Partition" [("elements", "[I", (.ref b8)), ("location", "[I", (.ref b13)), ("blockOf", "[I", (.ref b18)), ("start", "[I", (.ref b25)), ("end", "[I", (.ref b30)), ("marked", "[I", (.ref b35)), ("touched", "[I", (.ref b40)), ("blocks", "I", (.int (Int32.ofNat cnt))), ("touchedCount", "I", (.int (0 : Int32)))]) :: (b30, Ar .int (nl (List.replicate (max es.length cnt) 0))) :: (ix, Ar .int (nl es)) :: (b40, Ar .int (nl (List.replicate (max es.length cnt) 0))) :: (b35, Ar .int (nl (List.replicate (max es.length cnt) 0))) :: (b25, Ar .int (nl (List.replicate (max es.length cnt) 0))) :: (b18, Ar .int (nl es)) :: (b13, Ar .int (nl (List.replicate es.length 0))) :: (b8, Ar .int (nl (List.replicate es.length 0))) :: Rst) := R45.pick [8, 3, 8] rfl
  obtain ⟨s849, T49, h49, ls49, o849, X49, e49, N49, R49, st49⟩ := l1_loop ax ix b8 b13 b18 b25 b30 b35 b40 cnt es.length (max es.length cnt) es (by omega) hx hZ hw hby hml hown es.length 0 .unset (List.replicate (max es.length cnt) 0) _ _ _ (by omega) hok.1 One1.u X45 e45 N45 R48
  replace R49 : Rep Z n0 h49 ((ax, Obj "com/example/witgen/witgen/regex/Partition" [("elements", "[I", (.ref b8)), ("location", "[I", (.ref b13)), ("blockOf", "[I", (.ref b18)), ("start", "[I", (.ref b25)), ("end", "[I", (.ref b30)), ("marked", "[I", (.ref b35)), ("touched", "[I", (.ref b40)), ("blocks", "I", (.int (Int32.ofNat cnt))), ("touchedCount", "I", (.int (0 : Int32)))]) :: (b30, Ar .int (nl (pE1 es cnt))) :: (ix, Ar .int (nl es)) :: (b40, Ar .int (nl (List.replicate (max es.length cnt) 0))) :: (b35, Ar .int (nl (List.replicate (max es.length cnt) 0))) :: (b25, Ar .int (nl (List.replicate (max es.length cnt) 0))) :: (b18, Ar .int (nl es)) :: (b13, Ar .int (nl (List.replicate es.length 0))) :: (b8, Ar .int (nl (List.replicate es.length 0))) :: Rst) := R49
  have pre50 : ∀ t, Steps p.tables e below (T49.setTop (mkF m 118 #[.val (.ref ax), .val (.ref ix), .val (.int (Int32.ofNat cnt)), .val (.int (Int32.ofNat es.length)), .val (.int (Int32.ofNat (max es.length cnt))), .val (.ref ix), .val (.int (Int32.ofNat es.length)), .val (.int (Int32.ofNat es.length)), s849] [])) t → Steps p.tables e below (s₁.setTop (entryFrame m #[(.ref ax), (.ref ix), (.int (Int32.ofNat cnt))] 9)) t := fun t k => pre47 t (st49 t k)
  have pre51 : ∀ t, Steps p.tables e below (T49.setTop (mkF m 121 #[.val (.ref ax), .val (.ref ix), .val (.int (Int32.ofNat cnt)), .val (.int (Int32.ofNat es.length)), .val (.int (Int32.ofNat (max es.length cnt))), .val (.int (1 : Int32)), .val (.int (Int32.ofNat es.length)), .val (.int (Int32.ofNat es.length)), s849] [])) t → Steps p.tables e below (s₁.setTop (entryFrame m #[(.ref ax), (.ref ix), (.int (Int32.ofNat cnt))] 9)) t := fun t k => pre50 t (by
    show Steps p.tables e below (T49.setTop (mkF m 118 #[.val (.ref ax), .val (.ref ix), .val (.int (Int32.ofNat cnt)), .val (.int (Int32.ofNat es.length)), .val (.int (Int32.ofNat (max es.length cnt))), .val (.ref ix), .val (.int (Int32.ofNat es.length)), .val (.int (Int32.ofNat es.length)), s849] [])) _
    refine XS.iconst X49.here hx rfl (hb hby d2_118) ?_
    refine XS.istore X49.here hx rfl (hb hby d2_119) rfl (l' := #[.val (.ref ax), .val (.ref ix), .val (.int (Int32.ofNat cnt)), .val (.int (Int32.ofNat es.length)), .val (.int (Int32.ofNat (max es.length cnt))), .val (.int (1 : Int32)), .val (.int (Int32.ofNat es.length)), .val (.int (Int32.ofNat es.length)), s849]) rfl ?_
    exact k)
  obtain ⟨T52, h52, ls52, X52, e52, N52, R52, st52⟩ := l2_loop ax ix b8 b13 b18 b25 b30 b35 b40 cnt es.length (max es.length cnt) (.val (.int (Int32.ofNat es.length))) (.val (.int (Int32.ofNat es.length))) (s849) (by omega) hx hZ hw hby hml hown (cnt - 1) 1 (pE1 es cnt) _ _ _ (by omega) hok.2.1 X49 e49 N49 R49
  replace R52 : Rep Z n0 h52 ((ax, Obj "com/example/witgen/witgen/regex/Partition" [("elements", "[I", (.ref b8)), ("location", "[I", (.ref b13)), ("blockOf", "[I", (.ref b18)), ("start", "[I", (.ref b25)), ("end", "[I", (.ref b30)), ("marked", "[I", (.ref b35)), ("touched", "[I", (.ref b40)), ("blocks", "I", (.int (Int32.ofNat cnt))), ("touchedCount", "I", (.int (0 : Int32)))]) :: (b30, Ar .int (nl (pEn es cnt))) :: (ix, Ar .int (nl es)) :: (b40, Ar .int (nl (List.replicate (max es.length cnt) 0))) :: (b35, Ar .int (nl (List.replicate (max es.length cnt) 0))) :: (b25, Ar .int (nl (List.replicate (max es.length cnt) 0))) :: (b18, Ar .int (nl es)) :: (b13, Ar .int (nl (List.replicate es.length 0))) :: (b8, Ar .int (nl (List.replicate es.length 0))) :: Rst) := R52
  have pre53 : ∀ t, Steps p.tables e below (T52.setTop (mkF m 152 #[.val (.ref ax), .val (.ref ix), .val (.int (Int32.ofNat cnt)), .val (.int (Int32.ofNat es.length)), .val (.int (Int32.ofNat (max es.length cnt))), .val (.int (Int32.ofNat cnt)), .val (.int (Int32.ofNat es.length)), .val (.int (Int32.ofNat es.length)), s849] [])) t → Steps p.tables e below (s₁.setTop (entryFrame m #[(.ref ax), (.ref ix), (.int (Int32.ofNat cnt))] 9)) t := fun t k => pre51 t (st52 t k)
  have pre54 : ∀ t, Steps p.tables e below (T52.setTop (mkF m 155 #[.val (.ref ax), .val (.ref ix), .val (.int (Int32.ofNat cnt)), .val (.int (Int32.ofNat es.length)), .val (.int (Int32.ofNat (max es.length cnt))), .val (.int (0 : Int32)), .val (.int (Int32.ofNat es.length)), .val (.int (Int32.ofNat es.length)), s849] [])) t → Steps p.tables e below (s₁.setTop (entryFrame m #[(.ref ax), (.ref ix), (.int (Int32.ofNat cnt))] 9)) t := fun t k => pre53 t (by
    show Steps p.tables e below (T52.setTop (mkF m 152 #[.val (.ref ax), .val (.ref ix), .val (.int (Int32.ofNat cnt)), .val (.int (Int32.ofNat es.length)), .val (.int (Int32.ofNat (max es.length cnt))), .val (.int (Int32.ofNat cnt)), .val (.int (Int32.ofNat es.length)), .val (.int (Int32.ofNat es.length)), s849] [])) _
    refine XS.iconst X52.here hx rfl (hb hby d2_152) ?_
    refine XS.istore X52.here hx rfl (hb hby d2_153) rfl (l' := #[.val (.ref ax), .val (.ref ix), .val (.int (Int32.ofNat cnt)), .val (.int (Int32.ofNat es.length)), .val (.int (Int32.ofNat (max es.length cnt))), .val (.int (0 : Int32)), .val (.int (Int32.ofNat es.length)), .val (.int (Int32.ofNat es.length)), s849]) rfl ?_
    exact k)
  have R55 : Rep Z n0 h52 ((ax, Obj "com/example/witgen/witgen/regex/Partition" [("elements", "[I", (.ref b8)), ("location", "[I", (.ref b13)), ("blockOf", "[I", (.ref b18)), ("start", "[I", (.ref b25)), ("end", "[I", (.ref b30)), ("marked", "[I", (.ref b35)), ("touched", "[I", (.ref b40)), ("blocks", "I", (.int (Int32.ofNat cnt))), ("touchedCount", "I", (.int (0 : Int32)))]) :: (b25, Ar .int (nl (List.replicate (max es.length cnt) 0))) :: (b30, Ar .int (nl (pEn es cnt))) :: (ix, Ar .int (nl es)) :: (b40, Ar .int (nl (List.replicate (max es.length cnt) 0))) :: (b35, Ar .int (nl (List.replicate (max es.length cnt) 0))) :: (b18, Ar .int (nl es)) :: (b13, Ar .int (nl (List.replicate es.length 0))) :: (b8, Ar .int (nl (List.replicate es.length 0))) :: Rst) := R52.pick [1, 5, 2] rfl
  obtain ⟨T56, h56, ls56, X56, e56, N56, R56, st56⟩ := l3_loop ax ix b8 b13 b18 b25 b30 b35 b40 cnt es.length (max es.length cnt) (.val (.int (Int32.ofNat es.length))) (.val (.int (Int32.ofNat es.length))) (s849) (pEn es cnt) (by omega) hx hZ hw hby hml hown cnt 0 (List.replicate (max es.length cnt) 0) _ _ _ (by omega) hok.2.2.1 X52 e52 N52 R55
  replace R56 : Rep Z n0 h56 ((ax, Obj "com/example/witgen/witgen/regex/Partition" [("elements", "[I", (.ref b8)), ("location", "[I", (.ref b13)), ("blockOf", "[I", (.ref b18)), ("start", "[I", (.ref b25)), ("end", "[I", (.ref b30)), ("marked", "[I", (.ref b35)), ("touched", "[I", (.ref b40)), ("blocks", "I", (.int (Int32.ofNat cnt))), ("touchedCount", "I", (.int (0 : Int32)))]) :: (b25, Ar .int (nl (pSt es cnt))) :: (b30, Ar .int (nl (pEn es cnt))) :: (ix, Ar .int (nl es)) :: (b40, Ar .int (nl (List.replicate (max es.length cnt) 0))) :: (b35, Ar .int (nl (List.replicate (max es.length cnt) 0))) :: (b18, Ar .int (nl es)) :: (b13, Ar .int (nl (List.replicate es.length 0))) :: (b8, Ar .int (nl (List.replicate es.length 0))) :: Rst) := R56
  have pre57 : ∀ t, Steps p.tables e below (T56.setTop (mkF m 192 #[.val (.ref ax), .val (.ref ix), .val (.int (Int32.ofNat cnt)), .val (.int (Int32.ofNat es.length)), .val (.int (Int32.ofNat (max es.length cnt))), .val (.int (Int32.ofNat cnt)), .val (.int (Int32.ofNat es.length)), .val (.int (Int32.ofNat es.length)), s849] [])) t → Steps p.tables e below (s₁.setTop (entryFrame m #[(.ref ax), (.ref ix), (.int (Int32.ofNat cnt))] 9)) t := fun t k => pre54 t (st56 t k)
  have pre58 : ∀ t, Steps p.tables e below (T56.setTop (mkF m 193 #[.val (.ref ax), .val (.ref ix), .val (.int (Int32.ofNat cnt)), .val (.int (Int32.ofNat es.length)), .val (.int (Int32.ofNat (max es.length cnt))), .val (.int (Int32.ofNat cnt)), .val (.int (Int32.ofNat es.length)), .val (.int (Int32.ofNat es.length)), s849] [(.ref ax)])) t → Steps p.tables e below (s₁.setTop (entryFrame m #[(.ref ax), (.ref ix), (.int (Int32.ofNat cnt))] 9)) t := fun t k => pre57 t (by
    show Steps p.tables e below (T56.setTop (mkF m 192 #[.val (.ref ax), .val (.ref ix), .val (.int (Int32.ofNat cnt)), .val (.int (Int32.ofNat es.length)), .val (.int (Int32.ofNat (max es.length cnt))), .val (.int (Int32.ofNat cnt)), .val (.int (Int32.ofNat es.length)), .val (.int (Int32.ofNat es.length)), s849] [])) _
    refine XS.aloadN X56.here hx rfl (hb hby d2_192) rfl rfl ?_
    exact k)
  obtain ⟨T59, X59, e59, st59⟩ := gGet X56 hx hZ hown (host := "") (Or.inl (hw _ (List.mem_of_getElem? (i := 37) rfl))) e56 R56 0 3 rfl rfl (g := (mkF m 193 #[.val (.ref ax), .val (.ref ix), .val (.int (Int32.ofNat cnt)), .val (.int (Int32.ofNat es.length)), .val (.int (Int32.ofNat (max es.length cnt))), .val (.int (Int32.ofNat cnt)), .val (.int (Int32.ofNat es.length)), .val (.int (Int32.ofNat es.length)), s849] [(.ref ax)])) rfl rfl (hb hby d2_193)
  have pre60 : ∀ t, Steps p.tables e below (T59.setTop (mkF m 196 #[.val (.ref ax), .val (.ref ix), .val (.int (Int32.ofNat cnt)), .val (.int (Int32.ofNat es.length)), .val (.int (Int32.ofNat (max es.length cnt))), .val (.int (Int32.ofNat cnt)), .val (.int (Int32.ofNat es.length)), .val (.int (Int32.ofNat es.length)), s849] [(.ref b25)])) t → Steps p.tables e below (s₁.setTop (entryFrame m #[(.ref ax), (.ref ix), (.int (Int32.ofNat cnt))] 9)) t := fun t k => pre58 t (st59 t k)
  have pre61 : ∀ t, Steps p.tables e below (T59.setTop (mkF m 197 #[.val (.ref ax), .val (.ref ix), .val (.int (Int32.ofNat cnt)), .val (.int (Int32.ofNat es.length)), .val (.int (Int32.ofNat (max es.length cnt))), .val (.int (Int32.ofNat cnt)), .val (.int (Int32.ofNat es.length)), .val (.int (Int32.ofNat es.length)), s849] [(.int (Int32.ofNat cnt)), (.ref b25)])) t → Steps p.tables e below (s₁.setTop (entryFrame m #[(.ref ax), (.ref ix), (.int (Int32.ofNat cnt))] 9)) t := fun t k => pre60 t (by
    show Steps p.tables e below (T59.setTop (mkF m 196 #[.val (.ref ax), .val (.ref ix), .val (.int (Int32.ofNat cnt)), .val (.int (Int32.ofNat es.length)), .val (.int (Int32.ofNat (max es.length cnt))), .val (.int (Int32.ofNat cnt)), .val (.int (Int32.ofNat es.length)), .val (.int (Int32.ofNat es.length)), s849] [(.ref b25)])) _
    refine XS.iloadN X59.here hx rfl (hb hby d2_196) rfl ?_
    exact k)
  have R63 : Rep Z n0 h56 ((b25, Ar .int (nl (pSt es cnt))) :: (ax, Obj "com/example/witgen/witgen/regex/Partition" [("elements", "[I", (.ref b8)), ("location", "[I", (.ref b13)), ("blockOf", "[I", (.ref b18)), ("start", "[I", (.ref b25)), ("end", "[I", (.ref b30)), ("marked", "[I", (.ref b35)), ("touched", "[I", (.ref b40)), ("blocks", "I", (.int (Int32.ofNat cnt))), ("touchedCount", "I", (.int (0 : Int32)))]) :: (b30, Ar .int (nl (pEn es cnt))) :: (ix, Ar .int (nl es)) :: (b40, Ar .int (nl (List.replicate (max es.length cnt) 0))) :: (b35, Ar .int (nl (List.replicate (max es.length cnt) 0))) :: (b18, Ar .int (nl es)) :: (b13, Ar .int (nl (List.replicate es.length 0))) :: (b8, Ar .int (nl (List.replicate es.length 0))) :: Rst) := R56.pick [1] rfl
  obtain ⟨_, _, ⟨T62, L62, k62, n62⟩, -, X62, ⟨Lc62, hQ62, l62, y62, z62⟩, st62⟩ := Jvm.LawKit.callS X59 hx (y := (⟨"java/util/Arrays", "copyOf", "([II)[I"⟩ : MethodName)) hown (mvT hZ (hw _ (List.mem_of_getElem? (i := 47) rfl))) (mvT hZ (hw _ (List.mem_of_getElem? (i := 48) rfl))) (mvT hZ (hw _ (List.mem_of_getElem? (i := 49) rfl))) (mvT hZ (hw _ (List.mem_of_getElem? (i := 50) rfl))) (by decide) (backOf (W := 0) (rm5 l Z a0 hw [] b25 cnt _ h56 n0 _ R63 (hok.2.2.2.2.1) (hok.2.2.2.2.2.1) (hok.2.2.2.2.2.2)) hZ (hw _ (List.mem_of_getElem? (i := 50) rfl)) (hw _ (List.mem_of_getElem? (i := 49) rfl)) (by decide) (by decide)) (g := (mkF m 197 #[.val (.ref ax), .val (.ref ix), .val (.int (Int32.ofNat cnt)), .val (.int (Int32.ofNat es.length)), .val (.int (Int32.ofNat (max es.length cnt))), .val (.int (Int32.ofNat cnt)), .val (.int (Int32.ofNat es.length)), .val (.int (Int32.ofNat es.length)), s849] [(.int (Int32.ofNat cnt)), (.ref b25)])) rfl (by rw [hml]; rfl) (argsL := [(.ref b25), (.int (Int32.ofNat cnt))]) (rest := []) (lenOf pd__28_5bII_29_5bI rfl) rfl (by show 2 * 0 + _ ≤ _; exact Nat.le_of_eq rfl) (hb hby d2_197) (fun _ _ => ⟨rfl, e59, (by decide : 7 + 1 ≤ _), (by decide : 44 + 8 ≤ _)⟩)
  dsimp only [Pt.U, Pt.locs, Pt.cells, Pt.slots] at X62 l62 y62 z62 st62 hQ62
  subst y62 z62
  obtain ⟨bx62, rfl, N62q, R62⟩ := hQ62
  have N62 : Fr n0 L62 := by rw [l62]; exact Fr.app N56 N62q
  replace R62 : Rep Z n0 T62.heap ((bx62, Ar .int (nl ((pSt es cnt).take cnt))) :: (b25, Ar .int (nl (pSt es cnt))) :: (ax, Obj "com/example/witgen/witgen/regex/Partition" [("elements", "[I", (.ref b8)), ("location", "[I", (.ref b13)), ("blockOf", "[I", (.ref b18)), ("start", "[I", (.ref b25)), ("end", "[I", (.ref b30)), ("marked", "[I", (.ref b35)), ("touched", "[I", (.ref b40)), ("blocks", "I", (.int (Int32.ofNat cnt))), ("touchedCount", "I", (.int (0 : Int32)))]) :: (b30, Ar .int (nl (pEn es cnt))) :: (ix, Ar .int (nl es)) :: (b40, Ar .int (nl (List.replicate (max es.length cnt) 0))) :: (b35, Ar .int (nl (List.replicate (max es.length cnt) 0))) :: (b18, Ar .int (nl es)) :: (b13, Ar .int (nl (List.replicate es.length 0))) :: (b8, Ar .int (nl (List.replicate es.length 0))) :: Rst) := R62
  have pre64 : ∀ t, Steps p.tables e below (T62.setTop (mkF m 200 #[.val (.ref ax), .val (.ref ix), .val (.int (Int32.ofNat cnt)), .val (.int (Int32.ofNat es.length)), .val (.int (Int32.ofNat (max es.length cnt))), .val (.int (Int32.ofNat cnt)), .val (.int (Int32.ofNat es.length)), .val (.int (Int32.ofNat es.length)), s849] [(.ref bx62)])) t → Steps p.tables e below (s₁.setTop (entryFrame m #[(.ref ax), (.ref ix), (.int (Int32.ofNat cnt))] 9)) t := fun t k => pre61 t (st62 t k)
  have pre65 : ∀ t, Steps p.tables e below (T62.setTop (mkF m 205 #[.val (.ref ax), .val (.ref ix), .val (.int (Int32.ofNat cnt)), .val (.int (Int32.ofNat es.length)), .val (.int (Int32.ofNat (max es.length cnt))), .val (.ref bx62), .val (.int (0 : Int32)), .val (.int (Int32.ofNat es.length)), s849] [])) t → Steps p.tables e below (s₁.setTop (entryFrame m #[(.ref ax), (.ref ix), (.int (Int32.ofNat cnt))] 9)) t := fun t k => pre64 t (by
    show Steps p.tables e below (T62.setTop (mkF m 200 #[.val (.ref ax), .val (.ref ix), .val (.int (Int32.ofNat cnt)), .val (.int (Int32.ofNat es.length)), .val (.int (Int32.ofNat (max es.length cnt))), .val (.int (Int32.ofNat cnt)), .val (.int (Int32.ofNat es.length)), .val (.int (Int32.ofNat es.length)), s849] [(.ref bx62)])) _
    refine XS.astore X62.here hx rfl (hb hby d2_200) rfl rfl (l' := #[.val (.ref ax), .val (.ref ix), .val (.int (Int32.ofNat cnt)), .val (.int (Int32.ofNat es.length)), .val (.int (Int32.ofNat (max es.length cnt))), .val (.ref bx62), .val (.int (Int32.ofNat es.length)), .val (.int (Int32.ofNat es.length)), s849]) rfl ?_
    refine XS.iconst X62.here hx rfl (hb hby d2_202) ?_
    refine XS.istore X62.here hx rfl (hb hby d2_203) rfl (l' := #[.val (.ref ax), .val (.ref ix), .val (.int (Int32.ofNat cnt)), .val (.int (Int32.ofNat es.length)), .val (.int (Int32.ofNat (max es.length cnt))), .val (.ref bx62), .val (.int (0 : Int32)), .val (.int (Int32.ofNat es.length)), s849]) rfl ?_
    exact k)
  have R66 : Rep Z n0 T62.heap ((ax, Obj "com/example/witgen/witgen/regex/Partition" [("elements", "[I", (.ref b8)), ("location", "[I", (.ref b13)), ("blockOf", "[I", (.ref b18)), ("start", "[I", (.ref b25)), ("end", "[I", (.ref b30)), ("marked", "[I", (.ref b35)), ("touched", "[I", (.ref b40)), ("blocks", "I", (.int (Int32.ofNat cnt))), ("touchedCount", "I", (.int (0 : Int32)))]) :: (b8, Ar .int (nl (List.replicate es.length 0))) :: (b13, Ar .int (nl (List.replicate es.length 0))) :: (bx62, Ar .int (nl ((pSt es cnt).take cnt))) :: (ix, Ar .int (nl es)) :: (b25, Ar .int (nl (pSt es cnt))) :: (b30, Ar .int (nl (pEn es cnt))) :: (b40, Ar .int (nl (List.replicate (max es.length cnt) 0))) :: (b35, Ar .int (nl (List.replicate (max es.length cnt) 0))) :: (b18, Ar .int (nl es)) :: Rst) := R62.pick [4, 1, 8, 9, 5] rfl
  obtain ⟨T67, h67, ls67, X67, e67, N67, R67, st67⟩ := l4_loop ax ix b8 b13 b18 b25 b30 b35 b40 cnt es.length (max es.length cnt) bx62 (.val (.int (Int32.ofNat es.length))) (s849) es (by omega) hx hZ hw hby hml hown es.length 0 (List.replicate es.length 0) (List.replicate es.length 0) ((pSt es cnt).take cnt) _ _ _ (by omega) hok.2.2.2.1 X62 rfl N62 R66
  replace R67 : Rep Z n0 h67 ((ax, Obj "com/example/witgen/witgen/regex/Partition" [("elements", "[I", (.ref b8)), ("location", "[I", (.ref b13)), ("blockOf", "[I", (.ref b18)), ("start", "[I", (.ref b25)), ("end", "[I", (.ref b30)), ("marked", "[I", (.ref b35)), ("touched", "[I", (.ref b40)), ("blocks", "I", (.int (Int32.ofNat cnt))), ("touchedCount", "I", (.int (0 : Int32)))]) :: (b8, Ar .int (nl (pS4 es cnt).1)) :: (b13, Ar .int (nl (pS4 es cnt).2.1)) :: (bx62, Ar .int (nl (pS4 es cnt).2.2)) :: (ix, Ar .int (nl es)) :: (b25, Ar .int (nl (pSt es cnt))) :: (b30, Ar .int (nl (pEn es cnt))) :: (b40, Ar .int (nl (List.replicate (max es.length cnt) 0))) :: (b35, Ar .int (nl (List.replicate (max es.length cnt) 0))) :: (b18, Ar .int (nl es)) :: Rst) := R67
  have pre68 : ∀ t, Steps p.tables e below (T67.setTop (mkF m 250 #[.val (.ref ax), .val (.ref ix), .val (.int (Int32.ofNat cnt)), .val (.int (Int32.ofNat es.length)), .val (.int (Int32.ofNat (max es.length cnt))), .val (.ref bx62), .val (.int (Int32.ofNat es.length)), .val (.int (Int32.ofNat es.length)), s849] [])) t → Steps p.tables e below (s₁.setTop (entryFrame m #[(.ref ax), (.ref ix), (.int (Int32.ofNat cnt))] 9)) t := fun t k => pre65 t (st67 t k)
  obtain ⟨fs, hr, hrun, hended, hW, hsame⟩ := X67.leave (v := none) (fun _ => rfl) (BodyLoose.notSynchronized Bd)
  refine ⟨_, _, pre68 _ ?_, hrun, hended, _, _, rfl, ?_, ⟨_, rfl⟩, hW, hsame.mono (by decide) (by decide)⟩
  · show Steps p.tables e below (T67.setTop (mkF m 250 #[.val (.ref ax), .val (.ref ix), .val (.int (Int32.ofNat cnt)), .val (.int (Int32.ofNat es.length)), .val (.int (Int32.ofNat (max es.length cnt))), .val (.ref bx62), .val (.int (Int32.ofNat es.length)), .val (.int (Int32.ofNat es.length)), s849] [])) _
    exact X67.returnOut hx Bd.returns (hb hby d2_250) hr
  · show Q2 Z ax ix cnt u1 u2 u3 u4 u5 u6 u7 u9 es n0 Rst _ T67.heap _
    rw [e67]
    have R69 : Rep Z n0 h67 ((ax, Obj "com/example/witgen/witgen/regex/Partition" [("elements", "[I", (.ref b8)), ("location", "[I", (.ref b13)), ("blockOf", "[I", (.ref b18)), ("start", "[I", (.ref b25)), ("end", "[I", (.ref b30)), ("marked", "[I", (.ref b35)), ("touched", "[I", (.ref b40)), ("blocks", "I", (.int (Int32.ofNat cnt))), ("touchedCount", "I", (.int (0 : Int32)))]) :: (b8, Ar .int (nl (pS4 es cnt).1)) :: (b13, Ar .int (nl (pS4 es cnt).2.1)) :: (b18, Ar .int (nl es)) :: (b25, Ar .int (nl (pSt es cnt))) :: (b30, Ar .int (nl (pEn es cnt))) :: (b35, Ar .int (nl (List.replicate (max es.length cnt) 0))) :: (b40, Ar .int (nl (List.replicate (max es.length cnt) 0))) :: (ix, Ar .int (nl es)) :: (bx62, Ar .int (nl (pS4 es cnt).2.2)) :: Rst) := R67.pick [4, 7, 8, 8, 8, 9, 8, 8, 8] rfl
    have R70 : Rep Z n0 h67 ((ax, Obj "com/example/witgen/witgen/regex/Partition" [("elements", "[I", (.ref b8)), ("location", "[I", (.ref b13)), ("blockOf", "[I", (.ref b18)), ("start", "[I", (.ref b25)), ("end", "[I", (.ref b30)), ("marked", "[I", (.ref b35)), ("touched", "[I", (.ref b40)), ("blocks", "I", (.int (Int32.ofNat cnt))), ("touchedCount", "I", (.int (0 : Int32)))]) :: (b8, Ar .int (nl (pS4 es cnt).1)) :: (b13, Ar .int (nl (pS4 es cnt).2.1)) :: (b18, Ar .int (nl es)) :: (b25, Ar .int (nl (pSt es cnt))) :: (b30, Ar .int (nl (pEn es cnt))) :: (b35, Ar .int (nl (List.replicate (max es.length cnt) 0))) :: (b40, Ar .int (nl (List.replicate (max es.length cnt) 0))) :: (ix, Ar .int (nl es)) :: Rst) := R69.cut 9 1 rfl
    exact ⟨b8, b13, b18, b25, b30, b35, b40, rfl, N67, R70⟩
def mB (bo : List Nat) (ek : Nat) : Nat := bo.getD ek 0
def mF (bo sta mk : List Nat) (ek : Nat) : Nat := sta.getD (mB bo ek) 0 + mk.getD (mB bo ek) 0
def mEl (bo sta el lo mk : List Nat) (ek : Nat) : List Nat := (el.set (mF bo sta mk ek) ek).set (lo.getD ek 0) (el.getD (mF bo sta mk ek) 0)
def mLo (bo sta el lo mk : List Nat) (ek : Nat) : List Nat := (lo.set ek (mF bo sta mk ek)).set (el.getD (mF bo sta mk ek) 0) (lo.getD ek 0)
def mMk (bo mk : List Nat) (ek : Nat) : List Nat := mk.set (mB bo ek) (mk.getD (mB bo ek) 0 + 1)
def mTo (bo mk to : List Nat) (tc ek : Nat) : List Nat := if mk.getD (mB bo ek) 0 = 0 then to.set tc (mB bo ek) else to
def mTc (bo mk : List Nat) (tc ek : Nat) : Nat := if mk.getD (mB bo ek) 0 = 0 then tc + 1 else tc
def okM (bo sta el lo mk to : List Nat) (tc ek : Nat) : Bool := decide (ek < bo.length) && decide (ek < 1000) && decide (ek < lo.length) && decide (mB bo ek < sta.length) && decide (mB bo ek < 1000) && decide (mB bo ek < mk.length) && decide (mF bo sta mk ek < el.length) && decide (mF bo sta mk ek < 1000) && decide (lo.getD ek 0 < el.length) && decide (lo.getD ek 0 < 1000) && decide (el.getD (mF bo sta mk ek) 0 < lo.length) && decide (el.getD (mF bo sta mk ek) 0 < 1000) && decide (mk.getD (mB bo ek) 0 < 1000) && decide (tc < to.length) && decide (tc < 1000)
theorem d7_0 : decode prog_15_method_6_code 0 = .ok (.aload_n 0, 1) := by decide +kernel
theorem d7_1 : decode prog_15_method_6_code 1 = .ok (.getfield 27, 3) := by decide +kernel
theorem d7_4 : decode prog_15_method_6_code 4 = .ok (.iload_n 1, 1) := by decide +kernel
theorem d7_5 : decode prog_15_method_6_code 5 = .ok (.iaload, 1) := by decide +kernel
theorem d7_6 : decode prog_15_method_6_code 6 = .ok (.istore_n 2, 1) := by decide +kernel
theorem d7_7 : decode prog_15_method_6_code 7 = .ok (.aload_n 0, 1) := by decide +kernel
theorem d7_8 : decode prog_15_method_6_code 8 = .ok (.getfield 19, 3) := by decide +kernel
theorem d7_11 : decode prog_15_method_6_code 11 = .ok (.iload_n 1, 1) := by decide +kernel
theorem d7_12 : decode prog_15_method_6_code 12 = .ok (.iaload, 1) := by decide +kernel
theorem d7_13 : decode prog_15_method_6_code 13 = .ok (.istore_n 3, 1) := by decide +kernel
theorem d7_14 : decode prog_15_method_6_code 14 = .ok (.aload_n 0, 1) := by decide +kernel
theorem d7_15 : decode prog_15_method_6_code 15 = .ok (.getfield 30, 3) := by decide +kernel
theorem d7_18 : decode prog_15_method_6_code 18 = .ok (.iload_n 2, 1) := by decide +kernel
theorem d7_19 : decode prog_15_method_6_code 19 = .ok (.iaload, 1) := by decide +kernel
theorem d7_20 : decode prog_15_method_6_code 20 = .ok (.aload_n 0, 1) := by decide +kernel
theorem d7_21 : decode prog_15_method_6_code 21 = .ok (.getfield 36, 3) := by decide +kernel
theorem d7_24 : decode prog_15_method_6_code 24 = .ok (.iload_n 2, 1) := by decide +kernel
theorem d7_25 : decode prog_15_method_6_code 25 = .ok (.iaload, 1) := by decide +kernel
theorem d7_26 : decode prog_15_method_6_code 26 = .ok (.iadd, 1) := by decide +kernel
theorem d7_27 : decode prog_15_method_6_code 27 = .ok (.istore 4, 2) := by decide +kernel
theorem d7_29 : decode prog_15_method_6_code 29 = .ok (.aload_n 0, 1) := by decide +kernel
theorem d7_30 : decode prog_15_method_6_code 30 = .ok (.getfield 13, 3) := by decide +kernel
theorem d7_33 : decode prog_15_method_6_code 33 = .ok (.iload 4, 2) := by decide +kernel
theorem d7_35 : decode prog_15_method_6_code 35 = .ok (.iaload, 1) := by decide +kernel
theorem d7_36 : decode prog_15_method_6_code 36 = .ok (.istore 5, 2) := by decide +kernel
theorem d7_38 : decode prog_15_method_6_code 38 = .ok (.aload_n 0, 1) := by decide +kernel
theorem d7_39 : decode prog_15_method_6_code 39 = .ok (.getfield 13, 3) := by decide +kernel
theorem d7_42 : decode prog_15_method_6_code 42 = .ok (.iload 4, 2) := by decide +kernel
theorem d7_44 : decode prog_15_method_6_code 44 = .ok (.iload_n 1, 1) := by decide +kernel
theorem d7_45 : decode prog_15_method_6_code 45 = .ok (.iastore, 1) := by decide +kernel
theorem d7_46 : decode prog_15_method_6_code 46 = .ok (.aload_n 0, 1) := by decide +kernel
theorem d7_47 : decode prog_15_method_6_code 47 = .ok (.getfield 19, 3) := by decide +kernel
theorem d7_50 : decode prog_15_method_6_code 50 = .ok (.iload_n 1, 1) := by decide +kernel
theorem d7_51 : decode prog_15_method_6_code 51 = .ok (.iload 4, 2) := by decide +kernel
theorem d7_53 : decode prog_15_method_6_code 53 = .ok (.iastore, 1) := by decide +kernel
theorem d7_54 : decode prog_15_method_6_code 54 = .ok (.aload_n 0, 1) := by decide +kernel
theorem d7_55 : decode prog_15_method_6_code 55 = .ok (.getfield 13, 3) := by decide +kernel
theorem d7_58 : decode prog_15_method_6_code 58 = .ok (.iload_n 3, 1) := by decide +kernel
theorem d7_59 : decode prog_15_method_6_code 59 = .ok (.iload 5, 2) := by decide +kernel
theorem d7_61 : decode prog_15_method_6_code 61 = .ok (.iastore, 1) := by decide +kernel
theorem d7_62 : decode prog_15_method_6_code 62 = .ok (.aload_n 0, 1) := by decide +kernel
theorem d7_63 : decode prog_15_method_6_code 63 = .ok (.getfield 19, 3) := by decide +kernel
theorem d7_66 : decode prog_15_method_6_code 66 = .ok (.iload 5, 2) := by decide +kernel
theorem d7_68 : decode prog_15_method_6_code 68 = .ok (.iload_n 3, 1) := by decide +kernel
theorem d7_69 : decode prog_15_method_6_code 69 = .ok (.iastore, 1) := by decide +kernel
theorem d7_70 : decode prog_15_method_6_code 70 = .ok (.aload_n 0, 1) := by decide +kernel
theorem d7_71 : decode prog_15_method_6_code 71 = .ok (.getfield 36, 3) := by decide +kernel
theorem d7_74 : decode prog_15_method_6_code 74 = .ok (.iload_n 2, 1) := by decide +kernel
theorem d7_75 : decode prog_15_method_6_code 75 = .ok (.dup2, 1) := by decide +kernel
theorem d7_76 : decode prog_15_method_6_code 76 = .ok (.iaload, 1) := by decide +kernel
theorem d7_77 : decode prog_15_method_6_code 77 = .ok (.dup_x2, 1) := by decide +kernel
theorem d7_78 : decode prog_15_method_6_code 78 = .ok (.iconst 1, 1) := by decide +kernel
theorem d7_79 : decode prog_15_method_6_code 79 = .ok (.iadd, 1) := by decide +kernel
theorem d7_80 : decode prog_15_method_6_code 80 = .ok (.iastore, 1) := by decide +kernel
theorem d7_81 : decode prog_15_method_6_code 81 = .ok (.ifCond .ne 20, 3) := by decide +kernel
theorem d7_84 : decode prog_15_method_6_code 84 = .ok (.aload_n 0, 1) := by decide +kernel
theorem d7_85 : decode prog_15_method_6_code 85 = .ok (.getfield 39, 3) := by decide +kernel
theorem d7_88 : decode prog_15_method_6_code 88 = .ok (.aload_n 0, 1) := by decide +kernel
theorem d7_89 : decode prog_15_method_6_code 89 = .ok (.dup, 1) := by decide +kernel
theorem d7_90 : decode prog_15_method_6_code 90 = .ok (.getfield 52, 3) := by decide +kernel
theorem d7_93 : decode prog_15_method_6_code 93 = .ok (.dup_x1, 1) := by decide +kernel
theorem d7_94 : decode prog_15_method_6_code 94 = .ok (.iconst 1, 1) := by decide +kernel
theorem d7_95 : decode prog_15_method_6_code 95 = .ok (.iadd, 1) := by decide +kernel
theorem d7_96 : decode prog_15_method_6_code 96 = .ok (.putfield 52, 3) := by decide +kernel
theorem d7_99 : decode prog_15_method_6_code 99 = .ok (.iload_n 2, 1) := by decide +kernel
theorem d7_100 : decode prog_15_method_6_code 100 = .ok (.iastore, 1) := by decide +kernel
theorem d7_101 : decode prog_15_method_6_code 101 = .ok (.return_, 1) := by decide +kernel
theorem ef_7 (m : MethodId) (x0 : Addr) (x1 : Nat) : entryFrame m #[(.ref x0), (.int (Int32.ofNat x1))] 6 = mkF m 0 #[.val (.ref x0), .val (.int (Int32.ofNat x1)), .unset, .unset, .unset, .unset] [] := by first | (simp [entryFrame, mkF, argsToLocals, Value.category]; done) | rfl
def Q7 (Z : State) (ax : Addr) (ek : Nat) (b1 : Addr) (b2 : Addr) (b3 : Addr) (b4 : Addr) (b5 : Addr) (b6 : Addr) (b7 : Addr) (cnt : Nat) (tc : Nat) (el : List Nat) (lo : List Nat) (bo : List Nat) (sta : List Nat) (mk : List Nat) (to : List Nat) (n0 : Nat) (Rst : RL) (v : Option Value) (h : Heap) (L : List Loc) : Prop := v = none ∧ Fr n0 L ∧ Rep Z n0 h ((ax, Obj "com/example/witgen/witgen/regex/Partition" [("elements", "[I", (.ref b1)), ("location", "[I", (.ref b2)), ("blockOf", "[I", (.ref b3)), ("start", "[I", (.ref b4)), ("end", "[I", (.ref b5)), ("marked", "[I", (.ref b6)), ("touched", "[I", (.ref b7)), ("blocks", "I", (.int (Int32.ofNat cnt))), ("touchedCount", "I", (.int (Int32.ofNat (mTc bo mk tc ek))))]) :: (b1, Ar .int (nl (mEl bo sta el lo mk ek))) :: (b2, Ar .int (nl (mLo bo sta el lo mk ek))) :: (b3, Ar .int (nl bo)) :: (b4, Ar .int (nl sta)) :: (b6, Ar .int (nl (mMk bo mk ek))) :: (b7, Ar .int (nl (mTo bo mk to tc ek))) :: Rst)
set_option maxRecDepth 65536 in
set_option maxHeartbeats 40000000 in
theorem rm7 (l : Launch) (Z : State) (a0 : Array Value) (hw : ∀ d ∈ tables_1, d.before a0 Z = true) (ws : List Jvm.Cond) (ax : Addr) (ek : Nat) (b1 : Addr) (b2 : Addr) (b3 : Addr) (b4 : Addr) (b5 : Addr) (b6 : Addr) (b7 : Addr) (cnt : Nat) (tc : Nat) (el : List Nat) (lo : List Nat) (bo : List Nat) (sta : List Nat) (mk : List Nat) (to : List Nat) (h0 : Heap) (n0 : Nat) (Rst : RL) (R0 : Rep Z n0 h0 ((ax, Obj "com/example/witgen/witgen/regex/Partition" [("elements", "[I", (.ref b1)), ("location", "[I", (.ref b2)), ("blockOf", "[I", (.ref b3)), ("start", "[I", (.ref b4)), ("end", "[I", (.ref b5)), ("marked", "[I", (.ref b6)), ("touched", "[I", (.ref b7)), ("blocks", "I", (.int (Int32.ofNat cnt))), ("touchedCount", "I", (.int (Int32.ofNat tc)))]) :: (b1, Ar .int (nl el)) :: (b2, Ar .int (nl lo)) :: (b3, Ar .int (nl bo)) :: (b4, Ar .int (nl sta)) :: (b6, Ar .int (nl mk)) :: (b7, Ar .int (nl to)) :: Rst)) (hok0 : okM bo sta el lo mk to tc ek = true) :
    MetFree l (⟨"com/example/witgen/witgen/regex/Partition", "mark", "(I)V"⟩ : MethodName) (head1 (Jvm.Cond.code (⟨"com/example/witgen/witgen/regex/Partition", "mark", "(I)V"⟩ : MethodName) prog_15_method_6_code 6 none :: ws) ({ frames := 0, cells := 0, slots := 0, locals := 0 } : Room)) (fun a U => a = #[(.ref ax), (.int (Int32.ofNat ek))] ∧ Z.Warmed39 U.vm ∧ U.heap = h0) (fun _ _ _ _ _ => True) (fun _ U o U' => ∃ v L, o = .returned v ∧ Q7 Z ax ek b1 b2 b3 b4 b5 b6 b7 cnt tc el lo bo sta mk to n0 Rst v U'.heap L ∧ FrameEnd U o U' L ({ frames := 0, cells := 0, slots := 0, locals := 0 } : Room).cells ({ frames := 0, cells := 0, slots := 0, locals := 0 } : Room).slots) := by
  refine MetFree.of_bodySF (plainFor_of_name pn_com_example_witgen_witgen_regex_Partition) hisR ?_
  intro p e s m args below meth c s₁ Bd hml0 hP hK
  obtain ⟨rfl, hZ, hh⟩ := hP
  have hx := Bd.exec
  have hby := Bd.bytes
  have hml : c.maxLocals = 6 := hml0
  have hown : s.vm.findClass "com/example/witgen/witgen/regex/Partition" = some m.cls := findClass_of_methodNamed Bd.named
  have hnm := (name_of_methodNamed Bd.named Bd.method).1
  have X0 : Stand p l e ({ frames := 0, cells := 0, slots := 0, locals := 0 } : Room) s m #[(.ref ax), (.int (Int32.ofNat ek))] below meth c s₁ [] 0 0 := Stand.of_body Bd
  have e0 : s₁.heap = h0 := by rw [← hh, Bd.state]; rfl
  have N0 := Fr.nil n0
  have pre0 : ∀ t, Steps p.tables e below (s₁.setTop (mkF m 0 #[.val (.ref ax), .val (.int (Int32.ofNat ek)), .unset, .unset, .unset, .unset] [])) t → Steps p.tables e below (s₁.setTop (entryFrame m #[(.ref ax), (.int (Int32.ofNat ek))] 6)) t := fun t k => castTop (ef_7 m ax ek) k
  have ok := hok0
  simp only [okM, Bool.and_eq_true, decide_eq_true_eq] at ok
  obtain ⟨⟨⟨⟨⟨⟨⟨⟨⟨⟨⟨⟨⟨⟨q1, q2⟩, q3⟩, q4⟩, q5⟩, q6⟩, q7⟩, q8⟩, q9⟩, q10⟩, q11⟩, q12⟩, q13⟩, q14⟩, q15⟩ := ok
  have pre1 : ∀ t, Steps p.tables e below (s₁.setTop (mkF m 1 #[.val (.ref ax), .val (.int (Int32.ofNat ek)), .unset, .unset, .unset, .unset] [(.ref ax)])) t → Steps p.tables e below (s₁.setTop (entryFrame m #[(.ref ax), (.int (Int32.ofNat ek))] 6)) t := fun t k => pre0 t (by
    show Steps p.tables e below (s₁.setTop (mkF m 0 #[.val (.ref ax), .val (.int (Int32.ofNat ek)), .unset, .unset, .unset, .unset] [])) _
    refine XS.aloadN X0.here hx rfl (hb hby d7_0) rfl rfl ?_
    exact k)
  obtain ⟨T2, X2, e2, st2⟩ := gGet X0 hx hZ hown (host := "") (Or.inl (hw _ (List.mem_of_getElem? (i := 35) rfl))) e0 R0 0 2 rfl rfl (g := (mkF m 1 #[.val (.ref ax), .val (.int (Int32.ofNat ek)), .unset, .unset, .unset, .unset] [(.ref ax)])) rfl rfl (hb hby d7_1)
  have pre3 : ∀ t, Steps p.tables e below (T2.setTop (mkF m 4 #[.val (.ref ax), .val (.int (Int32.ofNat ek)), .unset, .unset, .unset, .unset] [(.ref b3)])) t → Steps p.tables e below (s₁.setTop (entryFrame m #[(.ref ax), (.int (Int32.ofNat ek))] 6)) t := fun t k => pre1 t (st2 t k)
  have pre4 : ∀ t, Steps p.tables e below (T2.setTop (mkF m 8 #[.val (.ref ax), .val (.int (Int32.ofNat ek)), .val (.int (Int32.ofNat (bo.getD ek 0))), .unset, .unset, .unset] [(.ref ax)])) t → Steps p.tables e below (s₁.setTop (entryFrame m #[(.ref ax), (.int (Int32.ofNat ek))] 6)) t := fun t k => pre3 t (by
    show Steps p.tables e below (T2.setTop (mkF m 4 #[.val (.ref ax), .val (.int (Int32.ofNat ek)), .unset, .unset, .unset, .unset] [(.ref b3)])) _
    refine XS.iloadN X2.here hx rfl (hb hby d7_4) rfl ?_
    refine gIald X2 hx hZ e2 R0 3 rfl (j := (Int32.ofNat ek)) (v := (.int (Int32.ofNat (bo.getD ek 0)))) (n_nn (q2)) (nl_at (q1) (q2)) (g := (mkF m 5 #[.val (.ref ax), .val (.int (Int32.ofNat ek)), .unset, .unset, .unset, .unset] [(.int (Int32.ofNat ek)), (.ref b3)])) rfl rfl (hb hby d7_5) _ ?_
    refine XS.istoreN X2.here hx rfl (hb hby d7_6) rfl (l' := #[.val (.ref ax), .val (.int (Int32.ofNat ek)), .val (.int (Int32.ofNat (bo.getD ek 0))), .unset, .unset, .unset]) rfl ?_
    refine XS.aloadN X2.here hx rfl (hb hby d7_7) rfl rfl ?_
    exact k)
  obtain ⟨T5, X5, e5, st5⟩ := gGet X2 hx hZ hown (host := "") (Or.inl (hw _ (List.mem_of_getElem? (i := 24) rfl))) e2 R0 0 1 rfl rfl (g := (mkF m 8 #[.val (.ref ax), .val (.int (Int32.ofNat ek)), .val (.int (Int32.ofNat (bo.getD ek 0))), .unset, .unset, .unset] [(.ref ax)])) rfl rfl (hb hby d7_8)
  have pre6 : ∀ t, Steps p.tables e below (T5.setTop (mkF m 11 #[.val (.ref ax), .val (.int (Int32.ofNat ek)), .val (.int (Int32.ofNat (bo.getD ek 0))), .unset, .unset, .unset] [(.ref b2)])) t → Steps p.tables e below (s₁.setTop (entryFrame m #[(.ref ax), (.int (Int32.ofNat ek))] 6)) t := fun t k => pre4 t (st5 t k)
  have pre7 : ∀ t, Steps p.tables e below (T5.setTop (mkF m 15 #[.val (.ref ax), .val (.int (Int32.ofNat ek)), .val (.int (Int32.ofNat (bo.getD ek 0))), .val (.int (Int32.ofNat (lo.getD ek 0))), .unset, .unset] [(.ref ax)])) t → Steps p.tables e below (s₁.setTop (entryFrame m #[(.ref ax), (.int (Int32.ofNat ek))] 6)) t := fun t k => pre6 t (by
    show Steps p.tables e below (T5.setTop (mkF m 11 #[.val (.ref ax), .val (.int (Int32.ofNat ek)), .val (.int (Int32.ofNat (bo.getD ek 0))), .unset, .unset, .unset] [(.ref b2)])) _
    refine XS.iloadN X5.here hx rfl (hb hby d7_11) rfl ?_
    refine gIald X5 hx hZ e5 R0 2 rfl (j := (Int32.ofNat ek)) (v := (.int (Int32.ofNat (lo.getD ek 0)))) (n_nn (q2)) (nl_at (q3) (q2)) (g := (mkF m 12 #[.val (.ref ax), .val (.int (Int32.ofNat ek)), .val (.int (Int32.ofNat (bo.getD ek 0))), .unset, .unset, .unset] [(.int (Int32.ofNat ek)), (.ref b2)])) rfl rfl (hb hby d7_12) _ ?_
    refine XS.istoreN X5.here hx rfl (hb hby d7_13) rfl (l' := #[.val (.ref ax), .val (.int (Int32.ofNat ek)), .val (.int (Int32.ofNat (bo.getD ek 0))), .val (.int (Int32.ofNat (lo.getD ek 0))), .unset, .unset]) rfl ?_
    refine XS.aloadN X5.here hx rfl (hb hby d7_14) rfl rfl ?_
    exact k)
  obtain ⟨T8, X8, e8, st8⟩ := gGet X5 hx hZ hown (host := "") (Or.inl (hw _ (List.mem_of_getElem? (i := 37) rfl))) e5 R0 0 3 rfl rfl (g := (mkF m 15 #[.val (.ref ax), .val (.int (Int32.ofNat ek)), .val (.int (Int32.ofNat (bo.getD ek 0))), .val (.int (Int32.ofNat (lo.getD ek 0))), .unset, .unset] [(.ref ax)])) rfl rfl (hb hby d7_15)
  have pre9 : ∀ t, Steps p.tables e below (T8.setTop (mkF m 18 #[.val (.ref ax), .val (.int (Int32.ofNat ek)), .val (.int (Int32.ofNat (bo.getD ek 0))), .val (.int (Int32.ofNat (lo.getD ek 0))), .unset, .unset] [(.ref b4)])) t → Steps p.tables e below (s₁.setTop (entryFrame m #[(.ref ax), (.int (Int32.ofNat ek))] 6)) t := fun t k => pre7 t (st8 t k)
  have pre10 : ∀ t, Steps p.tables e below (T8.setTop (mkF m 21 #[.val (.ref ax), .val (.int (Int32.ofNat ek)), .val (.int (Int32.ofNat (bo.getD ek 0))), .val (.int (Int32.ofNat (lo.getD ek 0))), .unset, .unset] [(.ref ax), (.int (Int32.ofNat (sta.getD (bo.getD ek 0) 0)))])) t → Steps p.tables e below (s₁.setTop (entryFrame m #[(.ref ax), (.int (Int32.ofNat ek))] 6)) t := fun t k => pre9 t (by
    show Steps p.tables e below (T8.setTop (mkF m 18 #[.val (.ref ax), .val (.int (Int32.ofNat ek)), .val (.int (Int32.ofNat (bo.getD ek 0))), .val (.int (Int32.ofNat (lo.getD ek 0))), .unset, .unset] [(.ref b4)])) _
    refine XS.iloadN X8.here hx rfl (hb hby d7_18) rfl ?_
    refine gIald X8 hx hZ e8 R0 4 rfl (j := (Int32.ofNat (bo.getD ek 0))) (v := (.int (Int32.ofNat (sta.getD (bo.getD ek 0) 0)))) (n_nn (q5)) (nl_at (q4) (q5)) (g := (mkF m 19 #[.val (.ref ax), .val (.int (Int32.ofNat ek)), .val (.int (Int32.ofNat (bo.getD ek 0))), .val (.int (Int32.ofNat (lo.getD ek 0))), .unset, .unset] [(.int (Int32.ofNat (bo.getD ek 0))), (.ref b4)])) rfl rfl (hb hby d7_19) _ ?_
    refine XS.aloadN X8.here hx rfl (hb hby d7_20) rfl rfl ?_
    exact k)
  obtain ⟨T11, X11, e11, st11⟩ := gGet X8 hx hZ hown (host := "") (Or.inl (hw _ (List.mem_of_getElem? (i := 41) rfl))) e8 R0 0 5 rfl rfl (g := (mkF m 21 #[.val (.ref ax), .val (.int (Int32.ofNat ek)), .val (.int (Int32.ofNat (bo.getD ek 0))), .val (.int (Int32.ofNat (lo.getD ek 0))), .unset, .unset] [(.ref ax), (.int (Int32.ofNat (sta.getD (bo.getD ek 0) 0)))])) rfl rfl (hb hby d7_21)
  have pre12 : ∀ t, Steps p.tables e below (T11.setTop (mkF m 24 #[.val (.ref ax), .val (.int (Int32.ofNat ek)), .val (.int (Int32.ofNat (bo.getD ek 0))), .val (.int (Int32.ofNat (lo.getD ek 0))), .unset, .unset] [(.ref b6), (.int (Int32.ofNat (sta.getD (bo.getD ek 0) 0)))])) t → Steps p.tables e below (s₁.setTop (entryFrame m #[(.ref ax), (.int (Int32.ofNat ek))] 6)) t := fun t k => pre10 t (st11 t k)
  have pre13 : ∀ t, Steps p.tables e below (T11.setTop (mkF m 30 #[.val (.ref ax), .val (.int (Int32.ofNat ek)), .val (.int (Int32.ofNat (bo.getD ek 0))), .val (.int (Int32.ofNat (lo.getD ek 0))), .val (.int (Int32.ofNat ((sta.getD (bo.getD ek 0) 0) + (mk.getD (bo.getD ek 0) 0)))), .unset] [(.ref ax)])) t → Steps p.tables e below (s₁.setTop (entryFrame m #[(.ref ax), (.int (Int32.ofNat ek))] 6)) t := fun t k => pre12 t (by
    show Steps p.tables e below (T11.setTop (mkF m 24 #[.val (.ref ax), .val (.int (Int32.ofNat ek)), .val (.int (Int32.ofNat (bo.getD ek 0))), .val (.int (Int32.ofNat (lo.getD ek 0))), .unset, .unset] [(.ref b6), (.int (Int32.ofNat (sta.getD (bo.getD ek 0) 0)))])) _
    refine XS.iloadN X11.here hx rfl (hb hby d7_24) rfl ?_
    refine gIald X11 hx hZ e11 R0 5 rfl (j := (Int32.ofNat (bo.getD ek 0))) (v := (.int (Int32.ofNat (mk.getD (bo.getD ek 0) 0)))) (n_nn (q5)) (nl_at (q6) (q5)) (g := (mkF m 25 #[.val (.ref ax), .val (.int (Int32.ofNat ek)), .val (.int (Int32.ofNat (bo.getD ek 0))), .val (.int (Int32.ofNat (lo.getD ek 0))), .unset, .unset] [(.int (Int32.ofNat (bo.getD ek 0))), (.ref b6), (.int (Int32.ofNat (sta.getD (bo.getD ek 0) 0)))])) rfl rfl (hb hby d7_25) _ ?_
    refine XS.iadd X11.here hx rfl (hb hby d7_26) rfl ?_
    change Steps p.tables e below (T11.setTop (mkF m 27 #[.val (.ref ax), .val (.int (Int32.ofNat ek)), .val (.int (Int32.ofNat (bo.getD ek 0))), .val (.int (Int32.ofNat (lo.getD ek 0))), .unset, .unset] [(.int ((Int32.ofNat (sta.getD (bo.getD ek 0) 0)) + (Int32.ofNat (mk.getD (bo.getD ek 0) 0))))])) _
    rw [n_add]
    show Steps p.tables e below (T11.setTop (mkF m 27 #[.val (.ref ax), .val (.int (Int32.ofNat ek)), .val (.int (Int32.ofNat (bo.getD ek 0))), .val (.int (Int32.ofNat (lo.getD ek 0))), .unset, .unset] [(.int (Int32.ofNat ((sta.getD (bo.getD ek 0) 0) + (mk.getD (bo.getD ek 0) 0))))])) _
    refine XS.istore X11.here hx rfl (hb hby d7_27) rfl (l' := #[.val (.ref ax), .val (.int (Int32.ofNat ek)), .val (.int (Int32.ofNat (bo.getD ek 0))), .val (.int (Int32.ofNat (lo.getD ek 0))), .val (.int (Int32.ofNat ((sta.getD (bo.getD ek 0) 0) + (mk.getD (bo.getD ek 0) 0)))), .unset]) rfl ?_
    refine XS.aloadN X11.here hx rfl (hb hby d7_29) rfl rfl ?_
    exact k)
  obtain ⟨T14, X14, e14, st14⟩ := gGet X11 hx hZ hown (host := "") (Or.inl (hw _ (List.mem_of_getElem? (i := 22) rfl))) e11 R0 0 0 rfl rfl (g := (mkF m 30 #[.val (.ref ax), .val (.int (Int32.ofNat ek)), .val (.int (Int32.ofNat (bo.getD ek 0))), .val (.int (Int32.ofNat (lo.getD ek 0))), .val (.int (Int32.ofNat ((sta.getD (bo.getD ek 0) 0) + (mk.getD (bo.getD ek 0) 0)))), .unset] [(.ref ax)])) rfl rfl (hb hby d7_30)
  have pre15 : ∀ t, Steps p.tables e below (T14.setTop (mkF m 33 #[.val (.ref ax), .val (.int (Int32.ofNat ek)), .val (.int (Int32.ofNat (bo.getD ek 0))), .val (.int (Int32.ofNat (lo.getD ek 0))), .val (.int (Int32.ofNat ((sta.getD (bo.getD ek 0) 0) + (mk.getD (bo.getD ek 0) 0)))), .unset] [(.ref b1)])) t → Steps p.tables e below (s₁.setTop (entryFrame m #[(.ref ax), (.int (Int32.ofNat ek))] 6)) t := fun t k => pre13 t (st14 t k)
  have pre16 : ∀ t, Steps p.tables e below (T14.setTop (mkF m 39 #[.val (.ref ax), .val (.int (Int32.ofNat ek)), .val (.int (Int32.ofNat (bo.getD ek 0))), .val (.int (Int32.ofNat (lo.getD ek 0))), .val (.int (Int32.ofNat ((sta.getD (bo.getD ek 0) 0) + (mk.getD (bo.getD ek 0) 0)))), .val (.int (Int32.ofNat (el.getD ((sta.getD (bo.getD ek 0) 0) + (mk.getD (bo.getD ek 0) 0)) 0)))] [(.ref ax)])) t → Steps p.tables e below (s₁.setTop (entryFrame m #[(.ref ax), (.int (Int32.ofNat ek))] 6)) t := fun t k => pre15 t (by
    show Steps p.tables e below (T14.setTop (mkF m 33 #[.val (.ref ax), .val (.int (Int32.ofNat ek)), .val (.int (Int32.ofNat (bo.getD ek 0))), .val (.int (Int32.ofNat (lo.getD ek 0))), .val (.int (Int32.ofNat ((sta.getD (bo.getD ek 0) 0) + (mk.getD (bo.getD ek 0) 0)))), .unset] [(.ref b1)])) _
    refine XS.iload X14.here hx rfl (hb hby d7_33) rfl ?_
    refine gIald X14 hx hZ e14 R0 1 rfl (j := (Int32.ofNat ((sta.getD (bo.getD ek 0) 0) + (mk.getD (bo.getD ek 0) 0)))) (v := (.int (Int32.ofNat (el.getD ((sta.getD (bo.getD ek 0) 0) + (mk.getD (bo.getD ek 0) 0)) 0)))) (n_nn (q8)) (nl_at (q7) (q8)) (g := (mkF m 35 #[.val (.ref ax), .val (.int (Int32.ofNat ek)), .val (.int (Int32.ofNat (bo.getD ek 0))), .val (.int (Int32.ofNat (lo.getD ek 0))), .val (.int (Int32.ofNat ((sta.getD (bo.getD ek 0) 0) + (mk.getD (bo.getD ek 0) 0)))), .unset] [(.int (Int32.ofNat ((sta.getD (bo.getD ek 0) 0) + (mk.getD (bo.getD ek 0) 0)))), (.ref b1)])) rfl rfl (hb hby d7_35) _ ?_
    refine XS.istore X14.here hx rfl (hb hby d7_36) rfl (l' := #[.val (.ref ax), .val (.int (Int32.ofNat ek)), .val (.int (Int32.ofNat (bo.getD ek 0))), .val (.int (Int32.ofNat (lo.getD ek 0))), .val (.int (Int32.ofNat ((sta.getD (bo.getD ek 0) 0) + (mk.getD (bo.getD ek 0) 0)))), .val (.int (Int32.ofNat (el.getD ((sta.getD (bo.getD ek 0) 0) + (mk.getD (bo.getD ek 0) 0)) 0)))]) rfl ?_
    refine XS.aloadN X14.here hx rfl (hb hby d7_38) rfl rfl ?_
    exact k)
  obtain ⟨T17, X17, e17, st17⟩ := gGet X14 hx hZ hown (host := "") (Or.inl (hw _ (List.mem_of_getElem? (i := 22) rfl))) e14 R0 0 0 rfl rfl (g := (mkF m 39 #[.val (.ref ax), .val (.int (Int32.ofNat ek)), .val (.int (Int32.ofNat (bo.getD ek 0))), .val (.int (Int32.ofNat (lo.getD ek 0))), .val (.int (Int32.ofNat ((sta.getD (bo.getD ek 0) 0) + (mk.getD (bo.getD ek 0) 0)))), .val (.int (Int32.ofNat (el.getD ((sta.getD (bo.getD ek 0) 0) + (mk.getD (bo.getD ek 0) 0)) 0)))] [(.ref ax)])) rfl rfl (hb hby d7_39)
  have pre18 : ∀ t, Steps p.tables e below (T17.setTop (mkF m 42 #[.val (.ref ax), .val (.int (Int32.ofNat ek)), .val (.int (Int32.ofNat (bo.getD ek 0))), .val (.int (Int32.ofNat (lo.getD ek 0))), .val (.int (Int32.ofNat ((sta.getD (bo.getD ek 0) 0) + (mk.getD (bo.getD ek 0) 0)))), .val (.int (Int32.ofNat (el.getD ((sta.getD (bo.getD ek 0) 0) + (mk.getD (bo.getD ek 0) 0)) 0)))] [(.ref b1)])) t → Steps p.tables e below (s₁.setTop (entryFrame m #[(.ref ax), (.int (Int32.ofNat ek))] 6)) t := fun t k => pre16 t (st17 t k)
  have pre19 : ∀ t, Steps p.tables e below (T17.setTop (mkF m 45 #[.val (.ref ax), .val (.int (Int32.ofNat ek)), .val (.int (Int32.ofNat (bo.getD ek 0))), .val (.int (Int32.ofNat (lo.getD ek 0))), .val (.int (Int32.ofNat ((sta.getD (bo.getD ek 0) 0) + (mk.getD (bo.getD ek 0) 0)))), .val (.int (Int32.ofNat (el.getD ((sta.getD (bo.getD ek 0) 0) + (mk.getD (bo.getD ek 0) 0)) 0)))] [(.int (Int32.ofNat ek)), (.int (Int32.ofNat ((sta.getD (bo.getD ek 0) 0) + (mk.getD (bo.getD ek 0) 0)))), (.ref b1)])) t → Steps p.tables e below (s₁.setTop (entryFrame m #[(.ref ax), (.int (Int32.ofNat ek))] 6)) t := fun t k => pre18 t (by
    show Steps p.tables e below (T17.setTop (mkF m 42 #[.val (.ref ax), .val (.int (Int32.ofNat ek)), .val (.int (Int32.ofNat (bo.getD ek 0))), .val (.int (Int32.ofNat (lo.getD ek 0))), .val (.int (Int32.ofNat ((sta.getD (bo.getD ek 0) 0) + (mk.getD (bo.getD ek 0) 0)))), .val (.int (Int32.ofNat (el.getD ((sta.getD (bo.getD ek 0) 0) + (mk.getD (bo.getD ek 0) 0)) 0)))] [(.ref b1)])) _
    refine XS.iload X17.here hx rfl (hb hby d7_42) rfl ?_
    refine XS.iloadN X17.here hx rfl (hb hby d7_44) rfl ?_
    exact k)
  obtain ⟨T20, h20, ls20, X20, e20, N20, R20, st20⟩ := gIst X17 hx hZ e17 N0 R0 1 rfl (j := (Int32.ofNat ((sta.getD (bo.getD ek 0) 0) + (mk.getD (bo.getD ek 0) 0)))) (n_nn (q8)) (((sta.getD (bo.getD ek 0) 0) + (mk.getD (bo.getD ek 0) 0))) (n_ix (q8)) (nl_lt (q7)) (g := (mkF m 45 #[.val (.ref ax), .val (.int (Int32.ofNat ek)), .val (.int (Int32.ofNat (bo.getD ek 0))), .val (.int (Int32.ofNat (lo.getD ek 0))), .val (.int (Int32.ofNat ((sta.getD (bo.getD ek 0) 0) + (mk.getD (bo.getD ek 0) 0)))), .val (.int (Int32.ofNat (el.getD ((sta.getD (bo.getD ek 0) 0) + (mk.getD (bo.getD ek 0) 0)) 0)))] [(.int (Int32.ofNat ek)), (.int (Int32.ofNat ((sta.getD (bo.getD ek 0) 0) + (mk.getD (bo.getD ek 0) 0)))), (.ref b1)])) rfl rfl (hb hby d7_45)
  replace R20 : Rep Z n0 h20 ((ax, Obj "com/example/witgen/witgen/regex/Partition" [("elements", "[I", (.ref b1)), ("location", "[I", (.ref b2)), ("blockOf", "[I", (.ref b3)), ("start", "[I", (.ref b4)), ("end", "[I", (.ref b5)), ("marked", "[I", (.ref b6)), ("touched", "[I", (.ref b7)), ("blocks", "I", (.int (Int32.ofNat cnt))), ("touchedCount", "I", (.int (Int32.ofNat tc)))]) :: (b1, Ar .int (nl (el.set ((sta.getD (bo.getD ek 0) 0) + (mk.getD (bo.getD ek 0) 0)) ek))) :: (b2, Ar .int (nl lo)) :: (b3, Ar .int (nl bo)) :: (b4, Ar .int (nl sta)) :: (b6, Ar .int (nl mk)) :: (b7, Ar .int (nl to)) :: Rst) := by rw [← nl_set el ((sta.getD (bo.getD ek 0) 0) + (mk.getD (bo.getD ek 0) 0)) ek]; exact R20
  have pre21 : ∀ t, Steps p.tables e below (T20.setTop (mkF m 46 #[.val (.ref ax), .val (.int (Int32.ofNat ek)), .val (.int (Int32.ofNat (bo.getD ek 0))), .val (.int (Int32.ofNat (lo.getD ek 0))), .val (.int (Int32.ofNat ((sta.getD (bo.getD ek 0) 0) + (mk.getD (bo.getD ek 0) 0)))), .val (.int (Int32.ofNat (el.getD ((sta.getD (bo.getD ek 0) 0) + (mk.getD (bo.getD ek 0) 0)) 0)))] [])) t → Steps p.tables e below (s₁.setTop (entryFrame m #[(.ref ax), (.int (Int32.ofNat ek))] 6)) t := fun t k => pre19 t (st20 t k)
  have pre22 : ∀ t, Steps p.tables e below (T20.setTop (mkF m 47 #[.val (.ref ax), .val (.int (Int32.ofNat ek)), .val (.int (Int32.ofNat (bo.getD ek 0))), .val (.int (Int32.ofNat (lo.getD ek 0))), .val (.int (Int32.ofNat ((sta.getD (bo.getD ek 0) 0) + (mk.getD (bo.getD ek 0) 0)))), .val (.int (Int32.ofNat (el.getD ((sta.getD (bo.getD ek 0) 0) + (mk.getD (bo.getD ek 0) 0)) 0)))] [(.ref ax)])) t → Steps p.tables e below (s₁.setTop (entryFrame m #[(.ref ax), (.int (Int32.ofNat ek))] 6)) t := fun t k => pre21 t (by
    show Steps p.tables e below (T20.setTop (mkF m 46 #[.val (.ref ax), .val (.int (Int32.ofNat ek)), .val (.int (Int32.ofNat (bo.getD ek 0))), .val (.int (Int32.ofNat (lo.getD ek 0))), .val (.int (Int32.ofNat ((sta.getD (bo.getD ek 0) 0) + (mk.getD (bo.getD ek 0) 0)))), .val (.int (Int32.ofNat (el.getD ((sta.getD (bo.getD ek 0) 0) + (mk.getD (bo.getD ek 0) 0)) 0)))] [])) _
    refine XS.aloadN X20.here hx rfl (hb hby d7_46) rfl rfl ?_
    exact k)
  obtain ⟨T23, X23, e23, st23⟩ := gGet X20 hx hZ hown (host := "") (Or.inl (hw _ (List.mem_of_getElem? (i := 24) rfl))) e20 R20 0 1 rfl rfl (g := (mkF m 47 #[.val (.ref ax), .val (.int (Int32.ofNat ek)), .val (.int (Int32.ofNat (bo.getD ek 0))), .val (.int (Int32.ofNat (lo.getD ek 0))), .val (.int (Int32.ofNat ((sta.getD (bo.getD ek 0) 0) + (mk.getD (bo.getD ek 0) 0)))), .val (.int (Int32.ofNat (el.getD ((sta.getD (bo.getD ek 0) 0) + (mk.getD (bo.getD ek 0) 0)) 0)))] [(.ref ax)])) rfl rfl (hb hby d7_47)
  have pre24 : ∀ t, Steps p.tables e below (T23.setTop (mkF m 50 #[.val (.ref ax), .val (.int (Int32.ofNat ek)), .val (.int (Int32.ofNat (bo.getD ek 0))), .val (.int (Int32.ofNat (lo.getD ek 0))), .val (.int (Int32.ofNat ((sta.getD (bo.getD ek 0) 0) + (mk.getD (bo.getD ek 0) 0)))), .val (.int (Int32.ofNat (el.getD ((sta.getD (bo.getD ek 0) 0) + (mk.getD (bo.getD ek 0) 0)) 0)))] [(.ref b2)])) t → Steps p.tables e below (s₁.setTop (entryFrame m #[(.ref ax), (.int (Int32.ofNat ek))] 6)) t := fun t k => pre22 t (st23 t k)
  have pre25 : ∀ t, Steps p.tables e below (T23.setTop (mkF m 53 #[.val (.ref ax), .val (.int (Int32.ofNat ek)), .val (.int (Int32.ofNat (bo.getD ek 0))), .val (.int (Int32.ofNat (lo.getD ek 0))), .val (.int (Int32.ofNat ((sta.getD (bo.getD ek 0) 0) + (mk.getD (bo.getD ek 0) 0)))), .val (.int (Int32.ofNat (el.getD ((sta.getD (bo.getD ek 0) 0) + (mk.getD (bo.getD ek 0) 0)) 0)))] [(.int (Int32.ofNat ((sta.getD (bo.getD ek 0) 0) + (mk.getD (bo.getD ek 0) 0)))), (.int (Int32.ofNat ek)), (.ref b2)])) t → Steps p.tables e below (s₁.setTop (entryFrame m #[(.ref ax), (.int (Int32.ofNat ek))] 6)) t := fun t k => pre24 t (by
    show Steps p.tables e below (T23.setTop (mkF m 50 #[.val (.ref ax), .val (.int (Int32.ofNat ek)), .val (.int (Int32.ofNat (bo.getD ek 0))), .val (.int (Int32.ofNat (lo.getD ek 0))), .val (.int (Int32.ofNat ((sta.getD (bo.getD ek 0) 0) + (mk.getD (bo.getD ek 0) 0)))), .val (.int (Int32.ofNat (el.getD ((sta.getD (bo.getD ek 0) 0) + (mk.getD (bo.getD ek 0) 0)) 0)))] [(.ref b2)])) _
    refine XS.iloadN X23.here hx rfl (hb hby d7_50) rfl ?_
    refine XS.iload X23.here hx rfl (hb hby d7_51) rfl ?_
    exact k)
  obtain ⟨T26, h26, ls26, X26, e26, N26, R26, st26⟩ := gIst X23 hx hZ e23 N20 R20 2 rfl (j := (Int32.ofNat ek)) (n_nn (q2)) (ek) (n_ix (q2)) (nl_lt (q3)) (g := (mkF m 53 #[.val (.ref ax), .val (.int (Int32.ofNat ek)), .val (.int (Int32.ofNat (bo.getD ek 0))), .val (.int (Int32.ofNat (lo.getD ek 0))), .val (.int (Int32.ofNat ((sta.getD (bo.getD ek 0) 0) + (mk.getD (bo.getD ek 0) 0)))), .val (.int (Int32.ofNat (el.getD ((sta.getD (bo.getD ek 0) 0) + (mk.getD (bo.getD ek 0) 0)) 0)))] [(.int (Int32.ofNat ((sta.getD (bo.getD ek 0) 0) + (mk.getD (bo.getD ek 0) 0)))), (.int (Int32.ofNat ek)), (.ref b2)])) rfl rfl (hb hby d7_53)
  replace R26 : Rep Z n0 h26 ((ax, Obj "com/example/witgen/witgen/regex/Partition" [("elements", "[I", (.ref b1)), ("location", "[I", (.ref b2)), ("blockOf", "[I", (.ref b3)), ("start", "[I", (.ref b4)), ("end", "[I", (.ref b5)), ("marked", "[I", (.ref b6)), ("touched", "[I", (.ref b7)), ("blocks", "I", (.int (Int32.ofNat cnt))), ("touchedCount", "I", (.int (Int32.ofNat tc)))]) :: (b1, Ar .int (nl (el.set ((sta.getD (bo.getD ek 0) 0) + (mk.getD (bo.getD ek 0) 0)) ek))) :: (b2, Ar .int (nl (lo.set ek ((sta.getD (bo.getD ek 0) 0) + (mk.getD (bo.getD ek 0) 0))))) :: (b3, Ar .int (nl bo)) :: (b4, Ar .int (nl sta)) :: (b6, Ar .int (nl mk)) :: (b7, Ar .int (nl to)) :: Rst) := by rw [← nl_set lo ek ((sta.getD (bo.getD ek 0) 0) + (mk.getD (bo.getD ek 0) 0))]; exact R26
  have pre27 : ∀ t, Steps p.tables e below (T26.setTop (mkF m 54 #[.val (.ref ax), .val (.int (Int32.ofNat ek)), .val (.int (Int32.ofNat (bo.getD ek 0))), .val (.int (Int32.ofNat (lo.getD ek 0))), .val (.int (Int32.ofNat ((sta.getD (bo.getD ek 0) 0) + (mk.getD (bo.getD ek 0) 0)))), .val (.int (Int32.ofNat (el.getD ((sta.getD (bo.getD ek 0) 0) + (mk.getD (bo.getD ek 0) 0)) 0)))] [])) t → Steps p.tables e below (s₁.setTop (entryFrame m #[(.ref ax), (.int (Int32.ofNat ek))] 6)) t := fun t k => pre25 t (st26 t k)
  have pre28 : ∀ t, Steps p.tables e below (T26.setTop (mkF m 55 #[.val (.ref ax), .val (.int (Int32.ofNat ek)), .val (.int (Int32.ofNat (bo.getD ek 0))), .val (.int (Int32.ofNat (lo.getD ek 0))), .val (.int (Int32.ofNat ((sta.getD (bo.getD ek 0) 0) + (mk.getD (bo.getD ek 0) 0)))), .val (.int (Int32.ofNat (el.getD ((sta.getD (bo.getD ek 0) 0) + (mk.getD (bo.getD ek 0) 0)) 0)))] [(.ref ax)])) t → Steps p.tables e below (s₁.setTop (entryFrame m #[(.ref ax), (.int (Int32.ofNat ek))] 6)) t := fun t k => pre27 t (by
    show Steps p.tables e below (T26.setTop (mkF m 54 #[.val (.ref ax), .val (.int (Int32.ofNat ek)), .val (.int (Int32.ofNat (bo.getD ek 0))), .val (.int (Int32.ofNat (lo.getD ek 0))), .val (.int (Int32.ofNat ((sta.getD (bo.getD ek 0) 0) + (mk.getD (bo.getD ek 0) 0)))), .val (.int (Int32.ofNat (el.getD ((sta.getD (bo.getD ek 0) 0) + (mk.getD (bo.getD ek 0) 0)) 0)))] [])) _
    refine XS.aloadN X26.here hx rfl (hb hby d7_54) rfl rfl ?_
    exact k)
  obtain ⟨T29, X29, e29, st29⟩ := gGet X26 hx hZ hown (host := "") (Or.inl (hw _ (List.mem_of_getElem? (i := 22) rfl))) e26 R26 0 0 rfl rfl (g := (mkF m 55 #[.val (.ref ax), .val (.int (Int32.ofNat ek)), .val (.int (Int32.ofNat (bo.getD ek 0))), .val (.int (Int32.ofNat (lo.getD ek 0))), .val (.int (Int32.ofNat ((sta.getD (bo.getD ek 0) 0) + (mk.getD (bo.getD ek 0) 0)))), .val (.int (Int32.ofNat (el.getD ((sta.getD (bo.getD ek 0) 0) + (mk.getD (bo.getD ek 0) 0)) 0)))] [(.ref ax)])) rfl rfl (hb hby d7_55)
  have pre30 : ∀ t, Steps p.tables e below (T29.setTop (mkF m 58 #[.val (.ref ax), .val (.int (Int32.ofNat ek)), .val (.int (Int32.ofNat (bo.getD ek 0))), .val (.int (Int32.ofNat (lo.getD ek 0))), .val (.int (Int32.ofNat ((sta.getD (bo.getD ek 0) 0) + (mk.getD (bo.getD ek 0) 0)))), .val (.int (Int32.ofNat (el.getD ((sta.getD (bo.getD ek 0) 0) + (mk.getD (bo.getD ek 0) 0)) 0)))] [(.ref b1)])) t → Steps p.tables e below (s₁.setTop (entryFrame m #[(.ref ax), (.int (Int32.ofNat ek))] 6)) t := fun t k => pre28 t (st29 t k)
  have pre31 : ∀ t, Steps p.tables e below (T29.setTop (mkF m 61 #[.val (.ref ax), .val (.int (Int32.ofNat ek)), .val (.int (Int32.ofNat (bo.getD ek 0))), .val (.int (Int32.ofNat (lo.getD ek 0))), .val (.int (Int32.ofNat ((sta.getD (bo.getD ek 0) 0) + (mk.getD (bo.getD ek 0) 0)))), .val (.int (Int32.ofNat (el.getD ((sta.getD (bo.getD ek 0) 0) + (mk.getD (bo.getD ek 0) 0)) 0)))] [(.int (Int32.ofNat (el.getD ((sta.getD (bo.getD ek 0) 0) + (mk.getD (bo.getD ek 0) 0)) 0))), (.int (Int32.ofNat (lo.getD ek 0))), (.ref b1)])) t → Steps p.tables e below (s₁.setTop (entryFrame m #[(.ref ax), (.int (Int32.ofNat ek))] 6)) t := fun t k => pre30 t (by
    show Steps p.tables e below (T29.setTop (mkF m 58 #[.val (.ref ax), .val (.int (Int32.ofNat ek)), .val (.int (Int32.ofNat (bo.getD ek 0))), .val (.int (Int32.ofNat (lo.getD ek 0))), .val (.int (Int32.ofNat ((sta.getD (bo.getD ek 0) 0) + (mk.getD (bo.getD ek 0) 0)))), .val (.int (Int32.ofNat (el.getD ((sta.getD (bo.getD ek 0) 0) + (mk.getD (bo.getD ek 0) 0)) 0)))] [(.ref b1)])) _
    refine XS.iloadN X29.here hx rfl (hb hby d7_58) rfl ?_
    refine XS.iload X29.here hx rfl (hb hby d7_59) rfl ?_
    exact k)
  obtain ⟨T32, h32, ls32, X32, e32, N32, R32, st32⟩ := gIst X29 hx hZ e29 N26 R26 1 rfl (j := (Int32.ofNat (lo.getD ek 0))) (n_nn (q10)) ((lo.getD ek 0)) (n_ix (q10)) (nl_lt (by rw [List.length_set]; exact q9)) (g := (mkF m 61 #[.val (.ref ax), .val (.int (Int32.ofNat ek)), .val (.int (Int32.ofNat (bo.getD ek 0))), .val (.int (Int32.ofNat (lo.getD ek 0))), .val (.int (Int32.ofNat ((sta.getD (bo.getD ek 0) 0) + (mk.getD (bo.getD ek 0) 0)))), .val (.int (Int32.ofNat (el.getD ((sta.getD (bo.getD ek 0) 0) + (mk.getD (bo.getD ek 0) 0)) 0)))] [(.int (Int32.ofNat (el.getD ((sta.getD (bo.getD ek 0) 0) + (mk.getD (bo.getD ek 0) 0)) 0))), (.int (Int32.ofNat (lo.getD ek 0))), (.ref b1)])) rfl rfl (hb hby d7_61)
  replace R32 : Rep Z n0 h32 ((ax, Obj "com/example/witgen/witgen/regex/Partition" [("elements", "[I", (.ref b1)), ("location", "[I", (.ref b2)), ("blockOf", "[I", (.ref b3)), ("start", "[I", (.ref b4)), ("end", "[I", (.ref b5)), ("marked", "[I", (.ref b6)), ("touched", "[I", (.ref b7)), ("blocks", "I", (.int (Int32.ofNat cnt))), ("touchedCount", "I", (.int (Int32.ofNat tc)))]) :: (b1, Ar .int (nl ((el.set ((sta.getD (bo.getD ek 0) 0) + (mk.getD (bo.getD ek 0) 0)) ek).set (lo.getD ek 0) (el.getD ((sta.getD (bo.getD ek 0) 0) + (mk.getD (bo.getD ek 0) 0)) 0)))) :: (b2, Ar .int (nl (lo.set ek ((sta.getD (bo.getD ek 0) 0) + (mk.getD (bo.getD ek 0) 0))))) :: (b3, Ar .int (nl bo)) :: (b4, Ar .int (nl sta)) :: (b6, Ar .int (nl mk)) :: (b7, Ar .int (nl to)) :: Rst) := by rw [← nl_set (el.set ((sta.getD (bo.getD ek 0) 0) + (mk.getD (bo.getD ek 0) 0)) ek) (lo.getD ek 0) (el.getD ((sta.getD (bo.getD ek 0) 0) + (mk.getD (bo.getD ek 0) 0)) 0)]; exact R32
  have pre33 : ∀ t, Steps p.tables e below (T32.setTop (mkF m 62 #[.val (.ref ax), .val (.int (Int32.ofNat ek)), .val (.int (Int32.ofNat (bo.getD ek 0))), .val (.int (Int32.ofNat (lo.getD ek 0))), .val (.int (Int32.ofNat ((sta.getD (bo.getD ek 0) 0) + (mk.getD (bo.getD ek 0) 0)))), .val (.int (Int32.ofNat (el.getD ((sta.getD (bo.getD ek 0) 0) + (mk.getD (bo.getD ek 0) 0)) 0)))] [])) t → Steps p.tables e below (s₁.setTop (entryFrame m #[(.ref ax), (.int (Int32.ofNat ek))] 6)) t := fun t k => pre31 t (st32 t k)
  have pre34 : ∀ t, Steps p.tables e below (T32.setTop (mkF m 63 #[.val (.ref ax), .val (.int (Int32.ofNat ek)), .val (.int (Int32.ofNat (bo.getD ek 0))), .val (.int (Int32.ofNat (lo.getD ek 0))), .val (.int (Int32.ofNat ((sta.getD (bo.getD ek 0) 0) + (mk.getD (bo.getD ek 0) 0)))), .val (.int (Int32.ofNat (el.getD ((sta.getD (bo.getD ek 0) 0) + (mk.getD (bo.getD ek 0) 0)) 0)))] [(.ref ax)])) t → Steps p.tables e below (s₁.setTop (entryFrame m #[(.ref ax), (.int (Int32.ofNat ek))] 6)) t := fun t k => pre33 t (by
    show Steps p.tables e below (T32.setTop (mkF m 62 #[.val (.ref ax), .val (.int (Int32.ofNat ek)), .val (.int (Int32.ofNat (bo.getD ek 0))), .val (.int (Int32.ofNat (lo.getD ek 0))), .val (.int (Int32.ofNat ((sta.getD (bo.getD ek 0) 0) + (mk.getD (bo.getD ek 0) 0)))), .val (.int (Int32.ofNat (el.getD ((sta.getD (bo.getD ek 0) 0) + (mk.getD (bo.getD ek 0) 0)) 0)))] [])) _
    refine XS.aloadN X32.here hx rfl (hb hby d7_62) rfl rfl ?_
    exact k)
  obtain ⟨T35, X35, e35, st35⟩ := gGet X32 hx hZ hown (host := "") (Or.inl (hw _ (List.mem_of_getElem? (i := 24) rfl))) e32 R32 0 1 rfl rfl (g := (mkF m 63 #[.val (.ref ax), .val (.int (Int32.ofNat ek)), .val (.int (Int32.ofNat (bo.getD ek 0))), .val (.int (Int32.ofNat (lo.getD ek 0))), .val (.int (Int32.ofNat ((sta.getD (bo.getD ek 0) 0) + (mk.getD (bo.getD ek 0) 0)))), .val (.int (Int32.ofNat (el.getD ((sta.getD (bo.getD ek 0) 0) + (mk.getD (bo.getD ek 0) 0)) 0)))] [(.ref ax)])) rfl rfl (hb hby d7_63)
  have pre36 : ∀ t, Steps p.tables e below (T35.setTop (mkF m 66 #[.val (.ref ax), .val (.int (Int32.ofNat ek)), .val (.int (Int32.ofNat (bo.getD ek 0))), .val (.int (Int32.ofNat (lo.getD ek 0))), .val (.int (Int32.ofNat ((sta.getD (bo.getD ek 0) 0) + (mk.getD (bo.getD ek 0) 0)))), .val (.int (Int32.ofNat (el.getD ((sta.getD (bo.getD ek 0) 0) + (mk.getD (bo.getD ek 0) 0)) 0)))] [(.ref b2)])) t → Steps p.tables e below (s₁.setTop (entryFrame m #[(.ref ax), (.int (Int32.ofNat ek))] 6)) t := fun t k => pre34 t (st35 t k)
  have pre37 : ∀ t, Steps p.tables e below (T35.setTop (mkF m 69 #[.val (.ref ax), .val (.int (Int32.ofNat ek)), .val (.int (Int32.ofNat (bo.getD ek 0))), .val (.int (Int32.ofNat (lo.getD ek 0))), .val (.int (Int32.ofNat ((sta.getD (bo.getD ek 0) 0) + (mk.getD (bo.getD ek 0) 0)))), .val (.int (Int32.ofNat (el.getD ((sta.getD (bo.getD ek 0) 0) + (mk.getD (bo.getD ek 0) 0)) 0)))] [(.int (Int32.ofNat (lo.getD ek 0))), (.int (Int32.ofNat (el.getD ((sta.getD (bo.getD ek 0) 0) + (mk.getD (bo.getD ek 0) 0)) 0))), (.ref b2)])) t → Steps p.tables e below (s₁.setTop (entryFrame m #[(.ref ax), (.int (Int32.ofNat ek))] 6)) t := fun t k => pre36 t (by
    show Steps p.tables e below (T35.setTop (mkF m 66 #[.val (.ref ax), .val (.int (Int32.ofNat ek)), .val (.int (Int32.ofNat (bo.getD ek 0))), .val (.int (Int32.ofNat (lo.getD ek 0))), .val (.int (Int32.ofNat ((sta.getD (bo.getD ek 0) 0) + (mk.getD (bo.getD ek 0) 0)))), .val (.int (Int32.ofNat (el.getD ((sta.getD (bo.getD ek 0) 0) + (mk.getD (bo.getD ek 0) 0)) 0)))] [(.ref b2)])) _
    refine XS.iload X35.here hx rfl (hb hby d7_66) rfl ?_
    refine XS.iloadN X35.here hx rfl (hb hby d7_68) rfl ?_
    exact k)
  obtain ⟨T38, h38, ls38, X38, e38, N38, R38, st38⟩ := gIst X35 hx hZ e35 N32 R32 2 rfl (j := (Int32.ofNat (el.getD ((sta.getD (bo.getD ek 0) 0) + (mk.getD (bo.getD ek 0) 0)) 0))) (n_nn (q12)) ((el.getD ((sta.getD (bo.getD ek 0) 0) + (mk.getD (bo.getD ek 0) 0)) 0)) (n_ix (q12)) (nl_lt (by rw [List.length_set]; exact q11)) (g := (mkF m 69 #[.val (.ref ax), .val (.int (Int32.ofNat ek)), .val (.int (Int32.ofNat (bo.getD ek 0))), .val (.int (Int32.ofNat (lo.getD ek 0))), .val (.int (Int32.ofNat ((sta.getD (bo.getD ek 0) 0) + (mk.getD (bo.getD ek 0) 0)))), .val (.int (Int32.ofNat (el.getD ((sta.getD (bo.getD ek 0) 0) + (mk.getD (bo.getD ek 0) 0)) 0)))] [(.int (Int32.ofNat (lo.getD ek 0))), (.int (Int32.ofNat (el.getD ((sta.getD (bo.getD ek 0) 0) + (mk.getD (bo.getD ek 0) 0)) 0))), (.ref b2)])) rfl rfl (hb hby d7_69)
  replace R38 : Rep Z n0 h38 ((ax, Obj "com/example/witgen/witgen/regex/Partition" [("elements", "[I", (.ref b1)), ("location", "[I", (.ref b2)), ("blockOf", "[I", (.ref b3)), ("start", "[I", (.ref b4)), ("end", "[I", (.ref b5)), ("marked", "[I", (.ref b6)), ("touched", "[I", (.ref b7)), ("blocks", "I", (.int (Int32.ofNat cnt))), ("touchedCount", "I", (.int (Int32.ofNat tc)))]) :: (b1, Ar .int (nl ((el.set ((sta.getD (bo.getD ek 0) 0) + (mk.getD (bo.getD ek 0) 0)) ek).set (lo.getD ek 0) (el.getD ((sta.getD (bo.getD ek 0) 0) + (mk.getD (bo.getD ek 0) 0)) 0)))) :: (b2, Ar .int (nl ((lo.set ek ((sta.getD (bo.getD ek 0) 0) + (mk.getD (bo.getD ek 0) 0))).set (el.getD ((sta.getD (bo.getD ek 0) 0) + (mk.getD (bo.getD ek 0) 0)) 0) (lo.getD ek 0)))) :: (b3, Ar .int (nl bo)) :: (b4, Ar .int (nl sta)) :: (b6, Ar .int (nl mk)) :: (b7, Ar .int (nl to)) :: Rst) := by rw [← nl_set (lo.set ek ((sta.getD (bo.getD ek 0) 0) + (mk.getD (bo.getD ek 0) 0))) (el.getD ((sta.getD (bo.getD ek 0) 0) + (mk.getD (bo.getD ek 0) 0)) 0) (lo.getD ek 0)]; exact R38
  have pre39 : ∀ t, Steps p.tables e below (T38.setTop (mkF m 70 #[.val (.ref ax), .val (.int (Int32.ofNat ek)), .val (.int (Int32.ofNat (bo.getD ek 0))), .val (.int (Int32.ofNat (lo.getD ek 0))), .val (.int (Int32.ofNat ((sta.getD (bo.getD ek 0) 0) + (mk.getD (bo.getD ek 0) 0)))), .val (.int (Int32.ofNat (el.getD ((sta.getD (bo.getD ek 0) 0) + (mk.getD (bo.getD ek 0) 0)) 0)))] [])) t → Steps p.tables e below (s₁.setTop (entryFrame m #[(.ref ax), (.int (Int32.ofNat ek))] 6)) t := fun t k => pre37 t (st38 t k)
  have pre40 : ∀ t, Steps p.tables e below (T38.setTop (mkF m 71 #[.val (.ref ax), .val (.int (Int32.ofNat ek)), .val (.int (Int32.ofNat (bo.getD ek 0))), .val (.int (Int32.ofNat (lo.getD ek 0))), .val (.int (Int32.ofNat ((sta.getD (bo.getD ek 0) 0) + (mk.getD (bo.getD ek 0) 0)))), .val (.int (Int32.ofNat (el.getD ((sta.getD (bo.getD ek 0) 0) + (mk.getD (bo.getD ek 0) 0)) 0)))] [(.ref ax)])) t → Steps p.tables e below (s₁.setTop (entryFrame m #[(.ref ax), (.int (Int32.ofNat ek))] 6)) t := fun t k => pre39 t (by
    show Steps p.tables e below (T38.setTop (mkF m 70 #[.val (.ref ax), .val (.int (Int32.ofNat ek)), .val (.int (Int32.ofNat (bo.getD ek 0))), .val (.int (Int32.ofNat (lo.getD ek 0))), .val (.int (Int32.ofNat ((sta.getD (bo.getD ek 0) 0) + (mk.getD (bo.getD ek 0) 0)))), .val (.int (Int32.ofNat (el.getD ((sta.getD (bo.getD ek 0) 0) + (mk.getD (bo.getD ek 0) 0)) 0)))] [])) _
    refine XS.aloadN X38.here hx rfl (hb hby d7_70) rfl rfl ?_
    exact k)
  obtain ⟨T41, X41, e41, st41⟩ := gGet X38 hx hZ hown (host := "") (Or.inl (hw _ (List.mem_of_getElem? (i := 41) rfl))) e38 R38 0 5 rfl rfl (g := (mkF m 71 #[.val (.ref ax), .val (.int (Int32.ofNat ek)), .val (.int (Int32.ofNat (bo.getD ek 0))), .val (.int (Int32.ofNat (lo.getD ek 0))), .val (.int (Int32.ofNat ((sta.getD (bo.getD ek 0) 0) + (mk.getD (bo.getD ek 0) 0)))), .val (.int (Int32.ofNat (el.getD ((sta.getD (bo.getD ek 0) 0) + (mk.getD (bo.getD ek 0) 0)) 0)))] [(.ref ax)])) rfl rfl (hb hby d7_71)
  have pre42 : ∀ t, Steps p.tables e below (T41.setTop (mkF m 74 #[.val (.ref ax), .val (.int (Int32.ofNat ek)), .val (.int (Int32.ofNat (bo.getD ek 0))), .val (.int (Int32.ofNat (lo.getD ek 0))), .val (.int (Int32.ofNat ((sta.getD (bo.getD ek 0) 0) + (mk.getD (bo.getD ek 0) 0)))), .val (.int (Int32.ofNat (el.getD ((sta.getD (bo.getD ek 0) 0) + (mk.getD (bo.getD ek 0) 0)) 0)))] [(.ref b6)])) t → Steps p.tables e below (s₁.setTop (entryFrame m #[(.ref ax), (.int (Int32.ofNat ek))] 6)) t := fun t k => pre40 t (st41 t k)
  have pre43 : ∀ t, Steps p.tables e below (T41.setTop (mkF m 80 #[.val (.ref ax), .val (.int (Int32.ofNat ek)), .val (.int (Int32.ofNat (bo.getD ek 0))), .val (.int (Int32.ofNat (lo.getD ek 0))), .val (.int (Int32.ofNat ((sta.getD (bo.getD ek 0) 0) + (mk.getD (bo.getD ek 0) 0)))), .val (.int (Int32.ofNat (el.getD ((sta.getD (bo.getD ek 0) 0) + (mk.getD (bo.getD ek 0) 0)) 0)))] [(.int (Int32.ofNat ((mk.getD (bo.getD ek 0) 0) + 1))), (.int (Int32.ofNat (bo.getD ek 0))), (.ref b6), (.int (Int32.ofNat (mk.getD (bo.getD ek 0) 0)))])) t → Steps p.tables e below (s₁.setTop (entryFrame m #[(.ref ax), (.int (Int32.ofNat ek))] 6)) t := fun t k => pre42 t (by
    show Steps p.tables e below (T41.setTop (mkF m 74 #[.val (.ref ax), .val (.int (Int32.ofNat ek)), .val (.int (Int32.ofNat (bo.getD ek 0))), .val (.int (Int32.ofNat (lo.getD ek 0))), .val (.int (Int32.ofNat ((sta.getD (bo.getD ek 0) 0) + (mk.getD (bo.getD ek 0) 0)))), .val (.int (Int32.ofNat (el.getD ((sta.getD (bo.getD ek 0) 0) + (mk.getD (bo.getD ek 0) 0)) 0)))] [(.ref b6)])) _
    refine XS.iloadN X41.here hx rfl (hb hby d7_74) rfl ?_
    refine xDup2 X41.here hx rfl (hb hby d7_75) rfl rfl rfl ?_
    refine gIald X41 hx hZ e41 R38 5 rfl (j := (Int32.ofNat (bo.getD ek 0))) (v := (.int (Int32.ofNat (mk.getD (bo.getD ek 0) 0)))) (n_nn (q5)) (nl_at (q6) (q5)) (g := (mkF m 76 #[.val (.ref ax), .val (.int (Int32.ofNat ek)), .val (.int (Int32.ofNat (bo.getD ek 0))), .val (.int (Int32.ofNat (lo.getD ek 0))), .val (.int (Int32.ofNat ((sta.getD (bo.getD ek 0) 0) + (mk.getD (bo.getD ek 0) 0)))), .val (.int (Int32.ofNat (el.getD ((sta.getD (bo.getD ek 0) 0) + (mk.getD (bo.getD ek 0) 0)) 0)))] [(.int (Int32.ofNat (bo.getD ek 0))), (.ref b6), (.int (Int32.ofNat (bo.getD ek 0))), (.ref b6)])) rfl rfl (hb hby d7_76) _ ?_
    refine xDupX2 X41.here hx rfl (hb hby d7_77) rfl rfl rfl rfl ?_
    refine XS.iconst X41.here hx rfl (hb hby d7_78) ?_
    refine XS.iadd X41.here hx rfl (hb hby d7_79) rfl ?_
    change Steps p.tables e below (T41.setTop (mkF m 80 #[.val (.ref ax), .val (.int (Int32.ofNat ek)), .val (.int (Int32.ofNat (bo.getD ek 0))), .val (.int (Int32.ofNat (lo.getD ek 0))), .val (.int (Int32.ofNat ((sta.getD (bo.getD ek 0) 0) + (mk.getD (bo.getD ek 0) 0)))), .val (.int (Int32.ofNat (el.getD ((sta.getD (bo.getD ek 0) 0) + (mk.getD (bo.getD ek 0) 0)) 0)))] [(.int ((Int32.ofNat (mk.getD (bo.getD ek 0) 0)) + (1 : Int32))), (.int (Int32.ofNat (bo.getD ek 0))), (.ref b6), (.int (Int32.ofNat (mk.getD (bo.getD ek 0) 0)))])) _
    rw [n_one]
    exact k)
  obtain ⟨T44, h44, ls44, X44, e44, N44, R44, st44⟩ := gIst X41 hx hZ e41 N38 R38 5 rfl (j := (Int32.ofNat (bo.getD ek 0))) (n_nn (q5)) ((bo.getD ek 0)) (n_ix (q5)) (nl_lt (q6)) (g := (mkF m 80 #[.val (.ref ax), .val (.int (Int32.ofNat ek)), .val (.int (Int32.ofNat (bo.getD ek 0))), .val (.int (Int32.ofNat (lo.getD ek 0))), .val (.int (Int32.ofNat ((sta.getD (bo.getD ek 0) 0) + (mk.getD (bo.getD ek 0) 0)))), .val (.int (Int32.ofNat (el.getD ((sta.getD (bo.getD ek 0) 0) + (mk.getD (bo.getD ek 0) 0)) 0)))] [(.int (Int32.ofNat ((mk.getD (bo.getD ek 0) 0) + 1))), (.int (Int32.ofNat (bo.getD ek 0))), (.ref b6), (.int (Int32.ofNat (mk.getD (bo.getD ek 0) 0)))])) rfl rfl (hb hby d7_80)
  replace R44 : Rep Z n0 h44 ((ax, Obj "com/example/witgen/witgen/regex/Partition" [("elements", "[I", (.ref b1)), ("location", "[I", (.ref b2)), ("blockOf", "[I", (.ref b3)), ("start", "[I", (.ref b4)), ("end", "[I", (.ref b5)), ("marked", "[I", (.ref b6)), ("touched", "[I", (.ref b7)), ("blocks", "I", (.int (Int32.ofNat cnt))), ("touchedCount", "I", (.int (Int32.ofNat tc)))]) :: (b1, Ar .int (nl ((el.set ((sta.getD (bo.getD ek 0) 0) + (mk.getD (bo.getD ek 0) 0)) ek).set (lo.getD ek 0) (el.getD ((sta.getD (bo.getD ek 0) 0) + (mk.getD (bo.getD ek 0) 0)) 0)))) :: (b2, Ar .int (nl ((lo.set ek ((sta.getD (bo.getD ek 0) 0) + (mk.getD (bo.getD ek 0) 0))).set (el.getD ((sta.getD (bo.getD ek 0) 0) + (mk.getD (bo.getD ek 0) 0)) 0) (lo.getD ek 0)))) :: (b3, Ar .int (nl bo)) :: (b4, Ar .int (nl sta)) :: (b6, Ar .int (nl (mk.set (bo.getD ek 0) ((mk.getD (bo.getD ek 0) 0) + 1)))) :: (b7, Ar .int (nl to)) :: Rst) := by rw [← nl_set mk (bo.getD ek 0) ((mk.getD (bo.getD ek 0) 0) + 1)]; exact R44
  have pre45 : ∀ t, Steps p.tables e below (T44.setTop (mkF m 81 #[.val (.ref ax), .val (.int (Int32.ofNat ek)), .val (.int (Int32.ofNat (bo.getD ek 0))), .val (.int (Int32.ofNat (lo.getD ek 0))), .val (.int (Int32.ofNat ((sta.getD (bo.getD ek 0) 0) + (mk.getD (bo.getD ek 0) 0)))), .val (.int (Int32.ofNat (el.getD ((sta.getD (bo.getD ek 0) 0) + (mk.getD (bo.getD ek 0) 0)) 0)))] [(.int (Int32.ofNat (mk.getD (bo.getD ek 0) 0)))])) t → Steps p.tables e below (s₁.setTop (entryFrame m #[(.ref ax), (.int (Int32.ofNat ek))] 6)) t := fun t k => pre43 t (st44 t k)
  by_cases hb46 : (Int32.ofNat (mk.getD (bo.getD ek 0) 0)) = (0 : Int32)
  · have pre47 : ∀ t, Steps p.tables e below (T44.setTop (mkF m 84 #[.val (.ref ax), .val (.int (Int32.ofNat ek)), .val (.int (Int32.ofNat (bo.getD ek 0))), .val (.int (Int32.ofNat (lo.getD ek 0))), .val (.int (Int32.ofNat ((sta.getD (bo.getD ek 0) 0) + (mk.getD (bo.getD ek 0) 0)))), .val (.int (Int32.ofNat (el.getD ((sta.getD (bo.getD ek 0) 0) + (mk.getD (bo.getD ek 0) 0)) 0)))] [])) t → Steps p.tables e below (s₁.setTop (entryFrame m #[(.ref ax), (.int (Int32.ofNat ek))] 6)) t := fun t k => pre45 t (by show Steps p.tables e below (T44.setTop (mkF m 81 #[.val (.ref ax), .val (.int (Int32.ofNat ek)), .val (.int (Int32.ofNat (bo.getD ek 0))), .val (.int (Int32.ofNat (lo.getD ek 0))), .val (.int (Int32.ofNat ((sta.getD (bo.getD ek 0) 0) + (mk.getD (bo.getD ek 0) 0)))), .val (.int (Int32.ofNat (el.getD ((sta.getD (bo.getD ek 0) 0) + (mk.getD (bo.getD ek 0) 0)) 0)))] [(.int (Int32.ofNat (mk.getD (bo.getD ek 0) 0)))])) _; refine XS.ifNo X44.here hx rfl (hb hby d7_81) rfl ((if0 _ _).trans (teq hb46).2) ?_; exact k)
    have pre48 : ∀ t, Steps p.tables e below (T44.setTop (mkF m 85 #[.val (.ref ax), .val (.int (Int32.ofNat ek)), .val (.int (Int32.ofNat (bo.getD ek 0))), .val (.int (Int32.ofNat (lo.getD ek 0))), .val (.int (Int32.ofNat ((sta.getD (bo.getD ek 0) 0) + (mk.getD (bo.getD ek 0) 0)))), .val (.int (Int32.ofNat (el.getD ((sta.getD (bo.getD ek 0) 0) + (mk.getD (bo.getD ek 0) 0)) 0)))] [(.ref ax)])) t → Steps p.tables e below (s₁.setTop (entryFrame m #[(.ref ax), (.int (Int32.ofNat ek))] 6)) t := fun t k => pre47 t (by
      show Steps p.tables e below (T44.setTop (mkF m 84 #[.val (.ref ax), .val (.int (Int32.ofNat ek)), .val (.int (Int32.ofNat (bo.getD ek 0))), .val (.int (Int32.ofNat (lo.getD ek 0))), .val (.int (Int32.ofNat ((sta.getD (bo.getD ek 0) 0) + (mk.getD (bo.getD ek 0) 0)))), .val (.int (Int32.ofNat (el.getD ((sta.getD (bo.getD ek 0) 0) + (mk.getD (bo.getD ek 0) 0)) 0)))] [])) _
      refine XS.aloadN X44.here hx rfl (hb hby d7_84) rfl rfl ?_
      exact k)
    obtain ⟨T49, X49, e49, st49⟩ := gGet X44 hx hZ hown (host := "") (Or.inl (hw _ (List.mem_of_getElem? (i := 43) rfl))) e44 R44 0 6 rfl rfl (g := (mkF m 85 #[.val (.ref ax), .val (.int (Int32.ofNat ek)), .val (.int (Int32.ofNat (bo.getD ek 0))), .val (.int (Int32.ofNat (lo.getD ek 0))), .val (.int (Int32.ofNat ((sta.getD (bo.getD ek 0) 0) + (mk.getD (bo.getD ek 0) 0)))), .val (.int (Int32.ofNat (el.getD ((sta.getD (bo.getD ek 0) 0) + (mk.getD (bo.getD ek 0) 0)) 0)))] [(.ref ax)])) rfl rfl (hb hby d7_85)
    have pre50 : ∀ t, Steps p.tables e below (T49.setTop (mkF m 88 #[.val (.ref ax), .val (.int (Int32.ofNat ek)), .val (.int (Int32.ofNat (bo.getD ek 0))), .val (.int (Int32.ofNat (lo.getD ek 0))), .val (.int (Int32.ofNat ((sta.getD (bo.getD ek 0) 0) + (mk.getD (bo.getD ek 0) 0)))), .val (.int (Int32.ofNat (el.getD ((sta.getD (bo.getD ek 0) 0) + (mk.getD (bo.getD ek 0) 0)) 0)))] [(.ref b7)])) t → Steps p.tables e below (s₁.setTop (entryFrame m #[(.ref ax), (.int (Int32.ofNat ek))] 6)) t := fun t k => pre48 t (st49 t k)
    have pre51 : ∀ t, Steps p.tables e below (T49.setTop (mkF m 90 #[.val (.ref ax), .val (.int (Int32.ofNat ek)), .val (.int (Int32.ofNat (bo.getD ek 0))), .val (.int (Int32.ofNat (lo.getD ek 0))), .val (.int (Int32.ofNat ((sta.getD (bo.getD ek 0) 0) + (mk.getD (bo.getD ek 0) 0)))), .val (.int (Int32.ofNat (el.getD ((sta.getD (bo.getD ek 0) 0) + (mk.getD (bo.getD ek 0) 0)) 0)))] [(.ref ax), (.ref ax), (.ref b7)])) t → Steps p.tables e below (s₁.setTop (entryFrame m #[(.ref ax), (.int (Int32.ofNat ek))] 6)) t := fun t k => pre50 t (by
      show Steps p.tables e below (T49.setTop (mkF m 88 #[.val (.ref ax), .val (.int (Int32.ofNat ek)), .val (.int (Int32.ofNat (bo.getD ek 0))), .val (.int (Int32.ofNat (lo.getD ek 0))), .val (.int (Int32.ofNat ((sta.getD (bo.getD ek 0) 0) + (mk.getD (bo.getD ek 0) 0)))), .val (.int (Int32.ofNat (el.getD ((sta.getD (bo.getD ek 0) 0) + (mk.getD (bo.getD ek 0) 0)) 0)))] [(.ref b7)])) _
      refine XS.aloadN X49.here hx rfl (hb hby d7_88) rfl rfl ?_
      refine XS.dup X49.here hx rfl (hb hby d7_89) rfl rfl ?_
      exact k)
    obtain ⟨T52, X52, e52, st52⟩ := gGet X49 hx hZ hown (host := "") (Or.inl (hw _ (List.mem_of_getElem? (i := 63) rfl))) e49 R44 0 8 rfl rfl (g := (mkF m 90 #[.val (.ref ax), .val (.int (Int32.ofNat ek)), .val (.int (Int32.ofNat (bo.getD ek 0))), .val (.int (Int32.ofNat (lo.getD ek 0))), .val (.int (Int32.ofNat ((sta.getD (bo.getD ek 0) 0) + (mk.getD (bo.getD ek 0) 0)))), .val (.int (Int32.ofNat (el.getD ((sta.getD (bo.getD ek 0) 0) + (mk.getD (bo.getD ek 0) 0)) 0)))] [(.ref ax), (.ref ax), (.ref b7)])) rfl rfl (hb hby d7_90)
    have pre53 : ∀ t, Steps p.tables e below (T52.setTop (mkF m 93 #[.val (.ref ax), .val (.int (Int32.ofNat ek)), .val (.int (Int32.ofNat (bo.getD ek 0))), .val (.int (Int32.ofNat (lo.getD ek 0))), .val (.int (Int32.ofNat ((sta.getD (bo.getD ek 0) 0) + (mk.getD (bo.getD ek 0) 0)))), .val (.int (Int32.ofNat (el.getD ((sta.getD (bo.getD ek 0) 0) + (mk.getD (bo.getD ek 0) 0)) 0)))] [(.int (Int32.ofNat tc)), (.ref ax), (.ref b7)])) t → Steps p.tables e below (s₁.setTop (entryFrame m #[(.ref ax), (.int (Int32.ofNat ek))] 6)) t := fun t k => pre51 t (st52 t k)
    have pre54 : ∀ t, Steps p.tables e below (T52.setTop (mkF m 96 #[.val (.ref ax), .val (.int (Int32.ofNat ek)), .val (.int (Int32.ofNat (bo.getD ek 0))), .val (.int (Int32.ofNat (lo.getD ek 0))), .val (.int (Int32.ofNat ((sta.getD (bo.getD ek 0) 0) + (mk.getD (bo.getD ek 0) 0)))), .val (.int (Int32.ofNat (el.getD ((sta.getD (bo.getD ek 0) 0) + (mk.getD (bo.getD ek 0) 0)) 0)))] [(.int (Int32.ofNat (tc + 1))), (.ref ax), (.int (Int32.ofNat tc)), (.ref b7)])) t → Steps p.tables e below (s₁.setTop (entryFrame m #[(.ref ax), (.int (Int32.ofNat ek))] 6)) t := fun t k => pre53 t (by
      show Steps p.tables e below (T52.setTop (mkF m 93 #[.val (.ref ax), .val (.int (Int32.ofNat ek)), .val (.int (Int32.ofNat (bo.getD ek 0))), .val (.int (Int32.ofNat (lo.getD ek 0))), .val (.int (Int32.ofNat ((sta.getD (bo.getD ek 0) 0) + (mk.getD (bo.getD ek 0) 0)))), .val (.int (Int32.ofNat (el.getD ((sta.getD (bo.getD ek 0) 0) + (mk.getD (bo.getD ek 0) 0)) 0)))] [(.int (Int32.ofNat tc)), (.ref ax), (.ref b7)])) _
      refine XS.dupX1 X52.here hx rfl (hb hby d7_93) rfl rfl rfl ?_
      refine XS.iconst X52.here hx rfl (hb hby d7_94) ?_
      refine XS.iadd X52.here hx rfl (hb hby d7_95) rfl ?_
      change Steps p.tables e below (T52.setTop (mkF m 96 #[.val (.ref ax), .val (.int (Int32.ofNat ek)), .val (.int (Int32.ofNat (bo.getD ek 0))), .val (.int (Int32.ofNat (lo.getD ek 0))), .val (.int (Int32.ofNat ((sta.getD (bo.getD ek 0) 0) + (mk.getD (bo.getD ek 0) 0)))), .val (.int (Int32.ofNat (el.getD ((sta.getD (bo.getD ek 0) 0) + (mk.getD (bo.getD ek 0) 0)) 0)))] [(.int ((Int32.ofNat tc) + (1 : Int32))), (.ref ax), (.int (Int32.ofNat tc)), (.ref b7)])) _
      rw [n_one]
      exact k)
    obtain ⟨T55, h55, ls55, X55, e55, N55, R55, st55⟩ := gPut X52 hx hZ hown (host := "") (Or.inl (hw _ (List.mem_of_getElem? (i := 63) rfl))) e52 N44 R44 0 8 rfl rfl (Or.inl (hw _ (List.mem_of_getElem? (i := 64) rfl))) (hw _ (List.mem_of_getElem? (i := 10) rfl)) (ty := .int) (by decide) rfl rfl (g := (mkF m 96 #[.val (.ref ax), .val (.int (Int32.ofNat ek)), .val (.int (Int32.ofNat (bo.getD ek 0))), .val (.int (Int32.ofNat (lo.getD ek 0))), .val (.int (Int32.ofNat ((sta.getD (bo.getD ek 0) 0) + (mk.getD (bo.getD ek 0) 0)))), .val (.int (Int32.ofNat (el.getD ((sta.getD (bo.getD ek 0) 0) + (mk.getD (bo.getD ek 0) 0)) 0)))] [(.int (Int32.ofNat (tc + 1))), (.ref ax), (.int (Int32.ofNat tc)), (.ref b7)])) rfl rfl (hb hby d7_96)
    replace R55 : Rep Z n0 h55 ((ax, Obj "com/example/witgen/witgen/regex/Partition" [("elements", "[I", (.ref b1)), ("location", "[I", (.ref b2)), ("blockOf", "[I", (.ref b3)), ("start", "[I", (.ref b4)), ("end", "[I", (.ref b5)), ("marked", "[I", (.ref b6)), ("touched", "[I", (.ref b7)), ("blocks", "I", (.int (Int32.ofNat cnt))), ("touchedCount", "I", (.int (Int32.ofNat (tc + 1))))]) :: (b1, Ar .int (nl ((el.set ((sta.getD (bo.getD ek 0) 0) + (mk.getD (bo.getD ek 0) 0)) ek).set (lo.getD ek 0) (el.getD ((sta.getD (bo.getD ek 0) 0) + (mk.getD (bo.getD ek 0) 0)) 0)))) :: (b2, Ar .int (nl ((lo.set ek ((sta.getD (bo.getD ek 0) 0) + (mk.getD (bo.getD ek 0) 0))).set (el.getD ((sta.getD (bo.getD ek 0) 0) + (mk.getD (bo.getD ek 0) 0)) 0) (lo.getD ek 0)))) :: (b3, Ar .int (nl bo)) :: (b4, Ar .int (nl sta)) :: (b6, Ar .int (nl (mk.set (bo.getD ek 0) ((mk.getD (bo.getD ek 0) 0) + 1)))) :: (b7, Ar .int (nl to)) :: Rst) := R55
    have pre56 : ∀ t, Steps p.tables e below (T55.setTop (mkF m 99 #[.val (.ref ax), .val (.int (Int32.ofNat ek)), .val (.int (Int32.ofNat (bo.getD ek 0))), .val (.int (Int32.ofNat (lo.getD ek 0))), .val (.int (Int32.ofNat ((sta.getD (bo.getD ek 0) 0) + (mk.getD (bo.getD ek 0) 0)))), .val (.int (Int32.ofNat (el.getD ((sta.getD (bo.getD ek 0) 0) + (mk.getD (bo.getD ek 0) 0)) 0)))] [(.int (Int32.ofNat tc)), (.ref b7)])) t → Steps p.tables e below (s₁.setTop (entryFrame m #[(.ref ax), (.int (Int32.ofNat ek))] 6)) t := fun t k => pre54 t (st55 t k)
    have pre57 : ∀ t, Steps p.tables e below (T55.setTop (mkF m 100 #[.val (.ref ax), .val (.int (Int32.ofNat ek)), .val (.int (Int32.ofNat (bo.getD ek 0))), .val (.int (Int32.ofNat (lo.getD ek 0))), .val (.int (Int32.ofNat ((sta.getD (bo.getD ek 0) 0) + (mk.getD (bo.getD ek 0) 0)))), .val (.int (Int32.ofNat (el.getD ((sta.getD (bo.getD ek 0) 0) + (mk.getD (bo.getD ek 0) 0)) 0)))] [(.int (Int32.ofNat (bo.getD ek 0))), (.int (Int32.ofNat tc)), (.ref b7)])) t → Steps p.tables e below (s₁.setTop (entryFrame m #[(.ref ax), (.int (Int32.ofNat ek))] 6)) t := fun t k => pre56 t (by
      show Steps p.tables e below (T55.setTop (mkF m 99 #[.val (.ref ax), .val (.int (Int32.ofNat ek)), .val (.int (Int32.ofNat (bo.getD ek 0))), .val (.int (Int32.ofNat (lo.getD ek 0))), .val (.int (Int32.ofNat ((sta.getD (bo.getD ek 0) 0) + (mk.getD (bo.getD ek 0) 0)))), .val (.int (Int32.ofNat (el.getD ((sta.getD (bo.getD ek 0) 0) + (mk.getD (bo.getD ek 0) 0)) 0)))] [(.int (Int32.ofNat tc)), (.ref b7)])) _
      refine XS.iloadN X55.here hx rfl (hb hby d7_99) rfl ?_
      exact k)
    obtain ⟨T58, h58, ls58, X58, e58, N58, R58, st58⟩ := gIst X55 hx hZ e55 N55 R55 6 rfl (j := (Int32.ofNat tc)) (n_nn (q15)) (tc) (n_ix (q15)) (nl_lt (q14)) (g := (mkF m 100 #[.val (.ref ax), .val (.int (Int32.ofNat ek)), .val (.int (Int32.ofNat (bo.getD ek 0))), .val (.int (Int32.ofNat (lo.getD ek 0))), .val (.int (Int32.ofNat ((sta.getD (bo.getD ek 0) 0) + (mk.getD (bo.getD ek 0) 0)))), .val (.int (Int32.ofNat (el.getD ((sta.getD (bo.getD ek 0) 0) + (mk.getD (bo.getD ek 0) 0)) 0)))] [(.int (Int32.ofNat (bo.getD ek 0))), (.int (Int32.ofNat tc)), (.ref b7)])) rfl rfl (hb hby d7_100)
    replace R58 : Rep Z n0 h58 ((ax, Obj "com/example/witgen/witgen/regex/Partition" [("elements", "[I", (.ref b1)), ("location", "[I", (.ref b2)), ("blockOf", "[I", (.ref b3)), ("start", "[I", (.ref b4)), ("end", "[I", (.ref b5)), ("marked", "[I", (.ref b6)), ("touched", "[I", (.ref b7)), ("blocks", "I", (.int (Int32.ofNat cnt))), ("touchedCount", "I", (.int (Int32.ofNat (tc + 1))))]) :: (b1, Ar .int (nl ((el.set ((sta.getD (bo.getD ek 0) 0) + (mk.getD (bo.getD ek 0) 0)) ek).set (lo.getD ek 0) (el.getD ((sta.getD (bo.getD ek 0) 0) + (mk.getD (bo.getD ek 0) 0)) 0)))) :: (b2, Ar .int (nl ((lo.set ek ((sta.getD (bo.getD ek 0) 0) + (mk.getD (bo.getD ek 0) 0))).set (el.getD ((sta.getD (bo.getD ek 0) 0) + (mk.getD (bo.getD ek 0) 0)) 0) (lo.getD ek 0)))) :: (b3, Ar .int (nl bo)) :: (b4, Ar .int (nl sta)) :: (b6, Ar .int (nl (mk.set (bo.getD ek 0) ((mk.getD (bo.getD ek 0) 0) + 1)))) :: (b7, Ar .int (nl (to.set tc (bo.getD ek 0)))) :: Rst) := by rw [← nl_set to tc (bo.getD ek 0)]; exact R58
    have pre59 : ∀ t, Steps p.tables e below (T58.setTop (mkF m 101 #[.val (.ref ax), .val (.int (Int32.ofNat ek)), .val (.int (Int32.ofNat (bo.getD ek 0))), .val (.int (Int32.ofNat (lo.getD ek 0))), .val (.int (Int32.ofNat ((sta.getD (bo.getD ek 0) 0) + (mk.getD (bo.getD ek 0) 0)))), .val (.int (Int32.ofNat (el.getD ((sta.getD (bo.getD ek 0) 0) + (mk.getD (bo.getD ek 0) 0)) 0)))] [])) t → Steps p.tables e below (s₁.setTop (entryFrame m #[(.ref ax), (.int (Int32.ofNat ek))] 6)) t := fun t k => pre57 t (st58 t k)
    obtain ⟨fs, hr, hrun, hended, hW, hsame⟩ := X58.leave (v := none) (fun _ => rfl) (BodyLoose.notSynchronized Bd)
    refine ⟨_, _, pre59 _ ?_, hrun, hended, _, _, rfl, ?_, ⟨_, rfl⟩, hW, hsame.mono (by decide) (by decide)⟩
    · show Steps p.tables e below (T58.setTop (mkF m 101 #[.val (.ref ax), .val (.int (Int32.ofNat ek)), .val (.int (Int32.ofNat (bo.getD ek 0))), .val (.int (Int32.ofNat (lo.getD ek 0))), .val (.int (Int32.ofNat ((sta.getD (bo.getD ek 0) 0) + (mk.getD (bo.getD ek 0) 0)))), .val (.int (Int32.ofNat (el.getD ((sta.getD (bo.getD ek 0) 0) + (mk.getD (bo.getD ek 0) 0)) 0)))] [])) _
      exact X58.returnOut hx Bd.returns (hb hby d7_101) hr
    · show Q7 Z ax ek b1 b2 b3 b4 b5 b6 b7 cnt tc el lo bo sta mk to n0 Rst _ T58.heap _
      rw [e58]
      exact ⟨rfl, N58, (by have z : mk.getD (mB bo ek) 0 = 0 := n_inj (n := 0) hb46 q13 (by decide); rw [mTo, mTc, if_pos z, if_pos z]; exact R58)⟩
  · have pre60 : ∀ t, Steps p.tables e below (T44.setTop (mkF m 101 #[.val (.ref ax), .val (.int (Int32.ofNat ek)), .val (.int (Int32.ofNat (bo.getD ek 0))), .val (.int (Int32.ofNat (lo.getD ek 0))), .val (.int (Int32.ofNat ((sta.getD (bo.getD ek 0) 0) + (mk.getD (bo.getD ek 0) 0)))), .val (.int (Int32.ofNat (el.getD ((sta.getD (bo.getD ek 0) 0) + (mk.getD (bo.getD ek 0) 0)) 0)))] [])) t → Steps p.tables e below (s₁.setTop (entryFrame m #[(.ref ax), (.int (Int32.ofNat ek))] 6)) t := fun t k => pre45 t (by show Steps p.tables e below (T44.setTop (mkF m 81 #[.val (.ref ax), .val (.int (Int32.ofNat ek)), .val (.int (Int32.ofNat (bo.getD ek 0))), .val (.int (Int32.ofNat (lo.getD ek 0))), .val (.int (Int32.ofNat ((sta.getD (bo.getD ek 0) 0) + (mk.getD (bo.getD ek 0) 0)))), .val (.int (Int32.ofNat (el.getD ((sta.getD (bo.getD ek 0) 0) + (mk.getD (bo.getD ek 0) 0)) 0)))] [(.int (Int32.ofNat (mk.getD (bo.getD ek 0) 0)))])) _; refine XS.ifYes X44.here hx rfl (pc0 := 81) (pc' := 101) rfl (hb hby d7_81) rfl ((if0 _ _).trans (feq hb46).2) (by decide) (by decide) ?_; exact k)
    obtain ⟨fs, hr, hrun, hended, hW, hsame⟩ := X44.leave (v := none) (fun _ => rfl) (BodyLoose.notSynchronized Bd)
    refine ⟨_, _, pre60 _ ?_, hrun, hended, _, _, rfl, ?_, ⟨_, rfl⟩, hW, hsame.mono (by decide) (by decide)⟩
    · show Steps p.tables e below (T44.setTop (mkF m 101 #[.val (.ref ax), .val (.int (Int32.ofNat ek)), .val (.int (Int32.ofNat (bo.getD ek 0))), .val (.int (Int32.ofNat (lo.getD ek 0))), .val (.int (Int32.ofNat ((sta.getD (bo.getD ek 0) 0) + (mk.getD (bo.getD ek 0) 0)))), .val (.int (Int32.ofNat (el.getD ((sta.getD (bo.getD ek 0) 0) + (mk.getD (bo.getD ek 0) 0)) 0)))] [])) _
      exact X44.returnOut hx Bd.returns (hb hby d7_101) hr
    · show Q7 Z ax ek b1 b2 b3 b4 b5 b6 b7 cnt tc el lo bo sta mk to n0 Rst _ T44.heap _
      rw [e44]
      exact ⟨rfl, N44, (by have z : ¬ mk.getD (mB bo ek) 0 = 0 := fun q => hb46 (by show Int32.ofNat (mk.getD (mB bo ek) 0) = 0; rw [q]; rfl); rw [mTo, mTc, if_neg z, if_neg z]; exact R44)⟩
theorem d13_0 : decode prog_15_method_5_code 0 = .ok (.aload_n 0, 1) := by decide +kernel
theorem d13_1 : decode prog_15_method_5_code 1 = .ok (.getfield 19, 3) := by decide +kernel
theorem d13_4 : decode prog_15_method_5_code 4 = .ok (.iload_n 1, 1) := by decide +kernel
theorem d13_5 : decode prog_15_method_5_code 5 = .ok (.iaload, 1) := by decide +kernel
theorem d13_6 : decode prog_15_method_5_code 6 = .ok (.aload_n 0, 1) := by decide +kernel
theorem d13_7 : decode prog_15_method_5_code 7 = .ok (.getfield 30, 3) := by decide +kernel
theorem d13_10 : decode prog_15_method_5_code 10 = .ok (.aload_n 0, 1) := by decide +kernel
theorem d13_11 : decode prog_15_method_5_code 11 = .ok (.getfield 27, 3) := by decide +kernel
theorem d13_14 : decode prog_15_method_5_code 14 = .ok (.iload_n 1, 1) := by decide +kernel
theorem d13_15 : decode prog_15_method_5_code 15 = .ok (.iaload, 1) := by decide +kernel
theorem d13_16 : decode prog_15_method_5_code 16 = .ok (.iaload, 1) := by decide +kernel
theorem d13_17 : decode prog_15_method_5_code 17 = .ok (.if_icmp .ne 7, 3) := by decide +kernel
theorem d13_20 : decode prog_15_method_5_code 20 = .ok (.iconst 1, 1) := by decide +kernel
theorem d13_21 : decode prog_15_method_5_code 21 = .ok (.goto 4, 3) := by decide +kernel
theorem d13_24 : decode prog_15_method_5_code 24 = .ok (.iconst 0, 1) := by decide +kernel
theorem d13_25 : decode prog_15_method_5_code 25 = .ok (.ireturn, 1) := by decide +kernel
theorem ef_13 (m : MethodId) (x0 : Addr) (x1 : Nat) : entryFrame m #[(.ref x0), (.int (Int32.ofNat x1))] 2 = mkF m 0 #[.val (.ref x0), .val (.int (Int32.ofNat x1))] [] := by first | (simp [entryFrame, mkF, argsToLocals, Value.category]; done) | rfl
def F13 (ek : Nat) (lo : List Nat) (bo : List Nat) (sta : List Nat) : Int32 :=
  (bz ((Int32.ofNat (lo.getD ek 0)) = (Int32.ofNat (sta.getD (bo.getD ek 0) 0))))
def Q13 (Z : State) (ax : Addr) (ek : Nat) (b1 : Addr) (b2 : Addr) (b3 : Addr) (b4 : Addr) (b5 : Addr) (b6 : Addr) (b7 : Addr) (cnt : Nat) (tc : Nat) (lo : List Nat) (bo : List Nat) (sta : List Nat) (n0 : Nat) (Rst : RL) (v : Option Value) (h : Heap) (L : List Loc) : Prop := v = some (.int (F13 ek lo bo sta)) ∧ Fr n0 L ∧ Rep Z n0 h ((ax, Obj "com/example/witgen/witgen/regex/Partition" [("elements", "[I", (.ref b1)), ("location", "[I", (.ref b2)), ("blockOf", "[I", (.ref b3)), ("start", "[I", (.ref b4)), ("end", "[I", (.ref b5)), ("marked", "[I", (.ref b6)), ("touched", "[I", (.ref b7)), ("blocks", "I", (.int (Int32.ofNat cnt))), ("touchedCount", "I", (.int (Int32.ofNat tc)))]) :: (b2, Ar .int (nl lo)) :: (b3, Ar .int (nl bo)) :: (b4, Ar .int (nl sta)) :: Rst)
set_option maxRecDepth 65536 in
set_option maxHeartbeats 40000000 in
theorem rm13 (l : Launch) (Z : State) (a0 : Array Value) (hw : ∀ d ∈ tables_1, d.before a0 Z = true) (ws : List Jvm.Cond) (ax : Addr) (ek : Nat) (b1 : Addr) (b2 : Addr) (b3 : Addr) (b4 : Addr) (b5 : Addr) (b6 : Addr) (b7 : Addr) (cnt : Nat) (tc : Nat) (lo : List Nat) (bo : List Nat) (sta : List Nat) (h0 : Heap) (n0 : Nat) (Rst : RL) (R0 : Rep Z n0 h0 ((ax, Obj "com/example/witgen/witgen/regex/Partition" [("elements", "[I", (.ref b1)), ("location", "[I", (.ref b2)), ("blockOf", "[I", (.ref b3)), ("start", "[I", (.ref b4)), ("end", "[I", (.ref b5)), ("marked", "[I", (.ref b6)), ("touched", "[I", (.ref b7)), ("blocks", "I", (.int (Int32.ofNat cnt))), ("touchedCount", "I", (.int (Int32.ofNat tc)))]) :: (b2, Ar .int (nl lo)) :: (b3, Ar .int (nl bo)) :: (b4, Ar .int (nl sta)) :: Rst)) (hin5 : ek < lo.length) (hbd5 : ek < 1000) (hin15 : ek < bo.length) (hbd15 : ek < 1000) (hin16 : (bo.getD ek 0) < sta.length) (hbd16 : (bo.getD ek 0) < 1000) :
    MetFree l (⟨"com/example/witgen/witgen/regex/Partition", "isFirstOfBlock", "(I)Z"⟩ : MethodName) (head1 (Jvm.Cond.code (⟨"com/example/witgen/witgen/regex/Partition", "isFirstOfBlock", "(I)Z"⟩ : MethodName) prog_15_method_5_code 2 (some .boolean) :: ws) ({ frames := 0, cells := 0, slots := 0, locals := 0 } : Room)) (fun a U => a = #[(.ref ax), (.int (Int32.ofNat ek))] ∧ Z.Warmed39 U.vm ∧ U.heap = h0) (fun _ _ _ _ _ => True) (fun _ U o U' => ∃ v L, o = .returned v ∧ Q13 Z ax ek b1 b2 b3 b4 b5 b6 b7 cnt tc lo bo sta n0 Rst v U'.heap L ∧ FrameEnd U o U' L ({ frames := 0, cells := 0, slots := 0, locals := 0 } : Room).cells ({ frames := 0, cells := 0, slots := 0, locals := 0 } : Room).slots) := by
  refine MetFree.of_bodySF (plainFor_of_name pn_com_example_witgen_witgen_regex_Partition) hisR ?_
  intro p e s m args below meth c s₁ Bd hml0 hP hK
  obtain ⟨rfl, hZ, hh⟩ := hP
  have hx := Bd.exec
  have hby := Bd.bytes
  have hml : c.maxLocals = 2 := hml0
  have hown : s.vm.findClass "com/example/witgen/witgen/regex/Partition" = some m.cls := findClass_of_methodNamed Bd.named
  have hnm := (name_of_methodNamed Bd.named Bd.method).1
  have X0 : Stand p l e ({ frames := 0, cells := 0, slots := 0, locals := 0 } : Room) s m #[(.ref ax), (.int (Int32.ofNat ek))] below meth c s₁ [] 0 0 := Stand.of_body Bd
  have e0 : s₁.heap = h0 := by rw [← hh, Bd.state]; rfl
  have N0 := Fr.nil n0
  have pre0 : ∀ t, Steps p.tables e below (s₁.setTop (mkF m 0 #[.val (.ref ax), .val (.int (Int32.ofNat ek))] [])) t → Steps p.tables e below (s₁.setTop (entryFrame m #[(.ref ax), (.int (Int32.ofNat ek))] 2)) t := fun t k => castTop (ef_13 m ax ek) k
  have pre1 : ∀ t, Steps p.tables e below (s₁.setTop (mkF m 1 #[.val (.ref ax), .val (.int (Int32.ofNat ek))] [(.ref ax)])) t → Steps p.tables e below (s₁.setTop (entryFrame m #[(.ref ax), (.int (Int32.ofNat ek))] 2)) t := fun t k => pre0 t (by
    show Steps p.tables e below (s₁.setTop (mkF m 0 #[.val (.ref ax), .val (.int (Int32.ofNat ek))] [])) _
    refine XS.aloadN X0.here hx rfl (hb hby d13_0) rfl rfl ?_
    exact k)
  obtain ⟨T2, X2, e2, st2⟩ := gGet X0 hx hZ hown (host := "") (Or.inl (hw _ (List.mem_of_getElem? (i := 24) rfl))) e0 R0 0 1 rfl rfl (g := (mkF m 1 #[.val (.ref ax), .val (.int (Int32.ofNat ek))] [(.ref ax)])) rfl rfl (hb hby d13_1)
  have pre3 : ∀ t, Steps p.tables e below (T2.setTop (mkF m 4 #[.val (.ref ax), .val (.int (Int32.ofNat ek))] [(.ref b2)])) t → Steps p.tables e below (s₁.setTop (entryFrame m #[(.ref ax), (.int (Int32.ofNat ek))] 2)) t := fun t k => pre1 t (st2 t k)
  have pre4 : ∀ t, Steps p.tables e below (T2.setTop (mkF m 7 #[.val (.ref ax), .val (.int (Int32.ofNat ek))] [(.ref ax), (.int (Int32.ofNat (lo.getD ek 0)))])) t → Steps p.tables e below (s₁.setTop (entryFrame m #[(.ref ax), (.int (Int32.ofNat ek))] 2)) t := fun t k => pre3 t (by
    show Steps p.tables e below (T2.setTop (mkF m 4 #[.val (.ref ax), .val (.int (Int32.ofNat ek))] [(.ref b2)])) _
    refine XS.iloadN X2.here hx rfl (hb hby d13_4) rfl ?_
    refine gIald X2 hx hZ e2 R0 1 rfl (j := (Int32.ofNat ek)) (v := (.int (Int32.ofNat (lo.getD ek 0)))) (n_nn hbd5) (nl_at hin5 hbd5) (g := (mkF m 5 #[.val (.ref ax), .val (.int (Int32.ofNat ek))] [(.int (Int32.ofNat ek)), (.ref b2)])) rfl rfl (hb hby d13_5) _ ?_
    refine XS.aloadN X2.here hx rfl (hb hby d13_6) rfl rfl ?_
    exact k)
  obtain ⟨T5, X5, e5, st5⟩ := gGet X2 hx hZ hown (host := "") (Or.inl (hw _ (List.mem_of_getElem? (i := 37) rfl))) e2 R0 0 3 rfl rfl (g := (mkF m 7 #[.val (.ref ax), .val (.int (Int32.ofNat ek))] [(.ref ax), (.int (Int32.ofNat (lo.getD ek 0)))])) rfl rfl (hb hby d13_7)
  have pre6 : ∀ t, Steps p.tables e below (T5.setTop (mkF m 10 #[.val (.ref ax), .val (.int (Int32.ofNat ek))] [(.ref b4), (.int (Int32.ofNat (lo.getD ek 0)))])) t → Steps p.tables e below (s₁.setTop (entryFrame m #[(.ref ax), (.int (Int32.ofNat ek))] 2)) t := fun t k => pre4 t (st5 t k)
  have pre7 : ∀ t, Steps p.tables e below (T5.setTop (mkF m 11 #[.val (.ref ax), .val (.int (Int32.ofNat ek))] [(.ref ax), (.ref b4), (.int (Int32.ofNat (lo.getD ek 0)))])) t → Steps p.tables e below (s₁.setTop (entryFrame m #[(.ref ax), (.int (Int32.ofNat ek))] 2)) t := fun t k => pre6 t (by
    show Steps p.tables e below (T5.setTop (mkF m 10 #[.val (.ref ax), .val (.int (Int32.ofNat ek))] [(.ref b4), (.int (Int32.ofNat (lo.getD ek 0)))])) _
    refine XS.aloadN X5.here hx rfl (hb hby d13_10) rfl rfl ?_
    exact k)
  obtain ⟨T8, X8, e8, st8⟩ := gGet X5 hx hZ hown (host := "") (Or.inl (hw _ (List.mem_of_getElem? (i := 35) rfl))) e5 R0 0 2 rfl rfl (g := (mkF m 11 #[.val (.ref ax), .val (.int (Int32.ofNat ek))] [(.ref ax), (.ref b4), (.int (Int32.ofNat (lo.getD ek 0)))])) rfl rfl (hb hby d13_11)
  have pre9 : ∀ t, Steps p.tables e below (T8.setTop (mkF m 14 #[.val (.ref ax), .val (.int (Int32.ofNat ek))] [(.ref b3), (.ref b4), (.int (Int32.ofNat (lo.getD ek 0)))])) t → Steps p.tables e below (s₁.setTop (entryFrame m #[(.ref ax), (.int (Int32.ofNat ek))] 2)) t := fun t k => pre7 t (st8 t k)
  have pre12 : ∀ t, Steps p.tables e below (T8.setTop (mkF m 17 #[.val (.ref ax), .val (.int (Int32.ofNat ek))] [(.int (Int32.ofNat (sta.getD (bo.getD ek 0) 0))), (.int (Int32.ofNat (lo.getD ek 0)))])) t → Steps p.tables e below (s₁.setTop (entryFrame m #[(.ref ax), (.int (Int32.ofNat ek))] 2)) t := fun t k => pre9 t (by
    show Steps p.tables e below (T8.setTop (mkF m 14 #[.val (.ref ax), .val (.int (Int32.ofNat ek))] [(.ref b3), (.ref b4), (.int (Int32.ofNat (lo.getD ek 0)))])) _
    refine XS.iloadN X8.here hx rfl (hb hby d13_14) rfl ?_
    refine gIald X8 hx hZ e8 R0 2 rfl (j := (Int32.ofNat ek)) (v := (.int (Int32.ofNat (bo.getD ek 0)))) (n_nn hbd15) (nl_at hin15 hbd15) (g := (mkF m 15 #[.val (.ref ax), .val (.int (Int32.ofNat ek))] [(.int (Int32.ofNat ek)), (.ref b3), (.ref b4), (.int (Int32.ofNat (lo.getD ek 0)))])) rfl rfl (hb hby d13_15) _ ?_
    refine gIald X8 hx hZ e8 R0 3 rfl (j := (Int32.ofNat (bo.getD ek 0))) (v := (.int (Int32.ofNat (sta.getD (bo.getD ek 0) 0)))) (n_nn hbd16) (nl_at hin16 hbd16) (g := (mkF m 16 #[.val (.ref ax), .val (.int (Int32.ofNat ek))] [(.int (Int32.ofNat (bo.getD ek 0))), (.ref b4), (.int (Int32.ofNat (lo.getD ek 0)))])) rfl rfl (hb hby d13_16) _ ?_
    exact k)
  have tl11 : ∀ t, Steps p.tables e below (T8.setTop (mkF m 25 #[.val (.ref ax), .val (.int (Int32.ofNat ek))] [(.int (bz ((Int32.ofNat (lo.getD ek 0)) = (Int32.ofNat (sta.getD (bo.getD ek 0) 0)))))])) t → Steps p.tables e below (T8.setTop (mkF m 17 #[.val (.ref ax), .val (.int (Int32.ofNat ek))] [(.int (Int32.ofNat (sta.getD (bo.getD ek 0) 0))), (.int (Int32.ofNat (lo.getD ek 0)))])) t := fun t k => by
    by_cases hb10 : (Int32.ofNat (lo.getD ek 0)) = (Int32.ofNat (sta.getD (bo.getD ek 0) 0))
    · refine XS.icmpNo X8.here hx rfl (hb hby d13_17) rfl (teq hb10).2 ?_
      rw [bz_one (P := ((Int32.ofNat (lo.getD ek 0)) = (Int32.ofNat (sta.getD (bo.getD ek 0) 0)))) (iff_true_intro hb10)] at k
      show Steps p.tables e below (T8.setTop (mkF m 20 #[.val (.ref ax), .val (.int (Int32.ofNat ek))] [])) _
      refine XS.iconst X8.here hx rfl (hb hby d13_20) ?_
      refine XS.goto X8.here hx rfl (pc0 := 21) (pc' := 25) rfl (hb hby d13_21) (by decide) (by decide) ?_
      exact k
    · refine XS.icmpYes X8.here hx rfl (pc0 := 17) (pc' := 24) rfl (hb hby d13_17) rfl (feq hb10).2 (by decide) (by decide) ?_
      rw [bz_zero (P := ((Int32.ofNat (lo.getD ek 0)) = (Int32.ofNat (sta.getD (bo.getD ek 0) 0)))) (iff_false_intro hb10)] at k
      show Steps p.tables e below (T8.setTop (mkF m 24 #[.val (.ref ax), .val (.int (Int32.ofNat ek))] [])) _
      refine XS.iconst X8.here hx rfl (hb hby d13_24) ?_
      exact k
  have pre13 : ∀ t, Steps p.tables e below (T8.setTop (mkF m 25 #[.val (.ref ax), .val (.int (Int32.ofNat ek))] [(.int (bz ((Int32.ofNat (lo.getD ek 0)) = (Int32.ofNat (sta.getD (bo.getD ek 0) 0)))))])) t → Steps p.tables e below (s₁.setTop (entryFrame m #[(.ref ax), (.int (Int32.ofNat ek))] 2)) t := fun t k => pre12 t (by
    exact tl11 t k)
  obtain ⟨fs, hr, hrun, hended, hW, hsame⟩ := X8.leave (v := some (.int (nar .boolean (bz ((Int32.ofNat (lo.getD ek 0)) = (Int32.ofNat (sta.getD (bo.getD ek 0) 0))))))) (fun h => by rw [Bd.returns] at h; cases h) (BodyLoose.notSynchronized Bd)
  refine ⟨_, _, pre13 _ ?_, hrun, hended, _, _, rfl, ?_, ⟨_, rfl⟩, hW, hsame.mono (by decide) (by decide)⟩
  · show Steps p.tables e below (T8.setTop (mkF m 25 #[.val (.ref ax), .val (.int (Int32.ofNat ek))] [(.int (bz ((Int32.ofNat (lo.getD ek 0)) = (Int32.ofNat (sta.getD (bo.getD ek 0) 0)))))])) _
    exact retN X8 hx (t := .boolean) Bd.returns (by simp) (hb hby d13_25) hr
  · show Q13 Z ax ek b1 b2 b3 b4 b5 b6 b7 cnt tc lo bo sta n0 Rst _ T8.heap _
    rw [e8]
    exact ⟨(by exact congrArg (fun z => some (Value.int z)) (by simp only [F13] <;> first | rfl | exact nar_b _ | decide)), N0, R0⟩
def ll (xs : List Nat) : List Value := xs.map fun x => Value.long (Int64.ofNat x)
theorem ll_len (xs : List Nat) : (ll xs).length = xs.length := by simp [ll]
theorem ll_get {xs : List Nat} {i : Nat} (h : i < xs.length) : (ll xs)[i]? = some (.long (Int64.ofNat (xs.getD i 0))) := by
  simp [ll, List.getD_eq_getElem?_getD, h]
theorem ll_at {xs : List Nat} {i : Nat} (h : Int32.ofNat i < Int32.ofNat (ll xs).length) (hi : i < 1000) (b : xs.length < 1000) : (ll xs)[(Int32.ofNat i).toNatClampNeg]? = some (.long (Int64.ofNat (xs.getD i 0))) := by
  rw [n_ix hi]
  rw [ll_len, Int32.lt_iff_toInt_lt, n_int hi, n_int b] at h
  exact ll_get (by omega)
theorem ll_at0 {xs : List Nat} (h : (0 : Int32) < Int32.ofNat (ll xs).length) (b : xs.length < 1000) : (ll xs)[(0 : Int32).toNatClampNeg]? = some (.long (Int64.ofNat (xs.getD 0 0))) := ll_at (i := 0) h (by decide) b
theorem l_rep (k : Nat) : List.replicate k (Value.long (0 : Int64)) = ll (List.replicate k 0) := by simp [ll]
theorem ll_set (xs : List Nat) (i v : Nat) : (ll xs).set i (.long (Int64.ofNat v)) = ll (xs.set i v) := by simp [ll, List.map_set]
theorem l_one {x : Nat} (h : x < 4) : ((ll [0, 1, 2, 3]).drop x).take 1 = [.long (Int64.ofNat x)] := by
  have : x = 0 ∨ x = 1 ∨ x = 2 ∨ x = 3 := by omega
  rcases this with rfl | rfl | rfl | rfl <;> rfl
theorem l_copy {gs : List Nat} {f x : Nat} (h : x < 4) (hf : f < gs.length) : (ll gs).take f ++ ((ll [0, 1, 2, 3]).drop x).take 1 ++ (ll gs).drop (f + 1) = ll (gs.set f x) := by
  rw [l_one h, ← ll_set, List.set_eq_take_append_cons_drop, if_pos (by rw [ll_len]; exact hf), List.append_assoc]; rfl
theorem off1 {x : Nat} (h : x < 4) : Int32.ofNat ([0, 1, 2, 3, 4].getD (x + 1) 0) - Int32.ofNat ([0, 1, 2, 3, 4].getD x 0) = (1 : Int32) := by
  have : x = 0 ∨ x = 1 ∨ x = 2 ∨ x = 3 := by omega
  rcases this with rfl | rfl | rfl | rfl <;> rfl
theorem off0 {x : Nat} (h : x < 4) : [0, 1, 2, 3, 4].getD x 0 = x := by
  have : x = 0 ∨ x = 1 ∨ x = 2 ∨ x = 3 := by omega
  rcases this with rfl | rfl | rfl | rfl <;> rfl
def sw (xs : List Nat) (i j : Nat) : List Nat := (xs.set i (xs.getD j 0)).set j (xs.getD i 0)
theorem sw_len (xs : List Nat) (i j : Nat) : (sw xs i j).length = xs.length := by simp [sw]
theorem d1_0 : decode method_3_code 0 = .ok (.aload_n 0, 1) := by decide +kernel
theorem d1_1 : decode method_3_code 1 = .ok (.iload_n 1, 1) := by decide +kernel
theorem d1_2 : decode method_3_code 2 = .ok (.iaload, 1) := by decide +kernel
theorem d1_3 : decode method_3_code 3 = .ok (.istore_n 3, 1) := by decide +kernel
theorem d1_4 : decode method_3_code 4 = .ok (.aload_n 0, 1) := by decide +kernel
theorem d1_5 : decode method_3_code 5 = .ok (.iload_n 1, 1) := by decide +kernel
theorem d1_6 : decode method_3_code 6 = .ok (.aload_n 0, 1) := by decide +kernel
theorem d1_7 : decode method_3_code 7 = .ok (.iload_n 2, 1) := by decide +kernel
theorem d1_8 : decode method_3_code 8 = .ok (.iaload, 1) := by decide +kernel
theorem d1_9 : decode method_3_code 9 = .ok (.iastore, 1) := by decide +kernel
theorem d1_10 : decode method_3_code 10 = .ok (.aload_n 0, 1) := by decide +kernel
theorem d1_11 : decode method_3_code 11 = .ok (.iload_n 2, 1) := by decide +kernel
theorem d1_12 : decode method_3_code 12 = .ok (.iload_n 3, 1) := by decide +kernel
theorem d1_13 : decode method_3_code 13 = .ok (.iastore, 1) := by decide +kernel
theorem d1_14 : decode method_3_code 14 = .ok (.return_, 1) := by decide +kernel
theorem pn_com_example_witgen_witgen_regex_PartitionMarkPinLaw : plainName "com/example/witgen/witgen/regex/PartitionMarkPinLaw" = true := by first | (simp [plainName, overriddenIn]; done) | decide +kernel
theorem ef_1 (m : MethodId) (x0 : Addr) (x1 : Nat) (x2 : Nat) : entryFrame m #[(.ref x0), (.int (Int32.ofNat x1)), (.int (Int32.ofNat x2))] 4 = mkF m 0 #[.val (.ref x0), .val (.int (Int32.ofNat x1)), .val (.int (Int32.ofNat x2)), .unset] [] := by first | (simp [entryFrame, mkF, argsToLocals, Value.category]; done) | rfl
def Q1 (Z : State) (ax : Addr) (ki : Nat) (kj : Nat) (xs : List Nat) (n0 : Nat) (Rst : RL) (v : Option Value) (h : Heap) (L : List Loc) : Prop := v = none ∧ Fr n0 L ∧ Rep Z n0 h ((ax, Ar .int (nl (sw xs ki kj))) :: Rst)
set_option maxRecDepth 65536 in
set_option maxHeartbeats 40000000 in
theorem rm1 (l : Launch) (Z : State) (a0 : Array Value) (hw : ∀ d ∈ tables_1, d.before a0 Z = true) (ws : List Jvm.Cond) (ax : Addr) (ki : Nat) (kj : Nat) (xs : List Nat) (h0 : Heap) (n0 : Nat) (Rst : RL) (R0 : Rep Z n0 h0 ((ax, Ar .int (nl xs)) :: Rst)) (hi : ki < xs.length) (hj : kj < xs.length) (hi' : ki < 1000) (hj' : kj < 1000) :
    MetFree l (⟨"com/example/witgen/witgen/regex/PartitionMarkPinLaw", "swap", "([III)V"⟩ : MethodName) (head1 (Jvm.Cond.code (⟨"com/example/witgen/witgen/regex/PartitionMarkPinLaw", "swap", "([III)V"⟩ : MethodName) method_3_code 4 none :: ws) ({ frames := 0, cells := 0, slots := 0, locals := 0 } : Room)) (fun a U => a = #[(.ref ax), (.int (Int32.ofNat ki)), (.int (Int32.ofNat kj))] ∧ Z.Warmed39 U.vm ∧ U.heap = h0) (fun _ _ _ _ _ => True) (fun _ U o U' => ∃ v L, o = .returned v ∧ Q1 Z ax ki kj xs n0 Rst v U'.heap L ∧ FrameEnd U o U' L ({ frames := 0, cells := 0, slots := 0, locals := 0 } : Room).cells ({ frames := 0, cells := 0, slots := 0, locals := 0 } : Room).slots) := by
  refine MetFree.of_bodySF (plainFor_of_name pn_com_example_witgen_witgen_regex_PartitionMarkPinLaw) hisR ?_
  intro p e s m args below meth c s₁ Bd hml0 hP hK
  obtain ⟨rfl, hZ, hh⟩ := hP
  have hx := Bd.exec
  have hby := Bd.bytes
  have hml : c.maxLocals = 4 := hml0
  have hown : s.vm.findClass "com/example/witgen/witgen/regex/PartitionMarkPinLaw" = some m.cls := findClass_of_methodNamed Bd.named
  have hnm := (name_of_methodNamed Bd.named Bd.method).1
  have X0 : Stand p l e ({ frames := 0, cells := 0, slots := 0, locals := 0 } : Room) s m #[(.ref ax), (.int (Int32.ofNat ki)), (.int (Int32.ofNat kj))] below meth c s₁ [] 0 0 := Stand.of_body Bd
  have e0 : s₁.heap = h0 := by rw [← hh, Bd.state]; rfl
  have N0 := Fr.nil n0
  have pre0 : ∀ t, Steps p.tables e below (s₁.setTop (mkF m 0 #[.val (.ref ax), .val (.int (Int32.ofNat ki)), .val (.int (Int32.ofNat kj)), .unset] [])) t → Steps p.tables e below (s₁.setTop (entryFrame m #[(.ref ax), (.int (Int32.ofNat ki)), (.int (Int32.ofNat kj))] 4)) t := fun t k => castTop (ef_1 m ax ki kj) k
  have pre1 : ∀ t, Steps p.tables e below (s₁.setTop (mkF m 9 #[.val (.ref ax), .val (.int (Int32.ofNat ki)), .val (.int (Int32.ofNat kj)), .val (.int (Int32.ofNat (xs.getD ki 0)))] [(.int (Int32.ofNat (xs.getD kj 0))), (.int (Int32.ofNat ki)), (.ref ax)])) t → Steps p.tables e below (s₁.setTop (entryFrame m #[(.ref ax), (.int (Int32.ofNat ki)), (.int (Int32.ofNat kj))] 4)) t := fun t k => pre0 t (by
    show Steps p.tables e below (s₁.setTop (mkF m 0 #[.val (.ref ax), .val (.int (Int32.ofNat ki)), .val (.int (Int32.ofNat kj)), .unset] [])) _
    refine XS.aloadN X0.here hx rfl (hb hby d1_0) rfl rfl ?_
    refine XS.iloadN X0.here hx rfl (hb hby d1_1) rfl ?_
    refine gIald X0 hx hZ e0 R0 0 rfl (j := (Int32.ofNat ki)) (v := (.int (Int32.ofNat (xs.getD ki 0)))) (n_nn (hi')) (nl_at (hi) (hi')) (g := (mkF m 2 #[.val (.ref ax), .val (.int (Int32.ofNat ki)), .val (.int (Int32.ofNat kj)), .unset] [(.int (Int32.ofNat ki)), (.ref ax)])) rfl rfl (hb hby d1_2) _ ?_
    refine XS.istoreN X0.here hx rfl (hb hby d1_3) rfl (l' := #[.val (.ref ax), .val (.int (Int32.ofNat ki)), .val (.int (Int32.ofNat kj)), .val (.int (Int32.ofNat (xs.getD ki 0)))]) rfl ?_
    refine XS.aloadN X0.here hx rfl (hb hby d1_4) rfl rfl ?_
    refine XS.iloadN X0.here hx rfl (hb hby d1_5) rfl ?_
    refine XS.aloadN X0.here hx rfl (hb hby d1_6) rfl rfl ?_
    show Steps p.tables e below (s₁.setTop (mkF m 7 #[.val (.ref ax), .val (.int (Int32.ofNat ki)), .val (.int (Int32.ofNat kj)), .val (.int (Int32.ofNat (xs.getD ki 0)))] [(.ref ax), (.int (Int32.ofNat ki)), (.ref ax)])) _
    refine XS.iloadN X0.here hx rfl (hb hby d1_7) rfl ?_
    refine gIald X0 hx hZ e0 R0 0 rfl (j := (Int32.ofNat kj)) (v := (.int (Int32.ofNat (xs.getD kj 0)))) (n_nn (hj')) (nl_at (hj) (hj')) (g := (mkF m 8 #[.val (.ref ax), .val (.int (Int32.ofNat ki)), .val (.int (Int32.ofNat kj)), .val (.int (Int32.ofNat (xs.getD ki 0)))] [(.int (Int32.ofNat kj)), (.ref ax), (.int (Int32.ofNat ki)), (.ref ax)])) rfl rfl (hb hby d1_8) _ ?_
    exact k)
  obtain ⟨T2, h2, ls2, X2, e2, N2, R2, st2⟩ := gIst X0 hx hZ e0 N0 R0 0 rfl (j := (Int32.ofNat ki)) (n_nn (hi')) (ki) (n_ix (hi')) (nl_lt (hi)) (g := (mkF m 9 #[.val (.ref ax), .val (.int (Int32.ofNat ki)), .val (.int (Int32.ofNat kj)), .val (.int (Int32.ofNat (xs.getD ki 0)))] [(.int (Int32.ofNat (xs.getD kj 0))), (.int (Int32.ofNat ki)), (.ref ax)])) rfl rfl (hb hby d1_9)
  replace R2 : Rep Z n0 h2 ((ax, Ar .int (nl (xs.set ki (xs.getD kj 0)))) :: Rst) := by rw [← nl_set xs ki (xs.getD kj 0)]; exact R2
  have pre3 : ∀ t, Steps p.tables e below (T2.setTop (mkF m 10 #[.val (.ref ax), .val (.int (Int32.ofNat ki)), .val (.int (Int32.ofNat kj)), .val (.int (Int32.ofNat (xs.getD ki 0)))] [])) t → Steps p.tables e below (s₁.setTop (entryFrame m #[(.ref ax), (.int (Int32.ofNat ki)), (.int (Int32.ofNat kj))] 4)) t := fun t k => pre1 t (st2 t k)
  have pre4 : ∀ t, Steps p.tables e below (T2.setTop (mkF m 13 #[.val (.ref ax), .val (.int (Int32.ofNat ki)), .val (.int (Int32.ofNat kj)), .val (.int (Int32.ofNat (xs.getD ki 0)))] [(.int (Int32.ofNat (xs.getD ki 0))), (.int (Int32.ofNat kj)), (.ref ax)])) t → Steps p.tables e below (s₁.setTop (entryFrame m #[(.ref ax), (.int (Int32.ofNat ki)), (.int (Int32.ofNat kj))] 4)) t := fun t k => pre3 t (by
    show Steps p.tables e below (T2.setTop (mkF m 10 #[.val (.ref ax), .val (.int (Int32.ofNat ki)), .val (.int (Int32.ofNat kj)), .val (.int (Int32.ofNat (xs.getD ki 0)))] [])) _
    refine XS.aloadN X2.here hx rfl (hb hby d1_10) rfl rfl ?_
    refine XS.iloadN X2.here hx rfl (hb hby d1_11) rfl ?_
    refine XS.iloadN X2.here hx rfl (hb hby d1_12) rfl ?_
    exact k)
  obtain ⟨T5, h5, ls5, X5, e5, N5, R5, st5⟩ := gIst X2 hx hZ e2 N2 R2 0 rfl (j := (Int32.ofNat kj)) (n_nn (hj')) (kj) (n_ix (hj')) (nl_lt (by rw [List.length_set]; exact hj)) (g := (mkF m 13 #[.val (.ref ax), .val (.int (Int32.ofNat ki)), .val (.int (Int32.ofNat kj)), .val (.int (Int32.ofNat (xs.getD ki 0)))] [(.int (Int32.ofNat (xs.getD ki 0))), (.int (Int32.ofNat kj)), (.ref ax)])) rfl rfl (hb hby d1_13)
  replace R5 : Rep Z n0 h5 ((ax, Ar .int (nl ((xs.set ki (xs.getD kj 0)).set kj (xs.getD ki 0)))) :: Rst) := by rw [← nl_set (xs.set ki (xs.getD kj 0)) kj (xs.getD ki 0)]; exact R5
  have pre6 : ∀ t, Steps p.tables e below (T5.setTop (mkF m 14 #[.val (.ref ax), .val (.int (Int32.ofNat ki)), .val (.int (Int32.ofNat kj)), .val (.int (Int32.ofNat (xs.getD ki 0)))] [])) t → Steps p.tables e below (s₁.setTop (entryFrame m #[(.ref ax), (.int (Int32.ofNat ki)), (.int (Int32.ofNat kj))] 4)) t := fun t k => pre4 t (st5 t k)
  obtain ⟨fs, hr, hrun, hended, hW, hsame⟩ := X5.leave (v := none) (fun _ => rfl) (BodyLoose.notSynchronized Bd)
  refine ⟨_, _, pre6 _ ?_, hrun, hended, _, _, rfl, ?_, ⟨_, rfl⟩, hW, hsame.mono (by decide) (by decide)⟩
  · show Steps p.tables e below (T5.setTop (mkF m 14 #[.val (.ref ax), .val (.int (Int32.ofNat ki)), .val (.int (Int32.ofNat kj)), .val (.int (Int32.ofNat (xs.getD ki 0)))] [])) _
    exact X5.returnOut hx Bd.returns (hb hby d1_14) hr
  · show Q1 Z ax ki kj xs n0 Rst _ T5.heap _
    rw [e5]
    exact ⟨rfl, N5, R5⟩
theorem d10_0 : decode method_4_code 0 = .ok (.iload_n 0, 1) := by decide +kernel
theorem d10_1 : decode method_4_code 1 = .ok (.iconst 1, 1) := by decide +kernel
theorem d10_2 : decode method_4_code 2 = .ok (.iand, 1) := by decide +kernel
theorem d10_3 : decode method_4_code 3 = .ok (.iload_n 0, 1) := by decide +kernel
theorem d10_4 : decode method_4_code 4 = .ok (.iconst 1, 1) := by decide +kernel
theorem d10_5 : decode method_4_code 5 = .ok (.ishr, 1) := by decide +kernel
theorem d10_6 : decode method_4_code 6 = .ok (.iconst 1, 1) := by decide +kernel
theorem d10_7 : decode method_4_code 7 = .ok (.iand, 1) := by decide +kernel
theorem d10_8 : decode method_4_code 8 = .ok (.iadd, 1) := by decide +kernel
theorem d10_9 : decode method_4_code 9 = .ok (.iload_n 0, 1) := by decide +kernel
theorem d10_10 : decode method_4_code 10 = .ok (.iconst 2, 1) := by decide +kernel
theorem d10_11 : decode method_4_code 11 = .ok (.ishr, 1) := by decide +kernel
theorem d10_12 : decode method_4_code 12 = .ok (.iconst 1, 1) := by decide +kernel
theorem d10_13 : decode method_4_code 13 = .ok (.iand, 1) := by decide +kernel
theorem d10_14 : decode method_4_code 14 = .ok (.iadd, 1) := by decide +kernel
theorem d10_15 : decode method_4_code 15 = .ok (.iload_n 0, 1) := by decide +kernel
theorem d10_16 : decode method_4_code 16 = .ok (.iconst 3, 1) := by decide +kernel
theorem d10_17 : decode method_4_code 17 = .ok (.ishr, 1) := by decide +kernel
theorem d10_18 : decode method_4_code 18 = .ok (.iconst 1, 1) := by decide +kernel
theorem d10_19 : decode method_4_code 19 = .ok (.iand, 1) := by decide +kernel
theorem d10_20 : decode method_4_code 20 = .ok (.iadd, 1) := by decide +kernel
theorem d10_21 : decode method_4_code 21 = .ok (.ireturn, 1) := by decide +kernel
theorem ef_10 (m : MethodId) (x0 : Int32) : entryFrame m #[(.int x0)] 1 = mkF m 0 #[.val (.int x0)] [] := by first | (simp [entryFrame, mkF, argsToLocals, Value.category]; done) | rfl
def F10 (xq : Int32) : Int32 :=
  ((((xq &&& (1 : Int32)) + ((ishr xq (1 : Int32)) &&& (1 : Int32))) + ((ishr xq (2 : Int32)) &&& (1 : Int32))) + ((ishr xq (3 : Int32)) &&& (1 : Int32)))
def Q10 (Z : State) (xq : Int32) (n0 : Nat) (Rst : RL) (v : Option Value) (h : Heap) (L : List Loc) : Prop := v = some (.int (F10 xq)) ∧ Fr n0 L ∧ Rep Z n0 h (Rst)
set_option maxRecDepth 65536 in
set_option maxHeartbeats 40000000 in
theorem rm10 (l : Launch) (Z : State) (a0 : Array Value) (hw : ∀ d ∈ tables_1, d.before a0 Z = true) (ws : List Jvm.Cond) (xq : Int32) (h0 : Heap) (n0 : Nat) (Rst : RL) (R0 : Rep Z n0 h0 (Rst)) :
    MetFree l (⟨"com/example/witgen/witgen/regex/PartitionMarkPinLaw", "pop4", "(I)I"⟩ : MethodName) (head1 (Jvm.Cond.code (⟨"com/example/witgen/witgen/regex/PartitionMarkPinLaw", "pop4", "(I)I"⟩ : MethodName) method_4_code 1 (some .int) :: ws) ({ frames := 0, cells := 0, slots := 0, locals := 0 } : Room)) (fun a U => a = #[(.int xq)] ∧ Z.Warmed39 U.vm ∧ U.heap = h0) (fun _ _ _ _ _ => True) (fun _ U o U' => ∃ v L, o = .returned v ∧ Q10 Z xq n0 Rst v U'.heap L ∧ FrameEnd U o U' L ({ frames := 0, cells := 0, slots := 0, locals := 0 } : Room).cells ({ frames := 0, cells := 0, slots := 0, locals := 0 } : Room).slots) := by
  refine MetFree.of_bodySF (plainFor_of_name pn_com_example_witgen_witgen_regex_PartitionMarkPinLaw) hisR ?_
  intro p e s m args below meth c s₁ Bd hml0 hP hK
  obtain ⟨rfl, hZ, hh⟩ := hP
  have hx := Bd.exec
  have hby := Bd.bytes
  have hml : c.maxLocals = 1 := hml0
  have hown : s.vm.findClass "com/example/witgen/witgen/regex/PartitionMarkPinLaw" = some m.cls := findClass_of_methodNamed Bd.named
  have hnm := (name_of_methodNamed Bd.named Bd.method).1
  have X0 : Stand p l e ({ frames := 0, cells := 0, slots := 0, locals := 0 } : Room) s m #[(.int xq)] below meth c s₁ [] 0 0 := Stand.of_body Bd
  have e0 : s₁.heap = h0 := by rw [← hh, Bd.state]; rfl
  have N0 := Fr.nil n0
  have pre0 : ∀ t, Steps p.tables e below (s₁.setTop (mkF m 0 #[.val (.int xq)] [])) t → Steps p.tables e below (s₁.setTop (entryFrame m #[(.int xq)] 1)) t := fun t k => castTop (ef_10 m xq) k
  have pre1 : ∀ t, Steps p.tables e below (s₁.setTop (mkF m 21 #[.val (.int xq)] [(.int ((((xq &&& (1 : Int32)) + ((ishr xq (1 : Int32)) &&& (1 : Int32))) + ((ishr xq (2 : Int32)) &&& (1 : Int32))) + ((ishr xq (3 : Int32)) &&& (1 : Int32))))])) t → Steps p.tables e below (s₁.setTop (entryFrame m #[(.int xq)] 1)) t := fun t k => pre0 t (by
    show Steps p.tables e below (s₁.setTop (mkF m 0 #[.val (.int xq)] [])) _
    refine XS.iloadN X0.here hx rfl (hb hby d10_0) rfl ?_
    refine XS.iconst X0.here hx rfl (hb hby d10_1) ?_
    refine XS.iand X0.here hx rfl (hb hby d10_2) rfl ?_
    refine XS.iloadN X0.here hx rfl (hb hby d10_3) rfl ?_
    refine XS.iconst X0.here hx rfl (hb hby d10_4) ?_
    refine XS.ishr X0.here hx rfl (hb hby d10_5) rfl ?_
    refine XS.iconst X0.here hx rfl (hb hby d10_6) ?_
    show Steps p.tables e below (s₁.setTop (mkF m 7 #[.val (.int xq)] [(.int (1 : Int32)), (.int (ishr xq (1 : Int32))), (.int (xq &&& (1 : Int32)))])) _
    refine XS.iand X0.here hx rfl (hb hby d10_7) rfl ?_
    refine XS.iadd X0.here hx rfl (hb hby d10_8) rfl ?_
    refine XS.iloadN X0.here hx rfl (hb hby d10_9) rfl ?_
    refine XS.iconst X0.here hx rfl (hb hby d10_10) ?_
    refine XS.ishr X0.here hx rfl (hb hby d10_11) rfl ?_
    refine XS.iconst X0.here hx rfl (hb hby d10_12) ?_
    refine XS.iand X0.here hx rfl (hb hby d10_13) rfl ?_
    show Steps p.tables e below (s₁.setTop (mkF m 14 #[.val (.int xq)] [(.int ((ishr xq (2 : Int32)) &&& (1 : Int32))), (.int ((xq &&& (1 : Int32)) + ((ishr xq (1 : Int32)) &&& (1 : Int32))))])) _
    refine XS.iadd X0.here hx rfl (hb hby d10_14) rfl ?_
    refine XS.iloadN X0.here hx rfl (hb hby d10_15) rfl ?_
    refine XS.iconst X0.here hx rfl (hb hby d10_16) ?_
    refine XS.ishr X0.here hx rfl (hb hby d10_17) rfl ?_
    refine XS.iconst X0.here hx rfl (hb hby d10_18) ?_
    refine XS.iand X0.here hx rfl (hb hby d10_19) rfl ?_
    refine XS.iadd X0.here hx rfl (hb hby d10_20) rfl ?_
    exact k)
  obtain ⟨fs, hr, hrun, hended, hW, hsame⟩ := X0.leave (v := some (.int ((((xq &&& (1 : Int32)) + ((ishr xq (1 : Int32)) &&& (1 : Int32))) + ((ishr xq (2 : Int32)) &&& (1 : Int32))) + ((ishr xq (3 : Int32)) &&& (1 : Int32))))) (fun h => by rw [Bd.returns] at h; cases h) (BodyLoose.notSynchronized Bd)
  refine ⟨_, _, pre1 _ ?_, hrun, hended, _, _, rfl, ?_, ⟨_, rfl⟩, hW, hsame.mono (by decide) (by decide)⟩
  · show Steps p.tables e below (s₁.setTop (mkF m 21 #[.val (.int xq)] [(.int ((((xq &&& (1 : Int32)) + ((ishr xq (1 : Int32)) &&& (1 : Int32))) + ((ishr xq (2 : Int32)) &&& (1 : Int32))) + ((ishr xq (3 : Int32)) &&& (1 : Int32))))])) _
    exact Jvm.Own.retI X0 hx Bd.returns (hb hby d10_21) hr
  · show Q10 Z xq n0 Rst _ s₁.heap _
    rw [e0]
    exact ⟨(by rfl), N0, R0⟩
theorem d11_0 : decode method_5_code 0 = .ok (.iload_n 1, 1) := by decide +kernel
theorem d11_1 : decode method_5_code 1 = .ok (.aload_n 0, 1) := by decide +kernel
theorem d11_2 : decode method_5_code 2 = .ok (.arraylength, 1) := by decide +kernel
theorem d11_3 : decode method_5_code 3 = .ok (.if_icmp .lt 5, 3) := by decide +kernel
theorem d11_8 : decode method_5_code 8 = .ok (.aload_n 0, 1) := by decide +kernel
theorem d11_9 : decode method_5_code 9 = .ok (.iload_n 1, 1) := by decide +kernel
theorem d11_10 : decode method_5_code 10 = .ok (.laload, 1) := by decide +kernel
theorem d11_11 : decode method_5_code 11 = .ok (.lstore 4, 2) := by decide +kernel
theorem d11_13 : decode method_5_code 13 = .ok (.lload 4, 2) := by decide +kernel
theorem d11_15 : decode method_5_code 15 = .ok (.lconst 0, 1) := by decide +kernel
theorem d11_16 : decode method_5_code 16 = .ok (.lcmp, 1) := by decide +kernel
theorem d11_17 : decode method_5_code 17 = .ok (.ifCond .lt 12, 3) := by decide +kernel
theorem d11_29 : decode method_5_code 29 = .ok (.bipush 16, 2) := by decide +kernel
theorem d11_20 : decode method_5_code 20 = .ok (.lload 4, 2) := by decide +kernel
theorem d11_22 : decode method_5_code 22 = .ok (.ldc2_w 16, 3) := by decide +kernel
theorem d11_25 : decode method_5_code 25 = .ok (.lcmp, 1) := by decide +kernel
theorem d11_26 : decode method_5_code 26 = .ok (.ifCond .le 6, 3) := by decide +kernel
theorem d11_32 : decode method_5_code 32 = .ok (.lload 4, 2) := by decide +kernel
theorem d11_34 : decode method_5_code 34 = .ok (.l2i, 1) := by decide +kernel
theorem d11_35 : decode method_5_code 35 = .ok (.istore 6, 2) := by decide +kernel
theorem d11_37 : decode method_5_code 37 = .ok (.iload_n 3, 1) := by decide +kernel
theorem d11_38 : decode method_5_code 38 = .ok (.iload 6, 2) := by decide +kernel
theorem d11_40 : decode method_5_code 40 = .ok (.ishr, 1) := by decide +kernel
theorem d11_41 : decode method_5_code 41 = .ok (.iconst 1, 1) := by decide +kernel
theorem d11_42 : decode method_5_code 42 = .ok (.iand, 1) := by decide +kernel
theorem d11_43 : decode method_5_code 43 = .ok (.ifCond .eq 7, 3) := by decide +kernel
theorem d11_50 : decode method_5_code 50 = .ok (.iconst 0, 1) := by decide +kernel
theorem d11_51 : decode method_5_code 51 = .ok (.istore 7, 2) := by decide +kernel
theorem d11_53 : decode method_5_code 53 = .ok (.iload 7, 2) := by decide +kernel
theorem d11_55 : decode method_5_code 55 = .ok (.iload_n 1, 1) := by decide +kernel
theorem d11_56 : decode method_5_code 56 = .ok (.iload_n 2, 1) := by decide +kernel
theorem d11_57 : decode method_5_code 57 = .ok (.if_icmp .ge 7, 3) := by decide +kernel
theorem d11_60 : decode method_5_code 60 = .ok (.iconst 1, 1) := by decide +kernel
theorem d11_61 : decode method_5_code 61 = .ok (.goto 4, 3) := by decide +kernel
theorem d11_65 : decode method_5_code 65 = .ok (.if_icmp .eq 6, 3) := by decide +kernel
theorem d11_68 : decode method_5_code 68 = .ok (.bipush 16, 2) := by decide +kernel
theorem d11_64 : decode method_5_code 64 = .ok (.iconst 0, 1) := by decide +kernel
theorem d11_71 : decode method_5_code 71 = .ok (.iconst 1, 1) := by decide +kernel
theorem d11_72 : decode method_5_code 72 = .ok (.iload 6, 2) := by decide +kernel
theorem d11_74 : decode method_5_code 74 = .ok (.ishl, 1) := by decide +kernel
theorem d11_46 : decode method_5_code 46 = .ok (.iconst 1, 1) := by decide +kernel
theorem d11_47 : decode method_5_code 47 = .ok (.goto 4, 3) := by decide +kernel
theorem d11_6 : decode method_5_code 6 = .ok (.iconst 0, 1) := by decide +kernel
theorem d11_70 : decode method_5_code 70 = .ok (.ireturn, 1) := by decide +kernel
theorem d11_75 : decode method_5_code 75 = .ok (.ireturn, 1) := by decide +kernel
theorem d11_31 : decode method_5_code 31 = .ok (.ireturn, 1) := by decide +kernel
theorem d11_7 : decode method_5_code 7 = .ok (.ireturn, 1) := by decide +kernel
theorem ef_11 (m : MethodId) (x0 : Addr) (x1 : Nat) (x2 : Int32) (x3 : Int32) : entryFrame m #[(.ref x0), (.int (Int32.ofNat x1)), (.int x2), (.int x3)] 8 = mkF m 0 #[.val (.ref x0), .val (.int (Int32.ofNat x1)), .val (.int x2), .val (.int x3), .unset, .unset, .unset, .unset] [] := by first | (simp [entryFrame, mkF, argsToLocals, Value.category]; done) | rfl
def F11 (ik : Nat) (kq : Int32) (mq : Int32) (gs : List Nat) : Int32 :=
  (if (Int32.ofNat ik) < (Int32.ofNat ((ll gs)).length) then (if ((Int64.ofNat (gs.getD ik 0)) < (0 : Int64)) ∨ ((3 : Int64) < (Int64.ofNat (gs.getD ik 0))) then (16 : Int32) else (if ((ishr mq ((Int64.ofNat (gs.getD ik 0)).toInt32)) &&& (1 : Int32)) = (0 : Int32) then (if (Int32.ofNat ik) < kq then (16 : Int32) else (ishl (1 : Int32) ((Int64.ofNat (gs.getD ik 0)).toInt32))) else (if (Int32.ofNat ik) < kq then (ishl (1 : Int32) ((Int64.ofNat (gs.getD ik 0)).toInt32)) else (16 : Int32)))) else (0 : Int32))
def Q11 (Z : State) (gx : Addr) (ik : Nat) (kq : Int32) (mq : Int32) (gs : List Nat) (n0 : Nat) (Rst : RL) (v : Option Value) (h : Heap) (L : List Loc) : Prop := v = some (.int (F11 ik kq mq gs)) ∧ Fr n0 L ∧ Rep Z n0 h ((gx, Ar .long (ll gs)) :: Rst)
set_option maxRecDepth 65536 in
set_option maxHeartbeats 40000000 in
theorem rm11 (l : Launch) (Z : State) (a0 : Array Value) (hw : ∀ d ∈ tables_1, d.before a0 Z = true) (ws : List Jvm.Cond) (gx : Addr) (ik : Nat) (kq : Int32) (mq : Int32) (gs : List Nat) (h0 : Heap) (n0 : Nat) (Rst : RL) (R0 : Rep Z n0 h0 ((gx, Ar .long (ll gs)) :: Rst)) (hik : ik < 1000) (hgl : gs.length < 1000) :
    MetFree l (⟨"com/example/witgen/witgen/regex/PartitionMarkPinLaw", "at", "([JIII)I"⟩ : MethodName) (head1 (Jvm.Cond.code (⟨"com/example/witgen/witgen/regex/PartitionMarkPinLaw", "at", "([JIII)I"⟩ : MethodName) method_5_code 8 (some .int) :: ws) ({ frames := 0, cells := 0, slots := 0, locals := 0 } : Room)) (fun a U => a = #[(.ref gx), (.int (Int32.ofNat ik)), (.int kq), (.int mq)] ∧ Z.Warmed39 U.vm ∧ U.heap = h0) (fun _ _ _ _ _ => True) (fun _ U o U' => ∃ v L, o = .returned v ∧ Q11 Z gx ik kq mq gs n0 Rst v U'.heap L ∧ FrameEnd U o U' L ({ frames := 0, cells := 0, slots := 0, locals := 0 } : Room).cells ({ frames := 0, cells := 0, slots := 0, locals := 0 } : Room).slots) := by
  refine MetFree.of_bodySF (plainFor_of_name pn_com_example_witgen_witgen_regex_PartitionMarkPinLaw) hisR ?_
  intro p e s m args below meth c s₁ Bd hml0 hP hK
  obtain ⟨rfl, hZ, hh⟩ := hP
  have hx := Bd.exec
  have hby := Bd.bytes
  have hml : c.maxLocals = 8 := hml0
  have hown : s.vm.findClass "com/example/witgen/witgen/regex/PartitionMarkPinLaw" = some m.cls := findClass_of_methodNamed Bd.named
  have hnm := (name_of_methodNamed Bd.named Bd.method).1
  have X0 : Stand p l e ({ frames := 0, cells := 0, slots := 0, locals := 0 } : Room) s m #[(.ref gx), (.int (Int32.ofNat ik)), (.int kq), (.int mq)] below meth c s₁ [] 0 0 := Stand.of_body Bd
  have e0 : s₁.heap = h0 := by rw [← hh, Bd.state]; rfl
  have N0 := Fr.nil n0
  have pre0 : ∀ t, Steps p.tables e below (s₁.setTop (mkF m 0 #[.val (.ref gx), .val (.int (Int32.ofNat ik)), .val (.int kq), .val (.int mq), .unset, .unset, .unset, .unset] [])) t → Steps p.tables e below (s₁.setTop (entryFrame m #[(.ref gx), (.int (Int32.ofNat ik)), (.int kq), (.int mq)] 8)) t := fun t k => castTop (ef_11 m gx ik kq mq) k
  have pre1 : ∀ t, Steps p.tables e below (s₁.setTop (mkF m 3 #[.val (.ref gx), .val (.int (Int32.ofNat ik)), .val (.int kq), .val (.int mq), .unset, .unset, .unset, .unset] [(.int (Int32.ofNat ((ll gs)).length)), (.int (Int32.ofNat ik))])) t → Steps p.tables e below (s₁.setTop (entryFrame m #[(.ref gx), (.int (Int32.ofNat ik)), (.int kq), (.int mq)] 8)) t := fun t k => pre0 t (by
    show Steps p.tables e below (s₁.setTop (mkF m 0 #[.val (.ref gx), .val (.int (Int32.ofNat ik)), .val (.int kq), .val (.int mq), .unset, .unset, .unset, .unset] [])) _
    refine XS.iloadN X0.here hx rfl (hb hby d11_0) rfl ?_
    refine XS.aloadN X0.here hx rfl (hb hby d11_1) rfl rfl ?_
    refine gLen X0 hx hZ e0 R0 0 rfl (g := (mkF m 2 #[.val (.ref gx), .val (.int (Int32.ofNat ik)), .val (.int kq), .val (.int mq), .unset, .unset, .unset, .unset] [(.ref gx), (.int (Int32.ofNat ik))])) rfl rfl (hb hby d11_2) (z := (Int32.ofNat ((ll gs)).length)) (rfl) _ ?_
    exact k)
  have tl7 : ∀ fs, (∀ (f : JFrame) (acts : List Action), f.method = m → f.locked = none → f.entered = [] → (doReturn e (s₁.setTop f) acts (some (.int (if (Int32.ofNat ik) < kq then (16 : Int32) else (ishl (1 : Int32) ((Int64.ofNat (gs.getD ik 0)).toInt32)))))).1 = s₁.setFrames fs) → Steps p.tables e below (s₁.setTop (mkF m 57 #[.val (.ref gx), .val (.int (Int32.ofNat ik)), .val (.int kq), .val (.int mq), .val (.long (Int64.ofNat (gs.getD ik 0))), .second, .val (.int ((Int64.ofNat (gs.getD ik 0)).toInt32)), .val (.int (0 : Int32))] [(.int kq), (.int (Int32.ofNat ik)), (.int (0 : Int32))])) (s₁.setFrames fs) := fun fs k => by
    by_cases hb6 : (Int32.ofNat ik) < kq
    · refine XS.icmpNo X0.here hx rfl (hb hby d11_57) rfl (tlt hb6).2.1 ?_
      rw [show (if (Int32.ofNat ik) < kq then (16 : Int32) else (ishl (1 : Int32) ((Int64.ofNat (gs.getD ik 0)).toInt32))) = (16 : Int32) from if_pos hb6] at k
      show Steps p.tables e below (s₁.setTop (mkF m 60 #[.val (.ref gx), .val (.int (Int32.ofNat ik)), .val (.int kq), .val (.int mq), .val (.long (Int64.ofNat (gs.getD ik 0))), .second, .val (.int ((Int64.ofNat (gs.getD ik 0)).toInt32)), .val (.int (0 : Int32))] [(.int (0 : Int32))])) _
      refine XS.iconst X0.here hx rfl (hb hby d11_60) ?_
      refine XS.goto X0.here hx rfl (pc0 := 61) (pc' := 65) rfl (hb hby d11_61) (by decide) (by decide) ?_
      refine XS.icmpNo X0.here hx rfl (hb hby d11_65) rfl (feq (show ¬ ((0 : Int32) = (1 : Int32)) from (by decide))).1 ?_
      refine XS.bipush X0.here hx rfl (hb hby d11_68) ?_
      exact Jvm.Own.retI X0 hx Bd.returns (hb hby d11_70) k
    · refine XS.icmpYes X0.here hx rfl (pc0 := 57) (pc' := 64) rfl (hb hby d11_57) rfl (flt hb6).2.1 (by decide) (by decide) ?_
      rw [show (if (Int32.ofNat ik) < kq then (16 : Int32) else (ishl (1 : Int32) ((Int64.ofNat (gs.getD ik 0)).toInt32))) = (ishl (1 : Int32) ((Int64.ofNat (gs.getD ik 0)).toInt32)) from if_neg hb6] at k
      show Steps p.tables e below (s₁.setTop (mkF m 64 #[.val (.ref gx), .val (.int (Int32.ofNat ik)), .val (.int kq), .val (.int mq), .val (.long (Int64.ofNat (gs.getD ik 0))), .second, .val (.int ((Int64.ofNat (gs.getD ik 0)).toInt32)), .val (.int (0 : Int32))] [(.int (0 : Int32))])) _
      refine XS.iconst X0.here hx rfl (hb hby d11_64) ?_
      refine XS.icmpYes X0.here hx rfl (pc0 := 65) (pc' := 71) rfl (hb hby d11_65) rfl (teq (show (0 : Int32) = (0 : Int32) from (by decide))).1 (by decide) (by decide) ?_
      refine XS.iconst X0.here hx rfl (hb hby d11_71) ?_
      refine XS.iload X0.here hx rfl (hb hby d11_72) rfl ?_
      refine XS.ishl X0.here hx rfl (hb hby d11_74) rfl ?_
      exact Jvm.Own.retI X0 hx Bd.returns (hb hby d11_75) k
  have tl9 : ∀ fs, (∀ (f : JFrame) (acts : List Action), f.method = m → f.locked = none → f.entered = [] → (doReturn e (s₁.setTop f) acts (some (.int (if (Int32.ofNat ik) < kq then (ishl (1 : Int32) ((Int64.ofNat (gs.getD ik 0)).toInt32)) else (16 : Int32))))).1 = s₁.setFrames fs) → Steps p.tables e below (s₁.setTop (mkF m 57 #[.val (.ref gx), .val (.int (Int32.ofNat ik)), .val (.int kq), .val (.int mq), .val (.long (Int64.ofNat (gs.getD ik 0))), .second, .val (.int ((Int64.ofNat (gs.getD ik 0)).toInt32)), .val (.int (1 : Int32))] [(.int kq), (.int (Int32.ofNat ik)), (.int (1 : Int32))])) (s₁.setFrames fs) := fun fs k => by
    by_cases hb8 : (Int32.ofNat ik) < kq
    · refine XS.icmpNo X0.here hx rfl (hb hby d11_57) rfl (tlt hb8).2.1 ?_
      rw [show (if (Int32.ofNat ik) < kq then (ishl (1 : Int32) ((Int64.ofNat (gs.getD ik 0)).toInt32)) else (16 : Int32)) = (ishl (1 : Int32) ((Int64.ofNat (gs.getD ik 0)).toInt32)) from if_pos hb8] at k
      show Steps p.tables e below (s₁.setTop (mkF m 60 #[.val (.ref gx), .val (.int (Int32.ofNat ik)), .val (.int kq), .val (.int mq), .val (.long (Int64.ofNat (gs.getD ik 0))), .second, .val (.int ((Int64.ofNat (gs.getD ik 0)).toInt32)), .val (.int (1 : Int32))] [(.int (1 : Int32))])) _
      refine XS.iconst X0.here hx rfl (hb hby d11_60) ?_
      refine XS.goto X0.here hx rfl (pc0 := 61) (pc' := 65) rfl (hb hby d11_61) (by decide) (by decide) ?_
      refine XS.icmpYes X0.here hx rfl (pc0 := 65) (pc' := 71) rfl (hb hby d11_65) rfl (teq (show (1 : Int32) = (1 : Int32) from (by decide))).1 (by decide) (by decide) ?_
      refine XS.iconst X0.here hx rfl (hb hby d11_71) ?_
      refine XS.iload X0.here hx rfl (hb hby d11_72) rfl ?_
      refine XS.ishl X0.here hx rfl (hb hby d11_74) rfl ?_
      exact Jvm.Own.retI X0 hx Bd.returns (hb hby d11_75) k
    · refine XS.icmpYes X0.here hx rfl (pc0 := 57) (pc' := 64) rfl (hb hby d11_57) rfl (flt hb8).2.1 (by decide) (by decide) ?_
      rw [show (if (Int32.ofNat ik) < kq then (ishl (1 : Int32) ((Int64.ofNat (gs.getD ik 0)).toInt32)) else (16 : Int32)) = (16 : Int32) from if_neg hb8] at k
      show Steps p.tables e below (s₁.setTop (mkF m 64 #[.val (.ref gx), .val (.int (Int32.ofNat ik)), .val (.int kq), .val (.int mq), .val (.long (Int64.ofNat (gs.getD ik 0))), .second, .val (.int ((Int64.ofNat (gs.getD ik 0)).toInt32)), .val (.int (1 : Int32))] [(.int (1 : Int32))])) _
      refine XS.iconst X0.here hx rfl (hb hby d11_64) ?_
      refine XS.icmpNo X0.here hx rfl (hb hby d11_65) rfl (feq (show ¬ ((1 : Int32) = (0 : Int32)) from (by decide))).1 ?_
      refine XS.bipush X0.here hx rfl (hb hby d11_68) ?_
      exact Jvm.Own.retI X0 hx Bd.returns (hb hby d11_70) k
  have tl10 : ∀ fs, (∀ (f : JFrame) (acts : List Action), f.method = m → f.locked = none → f.entered = [] → (doReturn e (s₁.setTop f) acts (some (.int (if ((ishr mq ((Int64.ofNat (gs.getD ik 0)).toInt32)) &&& (1 : Int32)) = (0 : Int32) then (if (Int32.ofNat ik) < kq then (16 : Int32) else (ishl (1 : Int32) ((Int64.ofNat (gs.getD ik 0)).toInt32))) else (if (Int32.ofNat ik) < kq then (ishl (1 : Int32) ((Int64.ofNat (gs.getD ik 0)).toInt32)) else (16 : Int32)))))).1 = s₁.setFrames fs) → Steps p.tables e below (s₁.setTop (mkF m 43 #[.val (.ref gx), .val (.int (Int32.ofNat ik)), .val (.int kq), .val (.int mq), .val (.long (Int64.ofNat (gs.getD ik 0))), .second, .val (.int ((Int64.ofNat (gs.getD ik 0)).toInt32)), .unset] [(.int ((ishr mq ((Int64.ofNat (gs.getD ik 0)).toInt32)) &&& (1 : Int32)))])) (s₁.setFrames fs) := fun fs k => by
    by_cases hb5 : ((ishr mq ((Int64.ofNat (gs.getD ik 0)).toInt32)) &&& (1 : Int32)) = (0 : Int32)
    · refine XS.ifYes X0.here hx rfl (pc0 := 43) (pc' := 50) rfl (hb hby d11_43) rfl ((if0 _ _).trans (teq hb5).1) (by decide) (by decide) ?_
      rw [show (if ((ishr mq ((Int64.ofNat (gs.getD ik 0)).toInt32)) &&& (1 : Int32)) = (0 : Int32) then (if (Int32.ofNat ik) < kq then (16 : Int32) else (ishl (1 : Int32) ((Int64.ofNat (gs.getD ik 0)).toInt32))) else (if (Int32.ofNat ik) < kq then (ishl (1 : Int32) ((Int64.ofNat (gs.getD ik 0)).toInt32)) else (16 : Int32))) = (if (Int32.ofNat ik) < kq then (16 : Int32) else (ishl (1 : Int32) ((Int64.ofNat (gs.getD ik 0)).toInt32))) from if_pos hb5] at k
      show Steps p.tables e below (s₁.setTop (mkF m 50 #[.val (.ref gx), .val (.int (Int32.ofNat ik)), .val (.int kq), .val (.int mq), .val (.long (Int64.ofNat (gs.getD ik 0))), .second, .val (.int ((Int64.ofNat (gs.getD ik 0)).toInt32)), .unset] [])) _
      refine XS.iconst X0.here hx rfl (hb hby d11_50) ?_
      refine XS.istore X0.here hx rfl (hb hby d11_51) rfl (l' := #[.val (.ref gx), .val (.int (Int32.ofNat ik)), .val (.int kq), .val (.int mq), .val (.long (Int64.ofNat (gs.getD ik 0))), .second, .val (.int ((Int64.ofNat (gs.getD ik 0)).toInt32)), .val (.int (0 : Int32))]) rfl ?_
      refine XS.iload X0.here hx rfl (hb hby d11_53) rfl ?_
      refine XS.iloadN X0.here hx rfl (hb hby d11_55) rfl ?_
      refine XS.iloadN X0.here hx rfl (hb hby d11_56) rfl ?_
      exact tl7 fs k
    · refine XS.ifNo X0.here hx rfl (hb hby d11_43) rfl ((if0 _ _).trans (feq hb5).1) ?_
      rw [show (if ((ishr mq ((Int64.ofNat (gs.getD ik 0)).toInt32)) &&& (1 : Int32)) = (0 : Int32) then (if (Int32.ofNat ik) < kq then (16 : Int32) else (ishl (1 : Int32) ((Int64.ofNat (gs.getD ik 0)).toInt32))) else (if (Int32.ofNat ik) < kq then (ishl (1 : Int32) ((Int64.ofNat (gs.getD ik 0)).toInt32)) else (16 : Int32))) = (if (Int32.ofNat ik) < kq then (ishl (1 : Int32) ((Int64.ofNat (gs.getD ik 0)).toInt32)) else (16 : Int32)) from if_neg hb5] at k
      show Steps p.tables e below (s₁.setTop (mkF m 46 #[.val (.ref gx), .val (.int (Int32.ofNat ik)), .val (.int kq), .val (.int mq), .val (.long (Int64.ofNat (gs.getD ik 0))), .second, .val (.int ((Int64.ofNat (gs.getD ik 0)).toInt32)), .unset] [])) _
      refine XS.iconst X0.here hx rfl (hb hby d11_46) ?_
      refine XS.goto X0.here hx rfl (pc0 := 47) (pc' := 51) rfl (hb hby d11_47) (by decide) (by decide) ?_
      refine XS.istore X0.here hx rfl (hb hby d11_51) rfl (l' := #[.val (.ref gx), .val (.int (Int32.ofNat ik)), .val (.int kq), .val (.int mq), .val (.long (Int64.ofNat (gs.getD ik 0))), .second, .val (.int ((Int64.ofNat (gs.getD ik 0)).toInt32)), .val (.int (1 : Int32))]) rfl ?_
      refine XS.iload X0.here hx rfl (hb hby d11_53) rfl ?_
      refine XS.iloadN X0.here hx rfl (hb hby d11_55) rfl ?_
      refine XS.iloadN X0.here hx rfl (hb hby d11_56) rfl ?_
      exact tl9 fs k
  have tl11 : ∀ fs, (∀ (f : JFrame) (acts : List Action), f.method = m → f.locked = none → f.entered = [] → (doReturn e (s₁.setTop f) acts (some (.int (if (3 : Int64) < (Int64.ofNat (gs.getD ik 0)) then (16 : Int32) else (if ((ishr mq ((Int64.ofNat (gs.getD ik 0)).toInt32)) &&& (1 : Int32)) = (0 : Int32) then (if (Int32.ofNat ik) < kq then (16 : Int32) else (ishl (1 : Int32) ((Int64.ofNat (gs.getD ik 0)).toInt32))) else (if (Int32.ofNat ik) < kq then (ishl (1 : Int32) ((Int64.ofNat (gs.getD ik 0)).toInt32)) else (16 : Int32))))))).1 = s₁.setFrames fs) → Steps p.tables e below (s₁.setTop (mkF m 26 #[.val (.ref gx), .val (.int (Int32.ofNat ik)), .val (.int kq), .val (.int mq), .val (.long (Int64.ofNat (gs.getD ik 0))), .second, .unset, .unset] [(.int (XT.cmpL (Int64.ofNat (gs.getD ik 0)) (3 : Int64)))])) (s₁.setFrames fs) := fun fs k => by
    by_cases hb4 : (3 : Int64) < (Int64.ofNat (gs.getD ik 0))
    · refine XS.ifNo X0.here hx rfl (hb hby d11_26) rfl (XT.ll_le_f hb4) ?_
      rw [show (if (3 : Int64) < (Int64.ofNat (gs.getD ik 0)) then (16 : Int32) else (if ((ishr mq ((Int64.ofNat (gs.getD ik 0)).toInt32)) &&& (1 : Int32)) = (0 : Int32) then (if (Int32.ofNat ik) < kq then (16 : Int32) else (ishl (1 : Int32) ((Int64.ofNat (gs.getD ik 0)).toInt32))) else (if (Int32.ofNat ik) < kq then (ishl (1 : Int32) ((Int64.ofNat (gs.getD ik 0)).toInt32)) else (16 : Int32)))) = (16 : Int32) from if_pos hb4] at k
      show Steps p.tables e below (s₁.setTop (mkF m 29 #[.val (.ref gx), .val (.int (Int32.ofNat ik)), .val (.int kq), .val (.int mq), .val (.long (Int64.ofNat (gs.getD ik 0))), .second, .unset, .unset] [])) _
      refine XS.bipush X0.here hx rfl (hb hby d11_29) ?_
      exact Jvm.Own.retI X0 hx Bd.returns (hb hby d11_31) k
    · refine XS.ifYes X0.here hx rfl (pc0 := 26) (pc' := 32) rfl (hb hby d11_26) rfl (XT.ll_le_t hb4) (by decide) (by decide) ?_
      rw [show (if (3 : Int64) < (Int64.ofNat (gs.getD ik 0)) then (16 : Int32) else (if ((ishr mq ((Int64.ofNat (gs.getD ik 0)).toInt32)) &&& (1 : Int32)) = (0 : Int32) then (if (Int32.ofNat ik) < kq then (16 : Int32) else (ishl (1 : Int32) ((Int64.ofNat (gs.getD ik 0)).toInt32))) else (if (Int32.ofNat ik) < kq then (ishl (1 : Int32) ((Int64.ofNat (gs.getD ik 0)).toInt32)) else (16 : Int32)))) = (if ((ishr mq ((Int64.ofNat (gs.getD ik 0)).toInt32)) &&& (1 : Int32)) = (0 : Int32) then (if (Int32.ofNat ik) < kq then (16 : Int32) else (ishl (1 : Int32) ((Int64.ofNat (gs.getD ik 0)).toInt32))) else (if (Int32.ofNat ik) < kq then (ishl (1 : Int32) ((Int64.ofNat (gs.getD ik 0)).toInt32)) else (16 : Int32))) from if_neg hb4] at k
      show Steps p.tables e below (s₁.setTop (mkF m 32 #[.val (.ref gx), .val (.int (Int32.ofNat ik)), .val (.int kq), .val (.int mq), .val (.long (Int64.ofNat (gs.getD ik 0))), .second, .unset, .unset] [])) _
      refine XS.lload X0.here hx rfl (hb hby d11_32) rfl ?_
      refine XS.l2i X0.here hx rfl (hb hby d11_34) rfl ?_
      refine XS.istore X0.here hx rfl (hb hby d11_35) rfl (l' := #[.val (.ref gx), .val (.int (Int32.ofNat ik)), .val (.int kq), .val (.int mq), .val (.long (Int64.ofNat (gs.getD ik 0))), .second, .val (.int ((Int64.ofNat (gs.getD ik 0)).toInt32)), .unset]) rfl ?_
      refine XS.iloadN X0.here hx rfl (hb hby d11_37) rfl ?_
      refine XS.iload X0.here hx rfl (hb hby d11_38) rfl ?_
      refine XS.ishr X0.here hx rfl (hb hby d11_40) rfl ?_
      refine XS.iconst X0.here hx rfl (hb hby d11_41) ?_
      show Steps p.tables e below (s₁.setTop (mkF m 42 #[.val (.ref gx), .val (.int (Int32.ofNat ik)), .val (.int kq), .val (.int mq), .val (.long (Int64.ofNat (gs.getD ik 0))), .second, .val (.int ((Int64.ofNat (gs.getD ik 0)).toInt32)), .unset] [(.int (1 : Int32)), (.int (ishr mq ((Int64.ofNat (gs.getD ik 0)).toInt32)))])) _
      refine XS.iand X0.here hx rfl (hb hby d11_42) rfl ?_
      exact tl10 fs k
  have tl12 : ∀ fs, (∀ (f : JFrame) (acts : List Action), f.method = m → f.locked = none → f.entered = [] → (doReturn e (s₁.setTop f) acts (some (.int (if ((Int64.ofNat (gs.getD ik 0)) < (0 : Int64)) ∨ ((3 : Int64) < (Int64.ofNat (gs.getD ik 0))) then (16 : Int32) else (if ((ishr mq ((Int64.ofNat (gs.getD ik 0)).toInt32)) &&& (1 : Int32)) = (0 : Int32) then (if (Int32.ofNat ik) < kq then (16 : Int32) else (ishl (1 : Int32) ((Int64.ofNat (gs.getD ik 0)).toInt32))) else (if (Int32.ofNat ik) < kq then (ishl (1 : Int32) ((Int64.ofNat (gs.getD ik 0)).toInt32)) else (16 : Int32))))))).1 = s₁.setFrames fs) → Steps p.tables e below (s₁.setTop (mkF m 17 #[.val (.ref gx), .val (.int (Int32.ofNat ik)), .val (.int kq), .val (.int mq), .val (.long (Int64.ofNat (gs.getD ik 0))), .second, .unset, .unset] [(.int (XT.cmpL (Int64.ofNat (gs.getD ik 0)) (0 : Int64)))])) (s₁.setFrames fs) := fun fs k => by
    by_cases hb3 : (Int64.ofNat (gs.getD ik 0)) < (0 : Int64)
    · refine XS.ifYes X0.here hx rfl (pc0 := 17) (pc' := 29) rfl (hb hby d11_17) rfl (XT.ll_lt_t hb3) (by decide) (by decide) ?_
      rw [show (if ((Int64.ofNat (gs.getD ik 0)) < (0 : Int64)) ∨ ((3 : Int64) < (Int64.ofNat (gs.getD ik 0))) then (16 : Int32) else (if ((ishr mq ((Int64.ofNat (gs.getD ik 0)).toInt32)) &&& (1 : Int32)) = (0 : Int32) then (if (Int32.ofNat ik) < kq then (16 : Int32) else (ishl (1 : Int32) ((Int64.ofNat (gs.getD ik 0)).toInt32))) else (if (Int32.ofNat ik) < kq then (ishl (1 : Int32) ((Int64.ofNat (gs.getD ik 0)).toInt32)) else (16 : Int32)))) = (16 : Int32) from ite_or_t hb3] at k
      show Steps p.tables e below (s₁.setTop (mkF m 29 #[.val (.ref gx), .val (.int (Int32.ofNat ik)), .val (.int kq), .val (.int mq), .val (.long (Int64.ofNat (gs.getD ik 0))), .second, .unset, .unset] [])) _
      refine XS.bipush X0.here hx rfl (hb hby d11_29) ?_
      exact Jvm.Own.retI X0 hx Bd.returns (hb hby d11_31) k
    · refine XS.ifNo X0.here hx rfl (hb hby d11_17) rfl (XT.ll_lt_f hb3) ?_
      rw [show (if ((Int64.ofNat (gs.getD ik 0)) < (0 : Int64)) ∨ ((3 : Int64) < (Int64.ofNat (gs.getD ik 0))) then (16 : Int32) else (if ((ishr mq ((Int64.ofNat (gs.getD ik 0)).toInt32)) &&& (1 : Int32)) = (0 : Int32) then (if (Int32.ofNat ik) < kq then (16 : Int32) else (ishl (1 : Int32) ((Int64.ofNat (gs.getD ik 0)).toInt32))) else (if (Int32.ofNat ik) < kq then (ishl (1 : Int32) ((Int64.ofNat (gs.getD ik 0)).toInt32)) else (16 : Int32)))) = (if (3 : Int64) < (Int64.ofNat (gs.getD ik 0)) then (16 : Int32) else (if ((ishr mq ((Int64.ofNat (gs.getD ik 0)).toInt32)) &&& (1 : Int32)) = (0 : Int32) then (if (Int32.ofNat ik) < kq then (16 : Int32) else (ishl (1 : Int32) ((Int64.ofNat (gs.getD ik 0)).toInt32))) else (if (Int32.ofNat ik) < kq then (ishl (1 : Int32) ((Int64.ofNat (gs.getD ik 0)).toInt32)) else (16 : Int32)))) from ite_or_f hb3] at k
      show Steps p.tables e below (s₁.setTop (mkF m 20 #[.val (.ref gx), .val (.int (Int32.ofNat ik)), .val (.int kq), .val (.int mq), .val (.long (Int64.ofNat (gs.getD ik 0))), .second, .unset, .unset] [])) _
      refine XS.lload X0.here hx rfl (hb hby d11_20) rfl ?_
      refine X0.ldc2Long hx hown (mvT hZ (hw _ (List.mem_of_getElem? (i := 8) rfl))) (g := (mkF m 22 #[.val (.ref gx), .val (.int (Int32.ofNat ik)), .val (.int kq), .val (.int mq), .val (.long (Int64.ofNat (gs.getD ik 0))), .second, .unset, .unset] [(.long (Int64.ofNat (gs.getD ik 0)))])) rfl (hb hby d11_22) _ ?_
      refine XS.lcmp X0.here hx rfl (hb hby d11_25) rfl ?_
      exact tl11 fs k
  have tl13 : ∀ fs, (∀ (f : JFrame) (acts : List Action), f.method = m → f.locked = none → f.entered = [] → (doReturn e (s₁.setTop f) acts (some (.int (if (Int32.ofNat ik) < (Int32.ofNat ((ll gs)).length) then (if ((Int64.ofNat (gs.getD ik 0)) < (0 : Int64)) ∨ ((3 : Int64) < (Int64.ofNat (gs.getD ik 0))) then (16 : Int32) else (if ((ishr mq ((Int64.ofNat (gs.getD ik 0)).toInt32)) &&& (1 : Int32)) = (0 : Int32) then (if (Int32.ofNat ik) < kq then (16 : Int32) else (ishl (1 : Int32) ((Int64.ofNat (gs.getD ik 0)).toInt32))) else (if (Int32.ofNat ik) < kq then (ishl (1 : Int32) ((Int64.ofNat (gs.getD ik 0)).toInt32)) else (16 : Int32)))) else (0 : Int32))))).1 = s₁.setFrames fs) → Steps p.tables e below (s₁.setTop (mkF m 3 #[.val (.ref gx), .val (.int (Int32.ofNat ik)), .val (.int kq), .val (.int mq), .unset, .unset, .unset, .unset] [(.int (Int32.ofNat ((ll gs)).length)), (.int (Int32.ofNat ik))])) (s₁.setFrames fs) := fun fs k => by
    by_cases hb2 : (Int32.ofNat ik) < (Int32.ofNat ((ll gs)).length)
    · refine XS.icmpYes X0.here hx rfl (pc0 := 3) (pc' := 8) rfl (hb hby d11_3) rfl (tlt hb2).1 (by decide) (by decide) ?_
      rw [show (if (Int32.ofNat ik) < (Int32.ofNat ((ll gs)).length) then (if ((Int64.ofNat (gs.getD ik 0)) < (0 : Int64)) ∨ ((3 : Int64) < (Int64.ofNat (gs.getD ik 0))) then (16 : Int32) else (if ((ishr mq ((Int64.ofNat (gs.getD ik 0)).toInt32)) &&& (1 : Int32)) = (0 : Int32) then (if (Int32.ofNat ik) < kq then (16 : Int32) else (ishl (1 : Int32) ((Int64.ofNat (gs.getD ik 0)).toInt32))) else (if (Int32.ofNat ik) < kq then (ishl (1 : Int32) ((Int64.ofNat (gs.getD ik 0)).toInt32)) else (16 : Int32)))) else (0 : Int32)) = (if ((Int64.ofNat (gs.getD ik 0)) < (0 : Int64)) ∨ ((3 : Int64) < (Int64.ofNat (gs.getD ik 0))) then (16 : Int32) else (if ((ishr mq ((Int64.ofNat (gs.getD ik 0)).toInt32)) &&& (1 : Int32)) = (0 : Int32) then (if (Int32.ofNat ik) < kq then (16 : Int32) else (ishl (1 : Int32) ((Int64.ofNat (gs.getD ik 0)).toInt32))) else (if (Int32.ofNat ik) < kq then (ishl (1 : Int32) ((Int64.ofNat (gs.getD ik 0)).toInt32)) else (16 : Int32)))) from if_pos hb2] at k
      show Steps p.tables e below (s₁.setTop (mkF m 8 #[.val (.ref gx), .val (.int (Int32.ofNat ik)), .val (.int kq), .val (.int mq), .unset, .unset, .unset, .unset] [])) _
      refine XS.aloadN X0.here hx rfl (hb hby d11_8) rfl rfl ?_
      refine XS.iloadN X0.here hx rfl (hb hby d11_9) rfl ?_
      refine gLald X0 hx hZ e0 R0 0 rfl (j := (Int32.ofNat ik)) (v := (.long (Int64.ofNat (gs.getD ik 0)))) (n_nn hik) (ll_at (by assumption) hik hgl) (g := (mkF m 10 #[.val (.ref gx), .val (.int (Int32.ofNat ik)), .val (.int kq), .val (.int mq), .unset, .unset, .unset, .unset] [(.int (Int32.ofNat ik)), (.ref gx)])) rfl rfl (hb hby d11_10) _ ?_
      refine XS.lstore X0.here hx rfl (hb hby d11_11) rfl (l' := #[.val (.ref gx), .val (.int (Int32.ofNat ik)), .val (.int kq), .val (.int mq), .val (.long (Int64.ofNat (gs.getD ik 0))), .second, .unset, .unset]) rfl ?_
      refine XS.lload X0.here hx rfl (hb hby d11_13) rfl ?_
      refine XS.lconst X0.here hx rfl (hb hby d11_15) ?_
      refine XS.lcmp X0.here hx rfl (hb hby d11_16) rfl ?_
      exact tl12 fs k
    · refine XS.icmpNo X0.here hx rfl (hb hby d11_3) rfl (flt hb2).1 ?_
      rw [show (if (Int32.ofNat ik) < (Int32.ofNat ((ll gs)).length) then (if ((Int64.ofNat (gs.getD ik 0)) < (0 : Int64)) ∨ ((3 : Int64) < (Int64.ofNat (gs.getD ik 0))) then (16 : Int32) else (if ((ishr mq ((Int64.ofNat (gs.getD ik 0)).toInt32)) &&& (1 : Int32)) = (0 : Int32) then (if (Int32.ofNat ik) < kq then (16 : Int32) else (ishl (1 : Int32) ((Int64.ofNat (gs.getD ik 0)).toInt32))) else (if (Int32.ofNat ik) < kq then (ishl (1 : Int32) ((Int64.ofNat (gs.getD ik 0)).toInt32)) else (16 : Int32)))) else (0 : Int32)) = (0 : Int32) from if_neg hb2] at k
      show Steps p.tables e below (s₁.setTop (mkF m 6 #[.val (.ref gx), .val (.int (Int32.ofNat ik)), .val (.int kq), .val (.int mq), .unset, .unset, .unset, .unset] [])) _
      refine XS.iconst X0.here hx rfl (hb hby d11_6) ?_
      exact Jvm.Own.retI X0 hx Bd.returns (hb hby d11_7) k
  obtain ⟨fs, hr, hrun, hended, hW, hsame⟩ := X0.leave (v := some (.int (if (Int32.ofNat ik) < (Int32.ofNat ((ll gs)).length) then (if ((Int64.ofNat (gs.getD ik 0)) < (0 : Int64)) ∨ ((3 : Int64) < (Int64.ofNat (gs.getD ik 0))) then (16 : Int32) else (if ((ishr mq ((Int64.ofNat (gs.getD ik 0)).toInt32)) &&& (1 : Int32)) = (0 : Int32) then (if (Int32.ofNat ik) < kq then (16 : Int32) else (ishl (1 : Int32) ((Int64.ofNat (gs.getD ik 0)).toInt32))) else (if (Int32.ofNat ik) < kq then (ishl (1 : Int32) ((Int64.ofNat (gs.getD ik 0)).toInt32)) else (16 : Int32)))) else (0 : Int32)))) (fun h => by rw [Bd.returns] at h; cases h) (BodyLoose.notSynchronized Bd)
  refine ⟨_, _, pre1 _ ?_, hrun, hended, _, _, rfl, ?_, ⟨_, rfl⟩, hW, hsame.mono (by decide) (by decide)⟩
  · skip
    exact tl13 fs hr
  · show Q11 Z gx ik kq mq gs n0 Rst _ s₁.heap _
    rw [e0]
    exact ⟨(by first | rfl | simp only [F11]), N0, R0⟩
theorem d9_0 : decode method_6_code 0 = .ok (.iload_n 1, 1) := by decide +kernel
theorem d9_1 : decode method_6_code 1 = .ok (.invokestatic 39, 3) := by decide +kernel
theorem pd__28I_29I : parseMethodDescriptor "(I)I" = some ⟨[.int], some .int⟩ := by decide +kernel
theorem d9_4 : decode method_6_code 4 = .ok (.istore_n 3, 1) := by decide +kernel
theorem d9_5 : decode method_6_code 5 = .ok (.iload_n 1, 1) := by decide +kernel
theorem d9_6 : decode method_6_code 6 = .ok (.iload_n 2, 1) := by decide +kernel
theorem d9_7 : decode method_6_code 7 = .ok (.iand, 1) := by decide +kernel
theorem d9_8 : decode method_6_code 8 = .ok (.invokestatic 39, 3) := by decide +kernel
theorem d9_11 : decode method_6_code 11 = .ok (.istore 4, 2) := by decide +kernel
theorem d9_13 : decode method_6_code 13 = .ok (.aload_n 0, 1) := by decide +kernel
theorem d9_14 : decode method_6_code 14 = .ok (.arraylength, 1) := by decide +kernel
theorem d9_15 : decode method_6_code 15 = .ok (.iload_n 3, 1) := by decide +kernel
theorem d9_16 : decode method_6_code 16 = .ok (.if_icmp .eq 5, 3) := by decide +kernel
theorem d9_21 : decode method_6_code 21 = .ok (.aload_n 0, 1) := by decide +kernel
theorem d9_22 : decode method_6_code 22 = .ok (.iconst 0, 1) := by decide +kernel
theorem d9_23 : decode method_6_code 23 = .ok (.iload 4, 2) := by decide +kernel
theorem d9_25 : decode method_6_code 25 = .ok (.iload_n 2, 1) := by decide +kernel
theorem d9_26 : decode method_6_code 26 = .ok (.invokestatic 43, 3) := by decide +kernel
theorem pd__28_5bJIII_29I : parseMethodDescriptor "([JIII)I" = some ⟨[(.array .long), .int, .int, .int], some .int⟩ := by decide +kernel
theorem d9_29 : decode method_6_code 29 = .ok (.aload_n 0, 1) := by decide +kernel
theorem d9_30 : decode method_6_code 30 = .ok (.iconst 1, 1) := by decide +kernel
theorem d9_31 : decode method_6_code 31 = .ok (.iload 4, 2) := by decide +kernel
theorem d9_33 : decode method_6_code 33 = .ok (.iload_n 2, 1) := by decide +kernel
theorem d9_34 : decode method_6_code 34 = .ok (.invokestatic 43, 3) := by decide +kernel
theorem d9_37 : decode method_6_code 37 = .ok (.ior, 1) := by decide +kernel
theorem d9_38 : decode method_6_code 38 = .ok (.aload_n 0, 1) := by decide +kernel
theorem d9_39 : decode method_6_code 39 = .ok (.iconst 2, 1) := by decide +kernel
theorem d9_40 : decode method_6_code 40 = .ok (.iload 4, 2) := by decide +kernel
theorem d9_42 : decode method_6_code 42 = .ok (.iload_n 2, 1) := by decide +kernel
theorem d9_43 : decode method_6_code 43 = .ok (.invokestatic 43, 3) := by decide +kernel
theorem d9_46 : decode method_6_code 46 = .ok (.ior, 1) := by decide +kernel
theorem d9_47 : decode method_6_code 47 = .ok (.aload_n 0, 1) := by decide +kernel
theorem d9_48 : decode method_6_code 48 = .ok (.iconst 3, 1) := by decide +kernel
theorem d9_49 : decode method_6_code 49 = .ok (.iload 4, 2) := by decide +kernel
theorem d9_51 : decode method_6_code 51 = .ok (.iload_n 2, 1) := by decide +kernel
theorem d9_52 : decode method_6_code 52 = .ok (.invokestatic 43, 3) := by decide +kernel
theorem d9_55 : decode method_6_code 55 = .ok (.ior, 1) := by decide +kernel
theorem d9_56 : decode method_6_code 56 = .ok (.istore 5, 2) := by decide +kernel
theorem d9_58 : decode method_6_code 58 = .ok (.iload 5, 2) := by decide +kernel
theorem d9_60 : decode method_6_code 60 = .ok (.iload_n 1, 1) := by decide +kernel
theorem d9_61 : decode method_6_code 61 = .ok (.if_icmp .ne 7, 3) := by decide +kernel
theorem d9_64 : decode method_6_code 64 = .ok (.iconst 1, 1) := by decide +kernel
theorem d9_65 : decode method_6_code 65 = .ok (.goto 4, 3) := by decide +kernel
theorem d9_68 : decode method_6_code 68 = .ok (.iconst 0, 1) := by decide +kernel
theorem d9_69 : decode method_6_code 69 = .ok (.ireturn, 1) := by decide +kernel
theorem d9_19 : decode method_6_code 19 = .ok (.iconst 0, 1) := by decide +kernel
theorem d9_20 : decode method_6_code 20 = .ok (.ireturn, 1) := by decide +kernel
theorem ef_9 (m : MethodId) (x0 : Addr) (x1 : Int32) (x2 : Int32) : entryFrame m #[(.ref x0), (.int x1), (.int x2)] 6 = mkF m 0 #[.val (.ref x0), .val (.int x1), .val (.int x2), .unset, .unset, .unset] [] := by first | (simp [entryFrame, mkF, argsToLocals, Value.category]; done) | rfl
def F9 (mb : Int32) (mq : Int32) (gs : List Nat) : Int32 :=
  if (Int32.ofNat ((ll gs)).length) = (F10 mb) then
    (bz (((((F11 0 (F10 (mb &&& mq)) mq gs) ||| (F11 1 (F10 (mb &&& mq)) mq gs)) ||| (F11 2 (F10 (mb &&& mq)) mq gs)) ||| (F11 3 (F10 (mb &&& mq)) mq gs)) = mb))
  else
    (0 : Int32)
def Q9 (Z : State) (gx : Addr) (mb : Int32) (mq : Int32) (gs : List Nat) (n0 : Nat) (Rst : RL) (v : Option Value) (h : Heap) (L : List Loc) : Prop := v = some (.int (F9 mb mq gs)) ∧ Fr n0 L ∧ Rep Z n0 h ((gx, Ar .long (ll gs)) :: Rst)
set_option maxRecDepth 65536 in
set_option maxHeartbeats 40000000 in
theorem rm9 (l : Launch) (Z : State) (a0 : Array Value) (hw : ∀ d ∈ tables_1, d.before a0 Z = true) (ws : List Jvm.Cond) (gx : Addr) (mb : Int32) (mq : Int32) (gs : List Nat) (h0 : Heap) (n0 : Nat) (Rst : RL) (R0 : Rep Z n0 h0 ((gx, Ar .long (ll gs)) :: Rst)) (hgl : gs.length < 1000) :
    MetFree l (⟨"com/example/witgen/witgen/regex/PartitionMarkPinLaw", "blockOk", "([JII)Z"⟩ : MethodName) (head1 (Jvm.Cond.code (⟨"com/example/witgen/witgen/regex/PartitionMarkPinLaw", "blockOk", "([JII)Z"⟩ : MethodName) method_6_code 6 (some .boolean) :: ws) ({ frames := 1, cells := 0, slots := 0, locals := 20 } : Room)) (fun a U => a = #[(.ref gx), (.int mb), (.int mq)] ∧ Z.Warmed39 U.vm ∧ U.heap = h0) (fun _ _ _ _ _ => True) (fun _ U o U' => ∃ v L, o = .returned v ∧ Q9 Z gx mb mq gs n0 Rst v U'.heap L ∧ FrameEnd U o U' L ({ frames := 1, cells := 0, slots := 0, locals := 20 } : Room).cells ({ frames := 1, cells := 0, slots := 0, locals := 20 } : Room).slots) := by
  refine MetFree.of_bodySF (plainFor_of_name pn_com_example_witgen_witgen_regex_PartitionMarkPinLaw) hisR ?_
  intro p e s m args below meth c s₁ Bd hml0 hP hK
  obtain ⟨rfl, hZ, hh⟩ := hP
  have hx := Bd.exec
  have hby := Bd.bytes
  have hml : c.maxLocals = 6 := hml0
  have hown : s.vm.findClass "com/example/witgen/witgen/regex/PartitionMarkPinLaw" = some m.cls := findClass_of_methodNamed Bd.named
  have hnm := (name_of_methodNamed Bd.named Bd.method).1
  have X0 : Stand p l e ({ frames := 1, cells := 0, slots := 0, locals := 20 } : Room) s m #[(.ref gx), (.int mb), (.int mq)] below meth c s₁ [] 0 0 := Stand.of_body Bd
  have e0 : s₁.heap = h0 := by rw [← hh, Bd.state]; rfl
  have N0 := Fr.nil n0
  have pre0 : ∀ t, Steps p.tables e below (s₁.setTop (mkF m 0 #[.val (.ref gx), .val (.int mb), .val (.int mq), .unset, .unset, .unset] [])) t → Steps p.tables e below (s₁.setTop (entryFrame m #[(.ref gx), (.int mb), (.int mq)] 6)) t := fun t k => castTop (ef_9 m gx mb mq) k
  have pre1 : ∀ t, Steps p.tables e below (s₁.setTop (mkF m 1 #[.val (.ref gx), .val (.int mb), .val (.int mq), .unset, .unset, .unset] [(.int mb)])) t → Steps p.tables e below (s₁.setTop (entryFrame m #[(.ref gx), (.int mb), (.int mq)] 6)) t := fun t k => pre0 t (by
    show Steps p.tables e below (s₁.setTop (mkF m 0 #[.val (.ref gx), .val (.int mb), .val (.int mq), .unset, .unset, .unset] [])) _
    refine XS.iloadN X0.here hx rfl (hb hby d9_0) rfl ?_
    exact k)
  obtain ⟨_, _, ⟨T2, L2, k2, n2⟩, -, X2, ⟨Lc2, hQ2, l2, y2, z2⟩, st2⟩ := Jvm.LawKit.callS X0 hx (y := (⟨"com/example/witgen/witgen/regex/PartitionMarkPinLaw", "pop4", "(I)I"⟩ : MethodName)) hown (mvT hZ (hw _ (List.mem_of_getElem? (i := 74) rfl))) (mvT hZ (hw _ (List.mem_of_getElem? (i := 75) rfl))) (mvT hZ (hw _ (List.mem_of_getElem? (i := 4) rfl))) (mvT hZ (hw _ (List.mem_of_getElem? (i := 76) rfl))) (by decide) (backOf (W := 0) (rm10 l Z a0 hw [] mb  h0 n0 _ R0 ) hZ (hw _ (List.mem_of_getElem? (i := 76) rfl)) (hw _ (List.mem_of_getElem? (i := 4) rfl)) (by decide) (by decide)) (g := (mkF m 1 #[.val (.ref gx), .val (.int mb), .val (.int mq), .unset, .unset, .unset] [(.int mb)])) rfl (by rw [hml]; rfl) (argsL := [(.int mb)]) (rest := []) (lenOf pd__28I_29I rfl) rfl (by show 2 * 0 + _ ≤ _; exact Nat.le_of_eq rfl) (hb hby d9_1) (fun _ _ => ⟨rfl, e0, (by decide : 0 + 0 ≤ _), (by decide : 0 + 0 ≤ _)⟩)
  dsimp only [Pt.U, Pt.locs, Pt.cells, Pt.slots] at X2 l2 y2 z2 st2 hQ2
  subst y2 z2
  obtain ⟨rfl, N2q, R2⟩ := hQ2
  have N2 : Fr n0 L2 := by rw [l2]; exact Fr.app N0 N2q
  replace R2 : Rep Z n0 T2.heap ((gx, Ar .long (ll gs)) :: Rst) := R2
  have pre3 : ∀ t, Steps p.tables e below (T2.setTop (mkF m 4 #[.val (.ref gx), .val (.int mb), .val (.int mq), .unset, .unset, .unset] [(.int (F10 mb))])) t → Steps p.tables e below (s₁.setTop (entryFrame m #[(.ref gx), (.int mb), (.int mq)] 6)) t := fun t k => pre1 t (st2 t k)
  have pre4 : ∀ t, Steps p.tables e below (T2.setTop (mkF m 8 #[.val (.ref gx), .val (.int mb), .val (.int mq), .val (.int (F10 mb)), .unset, .unset] [(.int (mb &&& mq))])) t → Steps p.tables e below (s₁.setTop (entryFrame m #[(.ref gx), (.int mb), (.int mq)] 6)) t := fun t k => pre3 t (by
    show Steps p.tables e below (T2.setTop (mkF m 4 #[.val (.ref gx), .val (.int mb), .val (.int mq), .unset, .unset, .unset] [(.int (F10 mb))])) _
    refine XS.istoreN X2.here hx rfl (hb hby d9_4) rfl (l' := #[.val (.ref gx), .val (.int mb), .val (.int mq), .val (.int (F10 mb)), .unset, .unset]) rfl ?_
    refine XS.iloadN X2.here hx rfl (hb hby d9_5) rfl ?_
    refine XS.iloadN X2.here hx rfl (hb hby d9_6) rfl ?_
    refine XS.iand X2.here hx rfl (hb hby d9_7) rfl ?_
    exact k)
  obtain ⟨_, _, ⟨T5, L5, k5, n5⟩, -, X5, ⟨Lc5, hQ5, l5, y5, z5⟩, st5⟩ := Jvm.LawKit.callS X2 hx (y := (⟨"com/example/witgen/witgen/regex/PartitionMarkPinLaw", "pop4", "(I)I"⟩ : MethodName)) hown (mvT hZ (hw _ (List.mem_of_getElem? (i := 74) rfl))) (mvT hZ (hw _ (List.mem_of_getElem? (i := 75) rfl))) (mvT hZ (hw _ (List.mem_of_getElem? (i := 4) rfl))) (mvT hZ (hw _ (List.mem_of_getElem? (i := 76) rfl))) (by decide) (backOf (W := 0) (rm10 l Z a0 hw [] (mb &&& mq)  T2.heap n0 _ R2 ) hZ (hw _ (List.mem_of_getElem? (i := 76) rfl)) (hw _ (List.mem_of_getElem? (i := 4) rfl)) (by decide) (by decide)) (g := (mkF m 8 #[.val (.ref gx), .val (.int mb), .val (.int mq), .val (.int (F10 mb)), .unset, .unset] [(.int (mb &&& mq))])) rfl (by rw [hml]; rfl) (argsL := [(.int (mb &&& mq))]) (rest := []) (lenOf pd__28I_29I rfl) rfl (by show 2 * 0 + _ ≤ _; exact Nat.le_of_eq rfl) (hb hby d9_8) (fun _ _ => ⟨rfl, rfl, (by decide : 0 + 0 ≤ _), (by decide : 0 + 0 ≤ _)⟩)
  dsimp only [Pt.U, Pt.locs, Pt.cells, Pt.slots] at X5 l5 y5 z5 st5 hQ5
  subst y5 z5
  obtain ⟨rfl, N5q, R5⟩ := hQ5
  have N5 : Fr n0 L5 := by rw [l5]; exact Fr.app N2 N5q
  replace R5 : Rep Z n0 T5.heap ((gx, Ar .long (ll gs)) :: Rst) := R5
  have pre6 : ∀ t, Steps p.tables e below (T5.setTop (mkF m 11 #[.val (.ref gx), .val (.int mb), .val (.int mq), .val (.int (F10 mb)), .unset, .unset] [(.int (F10 (mb &&& mq)))])) t → Steps p.tables e below (s₁.setTop (entryFrame m #[(.ref gx), (.int mb), (.int mq)] 6)) t := fun t k => pre4 t (st5 t k)
  have pre7 : ∀ t, Steps p.tables e below (T5.setTop (mkF m 16 #[.val (.ref gx), .val (.int mb), .val (.int mq), .val (.int (F10 mb)), .val (.int (F10 (mb &&& mq))), .unset] [(.int (F10 mb)), (.int (Int32.ofNat ((ll gs)).length))])) t → Steps p.tables e below (s₁.setTop (entryFrame m #[(.ref gx), (.int mb), (.int mq)] 6)) t := fun t k => pre6 t (by
    show Steps p.tables e below (T5.setTop (mkF m 11 #[.val (.ref gx), .val (.int mb), .val (.int mq), .val (.int (F10 mb)), .unset, .unset] [(.int (F10 (mb &&& mq)))])) _
    refine XS.istore X5.here hx rfl (hb hby d9_11) rfl (l' := #[.val (.ref gx), .val (.int mb), .val (.int mq), .val (.int (F10 mb)), .val (.int (F10 (mb &&& mq))), .unset]) rfl ?_
    refine XS.aloadN X5.here hx rfl (hb hby d9_13) rfl rfl ?_
    refine gLen X5 hx hZ rfl R5 0 rfl (g := (mkF m 14 #[.val (.ref gx), .val (.int mb), .val (.int mq), .val (.int (F10 mb)), .val (.int (F10 (mb &&& mq))), .unset] [(.ref gx)])) rfl rfl (hb hby d9_14) (z := (Int32.ofNat ((ll gs)).length)) (rfl) _ ?_
    refine XS.iloadN X5.here hx rfl (hb hby d9_15) rfl ?_
    exact k)
  by_cases hb9 : (Int32.ofNat ((ll gs)).length) = (F10 mb)
  · have pre10 : ∀ t, Steps p.tables e below (T5.setTop (mkF m 21 #[.val (.ref gx), .val (.int mb), .val (.int mq), .val (.int (F10 mb)), .val (.int (F10 (mb &&& mq))), .unset] [])) t → Steps p.tables e below (s₁.setTop (entryFrame m #[(.ref gx), (.int mb), (.int mq)] 6)) t := fun t k => pre7 t (by show Steps p.tables e below (T5.setTop (mkF m 16 #[.val (.ref gx), .val (.int mb), .val (.int mq), .val (.int (F10 mb)), .val (.int (F10 (mb &&& mq))), .unset] [(.int (F10 mb)), (.int (Int32.ofNat ((ll gs)).length))])) _; refine XS.icmpYes X5.here hx rfl (pc0 := 16) (pc' := 21) rfl (hb hby d9_16) rfl (teq hb9).1 (by decide) (by decide) ?_; exact k)
    have pre11 : ∀ t, Steps p.tables e below (T5.setTop (mkF m 26 #[.val (.ref gx), .val (.int mb), .val (.int mq), .val (.int (F10 mb)), .val (.int (F10 (mb &&& mq))), .unset] [(.int mq), (.int (F10 (mb &&& mq))), (.int (0 : Int32)), (.ref gx)])) t → Steps p.tables e below (s₁.setTop (entryFrame m #[(.ref gx), (.int mb), (.int mq)] 6)) t := fun t k => pre10 t (by
      show Steps p.tables e below (T5.setTop (mkF m 21 #[.val (.ref gx), .val (.int mb), .val (.int mq), .val (.int (F10 mb)), .val (.int (F10 (mb &&& mq))), .unset] [])) _
      refine XS.aloadN X5.here hx rfl (hb hby d9_21) rfl rfl ?_
      refine XS.iconst X5.here hx rfl (hb hby d9_22) ?_
      refine XS.iload X5.here hx rfl (hb hby d9_23) rfl ?_
      refine XS.iloadN X5.here hx rfl (hb hby d9_25) rfl ?_
      exact k)
    obtain ⟨_, _, ⟨T12, L12, k12, n12⟩, -, X12, ⟨Lc12, hQ12, l12, y12, z12⟩, st12⟩ := Jvm.LawKit.callS X5 hx (y := (⟨"com/example/witgen/witgen/regex/PartitionMarkPinLaw", "at", "([JIII)I"⟩ : MethodName)) hown (mvT hZ (hw _ (List.mem_of_getElem? (i := 77) rfl))) (mvT hZ (hw _ (List.mem_of_getElem? (i := 78) rfl))) (mvT hZ (hw _ (List.mem_of_getElem? (i := 4) rfl))) (mvT hZ (hw _ (List.mem_of_getElem? (i := 79) rfl))) (by decide) (backOf (W := 0) (rm11 l Z a0 hw [] gx 0 (F10 (mb &&& mq)) mq _ T5.heap n0 _ R5 (by decide) (hgl)) hZ (hw _ (List.mem_of_getElem? (i := 79) rfl)) (hw _ (List.mem_of_getElem? (i := 4) rfl)) (by decide) (by decide)) (g := (mkF m 26 #[.val (.ref gx), .val (.int mb), .val (.int mq), .val (.int (F10 mb)), .val (.int (F10 (mb &&& mq))), .unset] [(.int mq), (.int (F10 (mb &&& mq))), (.int (0 : Int32)), (.ref gx)])) rfl (by rw [hml]; rfl) (argsL := [(.ref gx), (.int (0 : Int32)), (.int (F10 (mb &&& mq))), (.int mq)]) (rest := []) (lenOf pd__28_5bJIII_29I rfl) rfl (by show 2 * 0 + _ ≤ _; exact Nat.le_of_eq rfl) (hb hby d9_26) (fun _ _ => ⟨rfl, rfl, (by decide : 0 + 0 ≤ _), (by decide : 0 + 0 ≤ _)⟩)
    dsimp only [Pt.U, Pt.locs, Pt.cells, Pt.slots] at X12 l12 y12 z12 st12 hQ12
    subst y12 z12
    obtain ⟨rfl, N12q, R12⟩ := hQ12
    have N12 : Fr n0 L12 := by rw [l12]; exact Fr.app N5 N12q
    replace R12 : Rep Z n0 T12.heap ((gx, Ar .long (ll gs)) :: Rst) := R12
    have pre13 : ∀ t, Steps p.tables e below (T12.setTop (mkF m 29 #[.val (.ref gx), .val (.int mb), .val (.int mq), .val (.int (F10 mb)), .val (.int (F10 (mb &&& mq))), .unset] [(.int (F11 0 (F10 (mb &&& mq)) mq gs))])) t → Steps p.tables e below (s₁.setTop (entryFrame m #[(.ref gx), (.int mb), (.int mq)] 6)) t := fun t k => pre11 t (st12 t k)
    have pre14 : ∀ t, Steps p.tables e below (T12.setTop (mkF m 34 #[.val (.ref gx), .val (.int mb), .val (.int mq), .val (.int (F10 mb)), .val (.int (F10 (mb &&& mq))), .unset] [(.int mq), (.int (F10 (mb &&& mq))), (.int (1 : Int32)), (.ref gx), (.int (F11 0 (F10 (mb &&& mq)) mq gs))])) t → Steps p.tables e below (s₁.setTop (entryFrame m #[(.ref gx), (.int mb), (.int mq)] 6)) t := fun t k => pre13 t (by
      show Steps p.tables e below (T12.setTop (mkF m 29 #[.val (.ref gx), .val (.int mb), .val (.int mq), .val (.int (F10 mb)), .val (.int (F10 (mb &&& mq))), .unset] [(.int (F11 0 (F10 (mb &&& mq)) mq gs))])) _
      refine XS.aloadN X12.here hx rfl (hb hby d9_29) rfl rfl ?_
      refine XS.iconst X12.here hx rfl (hb hby d9_30) ?_
      refine XS.iload X12.here hx rfl (hb hby d9_31) rfl ?_
      refine XS.iloadN X12.here hx rfl (hb hby d9_33) rfl ?_
      exact k)
    obtain ⟨_, _, ⟨T15, L15, k15, n15⟩, -, X15, ⟨Lc15, hQ15, l15, y15, z15⟩, st15⟩ := Jvm.LawKit.callS X12 hx (y := (⟨"com/example/witgen/witgen/regex/PartitionMarkPinLaw", "at", "([JIII)I"⟩ : MethodName)) hown (mvT hZ (hw _ (List.mem_of_getElem? (i := 77) rfl))) (mvT hZ (hw _ (List.mem_of_getElem? (i := 78) rfl))) (mvT hZ (hw _ (List.mem_of_getElem? (i := 4) rfl))) (mvT hZ (hw _ (List.mem_of_getElem? (i := 79) rfl))) (by decide) (backOf (W := 1) (rm11 l Z a0 hw [] gx 1 (F10 (mb &&& mq)) mq _ T12.heap n0 _ R12 (by decide) (hgl)) hZ (hw _ (List.mem_of_getElem? (i := 79) rfl)) (hw _ (List.mem_of_getElem? (i := 4) rfl)) (by decide) (by decide)) (g := (mkF m 34 #[.val (.ref gx), .val (.int mb), .val (.int mq), .val (.int (F10 mb)), .val (.int (F10 (mb &&& mq))), .unset] [(.int mq), (.int (F10 (mb &&& mq))), (.int (1 : Int32)), (.ref gx), (.int (F11 0 (F10 (mb &&& mq)) mq gs))])) rfl (by rw [hml]; rfl) (argsL := [(.ref gx), (.int (1 : Int32)), (.int (F10 (mb &&& mq))), (.int mq)]) (rest := [(.int (F11 0 (F10 (mb &&& mq)) mq gs))]) (lenOf pd__28_5bJIII_29I rfl) rfl (by show 2 * 0 + _ ≤ _; exact Nat.le_of_eq rfl) (hb hby d9_34) (fun _ _ => ⟨rfl, rfl, (by decide : 0 + 0 ≤ _), (by decide : 0 + 0 ≤ _)⟩)
    dsimp only [Pt.U, Pt.locs, Pt.cells, Pt.slots] at X15 l15 y15 z15 st15 hQ15
    subst y15 z15
    obtain ⟨rfl, N15q, R15⟩ := hQ15
    have N15 : Fr n0 L15 := by rw [l15]; exact Fr.app N12 N15q
    replace R15 : Rep Z n0 T15.heap ((gx, Ar .long (ll gs)) :: Rst) := R15
    have pre16 : ∀ t, Steps p.tables e below (T15.setTop (mkF m 37 #[.val (.ref gx), .val (.int mb), .val (.int mq), .val (.int (F10 mb)), .val (.int (F10 (mb &&& mq))), .unset] [(.int (F11 1 (F10 (mb &&& mq)) mq gs)), (.int (F11 0 (F10 (mb &&& mq)) mq gs))])) t → Steps p.tables e below (s₁.setTop (entryFrame m #[(.ref gx), (.int mb), (.int mq)] 6)) t := fun t k => pre14 t (st15 t k)
    have pre17 : ∀ t, Steps p.tables e below (T15.setTop (mkF m 43 #[.val (.ref gx), .val (.int mb), .val (.int mq), .val (.int (F10 mb)), .val (.int (F10 (mb &&& mq))), .unset] [(.int mq), (.int (F10 (mb &&& mq))), (.int (2 : Int32)), (.ref gx), (.int ((F11 0 (F10 (mb &&& mq)) mq gs) ||| (F11 1 (F10 (mb &&& mq)) mq gs)))])) t → Steps p.tables e below (s₁.setTop (entryFrame m #[(.ref gx), (.int mb), (.int mq)] 6)) t := fun t k => pre16 t (by
      show Steps p.tables e below (T15.setTop (mkF m 37 #[.val (.ref gx), .val (.int mb), .val (.int mq), .val (.int (F10 mb)), .val (.int (F10 (mb &&& mq))), .unset] [(.int (F11 1 (F10 (mb &&& mq)) mq gs)), (.int (F11 0 (F10 (mb &&& mq)) mq gs))])) _
      refine XS.ior X15.here hx rfl (hb hby d9_37) rfl ?_
      refine XS.aloadN X15.here hx rfl (hb hby d9_38) rfl rfl ?_
      refine XS.iconst X15.here hx rfl (hb hby d9_39) ?_
      refine XS.iload X15.here hx rfl (hb hby d9_40) rfl ?_
      refine XS.iloadN X15.here hx rfl (hb hby d9_42) rfl ?_
      exact k)
    obtain ⟨_, _, ⟨T18, L18, k18, n18⟩, -, X18, ⟨Lc18, hQ18, l18, y18, z18⟩, st18⟩ := Jvm.LawKit.callS X15 hx (y := (⟨"com/example/witgen/witgen/regex/PartitionMarkPinLaw", "at", "([JIII)I"⟩ : MethodName)) hown (mvT hZ (hw _ (List.mem_of_getElem? (i := 77) rfl))) (mvT hZ (hw _ (List.mem_of_getElem? (i := 78) rfl))) (mvT hZ (hw _ (List.mem_of_getElem? (i := 4) rfl))) (mvT hZ (hw _ (List.mem_of_getElem? (i := 79) rfl))) (by decide) (backOf (W := 1) (rm11 l Z a0 hw [] gx 2 (F10 (mb &&& mq)) mq _ T15.heap n0 _ R15 (by decide) (hgl)) hZ (hw _ (List.mem_of_getElem? (i := 79) rfl)) (hw _ (List.mem_of_getElem? (i := 4) rfl)) (by decide) (by decide)) (g := (mkF m 43 #[.val (.ref gx), .val (.int mb), .val (.int mq), .val (.int (F10 mb)), .val (.int (F10 (mb &&& mq))), .unset] [(.int mq), (.int (F10 (mb &&& mq))), (.int (2 : Int32)), (.ref gx), (.int ((F11 0 (F10 (mb &&& mq)) mq gs) ||| (F11 1 (F10 (mb &&& mq)) mq gs)))])) rfl (by rw [hml]; rfl) (argsL := [(.ref gx), (.int (2 : Int32)), (.int (F10 (mb &&& mq))), (.int mq)]) (rest := [(.int ((F11 0 (F10 (mb &&& mq)) mq gs) ||| (F11 1 (F10 (mb &&& mq)) mq gs)))]) (lenOf pd__28_5bJIII_29I rfl) rfl (by show 2 * 0 + _ ≤ _; exact Nat.le_of_eq rfl) (hb hby d9_43) (fun _ _ => ⟨rfl, rfl, (by decide : 0 + 0 ≤ _), (by decide : 0 + 0 ≤ _)⟩)
    dsimp only [Pt.U, Pt.locs, Pt.cells, Pt.slots] at X18 l18 y18 z18 st18 hQ18
    subst y18 z18
    obtain ⟨rfl, N18q, R18⟩ := hQ18
    have N18 : Fr n0 L18 := by rw [l18]; exact Fr.app N15 N18q
    replace R18 : Rep Z n0 T18.heap ((gx, Ar .long (ll gs)) :: Rst) := R18
    have pre19 : ∀ t, Steps p.tables e below (T18.setTop (mkF m 46 #[.val (.ref gx), .val (.int mb), .val (.int mq), .val (.int (F10 mb)), .val (.int (F10 (mb &&& mq))), .unset] [(.int (F11 2 (F10 (mb &&& mq)) mq gs)), (.int ((F11 0 (F10 (mb &&& mq)) mq gs) ||| (F11 1 (F10 (mb &&& mq)) mq gs)))])) t → Steps p.tables e below (s₁.setTop (entryFrame m #[(.ref gx), (.int mb), (.int mq)] 6)) t := fun t k => pre17 t (st18 t k)
    have pre20 : ∀ t, Steps p.tables e below (T18.setTop (mkF m 52 #[.val (.ref gx), .val (.int mb), .val (.int mq), .val (.int (F10 mb)), .val (.int (F10 (mb &&& mq))), .unset] [(.int mq), (.int (F10 (mb &&& mq))), (.int (3 : Int32)), (.ref gx), (.int (((F11 0 (F10 (mb &&& mq)) mq gs) ||| (F11 1 (F10 (mb &&& mq)) mq gs)) ||| (F11 2 (F10 (mb &&& mq)) mq gs)))])) t → Steps p.tables e below (s₁.setTop (entryFrame m #[(.ref gx), (.int mb), (.int mq)] 6)) t := fun t k => pre19 t (by
      show Steps p.tables e below (T18.setTop (mkF m 46 #[.val (.ref gx), .val (.int mb), .val (.int mq), .val (.int (F10 mb)), .val (.int (F10 (mb &&& mq))), .unset] [(.int (F11 2 (F10 (mb &&& mq)) mq gs)), (.int ((F11 0 (F10 (mb &&& mq)) mq gs) ||| (F11 1 (F10 (mb &&& mq)) mq gs)))])) _
      refine XS.ior X18.here hx rfl (hb hby d9_46) rfl ?_
      refine XS.aloadN X18.here hx rfl (hb hby d9_47) rfl rfl ?_
      refine XS.iconst X18.here hx rfl (hb hby d9_48) ?_
      refine XS.iload X18.here hx rfl (hb hby d9_49) rfl ?_
      refine XS.iloadN X18.here hx rfl (hb hby d9_51) rfl ?_
      exact k)
    obtain ⟨_, _, ⟨T21, L21, k21, n21⟩, -, X21, ⟨Lc21, hQ21, l21, y21, z21⟩, st21⟩ := Jvm.LawKit.callS X18 hx (y := (⟨"com/example/witgen/witgen/regex/PartitionMarkPinLaw", "at", "([JIII)I"⟩ : MethodName)) hown (mvT hZ (hw _ (List.mem_of_getElem? (i := 77) rfl))) (mvT hZ (hw _ (List.mem_of_getElem? (i := 78) rfl))) (mvT hZ (hw _ (List.mem_of_getElem? (i := 4) rfl))) (mvT hZ (hw _ (List.mem_of_getElem? (i := 79) rfl))) (by decide) (backOf (W := 1) (rm11 l Z a0 hw [] gx 3 (F10 (mb &&& mq)) mq _ T18.heap n0 _ R18 (by decide) (hgl)) hZ (hw _ (List.mem_of_getElem? (i := 79) rfl)) (hw _ (List.mem_of_getElem? (i := 4) rfl)) (by decide) (by decide)) (g := (mkF m 52 #[.val (.ref gx), .val (.int mb), .val (.int mq), .val (.int (F10 mb)), .val (.int (F10 (mb &&& mq))), .unset] [(.int mq), (.int (F10 (mb &&& mq))), (.int (3 : Int32)), (.ref gx), (.int (((F11 0 (F10 (mb &&& mq)) mq gs) ||| (F11 1 (F10 (mb &&& mq)) mq gs)) ||| (F11 2 (F10 (mb &&& mq)) mq gs)))])) rfl (by rw [hml]; rfl) (argsL := [(.ref gx), (.int (3 : Int32)), (.int (F10 (mb &&& mq))), (.int mq)]) (rest := [(.int (((F11 0 (F10 (mb &&& mq)) mq gs) ||| (F11 1 (F10 (mb &&& mq)) mq gs)) ||| (F11 2 (F10 (mb &&& mq)) mq gs)))]) (lenOf pd__28_5bJIII_29I rfl) rfl (by show 2 * 0 + _ ≤ _; exact Nat.le_of_eq rfl) (hb hby d9_52) (fun _ _ => ⟨rfl, rfl, (by decide : 0 + 0 ≤ _), (by decide : 0 + 0 ≤ _)⟩)
    dsimp only [Pt.U, Pt.locs, Pt.cells, Pt.slots] at X21 l21 y21 z21 st21 hQ21
    subst y21 z21
    obtain ⟨rfl, N21q, R21⟩ := hQ21
    have N21 : Fr n0 L21 := by rw [l21]; exact Fr.app N18 N21q
    replace R21 : Rep Z n0 T21.heap ((gx, Ar .long (ll gs)) :: Rst) := R21
    have pre22 : ∀ t, Steps p.tables e below (T21.setTop (mkF m 55 #[.val (.ref gx), .val (.int mb), .val (.int mq), .val (.int (F10 mb)), .val (.int (F10 (mb &&& mq))), .unset] [(.int (F11 3 (F10 (mb &&& mq)) mq gs)), (.int (((F11 0 (F10 (mb &&& mq)) mq gs) ||| (F11 1 (F10 (mb &&& mq)) mq gs)) ||| (F11 2 (F10 (mb &&& mq)) mq gs)))])) t → Steps p.tables e below (s₁.setTop (entryFrame m #[(.ref gx), (.int mb), (.int mq)] 6)) t := fun t k => pre20 t (st21 t k)
    have pre25 : ∀ t, Steps p.tables e below (T21.setTop (mkF m 61 #[.val (.ref gx), .val (.int mb), .val (.int mq), .val (.int (F10 mb)), .val (.int (F10 (mb &&& mq))), .val (.int ((((F11 0 (F10 (mb &&& mq)) mq gs) ||| (F11 1 (F10 (mb &&& mq)) mq gs)) ||| (F11 2 (F10 (mb &&& mq)) mq gs)) ||| (F11 3 (F10 (mb &&& mq)) mq gs)))] [(.int mb), (.int ((((F11 0 (F10 (mb &&& mq)) mq gs) ||| (F11 1 (F10 (mb &&& mq)) mq gs)) ||| (F11 2 (F10 (mb &&& mq)) mq gs)) ||| (F11 3 (F10 (mb &&& mq)) mq gs)))])) t → Steps p.tables e below (s₁.setTop (entryFrame m #[(.ref gx), (.int mb), (.int mq)] 6)) t := fun t k => pre22 t (by
      show Steps p.tables e below (T21.setTop (mkF m 55 #[.val (.ref gx), .val (.int mb), .val (.int mq), .val (.int (F10 mb)), .val (.int (F10 (mb &&& mq))), .unset] [(.int (F11 3 (F10 (mb &&& mq)) mq gs)), (.int (((F11 0 (F10 (mb &&& mq)) mq gs) ||| (F11 1 (F10 (mb &&& mq)) mq gs)) ||| (F11 2 (F10 (mb &&& mq)) mq gs)))])) _
      refine XS.ior X21.here hx rfl (hb hby d9_55) rfl ?_
      refine XS.istore X21.here hx rfl (hb hby d9_56) rfl (l' := #[.val (.ref gx), .val (.int mb), .val (.int mq), .val (.int (F10 mb)), .val (.int (F10 (mb &&& mq))), .val (.int ((((F11 0 (F10 (mb &&& mq)) mq gs) ||| (F11 1 (F10 (mb &&& mq)) mq gs)) ||| (F11 2 (F10 (mb &&& mq)) mq gs)) ||| (F11 3 (F10 (mb &&& mq)) mq gs)))]) rfl ?_
      refine XS.iload X21.here hx rfl (hb hby d9_58) rfl ?_
      refine XS.iloadN X21.here hx rfl (hb hby d9_60) rfl ?_
      exact k)
    have tl24 : ∀ t, Steps p.tables e below (T21.setTop (mkF m 69 #[.val (.ref gx), .val (.int mb), .val (.int mq), .val (.int (F10 mb)), .val (.int (F10 (mb &&& mq))), .val (.int ((((F11 0 (F10 (mb &&& mq)) mq gs) ||| (F11 1 (F10 (mb &&& mq)) mq gs)) ||| (F11 2 (F10 (mb &&& mq)) mq gs)) ||| (F11 3 (F10 (mb &&& mq)) mq gs)))] [(.int (bz (((((F11 0 (F10 (mb &&& mq)) mq gs) ||| (F11 1 (F10 (mb &&& mq)) mq gs)) ||| (F11 2 (F10 (mb &&& mq)) mq gs)) ||| (F11 3 (F10 (mb &&& mq)) mq gs)) = mb)))])) t → Steps p.tables e below (T21.setTop (mkF m 61 #[.val (.ref gx), .val (.int mb), .val (.int mq), .val (.int (F10 mb)), .val (.int (F10 (mb &&& mq))), .val (.int ((((F11 0 (F10 (mb &&& mq)) mq gs) ||| (F11 1 (F10 (mb &&& mq)) mq gs)) ||| (F11 2 (F10 (mb &&& mq)) mq gs)) ||| (F11 3 (F10 (mb &&& mq)) mq gs)))] [(.int mb), (.int ((((F11 0 (F10 (mb &&& mq)) mq gs) ||| (F11 1 (F10 (mb &&& mq)) mq gs)) ||| (F11 2 (F10 (mb &&& mq)) mq gs)) ||| (F11 3 (F10 (mb &&& mq)) mq gs)))])) t := fun t k => by
      by_cases hb23 : ((((F11 0 (F10 (mb &&& mq)) mq gs) ||| (F11 1 (F10 (mb &&& mq)) mq gs)) ||| (F11 2 (F10 (mb &&& mq)) mq gs)) ||| (F11 3 (F10 (mb &&& mq)) mq gs)) = mb
      · refine XS.icmpNo X21.here hx rfl (hb hby d9_61) rfl (teq hb23).2 ?_
        rw [bz_one (P := (((((F11 0 (F10 (mb &&& mq)) mq gs) ||| (F11 1 (F10 (mb &&& mq)) mq gs)) ||| (F11 2 (F10 (mb &&& mq)) mq gs)) ||| (F11 3 (F10 (mb &&& mq)) mq gs)) = mb)) (iff_true_intro hb23)] at k
        show Steps p.tables e below (T21.setTop (mkF m 64 #[.val (.ref gx), .val (.int mb), .val (.int mq), .val (.int (F10 mb)), .val (.int (F10 (mb &&& mq))), .val (.int ((((F11 0 (F10 (mb &&& mq)) mq gs) ||| (F11 1 (F10 (mb &&& mq)) mq gs)) ||| (F11 2 (F10 (mb &&& mq)) mq gs)) ||| (F11 3 (F10 (mb &&& mq)) mq gs)))] [])) _
        refine XS.iconst X21.here hx rfl (hb hby d9_64) ?_
        refine XS.goto X21.here hx rfl (pc0 := 65) (pc' := 69) rfl (hb hby d9_65) (by decide) (by decide) ?_
        exact k
      · refine XS.icmpYes X21.here hx rfl (pc0 := 61) (pc' := 68) rfl (hb hby d9_61) rfl (feq hb23).2 (by decide) (by decide) ?_
        rw [bz_zero (P := (((((F11 0 (F10 (mb &&& mq)) mq gs) ||| (F11 1 (F10 (mb &&& mq)) mq gs)) ||| (F11 2 (F10 (mb &&& mq)) mq gs)) ||| (F11 3 (F10 (mb &&& mq)) mq gs)) = mb)) (iff_false_intro hb23)] at k
        show Steps p.tables e below (T21.setTop (mkF m 68 #[.val (.ref gx), .val (.int mb), .val (.int mq), .val (.int (F10 mb)), .val (.int (F10 (mb &&& mq))), .val (.int ((((F11 0 (F10 (mb &&& mq)) mq gs) ||| (F11 1 (F10 (mb &&& mq)) mq gs)) ||| (F11 2 (F10 (mb &&& mq)) mq gs)) ||| (F11 3 (F10 (mb &&& mq)) mq gs)))] [])) _
        refine XS.iconst X21.here hx rfl (hb hby d9_68) ?_
        exact k
    have pre26 : ∀ t, Steps p.tables e below (T21.setTop (mkF m 69 #[.val (.ref gx), .val (.int mb), .val (.int mq), .val (.int (F10 mb)), .val (.int (F10 (mb &&& mq))), .val (.int ((((F11 0 (F10 (mb &&& mq)) mq gs) ||| (F11 1 (F10 (mb &&& mq)) mq gs)) ||| (F11 2 (F10 (mb &&& mq)) mq gs)) ||| (F11 3 (F10 (mb &&& mq)) mq gs)))] [(.int (bz (((((F11 0 (F10 (mb &&& mq)) mq gs) ||| (F11 1 (F10 (mb &&& mq)) mq gs)) ||| (F11 2 (F10 (mb &&& mq)) mq gs)) ||| (F11 3 (F10 (mb &&& mq)) mq gs)) = mb)))])) t → Steps p.tables e below (s₁.setTop (entryFrame m #[(.ref gx), (.int mb), (.int mq)] 6)) t := fun t k => pre25 t (by
      exact tl24 t k)
    obtain ⟨fs, hr, hrun, hended, hW, hsame⟩ := X21.leave (v := some (.int (nar .boolean (bz (((((F11 0 (F10 (mb &&& mq)) mq gs) ||| (F11 1 (F10 (mb &&& mq)) mq gs)) ||| (F11 2 (F10 (mb &&& mq)) mq gs)) ||| (F11 3 (F10 (mb &&& mq)) mq gs)) = mb))))) (fun h => by rw [Bd.returns] at h; cases h) (BodyLoose.notSynchronized Bd)
    refine ⟨_, _, pre26 _ ?_, hrun, hended, _, _, rfl, ?_, ⟨_, rfl⟩, hW, hsame.mono (by decide) (by decide)⟩
    · show Steps p.tables e below (T21.setTop (mkF m 69 #[.val (.ref gx), .val (.int mb), .val (.int mq), .val (.int (F10 mb)), .val (.int (F10 (mb &&& mq))), .val (.int ((((F11 0 (F10 (mb &&& mq)) mq gs) ||| (F11 1 (F10 (mb &&& mq)) mq gs)) ||| (F11 2 (F10 (mb &&& mq)) mq gs)) ||| (F11 3 (F10 (mb &&& mq)) mq gs)))] [(.int (bz (((((F11 0 (F10 (mb &&& mq)) mq gs) ||| (F11 1 (F10 (mb &&& mq)) mq gs)) ||| (F11 2 (F10 (mb &&& mq)) mq gs)) ||| (F11 3 (F10 (mb &&& mq)) mq gs)) = mb)))])) _
      exact retN X21 hx (t := .boolean) Bd.returns (by simp) (hb hby d9_69) hr
    · show Q9 Z gx mb mq gs n0 Rst _ T21.heap _
      exact ⟨(by exact congrArg (fun z => some (Value.int z)) (by simp only [F9, if_pos hb9] <;> first | rfl | exact nar_b _ | decide)), N21, R21⟩
  · have pre27 : ∀ t, Steps p.tables e below (T5.setTop (mkF m 19 #[.val (.ref gx), .val (.int mb), .val (.int mq), .val (.int (F10 mb)), .val (.int (F10 (mb &&& mq))), .unset] [])) t → Steps p.tables e below (s₁.setTop (entryFrame m #[(.ref gx), (.int mb), (.int mq)] 6)) t := fun t k => pre7 t (by show Steps p.tables e below (T5.setTop (mkF m 16 #[.val (.ref gx), .val (.int mb), .val (.int mq), .val (.int (F10 mb)), .val (.int (F10 (mb &&& mq))), .unset] [(.int (F10 mb)), (.int (Int32.ofNat ((ll gs)).length))])) _; refine XS.icmpNo X5.here hx rfl (hb hby d9_16) rfl (feq hb9).1 ?_; exact k)
    have pre28 : ∀ t, Steps p.tables e below (T5.setTop (mkF m 20 #[.val (.ref gx), .val (.int mb), .val (.int mq), .val (.int (F10 mb)), .val (.int (F10 (mb &&& mq))), .unset] [(.int (0 : Int32))])) t → Steps p.tables e below (s₁.setTop (entryFrame m #[(.ref gx), (.int mb), (.int mq)] 6)) t := fun t k => pre27 t (by
      show Steps p.tables e below (T5.setTop (mkF m 19 #[.val (.ref gx), .val (.int mb), .val (.int mq), .val (.int (F10 mb)), .val (.int (F10 (mb &&& mq))), .unset] [])) _
      refine XS.iconst X5.here hx rfl (hb hby d9_19) ?_
      exact k)
    obtain ⟨fs, hr, hrun, hended, hW, hsame⟩ := X5.leave (v := some (.int (nar .boolean (0 : Int32)))) (fun h => by rw [Bd.returns] at h; cases h) (BodyLoose.notSynchronized Bd)
    refine ⟨_, _, pre28 _ ?_, hrun, hended, _, _, rfl, ?_, ⟨_, rfl⟩, hW, hsame.mono (by decide) (by decide)⟩
    · show Steps p.tables e below (T5.setTop (mkF m 20 #[.val (.ref gx), .val (.int mb), .val (.int mq), .val (.int (F10 mb)), .val (.int (F10 (mb &&& mq))), .unset] [(.int (0 : Int32))])) _
      exact retN X5 hx (t := .boolean) Bd.returns (by simp) (hb hby d9_20) hr
    · show Q9 Z gx mb mq gs n0 Rst _ T5.heap _
      exact ⟨(by exact congrArg (fun z => some (Value.int z)) (by simp only [F9, if_neg hb9] <;> first | rfl | exact nar_b _ | decide)), N5, R5⟩
theorem d12_0 : decode method_7_code 0 = .ok (.aload_n 2, 1) := by decide +kernel
theorem d12_1 : decode method_7_code 1 = .ok (.arraylength, 1) := by decide +kernel
theorem d12_2 : decode method_7_code 2 = .ok (.ifCond .le 16, 3) := by decide +kernel
theorem d12_5 : decode method_7_code 5 = .ok (.aload_n 2, 1) := by decide +kernel
theorem d12_6 : decode method_7_code 6 = .ok (.iconst 0, 1) := by decide +kernel
theorem d12_7 : decode method_7_code 7 = .ok (.laload, 1) := by decide +kernel
theorem d12_8 : decode method_7_code 8 = .ok (.iload_n 1, 1) := by decide +kernel
theorem d12_9 : decode method_7_code 9 = .ok (.i2l, 1) := by decide +kernel
theorem d12_10 : decode method_7_code 10 = .ok (.lcmp, 1) := by decide +kernel
theorem d12_11 : decode method_7_code 11 = .ok (.ifCond .ne 7, 3) := by decide +kernel
theorem d12_14 : decode method_7_code 14 = .ok (.iconst 1, 1) := by decide +kernel
theorem d12_15 : decode method_7_code 15 = .ok (.goto 4, 3) := by decide +kernel
theorem d12_18 : decode method_7_code 18 = .ok (.iconst 0, 1) := by decide +kernel
theorem d12_19 : decode method_7_code 19 = .ok (.istore_n 3, 1) := by decide +kernel
theorem d12_20 : decode method_7_code 20 = .ok (.aload_n 0, 1) := by decide +kernel
theorem d12_21 : decode method_7_code 21 = .ok (.iload_n 1, 1) := by decide +kernel
theorem d12_22 : decode method_7_code 22 = .ok (.invokevirtual 47, 3) := by decide +kernel
theorem pd__28I_29Z : parseMethodDescriptor "(I)Z" = some ⟨[.int], some .boolean⟩ := by decide +kernel
theorem d12_25 : decode method_7_code 25 = .ok (.iload_n 3, 1) := by decide +kernel
theorem d12_26 : decode method_7_code 26 = .ok (.if_icmp .ne 7, 3) := by decide +kernel
theorem d12_29 : decode method_7_code 29 = .ok (.iconst 1, 1) := by decide +kernel
theorem d12_30 : decode method_7_code 30 = .ok (.goto 4, 3) := by decide +kernel
theorem d12_33 : decode method_7_code 33 = .ok (.iconst 0, 1) := by decide +kernel
theorem d12_34 : decode method_7_code 34 = .ok (.ireturn, 1) := by decide +kernel
theorem ef_12 (m : MethodId) (x0 : Addr) (x1 : Nat) (x2 : Addr) : entryFrame m #[(.ref x0), (.int (Int32.ofNat x1)), (.ref x2)] 4 = mkF m 0 #[.val (.ref x0), .val (.int (Int32.ofNat x1)), .val (.ref x2), .unset] [] := by first | (simp [entryFrame, mkF, argsToLocals, Value.category]; done) | rfl
def F12 (ek : Nat) (lo : List Nat) (bo : List Nat) (sta : List Nat) (gs : List Nat) : Int32 :=
  (bz ((F13 ek lo bo sta) = (bz (((0 : Int32) < (Int32.ofNat ((ll gs)).length)) ∧ ((Int64.ofNat (gs.getD 0 0)) = ((Int32.ofNat ek).toInt64))))))
def Q12 (Z : State) (ax : Addr) (ek : Nat) (gx : Addr) (b1 : Addr) (b2 : Addr) (b3 : Addr) (b4 : Addr) (b5 : Addr) (b6 : Addr) (b7 : Addr) (cnt : Nat) (tc : Nat) (lo : List Nat) (bo : List Nat) (sta : List Nat) (gs : List Nat) (n0 : Nat) (Rst : RL) (v : Option Value) (h : Heap) (L : List Loc) : Prop := v = some (.int (F12 ek lo bo sta gs)) ∧ Fr n0 L ∧ Rep Z n0 h ((ax, Obj "com/example/witgen/witgen/regex/Partition" [("elements", "[I", (.ref b1)), ("location", "[I", (.ref b2)), ("blockOf", "[I", (.ref b3)), ("start", "[I", (.ref b4)), ("end", "[I", (.ref b5)), ("marked", "[I", (.ref b6)), ("touched", "[I", (.ref b7)), ("blocks", "I", (.int (Int32.ofNat cnt))), ("touchedCount", "I", (.int (Int32.ofNat tc)))]) :: (b2, Ar .int (nl lo)) :: (b3, Ar .int (nl bo)) :: (b4, Ar .int (nl sta)) :: (gx, Ar .long (ll gs)) :: Rst)
set_option maxRecDepth 65536 in
set_option maxHeartbeats 40000000 in
theorem rm12 (l : Launch) (Z : State) (a0 : Array Value) (hw : ∀ d ∈ tables_1, d.before a0 Z = true) (ws : List Jvm.Cond) (ax : Addr) (ek : Nat) (gx : Addr) (b1 : Addr) (b2 : Addr) (b3 : Addr) (b4 : Addr) (b5 : Addr) (b6 : Addr) (b7 : Addr) (cnt : Nat) (tc : Nat) (lo : List Nat) (bo : List Nat) (sta : List Nat) (gs : List Nat) (h0 : Heap) (n0 : Nat) (Rst : RL) (R0 : Rep Z n0 h0 ((ax, Obj "com/example/witgen/witgen/regex/Partition" [("elements", "[I", (.ref b1)), ("location", "[I", (.ref b2)), ("blockOf", "[I", (.ref b3)), ("start", "[I", (.ref b4)), ("end", "[I", (.ref b5)), ("marked", "[I", (.ref b6)), ("touched", "[I", (.ref b7)), ("blocks", "I", (.int (Int32.ofNat cnt))), ("touchedCount", "I", (.int (Int32.ofNat tc)))]) :: (b2, Ar .int (nl lo)) :: (b3, Ar .int (nl bo)) :: (b4, Ar .int (nl sta)) :: (gx, Ar .long (ll gs)) :: Rst)) (p1 : ek < lo.length) (p2 : ek < 1000) (p3 : ek < bo.length) (p4 : bo.getD ek 0 < sta.length) (p5 : bo.getD ek 0 < 1000) (hgl : gs.length < 1000) :
    MetFree l (⟨"com/example/witgen/witgen/regex/PartitionMarkPinLaw", "firstOk", "(Lcom/example/witgen/witgen/regex/Partition;I[J)Z"⟩ : MethodName) (head1 (Jvm.Cond.code (⟨"com/example/witgen/witgen/regex/PartitionMarkPinLaw", "firstOk", "(Lcom/example/witgen/witgen/regex/Partition;I[J)Z"⟩ : MethodName) method_7_code 4 (some .boolean) :: ws) ({ frames := 1, cells := 0, slots := 0, locals := 13 } : Room)) (fun a U => a = #[(.ref ax), (.int (Int32.ofNat ek)), (.ref gx)] ∧ Z.Warmed39 U.vm ∧ U.heap = h0) (fun _ _ _ _ _ => True) (fun _ U o U' => ∃ v L, o = .returned v ∧ Q12 Z ax ek gx b1 b2 b3 b4 b5 b6 b7 cnt tc lo bo sta gs n0 Rst v U'.heap L ∧ FrameEnd U o U' L ({ frames := 1, cells := 0, slots := 0, locals := 13 } : Room).cells ({ frames := 1, cells := 0, slots := 0, locals := 13 } : Room).slots) := by
  refine MetFree.of_bodySF (plainFor_of_name pn_com_example_witgen_witgen_regex_PartitionMarkPinLaw) hisR ?_
  intro p e s m args below meth c s₁ Bd hml0 hP hK
  obtain ⟨rfl, hZ, hh⟩ := hP
  have hx := Bd.exec
  have hby := Bd.bytes
  have hml : c.maxLocals = 4 := hml0
  have hown : s.vm.findClass "com/example/witgen/witgen/regex/PartitionMarkPinLaw" = some m.cls := findClass_of_methodNamed Bd.named
  have hnm := (name_of_methodNamed Bd.named Bd.method).1
  have X0 : Stand p l e ({ frames := 1, cells := 0, slots := 0, locals := 13 } : Room) s m #[(.ref ax), (.int (Int32.ofNat ek)), (.ref gx)] below meth c s₁ [] 0 0 := Stand.of_body Bd
  have e0 : s₁.heap = h0 := by rw [← hh, Bd.state]; rfl
  have N0 := Fr.nil n0
  have pre0 : ∀ t, Steps p.tables e below (s₁.setTop (mkF m 0 #[.val (.ref ax), .val (.int (Int32.ofNat ek)), .val (.ref gx), .unset] [])) t → Steps p.tables e below (s₁.setTop (entryFrame m #[(.ref ax), (.int (Int32.ofNat ek)), (.ref gx)] 4)) t := fun t k => castTop (ef_12 m ax ek gx) k
  have pre5 : ∀ t, Steps p.tables e below (s₁.setTop (mkF m 2 #[.val (.ref ax), .val (.int (Int32.ofNat ek)), .val (.ref gx), .unset] [(.int (Int32.ofNat ((ll gs)).length))])) t → Steps p.tables e below (s₁.setTop (entryFrame m #[(.ref ax), (.int (Int32.ofNat ek)), (.ref gx)] 4)) t := fun t k => pre0 t (by
    show Steps p.tables e below (s₁.setTop (mkF m 0 #[.val (.ref ax), .val (.int (Int32.ofNat ek)), .val (.ref gx), .unset] [])) _
    refine XS.aloadN X0.here hx rfl (hb hby d12_0) rfl rfl ?_
    refine gLen X0 hx hZ e0 R0 4 rfl (g := (mkF m 1 #[.val (.ref ax), .val (.int (Int32.ofNat ek)), .val (.ref gx), .unset] [(.ref gx)])) rfl rfl (hb hby d12_1) (z := (Int32.ofNat ((ll gs)).length)) (rfl) _ ?_
    exact k)
  have tl3 : ∀ t, Steps p.tables e below (s₁.setTop (mkF m 19 #[.val (.ref ax), .val (.int (Int32.ofNat ek)), .val (.ref gx), .unset] [(.int (bz ((Int64.ofNat (gs.getD 0 0)) = ((Int32.ofNat ek).toInt64))))])) t → Steps p.tables e below (s₁.setTop (mkF m 11 #[.val (.ref ax), .val (.int (Int32.ofNat ek)), .val (.ref gx), .unset] [(.int (XT.cmpL (Int64.ofNat (gs.getD 0 0)) ((Int32.ofNat ek).toInt64)))])) t := fun t k => by
    by_cases hb2 : (Int64.ofNat (gs.getD 0 0)) = ((Int32.ofNat ek).toInt64)
    · refine XS.ifNo X0.here hx rfl (hb hby d12_11) rfl (XT.ll_ne_f hb2) ?_
      rw [bz_one (P := ((Int64.ofNat (gs.getD 0 0)) = ((Int32.ofNat ek).toInt64))) (iff_true_intro hb2)] at k
      show Steps p.tables e below (s₁.setTop (mkF m 14 #[.val (.ref ax), .val (.int (Int32.ofNat ek)), .val (.ref gx), .unset] [])) _
      refine XS.iconst X0.here hx rfl (hb hby d12_14) ?_
      refine XS.goto X0.here hx rfl (pc0 := 15) (pc' := 19) rfl (hb hby d12_15) (by decide) (by decide) ?_
      exact k
    · refine XS.ifYes X0.here hx rfl (pc0 := 11) (pc' := 18) rfl (hb hby d12_11) rfl (XT.ll_ne_t hb2) (by decide) (by decide) ?_
      rw [bz_zero (P := ((Int64.ofNat (gs.getD 0 0)) = ((Int32.ofNat ek).toInt64))) (iff_false_intro hb2)] at k
      show Steps p.tables e below (s₁.setTop (mkF m 18 #[.val (.ref ax), .val (.int (Int32.ofNat ek)), .val (.ref gx), .unset] [])) _
      refine XS.iconst X0.here hx rfl (hb hby d12_18) ?_
      exact k
  have tl4 : ∀ t, Steps p.tables e below (s₁.setTop (mkF m 19 #[.val (.ref ax), .val (.int (Int32.ofNat ek)), .val (.ref gx), .unset] [(.int (bz (((0 : Int32) < (Int32.ofNat ((ll gs)).length)) ∧ ((Int64.ofNat (gs.getD 0 0)) = ((Int32.ofNat ek).toInt64)))))])) t → Steps p.tables e below (s₁.setTop (mkF m 2 #[.val (.ref ax), .val (.int (Int32.ofNat ek)), .val (.ref gx), .unset] [(.int (Int32.ofNat ((ll gs)).length))])) t := fun t k => by
    by_cases hb1 : (0 : Int32) < (Int32.ofNat ((ll gs)).length)
    · refine XS.ifNo X0.here hx rfl (hb hby d12_2) rfl ((if0 _ _).trans (tlt hb1).2.2.2) ?_
      rw [bz_congr (P := (((0 : Int32) < (Int32.ofNat ((ll gs)).length)) ∧ ((Int64.ofNat (gs.getD 0 0)) = ((Int32.ofNat ek).toInt64)))) (Q := ((Int64.ofNat (gs.getD 0 0)) = ((Int32.ofNat ek).toInt64))) (and_iff_right hb1)] at k
      show Steps p.tables e below (s₁.setTop (mkF m 5 #[.val (.ref ax), .val (.int (Int32.ofNat ek)), .val (.ref gx), .unset] [])) _
      refine XS.aloadN X0.here hx rfl (hb hby d12_5) rfl rfl ?_
      refine XS.iconst X0.here hx rfl (hb hby d12_6) ?_
      refine gLald X0 hx hZ e0 R0 4 rfl (j := (0 : Int32)) (v := (.long (Int64.ofNat (gs.getD 0 0)))) (by decide) (ll_at0 (by assumption) hgl) (g := (mkF m 7 #[.val (.ref ax), .val (.int (Int32.ofNat ek)), .val (.ref gx), .unset] [(.int (0 : Int32)), (.ref gx)])) rfl rfl (hb hby d12_7) _ ?_
      refine XS.iloadN X0.here hx rfl (hb hby d12_8) rfl ?_
      refine XS.i2l X0.here hx rfl (hb hby d12_9) rfl ?_
      refine XS.lcmp X0.here hx rfl (hb hby d12_10) rfl ?_
      exact tl3 t k
    · refine XS.ifYes X0.here hx rfl (pc0 := 2) (pc' := 18) rfl (hb hby d12_2) rfl ((if0 _ _).trans (flt hb1).2.2.2) (by decide) (by decide) ?_
      rw [bz_zero (P := (((0 : Int32) < (Int32.ofNat ((ll gs)).length)) ∧ ((Int64.ofNat (gs.getD 0 0)) = ((Int32.ofNat ek).toInt64)))) (iff_false_intro (fun q => hb1 q.1))] at k
      show Steps p.tables e below (s₁.setTop (mkF m 18 #[.val (.ref ax), .val (.int (Int32.ofNat ek)), .val (.ref gx), .unset] [])) _
      refine XS.iconst X0.here hx rfl (hb hby d12_18) ?_
      exact k
  have pre6 : ∀ t, Steps p.tables e below (s₁.setTop (mkF m 19 #[.val (.ref ax), .val (.int (Int32.ofNat ek)), .val (.ref gx), .unset] [(.int (bz (((0 : Int32) < (Int32.ofNat ((ll gs)).length)) ∧ ((Int64.ofNat (gs.getD 0 0)) = ((Int32.ofNat ek).toInt64)))))])) t → Steps p.tables e below (s₁.setTop (entryFrame m #[(.ref ax), (.int (Int32.ofNat ek)), (.ref gx)] 4)) t := fun t k => pre5 t (by
    exact tl4 t k)
  have pre7 : ∀ t, Steps p.tables e below (s₁.setTop (mkF m 22 #[.val (.ref ax), .val (.int (Int32.ofNat ek)), .val (.ref gx), .val (.int (bz (((0 : Int32) < (Int32.ofNat ((ll gs)).length)) ∧ ((Int64.ofNat (gs.getD 0 0)) = ((Int32.ofNat ek).toInt64)))))] [(.int (Int32.ofNat ek)), (.ref ax)])) t → Steps p.tables e below (s₁.setTop (entryFrame m #[(.ref ax), (.int (Int32.ofNat ek)), (.ref gx)] 4)) t := fun t k => pre6 t (by
    show Steps p.tables e below (s₁.setTop (mkF m 19 #[.val (.ref ax), .val (.int (Int32.ofNat ek)), .val (.ref gx), .unset] [(.int (bz (((0 : Int32) < (Int32.ofNat ((ll gs)).length)) ∧ ((Int64.ofNat (gs.getD 0 0)) = ((Int32.ofNat ek).toInt64)))))])) _
    refine XS.istoreN X0.here hx rfl (hb hby d12_19) rfl (l' := #[.val (.ref ax), .val (.int (Int32.ofNat ek)), .val (.ref gx), .val (.int (bz (((0 : Int32) < (Int32.ofNat ((ll gs)).length)) ∧ ((Int64.ofNat (gs.getD 0 0)) = ((Int32.ofNat ek).toInt64)))))]) rfl ?_
    refine XS.aloadN X0.here hx rfl (hb hby d12_20) rfl rfl ?_
    refine XS.iloadN X0.here hx rfl (hb hby d12_21) rfl ?_
    exact k)
  obtain ⟨cq8, kq8, q8a, q8b, q8c⟩ := isOf hZ e0 (R0.exa (i := 0) rfl)
  obtain ⟨_, _, ⟨T8, L8, k8, n8⟩, -, X8, ⟨Lc8, hQ8, l8, y8, z8⟩, st8⟩ := X0.virtualBack hx (y := (⟨"com/example/witgen/witgen/regex/Partition", "isFirstOfBlock", "(I)Z"⟩ : MethodName)) (z := (⟨"com/example/witgen/witgen/regex/Partition", "isFirstOfBlock", "(I)Z"⟩ : MethodName)) hown (mvT hZ (hw _ (List.mem_of_getElem? (i := 83) rfl))) (mvT hZ (hw _ (List.mem_of_getElem? (i := 84) rfl))) (notFace_of_selects (args := #[]) (mvT hZ (hw _ (List.mem_of_getElem? (i := 86) rfl)))) (mvT hZ (hw _ (List.mem_of_getElem? (i := 86) rfl))) (mvT hZ (hw _ (List.mem_of_getElem? (i := 85) rfl))) (by decide) (backOf (W := 0) (rm13 l Z a0 hw [] ax ek _ _ _ _ _ _ _ _ _ _ _ _ h0 n0 _ R0 (p1) (p2) (p3) (p2) (p4) (p5)) hZ (hw _ (List.mem_of_getElem? (i := 87) rfl)) (hw _ (List.mem_of_getElem? (i := 11) rfl)) (by decide) (by decide)) q8a q8c (g := (mkF m 22 #[.val (.ref ax), .val (.int (Int32.ofNat ek)), .val (.ref gx), .val (.int (bz (((0 : Int32) < (Int32.ofNat ((ll gs)).length)) ∧ ((Int64.ofNat (gs.getD 0 0)) = ((Int32.ofNat ek).toInt64)))))] [(.int (Int32.ofNat ek)), (.ref ax)])) rfl (by rw [hml]; rfl) (Steps.refl _) (argsL := [(.int (Int32.ofNat ek))]) (rest := []) (lenOf pd__28I_29Z rfl) rfl (by show 2 * 0 + _ ≤ _; exact Nat.le_of_eq rfl) (hb hby d12_22) (fun _ _ => ⟨rfl, e0, (by decide : 0 + 0 ≤ _), (by decide : 0 + 0 ≤ _)⟩)
  dsimp only [Pt.U, Pt.locs, Pt.cells, Pt.slots] at X8 l8 y8 z8 st8 hQ8
  subst y8 z8
  obtain ⟨rfl, N8q, R8⟩ := hQ8
  have N8 : Fr n0 L8 := by rw [l8]; exact Fr.app N0 N8q
  replace R8 : Rep Z n0 T8.heap ((ax, Obj "com/example/witgen/witgen/regex/Partition" [("elements", "[I", (.ref b1)), ("location", "[I", (.ref b2)), ("blockOf", "[I", (.ref b3)), ("start", "[I", (.ref b4)), ("end", "[I", (.ref b5)), ("marked", "[I", (.ref b6)), ("touched", "[I", (.ref b7)), ("blocks", "I", (.int (Int32.ofNat cnt))), ("touchedCount", "I", (.int (Int32.ofNat tc)))]) :: (b2, Ar .int (nl lo)) :: (b3, Ar .int (nl bo)) :: (b4, Ar .int (nl sta)) :: (gx, Ar .long (ll gs)) :: Rst) := R8
  have pre9 : ∀ t, Steps p.tables e below (T8.setTop (mkF m 25 #[.val (.ref ax), .val (.int (Int32.ofNat ek)), .val (.ref gx), .val (.int (bz (((0 : Int32) < (Int32.ofNat ((ll gs)).length)) ∧ ((Int64.ofNat (gs.getD 0 0)) = ((Int32.ofNat ek).toInt64)))))] [(.int (F13 ek lo bo sta))])) t → Steps p.tables e below (s₁.setTop (entryFrame m #[(.ref ax), (.int (Int32.ofNat ek)), (.ref gx)] 4)) t := fun t k => pre7 t (st8.trans k)
  have pre12 : ∀ t, Steps p.tables e below (T8.setTop (mkF m 26 #[.val (.ref ax), .val (.int (Int32.ofNat ek)), .val (.ref gx), .val (.int (bz (((0 : Int32) < (Int32.ofNat ((ll gs)).length)) ∧ ((Int64.ofNat (gs.getD 0 0)) = ((Int32.ofNat ek).toInt64)))))] [(.int (bz (((0 : Int32) < (Int32.ofNat ((ll gs)).length)) ∧ ((Int64.ofNat (gs.getD 0 0)) = ((Int32.ofNat ek).toInt64))))), (.int (F13 ek lo bo sta))])) t → Steps p.tables e below (s₁.setTop (entryFrame m #[(.ref ax), (.int (Int32.ofNat ek)), (.ref gx)] 4)) t := fun t k => pre9 t (by
    show Steps p.tables e below (T8.setTop (mkF m 25 #[.val (.ref ax), .val (.int (Int32.ofNat ek)), .val (.ref gx), .val (.int (bz (((0 : Int32) < (Int32.ofNat ((ll gs)).length)) ∧ ((Int64.ofNat (gs.getD 0 0)) = ((Int32.ofNat ek).toInt64)))))] [(.int (F13 ek lo bo sta))])) _
    refine XS.iloadN X8.here hx rfl (hb hby d12_25) rfl ?_
    exact k)
  have tl11 : ∀ t, Steps p.tables e below (T8.setTop (mkF m 34 #[.val (.ref ax), .val (.int (Int32.ofNat ek)), .val (.ref gx), .val (.int (bz (((0 : Int32) < (Int32.ofNat ((ll gs)).length)) ∧ ((Int64.ofNat (gs.getD 0 0)) = ((Int32.ofNat ek).toInt64)))))] [(.int (bz ((F13 ek lo bo sta) = (bz (((0 : Int32) < (Int32.ofNat ((ll gs)).length)) ∧ ((Int64.ofNat (gs.getD 0 0)) = ((Int32.ofNat ek).toInt64)))))))])) t → Steps p.tables e below (T8.setTop (mkF m 26 #[.val (.ref ax), .val (.int (Int32.ofNat ek)), .val (.ref gx), .val (.int (bz (((0 : Int32) < (Int32.ofNat ((ll gs)).length)) ∧ ((Int64.ofNat (gs.getD 0 0)) = ((Int32.ofNat ek).toInt64)))))] [(.int (bz (((0 : Int32) < (Int32.ofNat ((ll gs)).length)) ∧ ((Int64.ofNat (gs.getD 0 0)) = ((Int32.ofNat ek).toInt64))))), (.int (F13 ek lo bo sta))])) t := fun t k => by
    by_cases hb10 : (F13 ek lo bo sta) = (bz (((0 : Int32) < (Int32.ofNat ((ll gs)).length)) ∧ ((Int64.ofNat (gs.getD 0 0)) = ((Int32.ofNat ek).toInt64))))
    · refine XS.icmpNo X8.here hx rfl (hb hby d12_26) rfl (teq hb10).2 ?_
      rw [bz_one (P := ((F13 ek lo bo sta) = (bz (((0 : Int32) < (Int32.ofNat ((ll gs)).length)) ∧ ((Int64.ofNat (gs.getD 0 0)) = ((Int32.ofNat ek).toInt64)))))) (iff_true_intro hb10)] at k
      show Steps p.tables e below (T8.setTop (mkF m 29 #[.val (.ref ax), .val (.int (Int32.ofNat ek)), .val (.ref gx), .val (.int (bz (((0 : Int32) < (Int32.ofNat ((ll gs)).length)) ∧ ((Int64.ofNat (gs.getD 0 0)) = ((Int32.ofNat ek).toInt64)))))] [])) _
      refine XS.iconst X8.here hx rfl (hb hby d12_29) ?_
      refine XS.goto X8.here hx rfl (pc0 := 30) (pc' := 34) rfl (hb hby d12_30) (by decide) (by decide) ?_
      exact k
    · refine XS.icmpYes X8.here hx rfl (pc0 := 26) (pc' := 33) rfl (hb hby d12_26) rfl (feq hb10).2 (by decide) (by decide) ?_
      rw [bz_zero (P := ((F13 ek lo bo sta) = (bz (((0 : Int32) < (Int32.ofNat ((ll gs)).length)) ∧ ((Int64.ofNat (gs.getD 0 0)) = ((Int32.ofNat ek).toInt64)))))) (iff_false_intro hb10)] at k
      show Steps p.tables e below (T8.setTop (mkF m 33 #[.val (.ref ax), .val (.int (Int32.ofNat ek)), .val (.ref gx), .val (.int (bz (((0 : Int32) < (Int32.ofNat ((ll gs)).length)) ∧ ((Int64.ofNat (gs.getD 0 0)) = ((Int32.ofNat ek).toInt64)))))] [])) _
      refine XS.iconst X8.here hx rfl (hb hby d12_33) ?_
      exact k
  have pre13 : ∀ t, Steps p.tables e below (T8.setTop (mkF m 34 #[.val (.ref ax), .val (.int (Int32.ofNat ek)), .val (.ref gx), .val (.int (bz (((0 : Int32) < (Int32.ofNat ((ll gs)).length)) ∧ ((Int64.ofNat (gs.getD 0 0)) = ((Int32.ofNat ek).toInt64)))))] [(.int (bz ((F13 ek lo bo sta) = (bz (((0 : Int32) < (Int32.ofNat ((ll gs)).length)) ∧ ((Int64.ofNat (gs.getD 0 0)) = ((Int32.ofNat ek).toInt64)))))))])) t → Steps p.tables e below (s₁.setTop (entryFrame m #[(.ref ax), (.int (Int32.ofNat ek)), (.ref gx)] 4)) t := fun t k => pre12 t (by
    exact tl11 t k)
  obtain ⟨fs, hr, hrun, hended, hW, hsame⟩ := X8.leave (v := some (.int (nar .boolean (bz ((F13 ek lo bo sta) = (bz (((0 : Int32) < (Int32.ofNat ((ll gs)).length)) ∧ ((Int64.ofNat (gs.getD 0 0)) = ((Int32.ofNat ek).toInt64))))))))) (fun h => by rw [Bd.returns] at h; cases h) (BodyLoose.notSynchronized Bd)
  refine ⟨_, _, pre13 _ ?_, hrun, hended, _, _, rfl, ?_, ⟨_, rfl⟩, hW, hsame.mono (by decide) (by decide)⟩
  · show Steps p.tables e below (T8.setTop (mkF m 34 #[.val (.ref ax), .val (.int (Int32.ofNat ek)), .val (.ref gx), .val (.int (bz (((0 : Int32) < (Int32.ofNat ((ll gs)).length)) ∧ ((Int64.ofNat (gs.getD 0 0)) = ((Int32.ofNat ek).toInt64)))))] [(.int (bz ((F13 ek lo bo sta) = (bz (((0 : Int32) < (Int32.ofNat ((ll gs)).length)) ∧ ((Int64.ofNat (gs.getD 0 0)) = ((Int32.ofNat ek).toInt64)))))))])) _
    exact retN X8 hx (t := .boolean) Bd.returns (by simp) (hb hby d12_34) hr
  · show Q12 Z ax ek gx b1 b2 b3 b4 b5 b6 b7 cnt tc lo bo sta gs n0 Rst _ T8.heap _
    exact ⟨(by exact congrArg (fun z => some (Value.int z)) (by simp only [F12] <;> first | rfl | exact nar_b _ | decide)), N8, R8⟩
theorem d8_11 : decode prog_15_method_8_code 11 = .ok (.iload 5, 2) := by decide +kernel
theorem d8_13 : decode prog_15_method_8_code 13 = .ok (.aload_n 0, 1) := by decide +kernel
theorem d8_14 : decode prog_15_method_8_code 14 = .ok (.getfield 33, 3) := by decide +kernel
theorem d8_17 : decode prog_15_method_8_code 17 = .ok (.iload_n 1, 1) := by decide +kernel
theorem d8_18 : decode prog_15_method_8_code 18 = .ok (.iaload, 1) := by decide +kernel
theorem d8_19 : decode prog_15_method_8_code 19 = .ok (.if_icmp .ge 34, 3) := by decide +kernel
theorem d8_22 : decode prog_15_method_8_code 22 = .ok (.aload_n 0, 1) := by decide +kernel
theorem d8_23 : decode prog_15_method_8_code 23 = .ok (.getfield 13, 3) := by decide +kernel
theorem d8_26 : decode prog_15_method_8_code 26 = .ok (.iload 5, 2) := by decide +kernel
theorem d8_28 : decode prog_15_method_8_code 28 = .ok (.iaload, 1) := by decide +kernel
theorem d8_29 : decode prog_15_method_8_code 29 = .ok (.istore 6, 2) := by decide +kernel
theorem d8_31 : decode prog_15_method_8_code 31 = .ok (.iload 4, 2) := by decide +kernel
theorem d8_33 : decode prog_15_method_8_code 33 = .ok (.aload_n 2, 1) := by decide +kernel
theorem d8_34 : decode prog_15_method_8_code 34 = .ok (.iload 6, 2) := by decide +kernel
theorem d8_36 : decode prog_15_method_8_code 36 = .ok (.iconst 1, 1) := by decide +kernel
theorem d8_37 : decode prog_15_method_8_code 37 = .ok (.iadd, 1) := by decide +kernel
theorem d8_38 : decode prog_15_method_8_code 38 = .ok (.iaload, 1) := by decide +kernel
theorem d8_39 : decode prog_15_method_8_code 39 = .ok (.aload_n 2, 1) := by decide +kernel
theorem d8_40 : decode prog_15_method_8_code 40 = .ok (.iload 6, 2) := by decide +kernel
theorem d8_42 : decode prog_15_method_8_code 42 = .ok (.iaload, 1) := by decide +kernel
theorem d8_43 : decode prog_15_method_8_code 43 = .ok (.isub, 1) := by decide +kernel
theorem d8_44 : decode prog_15_method_8_code 44 = .ok (.iadd, 1) := by decide +kernel
theorem d8_45 : decode prog_15_method_8_code 45 = .ok (.istore 4, 2) := by decide +kernel
theorem d8_47 : decode prog_15_method_8_code 47 = .ok (.iinc 5 1, 3) := by decide +kernel
theorem d8_50 : decode prog_15_method_8_code 50 = .ok (.goto (-39), 3) := by decide +kernel
set_option maxRecDepth 65536 in
set_option maxHeartbeats 40000000 in
theorem g1_turn {p : Program} {l : Launch} {e : Env} {R : Room} {s : State} {m : MethodId} {args : Array Value} {below : List Frame} {meth : Method} {c : Code} {T0 : State} {locs : List Loc} {cells slots : Nat} {Z : State} {a0 : Array Value} {h0 : Heap} {n0 : Nat} {Rst : RL} (ax : Addr) (bk : Nat) (ox : Addr) (jx : Addr) (b1 : Addr) (b2 : Addr) (b3 : Addr) (b4 : Addr) (b5 : Addr) (b6 : Addr) (b7 : Addr) (cnt : Nat) (tc : Nat) (el : List Nat) (sta : List Nat) (en : List Nat) (cq : Nat) (i : Nat) (s6 : Slot)
    (X0 : Stand p l e R s m args below meth c T0 locs cells slots) (hx : p.tables.exec = Jvm.exec) (hZ : Z.Warmed39 s.vm) (hw : ∀ d ∈ tables_1, d.before a0 Z = true) (hby : c.code = prog_15_method_8_code) (hml : c.maxLocals = 10) (hown : s.vm.findClass "com/example/witgen/witgen/regex/Partition" = some m.cls) (e0 : T0.heap = h0) (N0 : Fr n0 locs) (R0 : Rep Z n0 h0 ((ax, Obj "com/example/witgen/witgen/regex/Partition" [("elements", "[I", (.ref b1)), ("location", "[I", (.ref b2)), ("blockOf", "[I", (.ref b3)), ("start", "[I", (.ref b4)), ("end", "[I", (.ref b5)), ("marked", "[I", (.ref b6)), ("touched", "[I", (.ref b7)), ("blocks", "I", (.int (Int32.ofNat cnt))), ("touchedCount", "I", (.int (Int32.ofNat tc)))]) :: (b1, Ar .int (nl el)) :: (b4, Ar .int (nl sta)) :: (b5, Ar .int (nl en)) :: (ox, Ar .int (nl [0, 1, 2, 3, 4])) :: (jx, Ar .long (ll [0, 1, 2, 3])) :: Rst)) (hi : i < (en.getD bk 0)) (hbd : (en.getD bk 0) < 1000) (hbe : bk < en.length) (hbk : bk < 1000) (hil : i < el.length) (hi1 : i < 1000) (hel : (el.getD i 0) < 4) (hs6 : One1 s6) :
    ∃ (T' : State) (h' : Heap) (locs' : List Loc), Stand p l e R s m args below meth c T' locs' cells slots ∧ T'.heap = h' ∧ Fr n0 locs' ∧ Rep Z n0 h' ((ax, Obj "com/example/witgen/witgen/regex/Partition" [("elements", "[I", (.ref b1)), ("location", "[I", (.ref b2)), ("blockOf", "[I", (.ref b3)), ("start", "[I", (.ref b4)), ("end", "[I", (.ref b5)), ("marked", "[I", (.ref b6)), ("touched", "[I", (.ref b7)), ("blocks", "I", (.int (Int32.ofNat cnt))), ("touchedCount", "I", (.int (Int32.ofNat tc)))]) :: (b1, Ar .int (nl el)) :: (b4, Ar .int (nl sta)) :: (b5, Ar .int (nl en)) :: (ox, Ar .int (nl [0, 1, 2, 3, 4])) :: (jx, Ar .long (ll [0, 1, 2, 3])) :: Rst) ∧ ∀ t, Steps p.tables e below (T'.setTop (mkF m 11 #[.val (.ref ax), .val (.int (Int32.ofNat bk)), .val (.ref ox), .val (.ref jx), .val (.int (Int32.ofNat (cq + 1))), .val (.int (Int32.ofNat (i + 1))), .val (.int (Int32.ofNat (el.getD i 0))), .unset, .unset, .unset] [])) t → Steps p.tables e below (T0.setTop (mkF m 11 #[.val (.ref ax), .val (.int (Int32.ofNat bk)), .val (.ref ox), .val (.ref jx), .val (.int (Int32.ofNat cq)), .val (.int (Int32.ofNat i)), s6, .unset, .unset, .unset] [])) t := by
  have pre0 : ∀ t, Steps p.tables e below (T0.setTop (mkF m 11 #[.val (.ref ax), .val (.int (Int32.ofNat bk)), .val (.ref ox), .val (.ref jx), .val (.int (Int32.ofNat cq)), .val (.int (Int32.ofNat i)), s6, .unset, .unset, .unset] [])) t → Steps p.tables e below (T0.setTop (mkF m 11 #[.val (.ref ax), .val (.int (Int32.ofNat bk)), .val (.ref ox), .val (.ref jx), .val (.int (Int32.ofNat cq)), .val (.int (Int32.ofNat i)), s6, .unset, .unset, .unset] [])) t := fun t k => k
  have pre1 : ∀ t, Steps p.tables e below (T0.setTop (mkF m 14 #[.val (.ref ax), .val (.int (Int32.ofNat bk)), .val (.ref ox), .val (.ref jx), .val (.int (Int32.ofNat cq)), .val (.int (Int32.ofNat i)), s6, .unset, .unset, .unset] [(.ref ax), (.int (Int32.ofNat i))])) t → Steps p.tables e below (T0.setTop (mkF m 11 #[.val (.ref ax), .val (.int (Int32.ofNat bk)), .val (.ref ox), .val (.ref jx), .val (.int (Int32.ofNat cq)), .val (.int (Int32.ofNat i)), s6, .unset, .unset, .unset] [])) t := fun t k => pre0 t (by
    show Steps p.tables e below (T0.setTop (mkF m 11 #[.val (.ref ax), .val (.int (Int32.ofNat bk)), .val (.ref ox), .val (.ref jx), .val (.int (Int32.ofNat cq)), .val (.int (Int32.ofNat i)), s6, .unset, .unset, .unset] [])) _
    refine XS.iload X0.here hx rfl (hb hby d8_11) rfl ?_
    refine XS.aloadN X0.here hx rfl (hb hby d8_13) rfl rfl ?_
    exact k)
  obtain ⟨T2, X2, e2, st2⟩ := gGet X0 hx hZ hown (host := "") (Or.inl (hw _ (List.mem_of_getElem? (i := 39) rfl))) e0 R0 0 4 rfl rfl (g := (mkF m 14 #[.val (.ref ax), .val (.int (Int32.ofNat bk)), .val (.ref ox), .val (.ref jx), .val (.int (Int32.ofNat cq)), .val (.int (Int32.ofNat i)), s6, .unset, .unset, .unset] [(.ref ax), (.int (Int32.ofNat i))])) rfl rfl (hb hby d8_14)
  have pre3 : ∀ t, Steps p.tables e below (T2.setTop (mkF m 17 #[.val (.ref ax), .val (.int (Int32.ofNat bk)), .val (.ref ox), .val (.ref jx), .val (.int (Int32.ofNat cq)), .val (.int (Int32.ofNat i)), s6, .unset, .unset, .unset] [(.ref b5), (.int (Int32.ofNat i))])) t → Steps p.tables e below (T0.setTop (mkF m 11 #[.val (.ref ax), .val (.int (Int32.ofNat bk)), .val (.ref ox), .val (.ref jx), .val (.int (Int32.ofNat cq)), .val (.int (Int32.ofNat i)), s6, .unset, .unset, .unset] [])) t := fun t k => pre1 t (st2 t k)
  have pre5 : ∀ t, Steps p.tables e below (T2.setTop (mkF m 19 #[.val (.ref ax), .val (.int (Int32.ofNat bk)), .val (.ref ox), .val (.ref jx), .val (.int (Int32.ofNat cq)), .val (.int (Int32.ofNat i)), s6, .unset, .unset, .unset] [(.int (Int32.ofNat (en.getD bk 0))), (.int (Int32.ofNat i))])) t → Steps p.tables e below (T0.setTop (mkF m 11 #[.val (.ref ax), .val (.int (Int32.ofNat bk)), .val (.ref ox), .val (.ref jx), .val (.int (Int32.ofNat cq)), .val (.int (Int32.ofNat i)), s6, .unset, .unset, .unset] [])) t := fun t k => pre3 t (by
    show Steps p.tables e below (T2.setTop (mkF m 17 #[.val (.ref ax), .val (.int (Int32.ofNat bk)), .val (.ref ox), .val (.ref jx), .val (.int (Int32.ofNat cq)), .val (.int (Int32.ofNat i)), s6, .unset, .unset, .unset] [(.ref b5), (.int (Int32.ofNat i))])) _
    refine XS.iloadN X2.here hx rfl (hb hby d8_17) rfl ?_
    refine gIald X2 hx hZ e2 R0 3 rfl (j := (Int32.ofNat bk)) (v := (.int (Int32.ofNat (en.getD bk 0)))) (n_nn (hbk)) (nl_at (hbe) (hbk)) (g := (mkF m 18 #[.val (.ref ax), .val (.int (Int32.ofNat bk)), .val (.ref ox), .val (.ref jx), .val (.int (Int32.ofNat cq)), .val (.int (Int32.ofNat i)), s6, .unset, .unset, .unset] [(.int (Int32.ofNat bk)), (.ref b5), (.int (Int32.ofNat i))])) rfl rfl (hb hby d8_18) _ ?_
    exact k)
  have hb4 : (Int32.ofNat i) < (Int32.ofNat (en.getD bk 0)) := n_lt hi hbd
  have pre6 : ∀ t, Steps p.tables e below (T2.setTop (mkF m 23 #[.val (.ref ax), .val (.int (Int32.ofNat bk)), .val (.ref ox), .val (.ref jx), .val (.int (Int32.ofNat cq)), .val (.int (Int32.ofNat i)), s6, .unset, .unset, .unset] [(.ref ax)])) t → Steps p.tables e below (T0.setTop (mkF m 11 #[.val (.ref ax), .val (.int (Int32.ofNat bk)), .val (.ref ox), .val (.ref jx), .val (.int (Int32.ofNat cq)), .val (.int (Int32.ofNat i)), s6, .unset, .unset, .unset] [])) t := fun t k => pre5 t (by
    show Steps p.tables e below (T2.setTop (mkF m 19 #[.val (.ref ax), .val (.int (Int32.ofNat bk)), .val (.ref ox), .val (.ref jx), .val (.int (Int32.ofNat cq)), .val (.int (Int32.ofNat i)), s6, .unset, .unset, .unset] [(.int (Int32.ofNat (en.getD bk 0))), (.int (Int32.ofNat i))])) _
    refine XS.icmpNo X2.here hx rfl (hb hby d8_19) rfl (tlt hb4).2.1 ?_
    refine XS.aloadN X2.here hx rfl (hb hby d8_22) rfl rfl ?_
    exact k)
  obtain ⟨T7, X7, e7, st7⟩ := gGet X2 hx hZ hown (host := "") (Or.inl (hw _ (List.mem_of_getElem? (i := 22) rfl))) e2 R0 0 0 rfl rfl (g := (mkF m 23 #[.val (.ref ax), .val (.int (Int32.ofNat bk)), .val (.ref ox), .val (.ref jx), .val (.int (Int32.ofNat cq)), .val (.int (Int32.ofNat i)), s6, .unset, .unset, .unset] [(.ref ax)])) rfl rfl (hb hby d8_23)
  have pre8 : ∀ t, Steps p.tables e below (T7.setTop (mkF m 26 #[.val (.ref ax), .val (.int (Int32.ofNat bk)), .val (.ref ox), .val (.ref jx), .val (.int (Int32.ofNat cq)), .val (.int (Int32.ofNat i)), s6, .unset, .unset, .unset] [(.ref b1)])) t → Steps p.tables e below (T0.setTop (mkF m 11 #[.val (.ref ax), .val (.int (Int32.ofNat bk)), .val (.ref ox), .val (.ref jx), .val (.int (Int32.ofNat cq)), .val (.int (Int32.ofNat i)), s6, .unset, .unset, .unset] [])) t := fun t k => pre6 t (st7 t k)
  have pre9 : ∀ t, Steps p.tables e below (T7.setTop (mkF m 44 #[.val (.ref ax), .val (.int (Int32.ofNat bk)), .val (.ref ox), .val (.ref jx), .val (.int (Int32.ofNat cq)), .val (.int (Int32.ofNat i)), .val (.int (Int32.ofNat (el.getD i 0))), .unset, .unset, .unset] [(.int ((Int32.ofNat ([0, 1, 2, 3, 4].getD ((el.getD i 0) + 1) 0)) - (Int32.ofNat ([0, 1, 2, 3, 4].getD (el.getD i 0) 0)))), (.int (Int32.ofNat cq))])) t → Steps p.tables e below (T0.setTop (mkF m 11 #[.val (.ref ax), .val (.int (Int32.ofNat bk)), .val (.ref ox), .val (.ref jx), .val (.int (Int32.ofNat cq)), .val (.int (Int32.ofNat i)), s6, .unset, .unset, .unset] [])) t := fun t k => pre8 t (by
    show Steps p.tables e below (T7.setTop (mkF m 26 #[.val (.ref ax), .val (.int (Int32.ofNat bk)), .val (.ref ox), .val (.ref jx), .val (.int (Int32.ofNat cq)), .val (.int (Int32.ofNat i)), s6, .unset, .unset, .unset] [(.ref b1)])) _
    refine XS.iload X7.here hx rfl (hb hby d8_26) rfl ?_
    refine gIald X7 hx hZ e7 R0 1 rfl (j := (Int32.ofNat i)) (v := (.int (Int32.ofNat (el.getD i 0)))) (n_nn (hi1)) (nl_at (hil) (hi1)) (g := (mkF m 28 #[.val (.ref ax), .val (.int (Int32.ofNat bk)), .val (.ref ox), .val (.ref jx), .val (.int (Int32.ofNat cq)), .val (.int (Int32.ofNat i)), s6, .unset, .unset, .unset] [(.int (Int32.ofNat i)), (.ref b1)])) rfl rfl (hb hby d8_28) _ ?_
    refine XS.istoreS X7.here hx rfl (hb hby d8_29) rfl (o := s6) rfl hs6 ?_
    refine XS.iload X7.here hx rfl (hb hby d8_31) rfl ?_
    refine XS.aloadN X7.here hx rfl (hb hby d8_33) rfl rfl ?_
    refine XS.iload X7.here hx rfl (hb hby d8_34) rfl ?_
    refine XS.iconst X7.here hx rfl (hb hby d8_36) ?_
    show Steps p.tables e below (T7.setTop (mkF m 37 #[.val (.ref ax), .val (.int (Int32.ofNat bk)), .val (.ref ox), .val (.ref jx), .val (.int (Int32.ofNat cq)), .val (.int (Int32.ofNat i)), .val (.int (Int32.ofNat (el.getD i 0))), .unset, .unset, .unset] [(.int (1 : Int32)), (.int (Int32.ofNat (el.getD i 0))), (.ref ox), (.int (Int32.ofNat cq))])) _
    refine XS.iadd X7.here hx rfl (hb hby d8_37) rfl ?_
    change Steps p.tables e below (T7.setTop (mkF m 38 #[.val (.ref ax), .val (.int (Int32.ofNat bk)), .val (.ref ox), .val (.ref jx), .val (.int (Int32.ofNat cq)), .val (.int (Int32.ofNat i)), .val (.int (Int32.ofNat (el.getD i 0))), .unset, .unset, .unset] [(.int ((Int32.ofNat (el.getD i 0)) + (1 : Int32))), (.ref ox), (.int (Int32.ofNat cq))])) _
    rw [n_one]
    show Steps p.tables e below (T7.setTop (mkF m 38 #[.val (.ref ax), .val (.int (Int32.ofNat bk)), .val (.ref ox), .val (.ref jx), .val (.int (Int32.ofNat cq)), .val (.int (Int32.ofNat i)), .val (.int (Int32.ofNat (el.getD i 0))), .unset, .unset, .unset] [(.int (Int32.ofNat ((el.getD i 0) + 1))), (.ref ox), (.int (Int32.ofNat cq))])) _
    refine gIald X7 hx hZ e7 R0 4 rfl (j := (Int32.ofNat ((el.getD i 0) + 1))) (v := (.int (Int32.ofNat ([0, 1, 2, 3, 4].getD ((el.getD i 0) + 1) 0)))) (n_nn (by omega)) (nl_at (show (el.getD i 0) + 1 < 5 by omega) (by omega)) (g := (mkF m 38 #[.val (.ref ax), .val (.int (Int32.ofNat bk)), .val (.ref ox), .val (.ref jx), .val (.int (Int32.ofNat cq)), .val (.int (Int32.ofNat i)), .val (.int (Int32.ofNat (el.getD i 0))), .unset, .unset, .unset] [(.int (Int32.ofNat ((el.getD i 0) + 1))), (.ref ox), (.int (Int32.ofNat cq))])) rfl rfl (hb hby d8_38) _ ?_
    refine XS.aloadN X7.here hx rfl (hb hby d8_39) rfl rfl ?_
    refine XS.iload X7.here hx rfl (hb hby d8_40) rfl ?_
    refine gIald X7 hx hZ e7 R0 4 rfl (j := (Int32.ofNat (el.getD i 0))) (v := (.int (Int32.ofNat ([0, 1, 2, 3, 4].getD (el.getD i 0) 0)))) (n_nn (by omega)) (nl_at (show (el.getD i 0) < 5 by omega) (by omega)) (g := (mkF m 42 #[.val (.ref ax), .val (.int (Int32.ofNat bk)), .val (.ref ox), .val (.ref jx), .val (.int (Int32.ofNat cq)), .val (.int (Int32.ofNat i)), .val (.int (Int32.ofNat (el.getD i 0))), .unset, .unset, .unset] [(.int (Int32.ofNat (el.getD i 0))), (.ref ox), (.int (Int32.ofNat ([0, 1, 2, 3, 4].getD ((el.getD i 0) + 1) 0))), (.int (Int32.ofNat cq))])) rfl rfl (hb hby d8_42) _ ?_
    refine XS.isub X7.here hx rfl (hb hby d8_43) rfl ?_
    exact k)
  rw [off1 hel] at pre9
  have pre10 : ∀ t, Steps p.tables e below (T7.setTop (mkF m 11 #[.val (.ref ax), .val (.int (Int32.ofNat bk)), .val (.ref ox), .val (.ref jx), .val (.int (Int32.ofNat (cq + 1))), .val (.int (Int32.ofNat (i + 1))), .val (.int (Int32.ofNat (el.getD i 0))), .unset, .unset, .unset] [])) t → Steps p.tables e below (T0.setTop (mkF m 11 #[.val (.ref ax), .val (.int (Int32.ofNat bk)), .val (.ref ox), .val (.ref jx), .val (.int (Int32.ofNat cq)), .val (.int (Int32.ofNat i)), s6, .unset, .unset, .unset] [])) t := fun t k => pre9 t (by
    show Steps p.tables e below (T7.setTop (mkF m 44 #[.val (.ref ax), .val (.int (Int32.ofNat bk)), .val (.ref ox), .val (.ref jx), .val (.int (Int32.ofNat cq)), .val (.int (Int32.ofNat i)), .val (.int (Int32.ofNat (el.getD i 0))), .unset, .unset, .unset] [(.int (1 : Int32)), (.int (Int32.ofNat cq))])) _
    refine XS.iadd X7.here hx rfl (hb hby d8_44) rfl ?_
    change Steps p.tables e below (T7.setTop (mkF m 45 #[.val (.ref ax), .val (.int (Int32.ofNat bk)), .val (.ref ox), .val (.ref jx), .val (.int (Int32.ofNat cq)), .val (.int (Int32.ofNat i)), .val (.int (Int32.ofNat (el.getD i 0))), .unset, .unset, .unset] [(.int ((Int32.ofNat cq) + (1 : Int32)))])) _
    rw [n_one]
    show Steps p.tables e below (T7.setTop (mkF m 45 #[.val (.ref ax), .val (.int (Int32.ofNat bk)), .val (.ref ox), .val (.ref jx), .val (.int (Int32.ofNat cq)), .val (.int (Int32.ofNat i)), .val (.int (Int32.ofNat (el.getD i 0))), .unset, .unset, .unset] [(.int (Int32.ofNat (cq + 1)))])) _
    refine XS.istore X7.here hx rfl (hb hby d8_45) rfl (l' := #[.val (.ref ax), .val (.int (Int32.ofNat bk)), .val (.ref ox), .val (.ref jx), .val (.int (Int32.ofNat (cq + 1))), .val (.int (Int32.ofNat i)), .val (.int (Int32.ofNat (el.getD i 0))), .unset, .unset, .unset]) rfl ?_
    refine XS.iinc X7.here hx rfl (hb hby d8_47) rfl (l' := #[.val (.ref ax), .val (.int (Int32.ofNat bk)), .val (.ref ox), .val (.ref jx), .val (.int (Int32.ofNat (cq + 1))), .val (.int ((Int32.ofNat i) + (1 : Int32))), .val (.int (Int32.ofNat (el.getD i 0))), .unset, .unset, .unset]) rfl ?_
    change Steps p.tables e below (T7.setTop (mkF m 50 #[.val (.ref ax), .val (.int (Int32.ofNat bk)), .val (.ref ox), .val (.ref jx), .val (.int (Int32.ofNat (cq + 1))), .val (.int ((Int32.ofNat i) + (1 : Int32))), .val (.int (Int32.ofNat (el.getD i 0))), .unset, .unset, .unset] [])) _
    rw [n_one]
    show Steps p.tables e below (T7.setTop (mkF m 50 #[.val (.ref ax), .val (.int (Int32.ofNat bk)), .val (.ref ox), .val (.ref jx), .val (.int (Int32.ofNat (cq + 1))), .val (.int (Int32.ofNat (i + 1))), .val (.int (Int32.ofNat (el.getD i 0))), .unset, .unset, .unset] [])) _
    refine XS.goto X7.here hx rfl (pc0 := 50) (pc' := 11) rfl (hb hby d8_50) (by decide) (by decide) ?_
    exact k)
  exact ⟨T7, h0, _, X7, e7, N0, R0, pre10⟩
set_option maxRecDepth 65536 in
set_option maxHeartbeats 40000000 in
theorem g1_out {p : Program} {l : Launch} {e : Env} {R : Room} {s : State} {m : MethodId} {args : Array Value} {below : List Frame} {meth : Method} {c : Code} {T0 : State} {locs : List Loc} {cells slots : Nat} {Z : State} {a0 : Array Value} {h0 : Heap} {n0 : Nat} {Rst : RL} (ax : Addr) (bk : Nat) (ox : Addr) (jx : Addr) (b1 : Addr) (b2 : Addr) (b3 : Addr) (b4 : Addr) (b5 : Addr) (b6 : Addr) (b7 : Addr) (cnt : Nat) (tc : Nat) (el : List Nat) (sta : List Nat) (en : List Nat) (cq : Nat) (i : Nat) (s6 : Slot)
    (X0 : Stand p l e R s m args below meth c T0 locs cells slots) (hx : p.tables.exec = Jvm.exec) (hZ : Z.Warmed39 s.vm) (hw : ∀ d ∈ tables_1, d.before a0 Z = true) (hby : c.code = prog_15_method_8_code) (hml : c.maxLocals = 10) (hown : s.vm.findClass "com/example/witgen/witgen/regex/Partition" = some m.cls) (e0 : T0.heap = h0) (N0 : Fr n0 locs) (R0 : Rep Z n0 h0 ((ax, Obj "com/example/witgen/witgen/regex/Partition" [("elements", "[I", (.ref b1)), ("location", "[I", (.ref b2)), ("blockOf", "[I", (.ref b3)), ("start", "[I", (.ref b4)), ("end", "[I", (.ref b5)), ("marked", "[I", (.ref b6)), ("touched", "[I", (.ref b7)), ("blocks", "I", (.int (Int32.ofNat cnt))), ("touchedCount", "I", (.int (Int32.ofNat tc)))]) :: (b1, Ar .int (nl el)) :: (b4, Ar .int (nl sta)) :: (b5, Ar .int (nl en)) :: (ox, Ar .int (nl [0, 1, 2, 3, 4])) :: (jx, Ar .long (ll [0, 1, 2, 3])) :: Rst)) (hi : (en.getD bk 0) ≤ i) (hbd : i < 1000) (hbe : bk < en.length) (hbk : bk < 1000) :
    ∃ (T' : State) (h' : Heap) (locs' : List Loc), Stand p l e R s m args below meth c T' locs' cells slots ∧ T'.heap = h' ∧ Fr n0 locs' ∧ Rep Z n0 h' ((ax, Obj "com/example/witgen/witgen/regex/Partition" [("elements", "[I", (.ref b1)), ("location", "[I", (.ref b2)), ("blockOf", "[I", (.ref b3)), ("start", "[I", (.ref b4)), ("end", "[I", (.ref b5)), ("marked", "[I", (.ref b6)), ("touched", "[I", (.ref b7)), ("blocks", "I", (.int (Int32.ofNat cnt))), ("touchedCount", "I", (.int (Int32.ofNat tc)))]) :: (b1, Ar .int (nl el)) :: (b4, Ar .int (nl sta)) :: (b5, Ar .int (nl en)) :: (ox, Ar .int (nl [0, 1, 2, 3, 4])) :: (jx, Ar .long (ll [0, 1, 2, 3])) :: Rst) ∧ ∀ t, Steps p.tables e below (T'.setTop (mkF m 53 #[.val (.ref ax), .val (.int (Int32.ofNat bk)), .val (.ref ox), .val (.ref jx), .val (.int (Int32.ofNat cq)), .val (.int (Int32.ofNat i)), s6, .unset, .unset, .unset] [])) t → Steps p.tables e below (T0.setTop (mkF m 11 #[.val (.ref ax), .val (.int (Int32.ofNat bk)), .val (.ref ox), .val (.ref jx), .val (.int (Int32.ofNat cq)), .val (.int (Int32.ofNat i)), s6, .unset, .unset, .unset] [])) t := by
  have pre0 : ∀ t, Steps p.tables e below (T0.setTop (mkF m 11 #[.val (.ref ax), .val (.int (Int32.ofNat bk)), .val (.ref ox), .val (.ref jx), .val (.int (Int32.ofNat cq)), .val (.int (Int32.ofNat i)), s6, .unset, .unset, .unset] [])) t → Steps p.tables e below (T0.setTop (mkF m 11 #[.val (.ref ax), .val (.int (Int32.ofNat bk)), .val (.ref ox), .val (.ref jx), .val (.int (Int32.ofNat cq)), .val (.int (Int32.ofNat i)), s6, .unset, .unset, .unset] [])) t := fun t k => k
  have pre1 : ∀ t, Steps p.tables e below (T0.setTop (mkF m 14 #[.val (.ref ax), .val (.int (Int32.ofNat bk)), .val (.ref ox), .val (.ref jx), .val (.int (Int32.ofNat cq)), .val (.int (Int32.ofNat i)), s6, .unset, .unset, .unset] [(.ref ax), (.int (Int32.ofNat i))])) t → Steps p.tables e below (T0.setTop (mkF m 11 #[.val (.ref ax), .val (.int (Int32.ofNat bk)), .val (.ref ox), .val (.ref jx), .val (.int (Int32.ofNat cq)), .val (.int (Int32.ofNat i)), s6, .unset, .unset, .unset] [])) t := fun t k => pre0 t (by
    show Steps p.tables e below (T0.setTop (mkF m 11 #[.val (.ref ax), .val (.int (Int32.ofNat bk)), .val (.ref ox), .val (.ref jx), .val (.int (Int32.ofNat cq)), .val (.int (Int32.ofNat i)), s6, .unset, .unset, .unset] [])) _
    refine XS.iload X0.here hx rfl (hb hby d8_11) rfl ?_
    refine XS.aloadN X0.here hx rfl (hb hby d8_13) rfl rfl ?_
    exact k)
  obtain ⟨T2, X2, e2, st2⟩ := gGet X0 hx hZ hown (host := "") (Or.inl (hw _ (List.mem_of_getElem? (i := 39) rfl))) e0 R0 0 4 rfl rfl (g := (mkF m 14 #[.val (.ref ax), .val (.int (Int32.ofNat bk)), .val (.ref ox), .val (.ref jx), .val (.int (Int32.ofNat cq)), .val (.int (Int32.ofNat i)), s6, .unset, .unset, .unset] [(.ref ax), (.int (Int32.ofNat i))])) rfl rfl (hb hby d8_14)
  have pre3 : ∀ t, Steps p.tables e below (T2.setTop (mkF m 17 #[.val (.ref ax), .val (.int (Int32.ofNat bk)), .val (.ref ox), .val (.ref jx), .val (.int (Int32.ofNat cq)), .val (.int (Int32.ofNat i)), s6, .unset, .unset, .unset] [(.ref b5), (.int (Int32.ofNat i))])) t → Steps p.tables e below (T0.setTop (mkF m 11 #[.val (.ref ax), .val (.int (Int32.ofNat bk)), .val (.ref ox), .val (.ref jx), .val (.int (Int32.ofNat cq)), .val (.int (Int32.ofNat i)), s6, .unset, .unset, .unset] [])) t := fun t k => pre1 t (st2 t k)
  have pre5 : ∀ t, Steps p.tables e below (T2.setTop (mkF m 19 #[.val (.ref ax), .val (.int (Int32.ofNat bk)), .val (.ref ox), .val (.ref jx), .val (.int (Int32.ofNat cq)), .val (.int (Int32.ofNat i)), s6, .unset, .unset, .unset] [(.int (Int32.ofNat (en.getD bk 0))), (.int (Int32.ofNat i))])) t → Steps p.tables e below (T0.setTop (mkF m 11 #[.val (.ref ax), .val (.int (Int32.ofNat bk)), .val (.ref ox), .val (.ref jx), .val (.int (Int32.ofNat cq)), .val (.int (Int32.ofNat i)), s6, .unset, .unset, .unset] [])) t := fun t k => pre3 t (by
    show Steps p.tables e below (T2.setTop (mkF m 17 #[.val (.ref ax), .val (.int (Int32.ofNat bk)), .val (.ref ox), .val (.ref jx), .val (.int (Int32.ofNat cq)), .val (.int (Int32.ofNat i)), s6, .unset, .unset, .unset] [(.ref b5), (.int (Int32.ofNat i))])) _
    refine XS.iloadN X2.here hx rfl (hb hby d8_17) rfl ?_
    refine gIald X2 hx hZ e2 R0 3 rfl (j := (Int32.ofNat bk)) (v := (.int (Int32.ofNat (en.getD bk 0)))) (n_nn (hbk)) (nl_at (hbe) (hbk)) (g := (mkF m 18 #[.val (.ref ax), .val (.int (Int32.ofNat bk)), .val (.ref ox), .val (.ref jx), .val (.int (Int32.ofNat cq)), .val (.int (Int32.ofNat i)), s6, .unset, .unset, .unset] [(.int (Int32.ofNat bk)), (.ref b5), (.int (Int32.ofNat i))])) rfl rfl (hb hby d8_18) _ ?_
    exact k)
  have hb4 : ¬ ((Int32.ofNat i) < (Int32.ofNat (en.getD bk 0))) := n_nlt hi hbd
  have pre6 : ∀ t, Steps p.tables e below (T2.setTop (mkF m 53 #[.val (.ref ax), .val (.int (Int32.ofNat bk)), .val (.ref ox), .val (.ref jx), .val (.int (Int32.ofNat cq)), .val (.int (Int32.ofNat i)), s6, .unset, .unset, .unset] [])) t → Steps p.tables e below (T0.setTop (mkF m 11 #[.val (.ref ax), .val (.int (Int32.ofNat bk)), .val (.ref ox), .val (.ref jx), .val (.int (Int32.ofNat cq)), .val (.int (Int32.ofNat i)), s6, .unset, .unset, .unset] [])) t := fun t k => pre5 t (by
    show Steps p.tables e below (T2.setTop (mkF m 19 #[.val (.ref ax), .val (.int (Int32.ofNat bk)), .val (.ref ox), .val (.ref jx), .val (.int (Int32.ofNat cq)), .val (.int (Int32.ofNat i)), s6, .unset, .unset, .unset] [(.int (Int32.ofNat (en.getD bk 0))), (.int (Int32.ofNat i))])) _
    refine XS.icmpYes X2.here hx rfl (pc0 := 19) (pc' := 53) rfl (hb hby d8_19) rfl (flt hb4).2.1 (by decide) (by decide) ?_
    exact k)
  exact ⟨T2, h0, _, X2, e2, N0, R0, pre6⟩
theorem g1_loop {p : Program} {l : Launch} {e : Env} {R : Room} {s : State} {m : MethodId} {args : Array Value} {below : List Frame} {meth : Method} {c : Code} {cells slots : Nat} {Z : State} {a0 : Array Value} {n0 : Nat} {Rst : RL} (ax : Addr) (bk : Nat) (ox : Addr) (jx : Addr) (b1 : Addr) (b2 : Addr) (b3 : Addr) (b4 : Addr) (b5 : Addr) (b6 : Addr) (b7 : Addr) (cnt : Nat) (tc : Nat) (el : List Nat) (sta : List Nat) (en : List Nat) (hx : p.tables.exec = Jvm.exec) (hZ : Z.Warmed39 s.vm) (hw : ∀ d ∈ tables_1, d.before a0 Z = true) (hby : c.code = prog_15_method_8_code) (hml : c.maxLocals = 10) (hown : s.vm.findClass "com/example/witgen/witgen/regex/Partition" = some m.cls) (hbe : bk < en.length) (hbk : bk < 1000) (h4 : (en.getD bk 0) ≤ 4) (hl4 : el.length = 4) (hel : ∀ j, j < 4 → el.getD j 0 < 4) :
    ∀ (k i cq : Nat) (s6 : Slot) (T0 : State) (locs : List Loc) (h0 : Heap), i + k = (en.getD bk 0) → One1 s6 → Stand p l e R s m args below meth c T0 locs cells slots → T0.heap = h0 → Fr n0 locs → Rep Z n0 h0 ((ax, Obj "com/example/witgen/witgen/regex/Partition" [("elements", "[I", (.ref b1)), ("location", "[I", (.ref b2)), ("blockOf", "[I", (.ref b3)), ("start", "[I", (.ref b4)), ("end", "[I", (.ref b5)), ("marked", "[I", (.ref b6)), ("touched", "[I", (.ref b7)), ("blocks", "I", (.int (Int32.ofNat cnt))), ("touchedCount", "I", (.int (Int32.ofNat tc)))]) :: (b1, Ar .int (nl el)) :: (b4, Ar .int (nl sta)) :: (b5, Ar .int (nl en)) :: (ox, Ar .int (nl [0, 1, 2, 3, 4])) :: (jx, Ar .long (ll [0, 1, 2, 3])) :: Rst) →
      ∃ (s6' : Slot) (T' : State) (h' : Heap) (locs' : List Loc), One1 s6' ∧ Stand p l e R s m args below meth c T' locs' cells slots ∧ T'.heap = h' ∧ Fr n0 locs' ∧ Rep Z n0 h' ((ax, Obj "com/example/witgen/witgen/regex/Partition" [("elements", "[I", (.ref b1)), ("location", "[I", (.ref b2)), ("blockOf", "[I", (.ref b3)), ("start", "[I", (.ref b4)), ("end", "[I", (.ref b5)), ("marked", "[I", (.ref b6)), ("touched", "[I", (.ref b7)), ("blocks", "I", (.int (Int32.ofNat cnt))), ("touchedCount", "I", (.int (Int32.ofNat tc)))]) :: (b1, Ar .int (nl el)) :: (b4, Ar .int (nl sta)) :: (b5, Ar .int (nl en)) :: (ox, Ar .int (nl [0, 1, 2, 3, 4])) :: (jx, Ar .long (ll [0, 1, 2, 3])) :: Rst) ∧ ∀ t, Steps p.tables e below (T'.setTop (mkF m 53 #[.val (.ref ax), .val (.int (Int32.ofNat bk)), .val (.ref ox), .val (.ref jx), .val (.int (Int32.ofNat (cq + k))), .val (.int (Int32.ofNat (en.getD bk 0))), s6', .unset, .unset, .unset] [])) t → Steps p.tables e below (T0.setTop (mkF m 11 #[.val (.ref ax), .val (.int (Int32.ofNat bk)), .val (.ref ox), .val (.ref jx), .val (.int (Int32.ofNat cq)), .val (.int (Int32.ofNat i)), s6, .unset, .unset, .unset] [])) t := by
  intro k
  induction k with
  | zero =>
    intro i cq s6 T0 locs h0 hi o6 X0 e0 N0 R0
    have hi' : i = (en.getD bk 0) := by omega
    subst hi'
    obtain ⟨T1, h1, ls1, X1, e1, N1, R1, st1⟩ := g1_out ax bk ox jx b1 b2 b3 b4 b5 b6 b7 cnt tc el sta en cq (en.getD bk 0) s6 X0 hx hZ hw hby hml hown e0 N0 R0 (Nat.le_refl _) (by omega) hbe hbk
    exact ⟨s6, T1, h1, ls1, o6, X1, e1, N1, R1, st1⟩
  | succ k ih =>
    intro i cq s6 T0 locs h0 hi o6 X0 e0 N0 R0
    obtain ⟨T1, h1, ls1, X1, e1, N1, R1, st1⟩ := g1_turn ax bk ox jx b1 b2 b3 b4 b5 b6 b7 cnt tc el sta en cq i s6 X0 hx hZ hw hby hml hown e0 N0 R0 (by omega) (by omega) hbe hbk (by omega) (by omega) (hel i (by omega)) o6
    obtain ⟨s6', T2, h2, ls2, o2, X2, e2, N2, R2, st2⟩ := ih (i + 1) (cq + 1) (.val (.int (Int32.ofNat (el.getD i 0)))) T1 ls1 h1 (by omega) (One1.v rfl) X1 e1 N1 R1
    rw [show cq + (k + 1) = cq + 1 + k by omega]
    exact ⟨s6', T2, h2, ls2, o2, X2, e2, N2, R2, fun t q => st1 t (st2 t q)⟩
theorem d8_70 : decode prog_15_method_8_code 70 = .ok (.iload 7, 2) := by decide +kernel
theorem d8_72 : decode prog_15_method_8_code 72 = .ok (.aload_n 0, 1) := by decide +kernel
theorem d8_73 : decode prog_15_method_8_code 73 = .ok (.getfield 33, 3) := by decide +kernel
theorem d8_76 : decode prog_15_method_8_code 76 = .ok (.iload_n 1, 1) := by decide +kernel
theorem d8_77 : decode prog_15_method_8_code 77 = .ok (.iaload, 1) := by decide +kernel
theorem d8_78 : decode prog_15_method_8_code 78 = .ok (.if_icmp .ge 52, 3) := by decide +kernel
theorem d8_81 : decode prog_15_method_8_code 81 = .ok (.aload_n 0, 1) := by decide +kernel
theorem d8_82 : decode prog_15_method_8_code 82 = .ok (.getfield 13, 3) := by decide +kernel
theorem d8_85 : decode prog_15_method_8_code 85 = .ok (.iload 7, 2) := by decide +kernel
theorem d8_87 : decode prog_15_method_8_code 87 = .ok (.iaload, 1) := by decide +kernel
theorem d8_88 : decode prog_15_method_8_code 88 = .ok (.istore 8, 2) := by decide +kernel
theorem d8_90 : decode prog_15_method_8_code 90 = .ok (.aload_n 2, 1) := by decide +kernel
theorem d8_91 : decode prog_15_method_8_code 91 = .ok (.iload 8, 2) := by decide +kernel
theorem d8_93 : decode prog_15_method_8_code 93 = .ok (.iconst 1, 1) := by decide +kernel
theorem d8_94 : decode prog_15_method_8_code 94 = .ok (.iadd, 1) := by decide +kernel
theorem d8_95 : decode prog_15_method_8_code 95 = .ok (.iaload, 1) := by decide +kernel
theorem d8_96 : decode prog_15_method_8_code 96 = .ok (.aload_n 2, 1) := by decide +kernel
theorem d8_97 : decode prog_15_method_8_code 97 = .ok (.iload 8, 2) := by decide +kernel
theorem d8_99 : decode prog_15_method_8_code 99 = .ok (.iaload, 1) := by decide +kernel
theorem d8_100 : decode prog_15_method_8_code 100 = .ok (.isub, 1) := by decide +kernel
theorem d8_101 : decode prog_15_method_8_code 101 = .ok (.istore 9, 2) := by decide +kernel
theorem d8_103 : decode prog_15_method_8_code 103 = .ok (.aload_n 3, 1) := by decide +kernel
theorem d8_104 : decode prog_15_method_8_code 104 = .ok (.aload_n 2, 1) := by decide +kernel
theorem d8_105 : decode prog_15_method_8_code 105 = .ok (.iload 8, 2) := by decide +kernel
theorem d8_107 : decode prog_15_method_8_code 107 = .ok (.iaload, 1) := by decide +kernel
theorem d8_108 : decode prog_15_method_8_code 108 = .ok (.aload 5, 2) := by decide +kernel
theorem d8_110 : decode prog_15_method_8_code 110 = .ok (.iload 6, 2) := by decide +kernel
theorem d8_112 : decode prog_15_method_8_code 112 = .ok (.iload 9, 2) := by decide +kernel
theorem d8_114 : decode prog_15_method_8_code 114 = .ok (.invokestatic 65, 3) := by decide +kernel
theorem d8_117 : decode prog_15_method_8_code 117 = .ok (.iload 6, 2) := by decide +kernel
theorem d8_119 : decode prog_15_method_8_code 119 = .ok (.iload 9, 2) := by decide +kernel
theorem d8_121 : decode prog_15_method_8_code 121 = .ok (.iadd, 1) := by decide +kernel
theorem d8_122 : decode prog_15_method_8_code 122 = .ok (.istore 6, 2) := by decide +kernel
theorem d8_124 : decode prog_15_method_8_code 124 = .ok (.iinc 7 1, 3) := by decide +kernel
theorem d8_127 : decode prog_15_method_8_code 127 = .ok (.goto (-57), 3) := by decide +kernel
set_option maxRecDepth 65536 in
set_option maxHeartbeats 40000000 in
theorem g2_turn {p : Program} {l : Launch} {e : Env} {s : State} {m : MethodId} {args : Array Value} {below : List Frame} {meth : Method} {c : Code} {T0 : State} {locs : List Loc} {cells slots : Nat} {Z : State} {a0 : Array Value} {h0 : Heap} {n0 : Nat} {Rst : RL} (ax : Addr) (bk : Nat) (ox : Addr) (jx : Addr) (b1 : Addr) (b2 : Addr) (b3 : Addr) (b4 : Addr) (b5 : Addr) (b6 : Addr) (b7 : Addr) (cnt : Nat) (tc : Nat) (el : List Nat) (sta : List Nat) (en : List Nat) (cq : Nat) (gx : Addr) (fl : Nat) (i : Nat) (s8 : Slot) (s9 : Slot) (gs : List Nat)
    (X0 : Stand p l e ({ frames := 1, cells := 1, slots := 4, locals := 18 } : Room) s m args below meth c T0 locs cells slots) (hx : p.tables.exec = Jvm.exec) (hZ : Z.Warmed39 s.vm) (hw : ∀ d ∈ tables_1, d.before a0 Z = true) (hby : c.code = prog_15_method_8_code) (hml : c.maxLocals = 10) (hown : s.vm.findClass "com/example/witgen/witgen/regex/Partition" = some m.cls) (e0 : T0.heap = h0) (N0 : Fr n0 locs) (R0 : Rep Z n0 h0 ((gx, Ar .long (ll gs)) :: (ax, Obj "com/example/witgen/witgen/regex/Partition" [("elements", "[I", (.ref b1)), ("location", "[I", (.ref b2)), ("blockOf", "[I", (.ref b3)), ("start", "[I", (.ref b4)), ("end", "[I", (.ref b5)), ("marked", "[I", (.ref b6)), ("touched", "[I", (.ref b7)), ("blocks", "I", (.int (Int32.ofNat cnt))), ("touchedCount", "I", (.int (Int32.ofNat tc)))]) :: (b1, Ar .int (nl el)) :: (b4, Ar .int (nl sta)) :: (b5, Ar .int (nl en)) :: (ox, Ar .int (nl [0, 1, 2, 3, 4])) :: (jx, Ar .long (ll [0, 1, 2, 3])) :: Rst)) (hi : i < (en.getD bk 0)) (hbd : (en.getD bk 0) < 1000) (hbe : bk < en.length) (hbk : bk < 1000) (hil : i < el.length) (hi1 : i < 1000) (hel : (el.getD i 0) < 4) (hs8 : One1 s8) (hs9 : One1 s9) (hfl : fl < gs.length) (hgl : gs.length < 1000) :
    ∃ (T' : State) (h' : Heap) (locs' : List Loc), Stand p l e ({ frames := 1, cells := 1, slots := 4, locals := 18 } : Room) s m args below meth c T' locs' cells slots ∧ T'.heap = h' ∧ Fr n0 locs' ∧ Rep Z n0 h' ((gx, Ar .long (ll (gs.set fl (el.getD i 0)))) :: (ax, Obj "com/example/witgen/witgen/regex/Partition" [("elements", "[I", (.ref b1)), ("location", "[I", (.ref b2)), ("blockOf", "[I", (.ref b3)), ("start", "[I", (.ref b4)), ("end", "[I", (.ref b5)), ("marked", "[I", (.ref b6)), ("touched", "[I", (.ref b7)), ("blocks", "I", (.int (Int32.ofNat cnt))), ("touchedCount", "I", (.int (Int32.ofNat tc)))]) :: (b1, Ar .int (nl el)) :: (b4, Ar .int (nl sta)) :: (b5, Ar .int (nl en)) :: (ox, Ar .int (nl [0, 1, 2, 3, 4])) :: (jx, Ar .long (ll [0, 1, 2, 3])) :: Rst) ∧ ∀ t, Steps p.tables e below (T'.setTop (mkF m 70 #[.val (.ref ax), .val (.int (Int32.ofNat bk)), .val (.ref ox), .val (.ref jx), .val (.int (Int32.ofNat cq)), .val (.ref gx), .val (.int (Int32.ofNat (fl + 1))), .val (.int (Int32.ofNat (i + 1))), .val (.int (Int32.ofNat (el.getD i 0))), .val (.int (1 : Int32))] [])) t → Steps p.tables e below (T0.setTop (mkF m 70 #[.val (.ref ax), .val (.int (Int32.ofNat bk)), .val (.ref ox), .val (.ref jx), .val (.int (Int32.ofNat cq)), .val (.ref gx), .val (.int (Int32.ofNat fl)), .val (.int (Int32.ofNat i)), s8, s9] [])) t := by
  have pre0 : ∀ t, Steps p.tables e below (T0.setTop (mkF m 70 #[.val (.ref ax), .val (.int (Int32.ofNat bk)), .val (.ref ox), .val (.ref jx), .val (.int (Int32.ofNat cq)), .val (.ref gx), .val (.int (Int32.ofNat fl)), .val (.int (Int32.ofNat i)), s8, s9] [])) t → Steps p.tables e below (T0.setTop (mkF m 70 #[.val (.ref ax), .val (.int (Int32.ofNat bk)), .val (.ref ox), .val (.ref jx), .val (.int (Int32.ofNat cq)), .val (.ref gx), .val (.int (Int32.ofNat fl)), .val (.int (Int32.ofNat i)), s8, s9] [])) t := fun t k => k
  have pre1 : ∀ t, Steps p.tables e below (T0.setTop (mkF m 73 #[.val (.ref ax), .val (.int (Int32.ofNat bk)), .val (.ref ox), .val (.ref jx), .val (.int (Int32.ofNat cq)), .val (.ref gx), .val (.int (Int32.ofNat fl)), .val (.int (Int32.ofNat i)), s8, s9] [(.ref ax), (.int (Int32.ofNat i))])) t → Steps p.tables e below (T0.setTop (mkF m 70 #[.val (.ref ax), .val (.int (Int32.ofNat bk)), .val (.ref ox), .val (.ref jx), .val (.int (Int32.ofNat cq)), .val (.ref gx), .val (.int (Int32.ofNat fl)), .val (.int (Int32.ofNat i)), s8, s9] [])) t := fun t k => pre0 t (by
    show Steps p.tables e below (T0.setTop (mkF m 70 #[.val (.ref ax), .val (.int (Int32.ofNat bk)), .val (.ref ox), .val (.ref jx), .val (.int (Int32.ofNat cq)), .val (.ref gx), .val (.int (Int32.ofNat fl)), .val (.int (Int32.ofNat i)), s8, s9] [])) _
    refine XS.iload X0.here hx rfl (hb hby d8_70) rfl ?_
    refine XS.aloadN X0.here hx rfl (hb hby d8_72) rfl rfl ?_
    exact k)
  obtain ⟨T2, X2, e2, st2⟩ := gGet X0 hx hZ hown (host := "") (Or.inl (hw _ (List.mem_of_getElem? (i := 39) rfl))) e0 R0 1 4 rfl rfl (g := (mkF m 73 #[.val (.ref ax), .val (.int (Int32.ofNat bk)), .val (.ref ox), .val (.ref jx), .val (.int (Int32.ofNat cq)), .val (.ref gx), .val (.int (Int32.ofNat fl)), .val (.int (Int32.ofNat i)), s8, s9] [(.ref ax), (.int (Int32.ofNat i))])) rfl rfl (hb hby d8_73)
  have pre3 : ∀ t, Steps p.tables e below (T2.setTop (mkF m 76 #[.val (.ref ax), .val (.int (Int32.ofNat bk)), .val (.ref ox), .val (.ref jx), .val (.int (Int32.ofNat cq)), .val (.ref gx), .val (.int (Int32.ofNat fl)), .val (.int (Int32.ofNat i)), s8, s9] [(.ref b5), (.int (Int32.ofNat i))])) t → Steps p.tables e below (T0.setTop (mkF m 70 #[.val (.ref ax), .val (.int (Int32.ofNat bk)), .val (.ref ox), .val (.ref jx), .val (.int (Int32.ofNat cq)), .val (.ref gx), .val (.int (Int32.ofNat fl)), .val (.int (Int32.ofNat i)), s8, s9] [])) t := fun t k => pre1 t (st2 t k)
  have pre5 : ∀ t, Steps p.tables e below (T2.setTop (mkF m 78 #[.val (.ref ax), .val (.int (Int32.ofNat bk)), .val (.ref ox), .val (.ref jx), .val (.int (Int32.ofNat cq)), .val (.ref gx), .val (.int (Int32.ofNat fl)), .val (.int (Int32.ofNat i)), s8, s9] [(.int (Int32.ofNat (en.getD bk 0))), (.int (Int32.ofNat i))])) t → Steps p.tables e below (T0.setTop (mkF m 70 #[.val (.ref ax), .val (.int (Int32.ofNat bk)), .val (.ref ox), .val (.ref jx), .val (.int (Int32.ofNat cq)), .val (.ref gx), .val (.int (Int32.ofNat fl)), .val (.int (Int32.ofNat i)), s8, s9] [])) t := fun t k => pre3 t (by
    show Steps p.tables e below (T2.setTop (mkF m 76 #[.val (.ref ax), .val (.int (Int32.ofNat bk)), .val (.ref ox), .val (.ref jx), .val (.int (Int32.ofNat cq)), .val (.ref gx), .val (.int (Int32.ofNat fl)), .val (.int (Int32.ofNat i)), s8, s9] [(.ref b5), (.int (Int32.ofNat i))])) _
    refine XS.iloadN X2.here hx rfl (hb hby d8_76) rfl ?_
    refine gIald X2 hx hZ e2 R0 4 rfl (j := (Int32.ofNat bk)) (v := (.int (Int32.ofNat (en.getD bk 0)))) (n_nn (hbk)) (nl_at (hbe) (hbk)) (g := (mkF m 77 #[.val (.ref ax), .val (.int (Int32.ofNat bk)), .val (.ref ox), .val (.ref jx), .val (.int (Int32.ofNat cq)), .val (.ref gx), .val (.int (Int32.ofNat fl)), .val (.int (Int32.ofNat i)), s8, s9] [(.int (Int32.ofNat bk)), (.ref b5), (.int (Int32.ofNat i))])) rfl rfl (hb hby d8_77) _ ?_
    exact k)
  have hb4 : (Int32.ofNat i) < (Int32.ofNat (en.getD bk 0)) := n_lt hi hbd
  have pre6 : ∀ t, Steps p.tables e below (T2.setTop (mkF m 82 #[.val (.ref ax), .val (.int (Int32.ofNat bk)), .val (.ref ox), .val (.ref jx), .val (.int (Int32.ofNat cq)), .val (.ref gx), .val (.int (Int32.ofNat fl)), .val (.int (Int32.ofNat i)), s8, s9] [(.ref ax)])) t → Steps p.tables e below (T0.setTop (mkF m 70 #[.val (.ref ax), .val (.int (Int32.ofNat bk)), .val (.ref ox), .val (.ref jx), .val (.int (Int32.ofNat cq)), .val (.ref gx), .val (.int (Int32.ofNat fl)), .val (.int (Int32.ofNat i)), s8, s9] [])) t := fun t k => pre5 t (by
    show Steps p.tables e below (T2.setTop (mkF m 78 #[.val (.ref ax), .val (.int (Int32.ofNat bk)), .val (.ref ox), .val (.ref jx), .val (.int (Int32.ofNat cq)), .val (.ref gx), .val (.int (Int32.ofNat fl)), .val (.int (Int32.ofNat i)), s8, s9] [(.int (Int32.ofNat (en.getD bk 0))), (.int (Int32.ofNat i))])) _
    refine XS.icmpNo X2.here hx rfl (hb hby d8_78) rfl (tlt hb4).2.1 ?_
    refine XS.aloadN X2.here hx rfl (hb hby d8_81) rfl rfl ?_
    exact k)
  obtain ⟨T7, X7, e7, st7⟩ := gGet X2 hx hZ hown (host := "") (Or.inl (hw _ (List.mem_of_getElem? (i := 22) rfl))) e2 R0 1 0 rfl rfl (g := (mkF m 82 #[.val (.ref ax), .val (.int (Int32.ofNat bk)), .val (.ref ox), .val (.ref jx), .val (.int (Int32.ofNat cq)), .val (.ref gx), .val (.int (Int32.ofNat fl)), .val (.int (Int32.ofNat i)), s8, s9] [(.ref ax)])) rfl rfl (hb hby d8_82)
  have pre8 : ∀ t, Steps p.tables e below (T7.setTop (mkF m 85 #[.val (.ref ax), .val (.int (Int32.ofNat bk)), .val (.ref ox), .val (.ref jx), .val (.int (Int32.ofNat cq)), .val (.ref gx), .val (.int (Int32.ofNat fl)), .val (.int (Int32.ofNat i)), s8, s9] [(.ref b1)])) t → Steps p.tables e below (T0.setTop (mkF m 70 #[.val (.ref ax), .val (.int (Int32.ofNat bk)), .val (.ref ox), .val (.ref jx), .val (.int (Int32.ofNat cq)), .val (.ref gx), .val (.int (Int32.ofNat fl)), .val (.int (Int32.ofNat i)), s8, s9] [])) t := fun t k => pre6 t (st7 t k)
  have pre9 : ∀ t, Steps p.tables e below (T7.setTop (mkF m 101 #[.val (.ref ax), .val (.int (Int32.ofNat bk)), .val (.ref ox), .val (.ref jx), .val (.int (Int32.ofNat cq)), .val (.ref gx), .val (.int (Int32.ofNat fl)), .val (.int (Int32.ofNat i)), .val (.int (Int32.ofNat (el.getD i 0))), s9] [(.int ((Int32.ofNat ([0, 1, 2, 3, 4].getD ((el.getD i 0) + 1) 0)) - (Int32.ofNat ([0, 1, 2, 3, 4].getD (el.getD i 0) 0))))])) t → Steps p.tables e below (T0.setTop (mkF m 70 #[.val (.ref ax), .val (.int (Int32.ofNat bk)), .val (.ref ox), .val (.ref jx), .val (.int (Int32.ofNat cq)), .val (.ref gx), .val (.int (Int32.ofNat fl)), .val (.int (Int32.ofNat i)), s8, s9] [])) t := fun t k => pre8 t (by
    show Steps p.tables e below (T7.setTop (mkF m 85 #[.val (.ref ax), .val (.int (Int32.ofNat bk)), .val (.ref ox), .val (.ref jx), .val (.int (Int32.ofNat cq)), .val (.ref gx), .val (.int (Int32.ofNat fl)), .val (.int (Int32.ofNat i)), s8, s9] [(.ref b1)])) _
    refine XS.iload X7.here hx rfl (hb hby d8_85) rfl ?_
    refine gIald X7 hx hZ e7 R0 2 rfl (j := (Int32.ofNat i)) (v := (.int (Int32.ofNat (el.getD i 0)))) (n_nn (hi1)) (nl_at (hil) (hi1)) (g := (mkF m 87 #[.val (.ref ax), .val (.int (Int32.ofNat bk)), .val (.ref ox), .val (.ref jx), .val (.int (Int32.ofNat cq)), .val (.ref gx), .val (.int (Int32.ofNat fl)), .val (.int (Int32.ofNat i)), s8, s9] [(.int (Int32.ofNat i)), (.ref b1)])) rfl rfl (hb hby d8_87) _ ?_
    refine XS.istoreS X7.here hx rfl (hb hby d8_88) rfl (o := s8) rfl hs8 ?_
    refine XS.aloadN X7.here hx rfl (hb hby d8_90) rfl rfl ?_
    refine XS.iload X7.here hx rfl (hb hby d8_91) rfl ?_
    refine XS.iconst X7.here hx rfl (hb hby d8_93) ?_
    refine XS.iadd X7.here hx rfl (hb hby d8_94) rfl ?_
    change Steps p.tables e below (T7.setTop (mkF m 95 #[.val (.ref ax), .val (.int (Int32.ofNat bk)), .val (.ref ox), .val (.ref jx), .val (.int (Int32.ofNat cq)), .val (.ref gx), .val (.int (Int32.ofNat fl)), .val (.int (Int32.ofNat i)), .val (.int (Int32.ofNat (el.getD i 0))), s9] [(.int ((Int32.ofNat (el.getD i 0)) + (1 : Int32))), (.ref ox)])) _
    rw [n_one]
    show Steps p.tables e below (T7.setTop (mkF m 95 #[.val (.ref ax), .val (.int (Int32.ofNat bk)), .val (.ref ox), .val (.ref jx), .val (.int (Int32.ofNat cq)), .val (.ref gx), .val (.int (Int32.ofNat fl)), .val (.int (Int32.ofNat i)), .val (.int (Int32.ofNat (el.getD i 0))), s9] [(.int (Int32.ofNat ((el.getD i 0) + 1))), (.ref ox)])) _
    refine gIald X7 hx hZ e7 R0 5 rfl (j := (Int32.ofNat ((el.getD i 0) + 1))) (v := (.int (Int32.ofNat ([0, 1, 2, 3, 4].getD ((el.getD i 0) + 1) 0)))) (n_nn (by omega)) (nl_at (show (el.getD i 0) + 1 < 5 by omega) (by omega)) (g := (mkF m 95 #[.val (.ref ax), .val (.int (Int32.ofNat bk)), .val (.ref ox), .val (.ref jx), .val (.int (Int32.ofNat cq)), .val (.ref gx), .val (.int (Int32.ofNat fl)), .val (.int (Int32.ofNat i)), .val (.int (Int32.ofNat (el.getD i 0))), s9] [(.int (Int32.ofNat ((el.getD i 0) + 1))), (.ref ox)])) rfl rfl (hb hby d8_95) _ ?_
    refine XS.aloadN X7.here hx rfl (hb hby d8_96) rfl rfl ?_
    refine XS.iload X7.here hx rfl (hb hby d8_97) rfl ?_
    refine gIald X7 hx hZ e7 R0 5 rfl (j := (Int32.ofNat (el.getD i 0))) (v := (.int (Int32.ofNat ([0, 1, 2, 3, 4].getD (el.getD i 0) 0)))) (n_nn (by omega)) (nl_at (show (el.getD i 0) < 5 by omega) (by omega)) (g := (mkF m 99 #[.val (.ref ax), .val (.int (Int32.ofNat bk)), .val (.ref ox), .val (.ref jx), .val (.int (Int32.ofNat cq)), .val (.ref gx), .val (.int (Int32.ofNat fl)), .val (.int (Int32.ofNat i)), .val (.int (Int32.ofNat (el.getD i 0))), s9] [(.int (Int32.ofNat (el.getD i 0))), (.ref ox), (.int (Int32.ofNat ([0, 1, 2, 3, 4].getD ((el.getD i 0) + 1) 0)))])) rfl rfl (hb hby d8_99) _ ?_
    refine XS.isub X7.here hx rfl (hb hby d8_100) rfl ?_
    exact k)
  rw [off1 hel] at pre9
  have pre10 : ∀ t, Steps p.tables e below (T7.setTop (mkF m 108 #[.val (.ref ax), .val (.int (Int32.ofNat bk)), .val (.ref ox), .val (.ref jx), .val (.int (Int32.ofNat cq)), .val (.ref gx), .val (.int (Int32.ofNat fl)), .val (.int (Int32.ofNat i)), .val (.int (Int32.ofNat (el.getD i 0))), .val (.int (1 : Int32))] [(.int (Int32.ofNat ([0, 1, 2, 3, 4].getD (el.getD i 0) 0))), (.ref jx)])) t → Steps p.tables e below (T0.setTop (mkF m 70 #[.val (.ref ax), .val (.int (Int32.ofNat bk)), .val (.ref ox), .val (.ref jx), .val (.int (Int32.ofNat cq)), .val (.ref gx), .val (.int (Int32.ofNat fl)), .val (.int (Int32.ofNat i)), s8, s9] [])) t := fun t k => pre9 t (by
    show Steps p.tables e below (T7.setTop (mkF m 101 #[.val (.ref ax), .val (.int (Int32.ofNat bk)), .val (.ref ox), .val (.ref jx), .val (.int (Int32.ofNat cq)), .val (.ref gx), .val (.int (Int32.ofNat fl)), .val (.int (Int32.ofNat i)), .val (.int (Int32.ofNat (el.getD i 0))), s9] [(.int (1 : Int32))])) _
    refine XS.istoreS X7.here hx rfl (hb hby d8_101) rfl (o := s9) rfl hs9 ?_
    refine XS.aloadN X7.here hx rfl (hb hby d8_103) rfl rfl ?_
    refine XS.aloadN X7.here hx rfl (hb hby d8_104) rfl rfl ?_
    refine XS.iload X7.here hx rfl (hb hby d8_105) rfl ?_
    refine gIald X7 hx hZ e7 R0 5 rfl (j := (Int32.ofNat (el.getD i 0))) (v := (.int (Int32.ofNat ([0, 1, 2, 3, 4].getD (el.getD i 0) 0)))) (n_nn (by omega)) (nl_at (show (el.getD i 0) < 5 by omega) (by omega)) (g := (mkF m 107 #[.val (.ref ax), .val (.int (Int32.ofNat bk)), .val (.ref ox), .val (.ref jx), .val (.int (Int32.ofNat cq)), .val (.ref gx), .val (.int (Int32.ofNat fl)), .val (.int (Int32.ofNat i)), .val (.int (Int32.ofNat (el.getD i 0))), .val (.int (1 : Int32))] [(.int (Int32.ofNat (el.getD i 0))), (.ref ox), (.ref jx)])) rfl rfl (hb hby d8_107) _ ?_
    exact k)
  rw [off0 hel] at pre10
  have pre11 : ∀ t, Steps p.tables e below (T7.setTop (mkF m 114 #[.val (.ref ax), .val (.int (Int32.ofNat bk)), .val (.ref ox), .val (.ref jx), .val (.int (Int32.ofNat cq)), .val (.ref gx), .val (.int (Int32.ofNat fl)), .val (.int (Int32.ofNat i)), .val (.int (Int32.ofNat (el.getD i 0))), .val (.int (1 : Int32))] [(.int (1 : Int32)), (.int (Int32.ofNat fl)), (.ref gx), (.int (Int32.ofNat (el.getD i 0))), (.ref jx)])) t → Steps p.tables e below (T0.setTop (mkF m 70 #[.val (.ref ax), .val (.int (Int32.ofNat bk)), .val (.ref ox), .val (.ref jx), .val (.int (Int32.ofNat cq)), .val (.ref gx), .val (.int (Int32.ofNat fl)), .val (.int (Int32.ofNat i)), s8, s9] [])) t := fun t k => pre10 t (by
    show Steps p.tables e below (T7.setTop (mkF m 108 #[.val (.ref ax), .val (.int (Int32.ofNat bk)), .val (.ref ox), .val (.ref jx), .val (.int (Int32.ofNat cq)), .val (.ref gx), .val (.int (Int32.ofNat fl)), .val (.int (Int32.ofNat i)), .val (.int (Int32.ofNat (el.getD i 0))), .val (.int (1 : Int32))] [(.int (Int32.ofNat (el.getD i 0))), (.ref jx)])) _
    refine XS.aload X7.here hx rfl (hb hby d8_108) rfl rfl ?_
    refine XS.iload X7.here hx rfl (hb hby d8_110) rfl ?_
    refine XS.iload X7.here hx rfl (hb hby d8_112) rfl ?_
    exact k)
  obtain ⟨T12, h12, ls12, X12, e12, N12, R12, st12⟩ := gCopy X7 hx hZ hown (hw _ (List.mem_of_getElem? (i := 70) rfl)) (hw _ (List.mem_of_getElem? (i := 57) rfl)) (hw _ (List.mem_of_getElem? (i := 55) rfl)) (hw _ (List.mem_of_getElem? (i := 56) rfl)) e7 N0 R0 6 0 rfl rfl rfl (by decide) (by rw [ll_len]; omega) (sp := (Int32.ofNat (el.getD i 0))) (dp := (Int32.ofNat fl)) (nn := (1 : Int32)) (n_nn (by omega)) (n_nn (by omega)) (by decide) (el.getD i 0) fl 1 (n_ix (by omega)) (n_ix (by omega)) (rfl) (show (el.getD i 0) + 1 ≤ 4 by omega) (by rw [ll_len]; omega) (g := (mkF m 114 #[.val (.ref ax), .val (.int (Int32.ofNat bk)), .val (.ref ox), .val (.ref jx), .val (.int (Int32.ofNat cq)), .val (.ref gx), .val (.int (Int32.ofNat fl)), .val (.int (Int32.ofNat i)), .val (.int (Int32.ofNat (el.getD i 0))), .val (.int (1 : Int32))] [(.int (1 : Int32)), (.int (Int32.ofNat fl)), (.ref gx), (.int (Int32.ofNat (el.getD i 0))), (.ref jx)])) rfl (by rw [hml]; rfl) rfl (hb hby d8_114) (by decide) (W := 0) (by show 2 * 0 + _ ≤ _; exact Nat.le_of_eq rfl) (by decide)
  replace R12 : Rep Z n0 h12 ((gx, Ar .long (ll (gs.set fl (el.getD i 0)))) :: (ax, Obj "com/example/witgen/witgen/regex/Partition" [("elements", "[I", (.ref b1)), ("location", "[I", (.ref b2)), ("blockOf", "[I", (.ref b3)), ("start", "[I", (.ref b4)), ("end", "[I", (.ref b5)), ("marked", "[I", (.ref b6)), ("touched", "[I", (.ref b7)), ("blocks", "I", (.int (Int32.ofNat cnt))), ("touchedCount", "I", (.int (Int32.ofNat tc)))]) :: (b1, Ar .int (nl el)) :: (b4, Ar .int (nl sta)) :: (b5, Ar .int (nl en)) :: (ox, Ar .int (nl [0, 1, 2, 3, 4])) :: (jx, Ar .long (ll [0, 1, 2, 3])) :: Rst) := by have z := R12; rw [l_copy hel hfl] at z; exact z
  have pre13 : ∀ t, Steps p.tables e below (T12.setTop (mkF m 117 #[.val (.ref ax), .val (.int (Int32.ofNat bk)), .val (.ref ox), .val (.ref jx), .val (.int (Int32.ofNat cq)), .val (.ref gx), .val (.int (Int32.ofNat fl)), .val (.int (Int32.ofNat i)), .val (.int (Int32.ofNat (el.getD i 0))), .val (.int (1 : Int32))] [])) t → Steps p.tables e below (T0.setTop (mkF m 70 #[.val (.ref ax), .val (.int (Int32.ofNat bk)), .val (.ref ox), .val (.ref jx), .val (.int (Int32.ofNat cq)), .val (.ref gx), .val (.int (Int32.ofNat fl)), .val (.int (Int32.ofNat i)), s8, s9] [])) t := fun t k => pre11 t (st12 t k)
  have pre14 : ∀ t, Steps p.tables e below (T12.setTop (mkF m 70 #[.val (.ref ax), .val (.int (Int32.ofNat bk)), .val (.ref ox), .val (.ref jx), .val (.int (Int32.ofNat cq)), .val (.ref gx), .val (.int (Int32.ofNat (fl + 1))), .val (.int (Int32.ofNat (i + 1))), .val (.int (Int32.ofNat (el.getD i 0))), .val (.int (1 : Int32))] [])) t → Steps p.tables e below (T0.setTop (mkF m 70 #[.val (.ref ax), .val (.int (Int32.ofNat bk)), .val (.ref ox), .val (.ref jx), .val (.int (Int32.ofNat cq)), .val (.ref gx), .val (.int (Int32.ofNat fl)), .val (.int (Int32.ofNat i)), s8, s9] [])) t := fun t k => pre13 t (by
    show Steps p.tables e below (T12.setTop (mkF m 117 #[.val (.ref ax), .val (.int (Int32.ofNat bk)), .val (.ref ox), .val (.ref jx), .val (.int (Int32.ofNat cq)), .val (.ref gx), .val (.int (Int32.ofNat fl)), .val (.int (Int32.ofNat i)), .val (.int (Int32.ofNat (el.getD i 0))), .val (.int (1 : Int32))] [])) _
    refine XS.iload X12.here hx rfl (hb hby d8_117) rfl ?_
    refine XS.iload X12.here hx rfl (hb hby d8_119) rfl ?_
    refine XS.iadd X12.here hx rfl (hb hby d8_121) rfl ?_
    change Steps p.tables e below (T12.setTop (mkF m 122 #[.val (.ref ax), .val (.int (Int32.ofNat bk)), .val (.ref ox), .val (.ref jx), .val (.int (Int32.ofNat cq)), .val (.ref gx), .val (.int (Int32.ofNat fl)), .val (.int (Int32.ofNat i)), .val (.int (Int32.ofNat (el.getD i 0))), .val (.int (1 : Int32))] [(.int ((Int32.ofNat fl) + (1 : Int32)))])) _
    rw [n_one]
    show Steps p.tables e below (T12.setTop (mkF m 122 #[.val (.ref ax), .val (.int (Int32.ofNat bk)), .val (.ref ox), .val (.ref jx), .val (.int (Int32.ofNat cq)), .val (.ref gx), .val (.int (Int32.ofNat fl)), .val (.int (Int32.ofNat i)), .val (.int (Int32.ofNat (el.getD i 0))), .val (.int (1 : Int32))] [(.int (Int32.ofNat (fl + 1)))])) _
    refine XS.istore X12.here hx rfl (hb hby d8_122) rfl (l' := #[.val (.ref ax), .val (.int (Int32.ofNat bk)), .val (.ref ox), .val (.ref jx), .val (.int (Int32.ofNat cq)), .val (.ref gx), .val (.int (Int32.ofNat (fl + 1))), .val (.int (Int32.ofNat i)), .val (.int (Int32.ofNat (el.getD i 0))), .val (.int (1 : Int32))]) rfl ?_
    refine XS.iinc X12.here hx rfl (hb hby d8_124) rfl (l' := #[.val (.ref ax), .val (.int (Int32.ofNat bk)), .val (.ref ox), .val (.ref jx), .val (.int (Int32.ofNat cq)), .val (.ref gx), .val (.int (Int32.ofNat (fl + 1))), .val (.int ((Int32.ofNat i) + (1 : Int32))), .val (.int (Int32.ofNat (el.getD i 0))), .val (.int (1 : Int32))]) rfl ?_
    change Steps p.tables e below (T12.setTop (mkF m 127 #[.val (.ref ax), .val (.int (Int32.ofNat bk)), .val (.ref ox), .val (.ref jx), .val (.int (Int32.ofNat cq)), .val (.ref gx), .val (.int (Int32.ofNat (fl + 1))), .val (.int ((Int32.ofNat i) + (1 : Int32))), .val (.int (Int32.ofNat (el.getD i 0))), .val (.int (1 : Int32))] [])) _
    rw [n_one]
    show Steps p.tables e below (T12.setTop (mkF m 127 #[.val (.ref ax), .val (.int (Int32.ofNat bk)), .val (.ref ox), .val (.ref jx), .val (.int (Int32.ofNat cq)), .val (.ref gx), .val (.int (Int32.ofNat (fl + 1))), .val (.int (Int32.ofNat (i + 1))), .val (.int (Int32.ofNat (el.getD i 0))), .val (.int (1 : Int32))] [])) _
    refine XS.goto X12.here hx rfl (pc0 := 127) (pc' := 70) rfl (hb hby d8_127) (by decide) (by decide) ?_
    exact k)
  exact ⟨T12, h12, _, X12, e12, N12, R12, pre14⟩
set_option maxRecDepth 65536 in
set_option maxHeartbeats 40000000 in
theorem g2_out {p : Program} {l : Launch} {e : Env} {s : State} {m : MethodId} {args : Array Value} {below : List Frame} {meth : Method} {c : Code} {T0 : State} {locs : List Loc} {cells slots : Nat} {Z : State} {a0 : Array Value} {h0 : Heap} {n0 : Nat} {Rst : RL} (ax : Addr) (bk : Nat) (ox : Addr) (jx : Addr) (b1 : Addr) (b2 : Addr) (b3 : Addr) (b4 : Addr) (b5 : Addr) (b6 : Addr) (b7 : Addr) (cnt : Nat) (tc : Nat) (el : List Nat) (sta : List Nat) (en : List Nat) (cq : Nat) (gx : Addr) (fl : Nat) (i : Nat) (s8 : Slot) (s9 : Slot) (gs : List Nat)
    (X0 : Stand p l e ({ frames := 1, cells := 1, slots := 4, locals := 18 } : Room) s m args below meth c T0 locs cells slots) (hx : p.tables.exec = Jvm.exec) (hZ : Z.Warmed39 s.vm) (hw : ∀ d ∈ tables_1, d.before a0 Z = true) (hby : c.code = prog_15_method_8_code) (hml : c.maxLocals = 10) (hown : s.vm.findClass "com/example/witgen/witgen/regex/Partition" = some m.cls) (e0 : T0.heap = h0) (N0 : Fr n0 locs) (R0 : Rep Z n0 h0 ((gx, Ar .long (ll gs)) :: (ax, Obj "com/example/witgen/witgen/regex/Partition" [("elements", "[I", (.ref b1)), ("location", "[I", (.ref b2)), ("blockOf", "[I", (.ref b3)), ("start", "[I", (.ref b4)), ("end", "[I", (.ref b5)), ("marked", "[I", (.ref b6)), ("touched", "[I", (.ref b7)), ("blocks", "I", (.int (Int32.ofNat cnt))), ("touchedCount", "I", (.int (Int32.ofNat tc)))]) :: (b1, Ar .int (nl el)) :: (b4, Ar .int (nl sta)) :: (b5, Ar .int (nl en)) :: (ox, Ar .int (nl [0, 1, 2, 3, 4])) :: (jx, Ar .long (ll [0, 1, 2, 3])) :: Rst)) (hi : (en.getD bk 0) ≤ i) (hbd : i < 1000) (hbe : bk < en.length) (hbk : bk < 1000) :
    ∃ (T' : State) (h' : Heap) (locs' : List Loc), Stand p l e ({ frames := 1, cells := 1, slots := 4, locals := 18 } : Room) s m args below meth c T' locs' cells slots ∧ T'.heap = h' ∧ Fr n0 locs' ∧ Rep Z n0 h' ((gx, Ar .long (ll gs)) :: (ax, Obj "com/example/witgen/witgen/regex/Partition" [("elements", "[I", (.ref b1)), ("location", "[I", (.ref b2)), ("blockOf", "[I", (.ref b3)), ("start", "[I", (.ref b4)), ("end", "[I", (.ref b5)), ("marked", "[I", (.ref b6)), ("touched", "[I", (.ref b7)), ("blocks", "I", (.int (Int32.ofNat cnt))), ("touchedCount", "I", (.int (Int32.ofNat tc)))]) :: (b1, Ar .int (nl el)) :: (b4, Ar .int (nl sta)) :: (b5, Ar .int (nl en)) :: (ox, Ar .int (nl [0, 1, 2, 3, 4])) :: (jx, Ar .long (ll [0, 1, 2, 3])) :: Rst) ∧ ∀ t, Steps p.tables e below (T'.setTop (mkF m 130 #[.val (.ref ax), .val (.int (Int32.ofNat bk)), .val (.ref ox), .val (.ref jx), .val (.int (Int32.ofNat cq)), .val (.ref gx), .val (.int (Int32.ofNat fl)), .val (.int (Int32.ofNat i)), s8, s9] [])) t → Steps p.tables e below (T0.setTop (mkF m 70 #[.val (.ref ax), .val (.int (Int32.ofNat bk)), .val (.ref ox), .val (.ref jx), .val (.int (Int32.ofNat cq)), .val (.ref gx), .val (.int (Int32.ofNat fl)), .val (.int (Int32.ofNat i)), s8, s9] [])) t := by
  have pre0 : ∀ t, Steps p.tables e below (T0.setTop (mkF m 70 #[.val (.ref ax), .val (.int (Int32.ofNat bk)), .val (.ref ox), .val (.ref jx), .val (.int (Int32.ofNat cq)), .val (.ref gx), .val (.int (Int32.ofNat fl)), .val (.int (Int32.ofNat i)), s8, s9] [])) t → Steps p.tables e below (T0.setTop (mkF m 70 #[.val (.ref ax), .val (.int (Int32.ofNat bk)), .val (.ref ox), .val (.ref jx), .val (.int (Int32.ofNat cq)), .val (.ref gx), .val (.int (Int32.ofNat fl)), .val (.int (Int32.ofNat i)), s8, s9] [])) t := fun t k => k
  have pre1 : ∀ t, Steps p.tables e below (T0.setTop (mkF m 73 #[.val (.ref ax), .val (.int (Int32.ofNat bk)), .val (.ref ox), .val (.ref jx), .val (.int (Int32.ofNat cq)), .val (.ref gx), .val (.int (Int32.ofNat fl)), .val (.int (Int32.ofNat i)), s8, s9] [(.ref ax), (.int (Int32.ofNat i))])) t → Steps p.tables e below (T0.setTop (mkF m 70 #[.val (.ref ax), .val (.int (Int32.ofNat bk)), .val (.ref ox), .val (.ref jx), .val (.int (Int32.ofNat cq)), .val (.ref gx), .val (.int (Int32.ofNat fl)), .val (.int (Int32.ofNat i)), s8, s9] [])) t := fun t k => pre0 t (by
    show Steps p.tables e below (T0.setTop (mkF m 70 #[.val (.ref ax), .val (.int (Int32.ofNat bk)), .val (.ref ox), .val (.ref jx), .val (.int (Int32.ofNat cq)), .val (.ref gx), .val (.int (Int32.ofNat fl)), .val (.int (Int32.ofNat i)), s8, s9] [])) _
    refine XS.iload X0.here hx rfl (hb hby d8_70) rfl ?_
    refine XS.aloadN X0.here hx rfl (hb hby d8_72) rfl rfl ?_
    exact k)
  obtain ⟨T2, X2, e2, st2⟩ := gGet X0 hx hZ hown (host := "") (Or.inl (hw _ (List.mem_of_getElem? (i := 39) rfl))) e0 R0 1 4 rfl rfl (g := (mkF m 73 #[.val (.ref ax), .val (.int (Int32.ofNat bk)), .val (.ref ox), .val (.ref jx), .val (.int (Int32.ofNat cq)), .val (.ref gx), .val (.int (Int32.ofNat fl)), .val (.int (Int32.ofNat i)), s8, s9] [(.ref ax), (.int (Int32.ofNat i))])) rfl rfl (hb hby d8_73)
  have pre3 : ∀ t, Steps p.tables e below (T2.setTop (mkF m 76 #[.val (.ref ax), .val (.int (Int32.ofNat bk)), .val (.ref ox), .val (.ref jx), .val (.int (Int32.ofNat cq)), .val (.ref gx), .val (.int (Int32.ofNat fl)), .val (.int (Int32.ofNat i)), s8, s9] [(.ref b5), (.int (Int32.ofNat i))])) t → Steps p.tables e below (T0.setTop (mkF m 70 #[.val (.ref ax), .val (.int (Int32.ofNat bk)), .val (.ref ox), .val (.ref jx), .val (.int (Int32.ofNat cq)), .val (.ref gx), .val (.int (Int32.ofNat fl)), .val (.int (Int32.ofNat i)), s8, s9] [])) t := fun t k => pre1 t (st2 t k)
  have pre5 : ∀ t, Steps p.tables e below (T2.setTop (mkF m 78 #[.val (.ref ax), .val (.int (Int32.ofNat bk)), .val (.ref ox), .val (.ref jx), .val (.int (Int32.ofNat cq)), .val (.ref gx), .val (.int (Int32.ofNat fl)), .val (.int (Int32.ofNat i)), s8, s9] [(.int (Int32.ofNat (en.getD bk 0))), (.int (Int32.ofNat i))])) t → Steps p.tables e below (T0.setTop (mkF m 70 #[.val (.ref ax), .val (.int (Int32.ofNat bk)), .val (.ref ox), .val (.ref jx), .val (.int (Int32.ofNat cq)), .val (.ref gx), .val (.int (Int32.ofNat fl)), .val (.int (Int32.ofNat i)), s8, s9] [])) t := fun t k => pre3 t (by
    show Steps p.tables e below (T2.setTop (mkF m 76 #[.val (.ref ax), .val (.int (Int32.ofNat bk)), .val (.ref ox), .val (.ref jx), .val (.int (Int32.ofNat cq)), .val (.ref gx), .val (.int (Int32.ofNat fl)), .val (.int (Int32.ofNat i)), s8, s9] [(.ref b5), (.int (Int32.ofNat i))])) _
    refine XS.iloadN X2.here hx rfl (hb hby d8_76) rfl ?_
    refine gIald X2 hx hZ e2 R0 4 rfl (j := (Int32.ofNat bk)) (v := (.int (Int32.ofNat (en.getD bk 0)))) (n_nn (hbk)) (nl_at (hbe) (hbk)) (g := (mkF m 77 #[.val (.ref ax), .val (.int (Int32.ofNat bk)), .val (.ref ox), .val (.ref jx), .val (.int (Int32.ofNat cq)), .val (.ref gx), .val (.int (Int32.ofNat fl)), .val (.int (Int32.ofNat i)), s8, s9] [(.int (Int32.ofNat bk)), (.ref b5), (.int (Int32.ofNat i))])) rfl rfl (hb hby d8_77) _ ?_
    exact k)
  have hb4 : ¬ ((Int32.ofNat i) < (Int32.ofNat (en.getD bk 0))) := n_nlt hi hbd
  have pre6 : ∀ t, Steps p.tables e below (T2.setTop (mkF m 130 #[.val (.ref ax), .val (.int (Int32.ofNat bk)), .val (.ref ox), .val (.ref jx), .val (.int (Int32.ofNat cq)), .val (.ref gx), .val (.int (Int32.ofNat fl)), .val (.int (Int32.ofNat i)), s8, s9] [])) t → Steps p.tables e below (T0.setTop (mkF m 70 #[.val (.ref ax), .val (.int (Int32.ofNat bk)), .val (.ref ox), .val (.ref jx), .val (.int (Int32.ofNat cq)), .val (.ref gx), .val (.int (Int32.ofNat fl)), .val (.int (Int32.ofNat i)), s8, s9] [])) t := fun t k => pre5 t (by
    show Steps p.tables e below (T2.setTop (mkF m 78 #[.val (.ref ax), .val (.int (Int32.ofNat bk)), .val (.ref ox), .val (.ref jx), .val (.int (Int32.ofNat cq)), .val (.ref gx), .val (.int (Int32.ofNat fl)), .val (.int (Int32.ofNat i)), s8, s9] [(.int (Int32.ofNat (en.getD bk 0))), (.int (Int32.ofNat i))])) _
    refine XS.icmpYes X2.here hx rfl (pc0 := 78) (pc' := 130) rfl (hb hby d8_78) rfl (flt hb4).2.1 (by decide) (by decide) ?_
    exact k)
  exact ⟨T2, h0, _, X2, e2, N0, R0, pre6⟩
def g2 (el : List Nat) : Nat → Nat → Nat → List Nat → List Nat
  | 0, _, _, gs => gs
  | k + 1, i, f, gs => g2 el k (i + 1) (f + 1) (gs.set f (el.getD i 0))
theorem g2_len (el : List Nat) : ∀ (k i f : Nat) (gs : List Nat), (g2 el k i f gs).length = gs.length
  | 0, _, _, _ => rfl
  | k + 1, i, f, gs => by rw [g2, g2_len el k, List.length_set]
theorem g2_loop {p : Program} {l : Launch} {e : Env} {s : State} {m : MethodId} {args : Array Value} {below : List Frame} {meth : Method} {c : Code} {cells slots : Nat} {Z : State} {a0 : Array Value} {n0 : Nat} {Rst : RL} (ax : Addr) (bk : Nat) (ox : Addr) (jx : Addr) (b1 : Addr) (b2 : Addr) (b3 : Addr) (b4 : Addr) (b5 : Addr) (b6 : Addr) (b7 : Addr) (cnt : Nat) (tc : Nat) (el : List Nat) (sta : List Nat) (en : List Nat) (cq : Nat) (gx : Addr) (hx : p.tables.exec = Jvm.exec) (hZ : Z.Warmed39 s.vm) (hw : ∀ d ∈ tables_1, d.before a0 Z = true) (hby : c.code = prog_15_method_8_code) (hml : c.maxLocals = 10) (hown : s.vm.findClass "com/example/witgen/witgen/regex/Partition" = some m.cls) (hbe : bk < en.length) (hbk : bk < 1000) (h4 : (en.getD bk 0) ≤ 4) (hl4 : el.length = 4) (hel : ∀ j, j < 4 → el.getD j 0 < 4) :
    ∀ (k i fl : Nat) (s8 s9 : Slot) (gs : List Nat) (T0 : State) (locs : List Loc) (h0 : Heap), i + k = (en.getD bk 0) → fl + k = gs.length → gs.length < 1000 → One1 s8 → One1 s9 → Stand p l e ({ frames := 1, cells := 1, slots := 4, locals := 18 } : Room) s m args below meth c T0 locs cells slots → T0.heap = h0 → Fr n0 locs → Rep Z n0 h0 ((gx, Ar .long (ll gs)) :: (ax, Obj "com/example/witgen/witgen/regex/Partition" [("elements", "[I", (.ref b1)), ("location", "[I", (.ref b2)), ("blockOf", "[I", (.ref b3)), ("start", "[I", (.ref b4)), ("end", "[I", (.ref b5)), ("marked", "[I", (.ref b6)), ("touched", "[I", (.ref b7)), ("blocks", "I", (.int (Int32.ofNat cnt))), ("touchedCount", "I", (.int (Int32.ofNat tc)))]) :: (b1, Ar .int (nl el)) :: (b4, Ar .int (nl sta)) :: (b5, Ar .int (nl en)) :: (ox, Ar .int (nl [0, 1, 2, 3, 4])) :: (jx, Ar .long (ll [0, 1, 2, 3])) :: Rst) →
      ∃ (s8' s9' : Slot) (T' : State) (h' : Heap) (locs' : List Loc), One1 s8' ∧ One1 s9' ∧ Stand p l e ({ frames := 1, cells := 1, slots := 4, locals := 18 } : Room) s m args below meth c T' locs' cells slots ∧ T'.heap = h' ∧ Fr n0 locs' ∧ Rep Z n0 h' ((gx, Ar .long (ll (g2 el k i fl gs))) :: (ax, Obj "com/example/witgen/witgen/regex/Partition" [("elements", "[I", (.ref b1)), ("location", "[I", (.ref b2)), ("blockOf", "[I", (.ref b3)), ("start", "[I", (.ref b4)), ("end", "[I", (.ref b5)), ("marked", "[I", (.ref b6)), ("touched", "[I", (.ref b7)), ("blocks", "I", (.int (Int32.ofNat cnt))), ("touchedCount", "I", (.int (Int32.ofNat tc)))]) :: (b1, Ar .int (nl el)) :: (b4, Ar .int (nl sta)) :: (b5, Ar .int (nl en)) :: (ox, Ar .int (nl [0, 1, 2, 3, 4])) :: (jx, Ar .long (ll [0, 1, 2, 3])) :: Rst) ∧ ∀ t, Steps p.tables e below (T'.setTop (mkF m 130 #[.val (.ref ax), .val (.int (Int32.ofNat bk)), .val (.ref ox), .val (.ref jx), .val (.int (Int32.ofNat cq)), .val (.ref gx), .val (.int (Int32.ofNat (fl + k))), .val (.int (Int32.ofNat (en.getD bk 0))), s8', s9'] [])) t → Steps p.tables e below (T0.setTop (mkF m 70 #[.val (.ref ax), .val (.int (Int32.ofNat bk)), .val (.ref ox), .val (.ref jx), .val (.int (Int32.ofNat cq)), .val (.ref gx), .val (.int (Int32.ofNat fl)), .val (.int (Int32.ofNat i)), s8, s9] [])) t := by
  intro k
  induction k with
  | zero =>
    intro i fl s8 s9 gs T0 locs h0 hi hf hg o8 o9 X0 e0 N0 R0
    have hi' : i = (en.getD bk 0) := by omega
    subst hi'
    obtain ⟨T1, h1, ls1, X1, e1, N1, R1, st1⟩ := g2_out ax bk ox jx b1 b2 b3 b4 b5 b6 b7 cnt tc el sta en cq gx fl (en.getD bk 0) s8 s9 gs X0 hx hZ hw hby hml hown e0 N0 R0 (Nat.le_refl _) (by omega) hbe hbk
    exact ⟨s8, s9, T1, h1, ls1, o8, o9, X1, e1, N1, R1, st1⟩
  | succ k ih =>
    intro i fl s8 s9 gs T0 locs h0 hi hf hg o8 o9 X0 e0 N0 R0
    obtain ⟨T1, h1, ls1, X1, e1, N1, R1, st1⟩ := g2_turn ax bk ox jx b1 b2 b3 b4 b5 b6 b7 cnt tc el sta en cq gx fl i s8 s9 gs X0 hx hZ hw hby hml hown e0 N0 R0 (by omega) (by omega) hbe hbk (by omega) (by omega) (hel i (by omega)) o8 o9 (by omega) hg
    obtain ⟨s8', s9', T2, h2, ls2, o2, o3, X2, e2, N2, R2, st2⟩ := ih (i + 1) (fl + 1) (.val (.int (Int32.ofNat (el.getD i 0)))) (.val (.int (1 : Int32))) _ T1 ls1 h1 (by omega) (by rw [List.length_set]; omega) (by rw [List.length_set]; exact hg) (One1.v rfl) (One1.v rfl) X1 e1 N1 R1
    rw [show fl + (k + 1) = fl + 1 + k by omega]
    exact ⟨s8', s9', T2, h2, ls2, o2, o3, X2, e2, N2, R2, fun t q => st1 t (st2 t q)⟩
def gat (el sta en : List Nat) (bk : Nat) : List Nat := g2 el (en.getD bk 0 - sta.getD bk 0) (sta.getD bk 0) 0 (List.replicate (en.getD bk 0 - sta.getD bk 0) 0)
theorem gat_len (el sta en : List Nat) (bk : Nat) : (gat el sta en bk).length = en.getD bk 0 - sta.getD bk 0 := by rw [gat, g2_len, List.length_replicate]
def okG (el sta en : List Nat) (bk : Nat) : Bool := decide (bk < sta.length) && decide (bk < en.length) && decide (bk < 1000) && decide (sta.getD bk 0 ≤ en.getD bk 0) && decide (en.getD bk 0 ≤ 4) && decide (el.length = 4) && (List.range 4).all fun j => decide (el.getD j 0 < 4)
theorem okG.parts {el sta en : List Nat} {bk : Nat} (h : okG el sta en bk = true) : bk < sta.length ∧ bk < en.length ∧ bk < 1000 ∧ sta.getD bk 0 ≤ en.getD bk 0 ∧ en.getD bk 0 ≤ 4 ∧ el.length = 4 ∧ ∀ j, j < 4 → el.getD j 0 < 4 := by
  simp only [okG, Bool.and_eq_true, decide_eq_true_eq, List.all_eq_true, List.mem_range] at h
  exact ⟨h.1.1.1.1.1.1, h.1.1.1.1.1.2, h.1.1.1.1.2, h.1.1.1.2, h.1.1.2, h.1.2, h.2⟩
theorem d8_0 : decode prog_15_method_8_code 0 = .ok (.iconst 0, 1) := by decide +kernel
theorem d8_1 : decode prog_15_method_8_code 1 = .ok (.istore 4, 2) := by decide +kernel
theorem d8_3 : decode prog_15_method_8_code 3 = .ok (.aload_n 0, 1) := by decide +kernel
theorem d8_4 : decode prog_15_method_8_code 4 = .ok (.getfield 30, 3) := by decide +kernel
theorem d8_7 : decode prog_15_method_8_code 7 = .ok (.iload_n 1, 1) := by decide +kernel
theorem d8_8 : decode prog_15_method_8_code 8 = .ok (.iaload, 1) := by decide +kernel
theorem d8_9 : decode prog_15_method_8_code 9 = .ok (.istore 5, 2) := by decide +kernel
theorem d8_53 : decode prog_15_method_8_code 53 = .ok (.iload 4, 2) := by decide +kernel
theorem d8_55 : decode prog_15_method_8_code 55 = .ok (.newarray .long, 2) := by decide +kernel
theorem d8_57 : decode prog_15_method_8_code 57 = .ok (.astore 5, 2) := by decide +kernel
theorem d8_59 : decode prog_15_method_8_code 59 = .ok (.iconst 0, 1) := by decide +kernel
theorem d8_60 : decode prog_15_method_8_code 60 = .ok (.istore 6, 2) := by decide +kernel
theorem d8_62 : decode prog_15_method_8_code 62 = .ok (.aload_n 0, 1) := by decide +kernel
theorem d8_63 : decode prog_15_method_8_code 63 = .ok (.getfield 30, 3) := by decide +kernel
theorem d8_66 : decode prog_15_method_8_code 66 = .ok (.iload_n 1, 1) := by decide +kernel
theorem d8_67 : decode prog_15_method_8_code 67 = .ok (.iaload, 1) := by decide +kernel
theorem d8_68 : decode prog_15_method_8_code 68 = .ok (.istore 7, 2) := by decide +kernel
theorem d8_130 : decode prog_15_method_8_code 130 = .ok (.aload 5, 2) := by decide +kernel
theorem d8_132 : decode prog_15_method_8_code 132 = .ok (.areturn, 1) := by decide +kernel
theorem ef_8 (m : MethodId) (x0 : Addr) (x1 : Nat) (x2 : Addr) (x3 : Addr) : entryFrame m #[(.ref x0), (.int (Int32.ofNat x1)), (.ref x2), (.ref x3)] 10 = mkF m 0 #[.val (.ref x0), .val (.int (Int32.ofNat x1)), .val (.ref x2), .val (.ref x3), .unset, .unset, .unset, .unset, .unset, .unset] [] := by first | (simp [entryFrame, mkF, argsToLocals, Value.category]; done) | rfl
def Q8 (Z : State) (ax : Addr) (bk : Nat) (ox : Addr) (jx : Addr) (b1 : Addr) (b2 : Addr) (b3 : Addr) (b4 : Addr) (b5 : Addr) (b6 : Addr) (b7 : Addr) (cnt : Nat) (tc : Nat) (el : List Nat) (sta : List Nat) (en : List Nat) (n0 : Nat) (Rst : RL) (v : Option Value) (h : Heap) (L : List Loc) : Prop := ∃ bx : Addr, v = some (.ref bx) ∧ Fr n0 L ∧ Rep Z n0 h ((bx, Ar .long (ll (gat el sta en bk))) :: (ax, Obj "com/example/witgen/witgen/regex/Partition" [("elements", "[I", (.ref b1)), ("location", "[I", (.ref b2)), ("blockOf", "[I", (.ref b3)), ("start", "[I", (.ref b4)), ("end", "[I", (.ref b5)), ("marked", "[I", (.ref b6)), ("touched", "[I", (.ref b7)), ("blocks", "I", (.int (Int32.ofNat cnt))), ("touchedCount", "I", (.int (Int32.ofNat tc)))]) :: (b1, Ar .int (nl el)) :: (b4, Ar .int (nl sta)) :: (b5, Ar .int (nl en)) :: (ox, Ar .int (nl [0, 1, 2, 3, 4])) :: (jx, Ar .long (ll [0, 1, 2, 3])) :: Rst)
set_option maxRecDepth 65536 in
set_option maxHeartbeats 40000000 in
theorem rm8 (l : Launch) (Z : State) (a0 : Array Value) (hw : ∀ d ∈ tables_1, d.before a0 Z = true) (ws : List Jvm.Cond) (ax : Addr) (bk : Nat) (ox : Addr) (jx : Addr) (b1 : Addr) (b2 : Addr) (b3 : Addr) (b4 : Addr) (b5 : Addr) (b6 : Addr) (b7 : Addr) (cnt : Nat) (tc : Nat) (el : List Nat) (sta : List Nat) (en : List Nat) (h0 : Heap) (n0 : Nat) (Rst : RL) (R0 : Rep Z n0 h0 ((ax, Obj "com/example/witgen/witgen/regex/Partition" [("elements", "[I", (.ref b1)), ("location", "[I", (.ref b2)), ("blockOf", "[I", (.ref b3)), ("start", "[I", (.ref b4)), ("end", "[I", (.ref b5)), ("marked", "[I", (.ref b6)), ("touched", "[I", (.ref b7)), ("blocks", "I", (.int (Int32.ofNat cnt))), ("touchedCount", "I", (.int (Int32.ofNat tc)))]) :: (b1, Ar .int (nl el)) :: (b4, Ar .int (nl sta)) :: (b5, Ar .int (nl en)) :: (ox, Ar .int (nl [0, 1, 2, 3, 4])) :: (jx, Ar .long (ll [0, 1, 2, 3])) :: Rst)) (hok0 : okG el sta en bk = true) :
    MetFree l (⟨"com/example/witgen/witgen/regex/Partition", "gather", "(I[I[J)[J"⟩ : MethodName) (head1 (Jvm.Cond.code (⟨"com/example/witgen/witgen/regex/Partition", "gather", "(I[I[J)[J"⟩ : MethodName) prog_15_method_8_code 10 (some (.array .long)) :: ws) ({ frames := 1, cells := 1, slots := 4, locals := 18 } : Room)) (fun a U => a = #[(.ref ax), (.int (Int32.ofNat bk)), (.ref ox), (.ref jx)] ∧ Z.Warmed39 U.vm ∧ U.heap = h0) (fun _ _ _ _ _ => True) (fun _ U o U' => ∃ v L, o = .returned v ∧ Q8 Z ax bk ox jx b1 b2 b3 b4 b5 b6 b7 cnt tc el sta en n0 Rst v U'.heap L ∧ FrameEnd U o U' L ({ frames := 1, cells := 1, slots := 4, locals := 18 } : Room).cells ({ frames := 1, cells := 1, slots := 4, locals := 18 } : Room).slots) := by
  refine MetFree.of_bodySF (plainFor_of_name pn_com_example_witgen_witgen_regex_Partition) hisR ?_
  intro p e s m args below meth c s₁ Bd hml0 hP hK
  obtain ⟨rfl, hZ, hh⟩ := hP
  have hx := Bd.exec
  have hby := Bd.bytes
  have hml : c.maxLocals = 10 := hml0
  have hown : s.vm.findClass "com/example/witgen/witgen/regex/Partition" = some m.cls := findClass_of_methodNamed Bd.named
  have hnm := (name_of_methodNamed Bd.named Bd.method).1
  have X0 : Stand p l e ({ frames := 1, cells := 1, slots := 4, locals := 18 } : Room) s m #[(.ref ax), (.int (Int32.ofNat bk)), (.ref ox), (.ref jx)] below meth c s₁ [] 0 0 := Stand.of_body Bd
  have e0 : s₁.heap = h0 := by rw [← hh, Bd.state]; rfl
  have N0 := Fr.nil n0
  have pre0 : ∀ t, Steps p.tables e below (s₁.setTop (mkF m 0 #[.val (.ref ax), .val (.int (Int32.ofNat bk)), .val (.ref ox), .val (.ref jx), .unset, .unset, .unset, .unset, .unset, .unset] [])) t → Steps p.tables e below (s₁.setTop (entryFrame m #[(.ref ax), (.int (Int32.ofNat bk)), (.ref ox), (.ref jx)] 10)) t := fun t k => castTop (ef_8 m ax bk ox jx) k
  have hg := okG.parts hok0
  have pre1 : ∀ t, Steps p.tables e below (s₁.setTop (mkF m 4 #[.val (.ref ax), .val (.int (Int32.ofNat bk)), .val (.ref ox), .val (.ref jx), .val (.int (0 : Int32)), .unset, .unset, .unset, .unset, .unset] [(.ref ax)])) t → Steps p.tables e below (s₁.setTop (entryFrame m #[(.ref ax), (.int (Int32.ofNat bk)), (.ref ox), (.ref jx)] 10)) t := fun t k => pre0 t (by
    show Steps p.tables e below (s₁.setTop (mkF m 0 #[.val (.ref ax), .val (.int (Int32.ofNat bk)), .val (.ref ox), .val (.ref jx), .unset, .unset, .unset, .unset, .unset, .unset] [])) _
    refine XS.iconst X0.here hx rfl (hb hby d8_0) ?_
    refine XS.istore X0.here hx rfl (hb hby d8_1) rfl (l' := #[.val (.ref ax), .val (.int (Int32.ofNat bk)), .val (.ref ox), .val (.ref jx), .val (.int (0 : Int32)), .unset, .unset, .unset, .unset, .unset]) rfl ?_
    refine XS.aloadN X0.here hx rfl (hb hby d8_3) rfl rfl ?_
    exact k)
  obtain ⟨T2, X2, e2, st2⟩ := gGet X0 hx hZ hown (host := "") (Or.inl (hw _ (List.mem_of_getElem? (i := 37) rfl))) e0 R0 0 3 rfl rfl (g := (mkF m 4 #[.val (.ref ax), .val (.int (Int32.ofNat bk)), .val (.ref ox), .val (.ref jx), .val (.int (0 : Int32)), .unset, .unset, .unset, .unset, .unset] [(.ref ax)])) rfl rfl (hb hby d8_4)
  have pre3 : ∀ t, Steps p.tables e below (T2.setTop (mkF m 7 #[.val (.ref ax), .val (.int (Int32.ofNat bk)), .val (.ref ox), .val (.ref jx), .val (.int (0 : Int32)), .unset, .unset, .unset, .unset, .unset] [(.ref b4)])) t → Steps p.tables e below (s₁.setTop (entryFrame m #[(.ref ax), (.int (Int32.ofNat bk)), (.ref ox), (.ref jx)] 10)) t := fun t k => pre1 t (st2 t k)
  have pre4 : ∀ t, Steps p.tables e below (T2.setTop (mkF m 11 #[.val (.ref ax), .val (.int (Int32.ofNat bk)), .val (.ref ox), .val (.ref jx), .val (.int (0 : Int32)), .val (.int (Int32.ofNat (sta.getD bk 0))), .unset, .unset, .unset, .unset] [])) t → Steps p.tables e below (s₁.setTop (entryFrame m #[(.ref ax), (.int (Int32.ofNat bk)), (.ref ox), (.ref jx)] 10)) t := fun t k => pre3 t (by
    show Steps p.tables e below (T2.setTop (mkF m 7 #[.val (.ref ax), .val (.int (Int32.ofNat bk)), .val (.ref ox), .val (.ref jx), .val (.int (0 : Int32)), .unset, .unset, .unset, .unset, .unset] [(.ref b4)])) _
    refine XS.iloadN X2.here hx rfl (hb hby d8_7) rfl ?_
    refine gIald X2 hx hZ e2 R0 2 rfl (j := (Int32.ofNat bk)) (v := (.int (Int32.ofNat (sta.getD bk 0)))) (n_nn (hg.2.2.1)) (nl_at (hg.1) (hg.2.2.1)) (g := (mkF m 8 #[.val (.ref ax), .val (.int (Int32.ofNat bk)), .val (.ref ox), .val (.ref jx), .val (.int (0 : Int32)), .unset, .unset, .unset, .unset, .unset] [(.int (Int32.ofNat bk)), (.ref b4)])) rfl rfl (hb hby d8_8) _ ?_
    refine XS.istore X2.here hx rfl (hb hby d8_9) rfl (l' := #[.val (.ref ax), .val (.int (Int32.ofNat bk)), .val (.ref ox), .val (.ref jx), .val (.int (0 : Int32)), .val (.int (Int32.ofNat (sta.getD bk 0))), .unset, .unset, .unset, .unset]) rfl ?_
    exact k)
  obtain ⟨s65, T5, h5, ls5, o65, X5, e5, N5, R5, st5⟩ := g1_loop ax bk ox jx b1 b2 b3 b4 b5 b6 b7 cnt tc el sta en hx hZ hw hby hml hown hg.2.1 hg.2.2.1 hg.2.2.2.2.1 hg.2.2.2.2.2.1 hg.2.2.2.2.2.2 (en.getD bk 0 - sta.getD bk 0) (sta.getD bk 0) 0 .unset _ _ _ (by omega) One1.u X2 e2 N0 R0
  rw [Nat.zero_add] at st5
  have hs65 := o65
  have pre6 : ∀ t, Steps p.tables e below (T5.setTop (mkF m 53 #[.val (.ref ax), .val (.int (Int32.ofNat bk)), .val (.ref ox), .val (.ref jx), .val (.int (Int32.ofNat (en.getD bk 0 - sta.getD bk 0))), .val (.int (Int32.ofNat (en.getD bk 0))), s65, .unset, .unset, .unset] [])) t → Steps p.tables e below (s₁.setTop (entryFrame m #[(.ref ax), (.int (Int32.ofNat bk)), (.ref ox), (.ref jx)] 10)) t := fun t k => pre4 t (st5 t k)
  have pre7 : ∀ t, Steps p.tables e below (T5.setTop (mkF m 55 #[.val (.ref ax), .val (.int (Int32.ofNat bk)), .val (.ref ox), .val (.ref jx), .val (.int (Int32.ofNat (en.getD bk 0 - sta.getD bk 0))), .val (.int (Int32.ofNat (en.getD bk 0))), s65, .unset, .unset, .unset] [(.int (Int32.ofNat (en.getD bk 0 - sta.getD bk 0)))])) t → Steps p.tables e below (s₁.setTop (entryFrame m #[(.ref ax), (.int (Int32.ofNat bk)), (.ref ox), (.ref jx)] 10)) t := fun t k => pre6 t (by
    show Steps p.tables e below (T5.setTop (mkF m 53 #[.val (.ref ax), .val (.int (Int32.ofNat bk)), .val (.ref ox), .val (.ref jx), .val (.int (Int32.ofNat (en.getD bk 0 - sta.getD bk 0))), .val (.int (Int32.ofNat (en.getD bk 0))), s65, .unset, .unset, .unset] [])) _
    refine XS.iload X5.here hx rfl (hb hby d8_53) rfl ?_
    exact k)
  obtain ⟨T8, h8, b8, X8, e8, R8, st8⟩ := gNewP X5 hx hZ (hw _ (List.mem_of_getElem? (i := 6) rfl)) e5 R5 (g := (mkF m 55 #[.val (.ref ax), .val (.int (Int32.ofNat bk)), .val (.ref ox), .val (.ref jx), .val (.int (Int32.ofNat (en.getD bk 0 - sta.getD bk 0))), .val (.int (Int32.ofNat (en.getD bk 0))), s65, .unset, .unset, .unset] [(.int (Int32.ofNat (en.getD bk 0 - sta.getD bk 0)))])) rfl (hb hby d8_55) rfl (n_nn (by omega)) 4 (by rw [n_ix (by omega)]; omega) (by decide) (by decide) (by decide) (vs := (ll (List.replicate (en.getD bk 0 - sta.getD bk 0) 0))) (by rw [n_ix (by omega)]; exact l_rep _)
  replace R8 : Rep Z n0 h8 ((b8, Ar .long (ll (List.replicate (en.getD bk 0 - sta.getD bk 0) 0))) :: (ax, Obj "com/example/witgen/witgen/regex/Partition" [("elements", "[I", (.ref b1)), ("location", "[I", (.ref b2)), ("blockOf", "[I", (.ref b3)), ("start", "[I", (.ref b4)), ("end", "[I", (.ref b5)), ("marked", "[I", (.ref b6)), ("touched", "[I", (.ref b7)), ("blocks", "I", (.int (Int32.ofNat cnt))), ("touchedCount", "I", (.int (Int32.ofNat tc)))]) :: (b1, Ar .int (nl el)) :: (b4, Ar .int (nl sta)) :: (b5, Ar .int (nl en)) :: (ox, Ar .int (nl [0, 1, 2, 3, 4])) :: (jx, Ar .long (ll [0, 1, 2, 3])) :: Rst) := R8
  have pre9 : ∀ t, Steps p.tables e below (T8.setTop (mkF m 57 #[.val (.ref ax), .val (.int (Int32.ofNat bk)), .val (.ref ox), .val (.ref jx), .val (.int (Int32.ofNat (en.getD bk 0 - sta.getD bk 0))), .val (.int (Int32.ofNat (en.getD bk 0))), s65, .unset, .unset, .unset] [(.ref b8)])) t → Steps p.tables e below (s₁.setTop (entryFrame m #[(.ref ax), (.int (Int32.ofNat bk)), (.ref ox), (.ref jx)] 10)) t := fun t k => pre7 t (st8 t k)
  have pre10 : ∀ t, Steps p.tables e below (T8.setTop (mkF m 63 #[.val (.ref ax), .val (.int (Int32.ofNat bk)), .val (.ref ox), .val (.ref jx), .val (.int (Int32.ofNat (en.getD bk 0 - sta.getD bk 0))), .val (.ref b8), .val (.int (0 : Int32)), .unset, .unset, .unset] [(.ref ax)])) t → Steps p.tables e below (s₁.setTop (entryFrame m #[(.ref ax), (.int (Int32.ofNat bk)), (.ref ox), (.ref jx)] 10)) t := fun t k => pre9 t (by
    show Steps p.tables e below (T8.setTop (mkF m 57 #[.val (.ref ax), .val (.int (Int32.ofNat bk)), .val (.ref ox), .val (.ref jx), .val (.int (Int32.ofNat (en.getD bk 0 - sta.getD bk 0))), .val (.int (Int32.ofNat (en.getD bk 0))), s65, .unset, .unset, .unset] [(.ref b8)])) _
    refine XS.astore X8.here hx rfl (hb hby d8_57) rfl rfl (l' := #[.val (.ref ax), .val (.int (Int32.ofNat bk)), .val (.ref ox), .val (.ref jx), .val (.int (Int32.ofNat (en.getD bk 0 - sta.getD bk 0))), .val (.ref b8), s65, .unset, .unset, .unset]) rfl ?_
    refine XS.iconst X8.here hx rfl (hb hby d8_59) ?_
    refine XS.istoreS X8.here hx rfl (hb hby d8_60) rfl (o := s65) rfl hs65 ?_
    refine XS.aloadN X8.here hx rfl (hb hby d8_62) rfl rfl ?_
    exact k)
  obtain ⟨T11, X11, e11, st11⟩ := gGet X8 hx hZ hown (host := "") (Or.inl (hw _ (List.mem_of_getElem? (i := 37) rfl))) e8 R8 1 3 rfl rfl (g := (mkF m 63 #[.val (.ref ax), .val (.int (Int32.ofNat bk)), .val (.ref ox), .val (.ref jx), .val (.int (Int32.ofNat (en.getD bk 0 - sta.getD bk 0))), .val (.ref b8), .val (.int (0 : Int32)), .unset, .unset, .unset] [(.ref ax)])) rfl rfl (hb hby d8_63)
  have pre12 : ∀ t, Steps p.tables e below (T11.setTop (mkF m 66 #[.val (.ref ax), .val (.int (Int32.ofNat bk)), .val (.ref ox), .val (.ref jx), .val (.int (Int32.ofNat (en.getD bk 0 - sta.getD bk 0))), .val (.ref b8), .val (.int (0 : Int32)), .unset, .unset, .unset] [(.ref b4)])) t → Steps p.tables e below (s₁.setTop (entryFrame m #[(.ref ax), (.int (Int32.ofNat bk)), (.ref ox), (.ref jx)] 10)) t := fun t k => pre10 t (st11 t k)
  have pre13 : ∀ t, Steps p.tables e below (T11.setTop (mkF m 70 #[.val (.ref ax), .val (.int (Int32.ofNat bk)), .val (.ref ox), .val (.ref jx), .val (.int (Int32.ofNat (en.getD bk 0 - sta.getD bk 0))), .val (.ref b8), .val (.int (0 : Int32)), .val (.int (Int32.ofNat (sta.getD bk 0))), .unset, .unset] [])) t → Steps p.tables e below (s₁.setTop (entryFrame m #[(.ref ax), (.int (Int32.ofNat bk)), (.ref ox), (.ref jx)] 10)) t := fun t k => pre12 t (by
    show Steps p.tables e below (T11.setTop (mkF m 66 #[.val (.ref ax), .val (.int (Int32.ofNat bk)), .val (.ref ox), .val (.ref jx), .val (.int (Int32.ofNat (en.getD bk 0 - sta.getD bk 0))), .val (.ref b8), .val (.int (0 : Int32)), .unset, .unset, .unset] [(.ref b4)])) _
    refine XS.iloadN X11.here hx rfl (hb hby d8_66) rfl ?_
    refine gIald X11 hx hZ e11 R8 3 rfl (j := (Int32.ofNat bk)) (v := (.int (Int32.ofNat (sta.getD bk 0)))) (n_nn (hg.2.2.1)) (nl_at (hg.1) (hg.2.2.1)) (g := (mkF m 67 #[.val (.ref ax), .val (.int (Int32.ofNat bk)), .val (.ref ox), .val (.ref jx), .val (.int (Int32.ofNat (en.getD bk 0 - sta.getD bk 0))), .val (.ref b8), .val (.int (0 : Int32)), .unset, .unset, .unset] [(.int (Int32.ofNat bk)), (.ref b4)])) rfl rfl (hb hby d8_67) _ ?_
    refine XS.istore X11.here hx rfl (hb hby d8_68) rfl (l' := #[.val (.ref ax), .val (.int (Int32.ofNat bk)), .val (.ref ox), .val (.ref jx), .val (.int (Int32.ofNat (en.getD bk 0 - sta.getD bk 0))), .val (.ref b8), .val (.int (0 : Int32)), .val (.int (Int32.ofNat (sta.getD bk 0))), .unset, .unset]) rfl ?_
    exact k)
  obtain ⟨s814, s914, T14, h14, ls14, o814, o914, X14, e14, N14, R14, st14⟩ := g2_loop ax bk ox jx b1 b2 b3 b4 b5 b6 b7 cnt tc el sta en (en.getD bk 0 - sta.getD bk 0) b8 hx hZ hw hby hml hown hg.2.1 hg.2.2.1 hg.2.2.2.2.1 hg.2.2.2.2.2.1 hg.2.2.2.2.2.2 (en.getD bk 0 - sta.getD bk 0) (sta.getD bk 0) 0 .unset .unset (List.replicate (en.getD bk 0 - sta.getD bk 0) 0) _ _ _ (by omega) (by rw [List.length_replicate]; omega) (by rw [List.length_replicate]; omega) One1.u One1.u X11 e11 N5 R8
  rw [Nat.zero_add] at st14
  replace R14 : Rep Z n0 h14 ((b8, Ar .long (ll (gat el sta en bk))) :: (ax, Obj "com/example/witgen/witgen/regex/Partition" [("elements", "[I", (.ref b1)), ("location", "[I", (.ref b2)), ("blockOf", "[I", (.ref b3)), ("start", "[I", (.ref b4)), ("end", "[I", (.ref b5)), ("marked", "[I", (.ref b6)), ("touched", "[I", (.ref b7)), ("blocks", "I", (.int (Int32.ofNat cnt))), ("touchedCount", "I", (.int (Int32.ofNat tc)))]) :: (b1, Ar .int (nl el)) :: (b4, Ar .int (nl sta)) :: (b5, Ar .int (nl en)) :: (ox, Ar .int (nl [0, 1, 2, 3, 4])) :: (jx, Ar .long (ll [0, 1, 2, 3])) :: Rst) := R14
  have pre15 : ∀ t, Steps p.tables e below (T14.setTop (mkF m 130 #[.val (.ref ax), .val (.int (Int32.ofNat bk)), .val (.ref ox), .val (.ref jx), .val (.int (Int32.ofNat (en.getD bk 0 - sta.getD bk 0))), .val (.ref b8), .val (.int (Int32.ofNat (en.getD bk 0 - sta.getD bk 0))), .val (.int (Int32.ofNat (en.getD bk 0))), s814, s914] [])) t → Steps p.tables e below (s₁.setTop (entryFrame m #[(.ref ax), (.int (Int32.ofNat bk)), (.ref ox), (.ref jx)] 10)) t := fun t k => pre13 t (st14 t k)
  have pre16 : ∀ t, Steps p.tables e below (T14.setTop (mkF m 132 #[.val (.ref ax), .val (.int (Int32.ofNat bk)), .val (.ref ox), .val (.ref jx), .val (.int (Int32.ofNat (en.getD bk 0 - sta.getD bk 0))), .val (.ref b8), .val (.int (Int32.ofNat (en.getD bk 0 - sta.getD bk 0))), .val (.int (Int32.ofNat (en.getD bk 0))), s814, s914] [(.ref b8)])) t → Steps p.tables e below (s₁.setTop (entryFrame m #[(.ref ax), (.int (Int32.ofNat bk)), (.ref ox), (.ref jx)] 10)) t := fun t k => pre15 t (by
    show Steps p.tables e below (T14.setTop (mkF m 130 #[.val (.ref ax), .val (.int (Int32.ofNat bk)), .val (.ref ox), .val (.ref jx), .val (.int (Int32.ofNat (en.getD bk 0 - sta.getD bk 0))), .val (.ref b8), .val (.int (Int32.ofNat (en.getD bk 0 - sta.getD bk 0))), .val (.int (Int32.ofNat (en.getD bk 0))), s814, s914] [])) _
    refine XS.aload X14.here hx rfl (hb hby d8_130) rfl rfl ?_
    exact k)
  obtain ⟨fs, hr, hrun, hended, hW, hsame⟩ := X14.leave (v := some (.ref b8)) (fun h => by rw [Bd.returns] at h; cases h) (BodyLoose.notSynchronized Bd)
  refine ⟨_, _, pre16 _ ?_, hrun, hended, _, _, rfl, ?_, ⟨_, rfl⟩, hW, hsame.mono (by decide) (by decide)⟩
  · show Steps p.tables e below (T14.setTop (mkF m 132 #[.val (.ref ax), .val (.int (Int32.ofNat bk)), .val (.ref ox), .val (.ref jx), .val (.int (Int32.ofNat (en.getD bk 0 - sta.getD bk 0))), .val (.ref b8), .val (.int (Int32.ofNat (en.getD bk 0 - sta.getD bk 0))), .val (.int (Int32.ofNat (en.getD bk 0))), s814, s914] [(.ref b8)])) _
    exact Jvm.Own.retA X14 hx (t := (.array .long)) rfl Bd.returns (hb hby d8_132) hr
  · show Q8 Z ax bk ox jx b1 b2 b3 b4 b5 b6 b7 cnt tc el sta en n0 Rst _ T14.heap _
    rw [e14]
    exact ⟨b8, rfl, N14, R14⟩
def bl (b : Nat) : List Nat := [b % 2, b / 2 % 2, b / 4 % 2, b / 8 % 2]
def oP (q : Nat) : List Nat := sw (sw (sw [0, 1, 2, 3] 0 (q % 4)) 1 (1 + q / 4 % 3)) 2 (2 + q / 12 % 2)
theorem oP_len (q : Nat) : (oP q).length = 4 := by simp only [oP, sw_len]; rfl
theorem bl_lt (b : Nat) : ∀ j, (bl b).getD j 0 < 2
  | 0 => Nat.mod_lt _ (by decide)
  | 1 => Nat.mod_lt _ (by decide)
  | 2 => Nat.mod_lt _ (by decide)
  | 3 => Nat.mod_lt _ (by decide)
  | j + 4 => by show 0 < 2; decide
def gd : List Nat → Nat → Nat
  | [], _ => 0
  | x :: _, 0 => x
  | _ :: xs, i + 1 => gd xs i
def sf : List Nat → Nat → Nat → List Nat
  | [], _, _ => []
  | _ :: xs, 0, v => v :: xs
  | x :: xs, i + 1, v => x :: sf xs i v
def len : List Nat → Nat
  | [] => 0
  | _ :: xs => Nat.succ (len xs)
def rpl : Nat → List Nat
  | 0 => []
  | n + 1 => 0 :: rpl n
def an (a b : Bool) : Bool := Bool.casesOn a false b
def nt (a : Bool) : Bool := Bool.casesOn a true false
def bq (a b : Bool) : Bool := Bool.casesOn a (nt b) b
def alt : Nat → (Nat → Bool) → Bool
  | 0, _ => true
  | n + 1, f => Bool.casesOn (f n) false (alt n f)
def fc (x : Nat) (k : Nat → Bool) : Bool := Bool.casesOn (Nat.beq x 0) (Bool.casesOn (Nat.beq x 1) (Bool.casesOn (Nat.beq x 2) (Bool.casesOn (Nat.beq x 3) (Bool.casesOn (Nat.beq x 4) (k x) (k 4)) (k 3)) (k 2)) (k 1)) (k 0)
def fcL : List Nat → (List Nat → Bool) → Bool
  | [], k => k []
  | x :: xs, k => fc x fun y => fcL xs fun ys => k (y :: ys)
theorem gd_eq : ∀ (xs : List Nat) (i : Nat), gd xs i = xs.getD i 0
  | [], _ => rfl
  | _ :: _, 0 => rfl
  | x :: xs, i + 1 => gd_eq xs i
theorem sf_eq : ∀ (xs : List Nat) (i v : Nat), sf xs i v = xs.set i v
  | [], _, _ => rfl
  | _ :: _, 0, _ => rfl
  | x :: xs, i + 1, v => congrArg (x :: ·) (sf_eq xs i v)
theorem len_eq : ∀ (xs : List Nat), len xs = xs.length
  | [] => rfl
  | x :: xs => congrArg Nat.succ (len_eq xs)
theorem rpl_eq : ∀ (n : Nat), rpl n = List.replicate n 0
  | 0 => rfl
  | n + 1 => congrArg (0 :: ·) (rpl_eq n)
theorem an_eq (a b : Bool) : an a b = (a && b) := by cases a <;> rfl
theorem nt_eq (a : Bool) : nt a = !a := by cases a <;> rfl
theorem bq_eq {a b : Bool} (h : bq a b = true) : a = b := by cases a <;> cases b <;> first | rfl | cases h
theorem alt_eq {n : Nat} {f : Nat → Bool} (h : alt n f = true) : ∀ i, i < n → f i = true := by
  induction n with
  | zero => intro i hi; omega
  | succ n ih =>
    have h' : (Bool.casesOn (f n) false (alt n f) : Bool) = true := h
    cases q : f n
    · rw [q] at h'; cases h'
    · rw [q] at h'
      intro i hi
      by_cases e : i = n
      · rw [e]; exact q
      · exact ih h' i (by omega)
theorem fc_eq (x : Nat) (k : Nat → Bool) : fc x k = k x := by
  have h : ∀ n y, y = k x → (Bool.casesOn (Nat.beq x n) y (k n) : Bool) = k x := by
    intro n y e
    cases hq : Nat.beq x n
    · exact e
    · rw [← Nat.eq_of_beq_eq_true hq]
  exact h 0 _ (h 1 _ (h 2 _ (h 3 _ (h 4 _ rfl))))
theorem fcL_eq : ∀ (xs : List Nat) (k : List Nat → Bool), fcL xs k = k xs
  | [], k => rfl
  | x :: xs, k => by show fc x (fun y => fcL xs fun ys => k (y :: ys)) = _; rw [fc_eq, fcL_eq xs]
theorem blt_iff {a b : Nat} : Nat.blt a b = true ↔ a < b := ⟨Nat.le_of_ble_eq_true, Nat.ble_eq_true_of_le⟩
theorem beq_iff {a b : Nat} : Nat.beq a b = true ↔ a = b := ⟨Nat.eq_of_beq_eq_true, fun h => by rw [h]; exact Nat.beq_refl b⟩
theorem ble_iff {a b : Nat} : Nat.ble a b = true ↔ a ≤ b := ⟨Nat.le_of_ble_eq_true, Nat.ble_eq_true_of_le⟩
theorem blt_dec (a b : Nat) : Nat.blt a b = decide (a < b) := by rw [Bool.eq_iff_iff, blt_iff, decide_eq_true_eq]
theorem beq_dec (a b : Nat) : Nat.beq a b = decide (a = b) := by rw [Bool.eq_iff_iff, beq_iff, decide_eq_true_eq]
def s1f (es : List Nat) : Nat → Nat → List Nat → List Nat
  | 0, _, en => en
  | k + 1, i, en => s1f es k (Nat.succ i) (sf en (gd es i) (Nat.succ (gd en (gd es i))))
def s2f : Nat → Nat → List Nat → List Nat
  | 0, _, en => en
  | k + 1, i, en => s2f k (Nat.succ i) (sf en i (Nat.add (gd en i) (gd en (Nat.pred i))))
def s3f (en : List Nat) : Nat → Nat → List Nat → List Nat
  | 0, _, st => st
  | k + 1, i, st => s3f en k (Nat.succ i) (sf st i (Nat.casesOn i 0 (fun j => gd en j)))
def s4f (es : List Nat) : Nat → Nat → List Nat → List Nat → List Nat → List Nat × List Nat × List Nat
  | 0, _, el, lo, ns => (el, lo, ns)
  | k + 1, i, el, lo, ns => s4f es k (Nat.succ i) (sf el (gd ns (gd es i)) i) (sf lo i (gd ns (gd es i))) (sf ns (gd es i) (Nat.succ (gd ns (gd es i))))
def ok4f (es : List Nat) : Nat → Nat → List Nat → Bool
  | 0, _, _ => true
  | k + 1, i, ns => an (Nat.blt (gd ns (gd es i)) 4) (ok4f es k (Nat.succ i) (sf ns (gd es i) (Nat.succ (gd ns (gd es i)))))
theorem s1f_eq (es : List Nat) : ∀ (k i : Nat) (en : List Nat), s1f es k i en = s1 es k i en
  | 0, _, _ => rfl
  | k + 1, i, en => by
    show s1f es k (i + 1) (sf en (gd es i) (gd en (gd es i) + 1)) = _
    rw [s1f_eq es k, sf_eq, gd_eq, gd_eq]; rfl
theorem s2f_eq : ∀ (k i : Nat) (en : List Nat), s2f k i en = s2 k i en
  | 0, _, _ => rfl
  | k + 1, i, en => by
    show s2f k (i + 1) (sf en i (gd en i + gd en (i - 1))) = _
    rw [s2f_eq k, sf_eq, gd_eq, gd_eq]; rfl
theorem s3f_eq (en : List Nat) : ∀ (k i : Nat) (st : List Nat), s3f en k i st = s3 en k i st
  | 0, _, _ => rfl
  | k + 1, 0, st => by
    show s3f en k 1 (sf st 0 0) = _
    rw [s3f_eq en k, sf_eq]; rfl
  | k + 1, i + 1, st => by
    show s3f en k (i + 1 + 1) (sf st (i + 1) (gd en i)) = _
    rw [s3f_eq en k, sf_eq, gd_eq]; rfl
theorem gset {xs : List Nat} {i v : Nat} (h : i < xs.length) : (xs.set i v).getD i 0 = v := by simp [List.getD_eq_getElem?_getD, h]
theorem s4f_eq (es : List Nat) : ∀ (k i : Nat) (el lo ns : List Nat), i + k ≤ lo.length → s4f es k i el lo ns = s4 es k i el lo ns
  | 0, _, _, _, _, _ => rfl
  | k + 1, i, el, lo, ns, h => by
    show s4f es k (i + 1) (sf el (gd ns (gd es i)) i) (sf lo i (gd ns (gd es i))) (sf ns (gd es i) (gd ns (gd es i) + 1)) = s4 es k (i + 1) (el.set ((lo.set i (ns.getD (es.getD i 0) 0)).getD i 0) i) (lo.set i (ns.getD (es.getD i 0) 0)) (ns.set (es.getD i 0) (ns.getD (es.getD i 0) 0 + 1))
    rw [s4f_eq es k _ _ _ _ (by rw [sf_eq, List.length_set]; omega), sf_eq, sf_eq, sf_eq, gd_eq, gd_eq, gset (by omega)]
theorem ok1_gen (es : List Nat) : ∀ (k i : Nat) (en : List Nat), i + k = es.length → es.length < 1000 → (∀ j, es.getD j 0 < en.length) → en.length < 1000 → ok1 es k i en = true
  | 0, _, _, _, _, _, _ => rfl
  | k + 1, i, en, h, h1, h2, h3 => by
    simp only [ok1, Bool.and_eq_true, decide_eq_true_eq]
    exact ⟨⟨⟨⟨by omega, by omega⟩, h2 i⟩, Nat.lt_trans (h2 i) h3⟩, ok1_gen es k (i + 1) _ (by omega) h1 (by intro j; rw [List.length_set]; exact h2 j) (by rw [List.length_set]; exact h3)⟩
theorem ok2_gen : ∀ (k i : Nat) (en : List Nat), 1 ≤ i → i + k ≤ en.length → en.length < 1000 → ok2 k i en = true
  | 0, _, _, _, _, _ => rfl
  | k + 1, i, en, h, h1, h2 => by
    simp only [ok2, Bool.and_eq_true, decide_eq_true_eq]
    exact ⟨⟨⟨h, by omega⟩, by omega⟩, ok2_gen k (i + 1) _ (by omega) (by rw [List.length_set]; omega) (by rw [List.length_set]; omega)⟩
theorem ok3_gen (en : List Nat) : ∀ (k i : Nat) (st : List Nat), i + k ≤ st.length → st.length < 1000 → i + k ≤ en.length → ok3 en k i st = true
  | 0, _, _, _, _, _ => rfl
  | k + 1, i, st, h, h1, h2 => by
    simp only [ok3, Bool.and_eq_true, decide_eq_true_eq]
    exact ⟨⟨⟨by omega, by omega⟩, by omega⟩, ok3_gen en k (i + 1) _ (by rw [List.length_set]; omega) (by rw [List.length_set]; omega) (by omega)⟩
theorem ok4_gen (es : List Nat) (n : Nat) : ∀ (k i : Nat) (el lo ns : List Nat), i + k = es.length → es.length = 4 → el.length = 4 → lo.length = 4 → (∀ j, es.getD j 0 < ns.length) → ns.length < 1000 → ok4f es k i ns = true → ok4 es k i el lo ns = true
  | 0, _, _, _, _, _, _, _, _, _, _, _ => rfl
  | k + 1, i, el, lo, ns, h, h1, h2, h3, h4, h5, q => by
    have q' : an (Nat.blt (gd ns (gd es i)) 4) (ok4f es k (i + 1) (sf ns (gd es i) (gd ns (gd es i) + 1))) = true := q
    rw [an_eq, Bool.and_eq_true, blt_iff, sf_eq, gd_eq, gd_eq] at q'
    have g := gset (xs := lo) (i := i) (v := ns.getD (es.getD i 0) 0) (by omega)
    simp only [ok4, Bool.and_eq_true, decide_eq_true_eq, g, List.length_set]
    exact ⟨⟨⟨⟨⟨⟨⟨⟨by omega, by omega⟩, h4 i⟩, Nat.lt_trans (h4 i) h5⟩, by omega⟩, by omega⟩, by omega⟩, by omega⟩, ok4_gen es n k (i + 1) _ _ _ (by omega) h1 (by rw [List.length_set]; exact h2) (by rw [List.length_set]; exact h3) (by intro j; rw [List.length_set]; exact h4 j) (by rw [List.length_set]; exact h5) q'.2⟩
theorem s1_len (es : List Nat) : ∀ (k i : Nat) (en : List Nat), (s1 es k i en).length = en.length
  | 0, _, _ => rfl
  | k + 1, i, en => by rw [s1, s1_len es k, List.length_set]
theorem s2_len : ∀ (k i : Nat) (en : List Nat), (s2 k i en).length = en.length
  | 0, _, _ => rfl
  | k + 1, i, en => by rw [s2, s2_len k, List.length_set]
theorem s3_len (en : List Nat) : ∀ (k i : Nat) (st : List Nat), (s3 en k i st).length = st.length
  | 0, _, _ => rfl
  | k + 1, i, st => by rw [s3, s3_len en k, List.length_set]
theorem s4_len (es : List Nat) : ∀ (k i : Nat) (el lo ns : List Nat), (s4 es k i el lo ns).1.length = el.length ∧ (s4 es k i el lo ns).2.1.length = lo.length
  | 0, _, _, _, _ => ⟨rfl, rfl⟩
  | k + 1, i, el, lo, ns => by
    obtain ⟨a, b⟩ := s4_len es k (i + 1) (el.set ((lo.set i (ns.getD (es.getD i 0) 0)).getD i 0) i) (lo.set i (ns.getD (es.getD i 0) 0)) (ns.set (es.getD i 0) (ns.getD (es.getD i 0) 0 + 1))
    rw [s4]; exact ⟨by rw [a, List.length_set], by rw [b, List.length_set]⟩
theorem rp_get (n i : Nat) : (List.replicate n 0).getD i 0 = 0 := by
  by_cases h : i < n
  · simp [List.getD_eq_getElem?_getD, h]
  · simp [List.getD_eq_getElem?_getD, List.getElem?_eq_none, Nat.le_of_not_lt h]
theorem pEn_len (es : List Nat) (cn : Nat) : (pEn es cn).length = max es.length cn := by rw [pEn, s2_len, pE1, s1_len, List.length_replicate]
theorem pSt_len (es : List Nat) (cn : Nat) : (pSt es cn).length = max es.length cn := by rw [pSt, s3_len, List.length_replicate]
theorem pS4_len (es : List Nat) (cn : Nat) : (pS4 es cn).1.length = es.length ∧ (pS4 es cn).2.1.length = es.length := by
  obtain ⟨a, b⟩ := s4_len es es.length 0 (List.replicate es.length 0) (List.replicate es.length 0) ((pSt es cn).take cn)
  exact ⟨by rw [pS4, a, List.length_replicate], by rw [pS4, b, List.length_replicate]⟩
/-- the five lists of a new Partition over four elements, each forced -/
def chain (cn cap : Nat) (es : List Nat) (k : List Nat → List Nat → List Nat → List Nat → Bool) : Bool :=
  fcL (s1f es 4 0 (rpl cap)) fun E1 => fcL (s2f (Nat.pred cn) 1 E1) fun En => fcL (s3f En cn 0 (rpl cap)) fun St => fcL (s4f es 4 0 (rpl 4) (rpl 4) (St.take cn)).1 fun el => fcL (s4f es 4 0 (rpl 4) (rpl 4) (St.take cn)).2.1 fun lo =>
  an (ok4f es 4 0 (St.take cn)) (k En St el lo)
theorem chain_eq {cn cap : Nat} {es : List Nat} {k : List Nat → List Nat → List Nat → List Nat → Bool} (h4 : es.length = 4) (hc : cap = max es.length cn) (hne : ¬ cn = max es.length cn) (h1 : 1 ≤ cn) (h8 : cn ≤ 8) (he : ∀ j, es.getD j 0 < cn) (h : chain cn cap es k = true) : okC es cn = true ∧ k (pEn es cn) (pSt es cn) (pS4 es cn).1 (pS4 es cn).2.1 = true := by
  have hm : cn ≤ max es.length cn := Nat.le_max_right _ _
  have hM : max es.length cn ≤ 8 := Nat.max_le.mpr ⟨by omega, h8⟩
  subst hc
  simp only [chain, fcL_eq, an_eq, Bool.and_eq_true, rpl_eq, s1f_eq, s2f_eq, s3f_eq] at h
  rw [show Nat.pred cn = cn - 1 from rfl, ← h4] at h
  change ok4f es es.length 0 ((pSt es cn).take cn) = true ∧ k (pEn es cn) (pSt es cn) (s4f es es.length 0 (List.replicate es.length 0) (List.replicate es.length 0) ((pSt es cn).take cn)).1 (s4f es es.length 0 (List.replicate es.length 0) (List.replicate es.length 0) ((pSt es cn).take cn)).2.1 = true at h
  rw [s4f_eq es _ _ _ _ _ (by rw [List.length_replicate]; omega)] at h
  refine ⟨?_, h.2⟩
  have hl := pSt_len es cn
  have hl' := pEn_len es cn
  have ht : ((pSt es cn).take cn).length = cn := by rw [List.length_take, hl]; omega
  simp only [okC, Bool.and_eq_true, decide_eq_true_eq]
  refine ⟨⟨⟨⟨⟨⟨?_, ?_⟩, ?_⟩, ?_⟩, by omega⟩, by omega⟩, by omega⟩
  · exact ok1_gen es _ _ _ (by omega) (by omega) (by intro j; rw [List.length_replicate]; exact Nat.lt_of_lt_of_le (he j) hm) (by rw [List.length_replicate]; omega)
  · exact ok2_gen _ _ _ (by omega) (by rw [pE1, s1_len, List.length_replicate]; omega) (by rw [pE1, s1_len, List.length_replicate]; omega)
  · exact ok3_gen _ _ _ _ (by rw [List.length_replicate]; omega) (by rw [List.length_replicate]; omega) (by omega)
  · exact ok4_gen es 0 _ _ _ _ _ (by omega) h4 (by rw [List.length_replicate]; exact h4) (by rw [List.length_replicate]; exact h4) (by intro j; rw [ht]; exact he j) (by omega) h.1
theorem mEl_len (bo sta el lo mk : List Nat) (ek : Nat) : (mEl bo sta el lo mk ek).length = el.length := by rw [mEl, List.length_set, List.length_set]
theorem mLo_len (bo sta el lo mk : List Nat) (ek : Nat) : (mLo bo sta el lo mk ek).length = lo.length := by rw [mLo, List.length_set, List.length_set]
theorem mMk_len (bo mk : List Nat) (ek : Nat) : (mMk bo mk ek).length = mk.length := by rw [mMk, List.length_set]
theorem mTo_len (bo mk to : List Nat) (tc ek : Nat) : (mTo bo mk to tc ek).length = to.length := by
  rw [mTo]; split
  · rw [List.length_set]
  · rfl
theorem mTc_le (bo mk : List Nat) (tc ek : Nat) : mTc bo mk tc ek ≤ tc + 1 := by rw [mTc]; split <;> omega
def eM0 (b q : Nat) : List Nat := (pS4 (bl b) 2).1
def lM0 (b q : Nat) : List Nat := (pS4 (bl b) 2).2.1
def kM0 (b q : Nat) : List Nat := List.replicate (max (bl b).length 2) 0
def tM0 (b q : Nat) : List Nat := List.replicate (max (bl b).length 2) 0
def cM0 (b q : Nat) : Nat := 0
def eM1 (b q : Nat) : List Nat := mEl (bl b) (pSt (bl b) 2) (eM0 b q) (lM0 b q) (kM0 b q) ((oP q).getD 0 0)
def lM1 (b q : Nat) : List Nat := mLo (bl b) (pSt (bl b) 2) (eM0 b q) (lM0 b q) (kM0 b q) ((oP q).getD 0 0)
def kM1 (b q : Nat) : List Nat := mMk (bl b) (kM0 b q) ((oP q).getD 0 0)
def tM1 (b q : Nat) : List Nat := mTo (bl b) (kM0 b q) (tM0 b q) (cM0 b q) ((oP q).getD 0 0)
def cM1 (b q : Nat) : Nat := mTc (bl b) (kM0 b q) (cM0 b q) ((oP q).getD 0 0)
def gM1 (q : Nat) : Int32 := ((0 : Int32) ||| (ishl (1 : Int32) (Int32.ofNat ((oP q).getD 0 0))))
def eM2 (b q : Nat) : List Nat := mEl (bl b) (pSt (bl b) 2) (eM1 b q) (lM1 b q) (kM1 b q) ((oP q).getD 1 0)
def lM2 (b q : Nat) : List Nat := mLo (bl b) (pSt (bl b) 2) (eM1 b q) (lM1 b q) (kM1 b q) ((oP q).getD 1 0)
def kM2 (b q : Nat) : List Nat := mMk (bl b) (kM1 b q) ((oP q).getD 1 0)
def tM2 (b q : Nat) : List Nat := mTo (bl b) (kM1 b q) (tM1 b q) (cM1 b q) ((oP q).getD 1 0)
def cM2 (b q : Nat) : Nat := mTc (bl b) (kM1 b q) (cM1 b q) ((oP q).getD 1 0)
def gM2 (q : Nat) : Int32 := ((gM1 q) ||| (ishl (1 : Int32) (Int32.ofNat ((oP q).getD 1 0))))
def eM3 (b q : Nat) : List Nat := mEl (bl b) (pSt (bl b) 2) (eM2 b q) (lM2 b q) (kM2 b q) ((oP q).getD 2 0)
def lM3 (b q : Nat) : List Nat := mLo (bl b) (pSt (bl b) 2) (eM2 b q) (lM2 b q) (kM2 b q) ((oP q).getD 2 0)
def kM3 (b q : Nat) : List Nat := mMk (bl b) (kM2 b q) ((oP q).getD 2 0)
def tM3 (b q : Nat) : List Nat := mTo (bl b) (kM2 b q) (tM2 b q) (cM2 b q) ((oP q).getD 2 0)
def cM3 (b q : Nat) : Nat := mTc (bl b) (kM2 b q) (cM2 b q) ((oP q).getD 2 0)
def gM3 (q : Nat) : Int32 := ((gM2 q) ||| (ishl (1 : Int32) (Int32.ofNat ((oP q).getD 2 0))))
def eM4 (b q : Nat) : List Nat := mEl (bl b) (pSt (bl b) 2) (eM3 b q) (lM3 b q) (kM3 b q) ((oP q).getD 3 0)
def lM4 (b q : Nat) : List Nat := mLo (bl b) (pSt (bl b) 2) (eM3 b q) (lM3 b q) (kM3 b q) ((oP q).getD 3 0)
def kM4 (b q : Nat) : List Nat := mMk (bl b) (kM3 b q) ((oP q).getD 3 0)
def tM4 (b q : Nat) : List Nat := mTo (bl b) (kM3 b q) (tM3 b q) (cM3 b q) ((oP q).getD 3 0)
def cM4 (b q : Nat) : Nat := mTc (bl b) (kM3 b q) (cM3 b q) ((oP q).getD 3 0)
def gM4 (q : Nat) : Int32 := ((gM3 q) ||| (ishl (1 : Int32) (Int32.ofNat ((oP q).getD 3 0))))
theorem eL0 (b q : Nat) : (eM0 b q).length = 4 ∧ (lM0 b q).length = 4 ∧ (kM0 b q).length = 4 ∧ (tM0 b q).length = 4 ∧ cM0 b q ≤ 0 := ⟨(pS4_len (bl b) 2).1, (pS4_len (bl b) 2).2, by rw [kM0, List.length_replicate]; rfl, by rw [tM0, List.length_replicate]; rfl, Nat.le_refl 0⟩
theorem eL1 (b q : Nat) : (eM1 b q).length = 4 ∧ (lM1 b q).length = 4 ∧ (kM1 b q).length = 4 ∧ (tM1 b q).length = 4 ∧ cM1 b q ≤ 1 := by
  obtain ⟨h1, h2, h3, h4, h5⟩ := eL0 b q
  exact ⟨by rw [eM1, mEl_len]; exact h1, by rw [lM1, mLo_len]; exact h2, by rw [kM1, mMk_len]; exact h3, by rw [tM1, mTo_len]; exact h4, Nat.le_trans (mTc_le _ _ _ _) (by omega)⟩
theorem eL2 (b q : Nat) : (eM2 b q).length = 4 ∧ (lM2 b q).length = 4 ∧ (kM2 b q).length = 4 ∧ (tM2 b q).length = 4 ∧ cM2 b q ≤ 2 := by
  obtain ⟨h1, h2, h3, h4, h5⟩ := eL1 b q
  exact ⟨by rw [eM2, mEl_len]; exact h1, by rw [lM2, mLo_len]; exact h2, by rw [kM2, mMk_len]; exact h3, by rw [tM2, mTo_len]; exact h4, Nat.le_trans (mTc_le _ _ _ _) (by omega)⟩
theorem eL3 (b q : Nat) : (eM3 b q).length = 4 ∧ (lM3 b q).length = 4 ∧ (kM3 b q).length = 4 ∧ (tM3 b q).length = 4 ∧ cM3 b q ≤ 3 := by
  obtain ⟨h1, h2, h3, h4, h5⟩ := eL2 b q
  exact ⟨by rw [eM3, mEl_len]; exact h1, by rw [lM3, mLo_len]; exact h2, by rw [kM3, mMk_len]; exact h3, by rw [tM3, mTo_len]; exact h4, Nat.le_trans (mTc_le _ _ _ _) (by omega)⟩
theorem eL4 (b q : Nat) : (eM4 b q).length = 4 ∧ (lM4 b q).length = 4 ∧ (kM4 b q).length = 4 ∧ (tM4 b q).length = 4 ∧ cM4 b q ≤ 4 := by
  obtain ⟨h1, h2, h3, h4, h5⟩ := eL3 b q
  exact ⟨by rw [eM4, mEl_len]; exact h1, by rw [lM4, mLo_len]; exact h2, by rw [kM4, mMk_len]; exact h3, by rw [tM4, mTo_len]; exact h4, Nat.le_trans (mTc_le _ _ _ _) (by omega)⟩
def f16 (x : Nat) (k : Nat → Bool) : Bool := Bool.casesOn (Nat.beq x 0) (Bool.casesOn (Nat.beq x 1) (Bool.casesOn (Nat.beq x 2) (Bool.casesOn (Nat.beq x 3) (Bool.casesOn (Nat.beq x 4) (Bool.casesOn (Nat.beq x 5) (Bool.casesOn (Nat.beq x 6) (Bool.casesOn (Nat.beq x 7) (Bool.casesOn (Nat.beq x 8) (Bool.casesOn (Nat.beq x 9) (Bool.casesOn (Nat.beq x 10) (Bool.casesOn (Nat.beq x 11) (Bool.casesOn (Nat.beq x 12) (Bool.casesOn (Nat.beq x 13) (Bool.casesOn (Nat.beq x 14) (Bool.casesOn (Nat.beq x 15) (k x) (k 15)) (k 14)) (k 13)) (k 12)) (k 11)) (k 10)) (k 9)) (k 8)) (k 7)) (k 6)) (k 5)) (k 4)) (k 3)) (k 2)) (k 1)) (k 0)
theorem f16_eq (x : Nat) (k : Nat → Bool) : f16 x k = k x := by
  have h : ∀ n y, y = k x → (Bool.casesOn (Nat.beq x n) y (k n) : Bool) = k x := by
    intro n y e
    cases hq : Nat.beq x n
    · exact e
    · rw [← Nat.eq_of_beq_eq_true hq]
  exact (h 0 _ (h 1 _ (h 2 _ (h 3 _ (h 4 _ (h 5 _ (h 6 _ (h 7 _ (h 8 _ (h 9 _ (h 10 _ (h 11 _ (h 12 _ (h 13 _ (h 14 _ (h 15 _ rfl))))))))))))))))
def frI (g : Int32) (k : Int32 → Bool) : Bool := f16 (ni g) fun n => k (Int32.ofNat n)
theorem frI_eq (g : Int32) (k : Int32 → Bool) : frI g k = k g := by rw [frI, f16_eq, ofni]
def mem0 (b : Nat) : Int32 := (((Int32.ofNat b) ^^^ (-1 : Int32)) &&& (15 : Int32))
def tlk (b : Nat) (es St En el lo : List Nat) (g : Int32) : Bool :=
  fcL (gat el St En 0) fun g0 => fcL (gat el St En 1) fun g1 => okG el St En 0 && okG el St En 1 && decide (F9 (mem0 b) g g0 = 1) && decide (F9 (Int32.ofNat b) g g1 = 1) && alt 4 fun i => Bool.casesOn (Nat.beq (gd es i) 0) (decide (F12 i lo es St g1 = 1)) (decide (F12 i lo es St g0 = 1))
theorem tlk.parts {b : Nat} {es St En el lo : List Nat} {g : Int32} (he : ∀ j, es.getD j 0 < 2) (h : tlk b es St En el lo g = true) : okG el St En 0 = true ∧ okG el St En 1 = true ∧ F9 (mem0 b) g (gat el St En 0) = 1 ∧ F9 (Int32.ofNat b) g (gat el St En 1) = 1 ∧ ∀ i, i < 4 → (Int32.ofNat (es.getD i 0) = (0 : Int32) → F12 i lo es St (gat el St En 0) = 1) ∧ (¬ Int32.ofNat (es.getD i 0) = (0 : Int32) → F12 i lo es St (gat el St En 1) = 1) := by
  rw [tlk, fcL_eq, fcL_eq] at h
  simp only [Bool.and_eq_true, decide_eq_true_eq] at h
  obtain ⟨⟨⟨⟨h1, h2⟩, h3⟩, h4⟩, h5⟩ := h
  refine ⟨h1, h2, h3, h4, fun i hi => ?_⟩
  have q := alt_eq h5 i hi
  rw [gd_eq] at q
  constructor
  · intro z
    have z' : es.getD i 0 = 0 := n_inj (n := 0) z (by have := he i; omega) (by decide)
    rw [z'] at q
    exact of_decide_eq_true q
  · intro z
    have z' : Nat.beq (es.getD i 0) 0 = false := by
      cases r : Nat.beq (es.getD i 0) 0
      · rfl
      · exact absurd (by rw [Nat.eq_of_beq_eq_true r]; rfl) z
    rw [z'] at q
    exact of_decide_eq_true q
def stp (es St el lo mk : List Nat) (ek : Nat) (k : List Nat → List Nat → List Nat → Bool) : Bool :=
  fc (gd es ek) fun b => fc (Nat.add (gd St b) (gd mk b)) fun f => fc (gd el f) fun o => fc (gd lo ek) fun a =>
  an (Nat.blt ek 4) (an (Nat.blt b 2) (an (Nat.blt f 4) (an (Nat.blt o 4) (an (Nat.blt a 4) (an (Nat.blt (gd mk b) 5)
  (fcL (sf (sf el f ek) a o) fun el' => fcL (sf (sf lo ek f) o a) fun lo' => fcL (sf mk b (Nat.succ (gd mk b))) fun mk' => k el' lo' mk'))))))
theorem stp_eq {es St el lo mk : List Nat} {ek : Nat} {k : List Nat → List Nat → List Nat → Bool} (h : stp es St el lo mk ek k = true) :
    (ek < 4 ∧ es.getD ek 0 < 2 ∧ mF es St mk ek < 4 ∧ el.getD (mF es St mk ek) 0 < 4 ∧ lo.getD ek 0 < 4 ∧ mk.getD (es.getD ek 0) 0 < 5) ∧ k (mEl es St el lo mk ek) (mLo es St el lo mk ek) (mMk es mk ek) = true := by
  simp only [stp, fc_eq, fcL_eq, an_eq, Bool.and_eq_true, blt_iff, sf_eq, gd_eq] at h
  obtain ⟨h1, h2, h3, h4, h5, h6, h7⟩ := h
  exact ⟨⟨h1, h2, h3, h4, h5, h6⟩, h7⟩
theorem okM_of {bo sta el lo mk to : List Nat} {tc ek : Nat} (h1 : bo.length = 4) (h2 : sta.length = 4) (h3 : el.length = 4) (h4 : lo.length = 4) (h5 : mk.length = 4) (h6 : to.length = 4) (h7 : tc < 4) (t : ek < 4 ∧ bo.getD ek 0 < 2 ∧ mF bo sta mk ek < 4 ∧ el.getD (mF bo sta mk ek) 0 < 4 ∧ lo.getD ek 0 < 4 ∧ mk.getD (bo.getD ek 0) 0 < 5) : okM bo sta el lo mk to tc ek = true := by
  obtain ⟨t1, t2, t3, t4, t5, t6⟩ := t
  have t2' : mB bo ek < 2 := t2
  have t6' : mk.getD (mB bo ek) 0 < 5 := t6
  simp only [okM, Bool.and_eq_true, decide_eq_true_eq]
  refine ⟨⟨⟨⟨⟨⟨⟨⟨⟨⟨⟨⟨⟨⟨?_, ?_⟩, ?_⟩, ?_⟩, ?_⟩, ?_⟩, ?_⟩, ?_⟩, ?_⟩, ?_⟩, ?_⟩, ?_⟩, ?_⟩, ?_⟩, ?_⟩ <;> omega
def chk (b q : Nat) : Bool := fcL (bl b) fun es => chain 2 4 es fun En St el lo => fcL (oP q) fun od =>
  frI (gM1 q) fun g1 => frI (gM2 q) fun g2 => frI (gM3 q) fun g3 => frI (gM4 q) fun g4 =>
  an (tlk b es St En el lo 0) (stp es St el lo (rpl 4) (gd od 0) fun e1 l1 k1 => an (tlk b es St En e1 l1 g1) (stp es St e1 l1 k1 (gd od 1) fun e2 l2 k2 => an (tlk b es St En e2 l2 g2) (stp es St e2 l2 k2 (gd od 2) fun e3 l3 k3 => an (tlk b es St En e3 l3 g3) (stp es St e3 l3 k3 (gd od 3) fun e4 l4 _ => tlk b es St En e4 l4 g4))))
theorem chk_ok {b q : Nat} (h : chk b q = true) : okC (bl b) 2 = true ∧ (okM (bl b) (pSt (bl b) 2) (eM0 b q) (lM0 b q) (kM0 b q) (tM0 b q) (cM0 b q) ((oP q).getD 0 0) = true) ∧ (okM (bl b) (pSt (bl b) 2) (eM1 b q) (lM1 b q) (kM1 b q) (tM1 b q) (cM1 b q) ((oP q).getD 1 0) = true) ∧ (okM (bl b) (pSt (bl b) 2) (eM2 b q) (lM2 b q) (kM2 b q) (tM2 b q) (cM2 b q) ((oP q).getD 2 0) = true) ∧ (okM (bl b) (pSt (bl b) 2) (eM3 b q) (lM3 b q) (kM3 b q) (tM3 b q) (cM3 b q) ((oP q).getD 3 0) = true) ∧ (tlk b (bl b) (pSt (bl b) 2) (pEn (bl b) 2) (eM0 b q) (lM0 b q) (0 : Int32) = true) ∧ (tlk b (bl b) (pSt (bl b) 2) (pEn (bl b) 2) (eM1 b q) (lM1 b q) (gM1 q) = true) ∧ (tlk b (bl b) (pSt (bl b) 2) (pEn (bl b) 2) (eM2 b q) (lM2 b q) (gM2 q) = true) ∧ (tlk b (bl b) (pSt (bl b) 2) (pEn (bl b) 2) (eM3 b q) (lM3 b q) (gM3 q) = true) ∧ (tlk b (bl b) (pSt (bl b) 2) (pEn (bl b) 2) (eM4 b q) (lM4 b q) (gM4 q) = true) := by
  rw [chk, fcL_eq] at h
  obtain ⟨hC, h⟩ := chain_eq (es := bl b) rfl rfl (by show ¬ 2 = 4; decide) (by decide) (by decide) (bl_lt b) h
  simp only [fcL_eq, frI_eq, an_eq, Bool.and_eq_true, gd_eq, rpl_eq] at h
  obtain ⟨t0, h⟩ := h
  obtain ⟨m0, h⟩ := stp_eq h
  simp only [Bool.and_eq_true] at h
  obtain ⟨t1, h⟩ := h
  obtain ⟨m1, h⟩ := stp_eq h
  simp only [Bool.and_eq_true] at h
  obtain ⟨t2, h⟩ := h
  obtain ⟨m2, h⟩ := stp_eq h
  simp only [Bool.and_eq_true] at h
  obtain ⟨t3, h⟩ := h
  obtain ⟨m3, t4⟩ := stp_eq h
  have hs : (pSt (bl b) 2).length = 4 := pSt_len (bl b) 2
  refine ⟨hC, ?_, ?_, ?_, ?_, t0, t1, t2, t3, t4⟩
  · obtain ⟨a1, a2, a3, a4, a5⟩ := eL0 b q
    exact okM_of rfl hs a1 a2 a3 a4 (by omega) m0
  · obtain ⟨a1, a2, a3, a4, a5⟩ := eL1 b q
    exact okM_of rfl hs a1 a2 a3 a4 (by omega) m1
  · obtain ⟨a1, a2, a3, a4, a5⟩ := eL2 b q
    exact okM_of rfl hs a1 a2 a3 a4 (by omega) m2
  · obtain ⟨a1, a2, a3, a4, a5⟩ := eL3 b q
    exact okM_of rfl hs a1 a2 a3 a4 (by omega) m3
def chkRow (b : Nat) : Bool := alt 24 fun q => chk b q
set_option maxRecDepth 100000 in
theorem own_row_0 : chkRow 0 = true := by decide +kernel
set_option maxRecDepth 100000 in
theorem own_row_1 : chkRow 1 = true := by decide +kernel
set_option maxRecDepth 100000 in
theorem own_row_2 : chkRow 2 = true := by decide +kernel
set_option maxRecDepth 100000 in
theorem own_row_3 : chkRow 3 = true := by decide +kernel
set_option maxRecDepth 100000 in
theorem own_row_4 : chkRow 4 = true := by decide +kernel
set_option maxRecDepth 100000 in
theorem own_row_5 : chkRow 5 = true := by decide +kernel
set_option maxRecDepth 100000 in
theorem own_row_6 : chkRow 6 = true := by decide +kernel
set_option maxRecDepth 100000 in
theorem own_row_7 : chkRow 7 = true := by decide +kernel
set_option maxRecDepth 100000 in
theorem own_row_8 : chkRow 8 = true := by decide +kernel
set_option maxRecDepth 100000 in
theorem own_row_9 : chkRow 9 = true := by decide +kernel
set_option maxRecDepth 100000 in
theorem own_row_10 : chkRow 10 = true := by decide +kernel
set_option maxRecDepth 100000 in
theorem own_row_11 : chkRow 11 = true := by decide +kernel
set_option maxRecDepth 100000 in
theorem own_row_12 : chkRow 12 = true := by decide +kernel
set_option maxRecDepth 100000 in
theorem own_row_13 : chkRow 13 = true := by decide +kernel
set_option maxRecDepth 100000 in
theorem own_row_14 : chkRow 14 = true := by decide +kernel
set_option maxRecDepth 100000 in
theorem own_row_15 : chkRow 15 = true := by decide +kernel
theorem own_at {b q : Nat} (hb : b < 16) (hq : q < 24) : chk b q = true := by
  have r : b = 0 ∨ b = 1 ∨ b = 2 ∨ b = 3 ∨ b = 4 ∨ b = 5 ∨ b = 6 ∨ b = 7 ∨ b = 8 ∨ b = 9 ∨ b = 10 ∨ b = 11 ∨ b = 12 ∨ b = 13 ∨ b = 14 ∨ b = 15 := by omega
  rcases r with rfl | rfl | rfl | rfl | rfl | rfl | rfl | rfl | rfl | rfl | rfl | rfl | rfl | rfl | rfl | rfl
  · exact alt_eq own_row_0 q hq
  · exact alt_eq own_row_1 q hq
  · exact alt_eq own_row_2 q hq
  · exact alt_eq own_row_3 q hq
  · exact alt_eq own_row_4 q hq
  · exact alt_eq own_row_5 q hq
  · exact alt_eq own_row_6 q hq
  · exact alt_eq own_row_7 q hq
  · exact alt_eq own_row_8 q hq
  · exact alt_eq own_row_9 q hq
  · exact alt_eq own_row_10 q hq
  · exact alt_eq own_row_11 q hq
  · exact alt_eq own_row_12 q hq
  · exact alt_eq own_row_13 q hq
  · exact alt_eq own_row_14 q hq
  · exact alt_eq own_row_15 q hq
theorem own_b {v k : Int32} (h : v = (k &&& (15 : Int32))) : ∃ c : Nat, v = Int32.ofNat c ∧ c < 16 := by
  subst h
  have e : ni (k &&& (15 : Int32)) = ni k % 16 := by rw [ni_and, show ni (15 : Int32) = 2 ^ 4 - 1 from rfl, mask_n]
  exact ⟨ni k % 16, by rw [← e, ofni], by omega⟩
theorem own_b0 {b : Nat} (h : b < 16) : ((Int32.ofNat b) &&& (1 : Int32)) = Int32.ofNat (b % 2) := (by decide +kernel : ∀ b : Fin 16, ((Int32.ofNat b.1) &&& (1 : Int32)) = Int32.ofNat (b.1 % 2)) ⟨b, h⟩
theorem own_b1 {b : Nat} (h : b < 16) : ((ishr (Int32.ofNat b) (1 : Int32)) &&& (1 : Int32)) = Int32.ofNat (b / 2 % 2) := (by decide +kernel : ∀ b : Fin 16, ((ishr (Int32.ofNat b.1) (1 : Int32)) &&& (1 : Int32)) = Int32.ofNat (b.1 / 2 % 2)) ⟨b, h⟩
theorem own_b2 {b : Nat} (h : b < 16) : ((ishr (Int32.ofNat b) (2 : Int32)) &&& (1 : Int32)) = Int32.ofNat (b / 4 % 2) := (by decide +kernel : ∀ b : Fin 16, ((ishr (Int32.ofNat b.1) (2 : Int32)) &&& (1 : Int32)) = Int32.ofNat (b.1 / 4 % 2)) ⟨b, h⟩
theorem own_b3 {b : Nat} (h : b < 16) : ((ishr (Int32.ofNat b) (3 : Int32)) &&& (1 : Int32)) = Int32.ofNat (b / 8 % 2) := (by decide +kernel : ∀ b : Fin 16, ((ishr (Int32.ofNat b.1) (3 : Int32)) &&& (1 : Int32)) = Int32.ofNat (b.1 / 8 % 2)) ⟨b, h⟩
theorem own_p {v k : Int32} (h : v = ((k &&& (2147483647 : Int32)) % (24 : Int32))) : ∃ c : Nat, v = Int32.ofNat c ∧ c < 24 := by
  subst h
  obtain ⟨n, a, b⟩ := remN k (24 : Int32) 24 rfl (by decide) (by decide)
  exact ⟨n, b, a⟩
theorem own_mm {v k : Int32} (h : v = ((k &&& (2147483647 : Int32)) % (5 : Int32))) : ∃ c : Nat, v = Int32.ofNat c ∧ c < 5 := by
  subst h
  obtain ⟨n, a, b⟩ := remN k (5 : Int32) 5 rfl (by decide) (by decide)
  exact ⟨n, b, a⟩
theorem own_r0 {q : Nat} (h : q < 24) : ((Int32.ofNat q) % (4 : Int32)) = Int32.ofNat (q % 4) := (by decide +kernel : ∀ b : Fin 24, ((Int32.ofNat b.1) % (4 : Int32)) = Int32.ofNat (b.1 % 4)) ⟨q, h⟩
theorem own_r1 {q : Nat} (h : q < 24) : ((1 : Int32) + (((Int32.ofNat q) / (4 : Int32)) % (3 : Int32))) = Int32.ofNat (1 + q / 4 % 3) := (by decide +kernel : ∀ b : Fin 24, ((1 : Int32) + (((Int32.ofNat b.1) / (4 : Int32)) % (3 : Int32))) = Int32.ofNat (1 + b.1 / 4 % 3)) ⟨q, h⟩
theorem own_r2 {q : Nat} (h : q < 24) : ((2 : Int32) + (((Int32.ofNat q) / (12 : Int32)) % (2 : Int32))) = Int32.ofNat (2 + q / 12 % 2) := (by decide +kernel : ∀ b : Fin 24, ((2 : Int32) + (((Int32.ofNat b.1) / (12 : Int32)) % (2 : Int32))) = Int32.ofNat (2 + b.1 / 12 % 2)) ⟨q, h⟩
theorem pd__28I_5bI_5bJ_29_5bJ : parseMethodDescriptor "(I[I[J)[J" = some ⟨[.int, (.array .int), (.array .long)], some (.array .long)⟩ := by decide +kernel
theorem pd__28_5bJII_29Z : parseMethodDescriptor "([JII)Z" = some ⟨[(.array .long), .int, .int], some .boolean⟩ := by decide +kernel
set_option maxRecDepth 65536 in
set_option maxHeartbeats 40000000 in
theorem tl_1 {p : Program} {l : Launch} {e : Env} {s : State} {m : MethodId} {args : Array Value} {below : List Frame} {meth : Method} {c : Code} {T0 : State} {locs : List Loc} {Z : State} {a0 : Array Value} {h0 : Heap} {n0 : Nat} {Rst : RL} (xa : Int32) (xb : Int32) (xc : Int32) (bn : Nat) (pn : Nat) (mn : Nat) (ix : Addr) (ox : Addr) (fx : Addr) (jx : Addr) (ax : Addr) (b1 : Addr) (b2 : Addr) (b3 : Addr) (b4 : Addr) (b5 : Addr) (b6 : Addr) (b7 : Addr) (cnt : Nat) (tc : Nat) (el : List Nat) (lo : List Nat) (es : List Nat) (sta : List Nat) (en : List Nat) (mv : Int32)
    (X0 : Stand p l e room_1 s m args below meth c T0 locs 13 78) (hx : p.tables.exec = Jvm.exec) (hZ : Z.Warmed39 s.vm) (hw : ∀ d ∈ tables_1, d.before a0 Z = true) (hby : c.code = code) (hml : c.maxLocals = 17) (hown : s.vm.findClass "com/example/witgen/witgen/regex/PartitionMarkPinLaw" = some m.cls) (e0 : T0.heap = h0) (N0 : Fr n0 locs) (R0 : Rep Z n0 h0 ((ax, Obj "com/example/witgen/witgen/regex/Partition" [("elements", "[I", (.ref b1)), ("location", "[I", (.ref b2)), ("blockOf", "[I", (.ref b3)), ("start", "[I", (.ref b4)), ("end", "[I", (.ref b5)), ("marked", "[I", (.ref b6)), ("touched", "[I", (.ref b7)), ("blocks", "I", (.int (Int32.ofNat cnt))), ("touchedCount", "I", (.int (Int32.ofNat tc)))]) :: (b1, Ar .int (nl el)) :: (b2, Ar .int (nl lo)) :: (b3, Ar .int (nl es)) :: (b4, Ar .int (nl sta)) :: (b5, Ar .int (nl en)) :: (ix, Ar .int (nl es)) :: (fx, Ar .int (nl [0, 1, 2, 3, 4])) :: (jx, Ar .long (ll [0, 1, 2, 3])) :: Rst)) (hG0 : okG el sta en 0 = true) (hG1 : okG el sta en 1 = true) (hl0 : (gat el sta en 0).length < 1000) (hl1 : (gat el sta en 1).length < 1000) (hB0 : F9 (((Int32.ofNat bn) ^^^ (-1 : Int32)) &&& (15 : Int32)) mv (gat el sta en 0) = 1) (hB1 : F9 (Int32.ofNat bn) mv (gat el sta en 1) = 1) :
    ∃ (g0 : Addr) (g1 : Addr) (T' : State) (h' : Heap) (locs' : List Loc), Stand p l e room_1 s m args below meth c T' locs' (13 + 2) (78 + 8) ∧ T'.heap = h' ∧ Fr n0 locs' ∧ Rep Z n0 h' ((ax, Obj "com/example/witgen/witgen/regex/Partition" [("elements", "[I", (.ref b1)), ("location", "[I", (.ref b2)), ("blockOf", "[I", (.ref b3)), ("start", "[I", (.ref b4)), ("end", "[I", (.ref b5)), ("marked", "[I", (.ref b6)), ("touched", "[I", (.ref b7)), ("blocks", "I", (.int (Int32.ofNat cnt))), ("touchedCount", "I", (.int (Int32.ofNat tc)))]) :: (b1, Ar .int (nl el)) :: (b2, Ar .int (nl lo)) :: (b3, Ar .int (nl es)) :: (b4, Ar .int (nl sta)) :: (b5, Ar .int (nl en)) :: (ix, Ar .int (nl es)) :: (fx, Ar .int (nl [0, 1, 2, 3, 4])) :: (jx, Ar .long (ll [0, 1, 2, 3])) :: (g0, Ar .long (ll (gat el sta en 0))) :: (g1, Ar .long (ll (gat el sta en 1))) :: Rst) ∧ ∀ t, Steps p.tables e below (T'.setTop (mkF m 355 #[.val (.int xa), .val (.int xb), .val (.int xc), .val (.int (Int32.ofNat bn)), .val (.ref ix), .val (.ref ox), .val (.int (Int32.ofNat pn)), .val (.int (Int32.ofNat mn)), .val (.ref fx), .val (.ref jx), .val (.ref ax), .val (.int mv), .val (.ref g0), .val (.ref g1), .val (.int (Int32.ofNat bn)), .val (.int (((Int32.ofNat bn) ^^^ (-1 : Int32)) &&& (15 : Int32))), .val (.int (1 : Int32))] [])) t → Steps p.tables e below (T0.setTop (mkF m 289 #[.val (.int xa), .val (.int xb), .val (.int xc), .val (.int (Int32.ofNat bn)), .val (.ref ix), .val (.ref ox), .val (.int (Int32.ofNat pn)), .val (.int (Int32.ofNat mn)), .val (.ref fx), .val (.ref jx), .val (.ref ax), .val (.int mv), .unset, .unset, .unset, .unset, .unset] [])) t := by
  have pre0 : ∀ t, Steps p.tables e below (T0.setTop (mkF m 289 #[.val (.int xa), .val (.int xb), .val (.int xc), .val (.int (Int32.ofNat bn)), .val (.ref ix), .val (.ref ox), .val (.int (Int32.ofNat pn)), .val (.int (Int32.ofNat mn)), .val (.ref fx), .val (.ref jx), .val (.ref ax), .val (.int mv), .unset, .unset, .unset, .unset, .unset] [])) t → Steps p.tables e below (T0.setTop (mkF m 289 #[.val (.int xa), .val (.int xb), .val (.int xc), .val (.int (Int32.ofNat bn)), .val (.ref ix), .val (.ref ox), .val (.int (Int32.ofNat pn)), .val (.int (Int32.ofNat mn)), .val (.ref fx), .val (.ref jx), .val (.ref ax), .val (.int mv), .unset, .unset, .unset, .unset, .unset] [])) t := fun t k => k
  have pre1 : ∀ t, Steps p.tables e below (T0.setTop (mkF m 296 #[.val (.int xa), .val (.int xb), .val (.int xc), .val (.int (Int32.ofNat bn)), .val (.ref ix), .val (.ref ox), .val (.int (Int32.ofNat pn)), .val (.int (Int32.ofNat mn)), .val (.ref fx), .val (.ref jx), .val (.ref ax), .val (.int mv), .unset, .unset, .unset, .unset, .unset] [(.ref jx), (.ref fx), (.int (0 : Int32)), (.ref ax)])) t → Steps p.tables e below (T0.setTop (mkF m 289 #[.val (.int xa), .val (.int xb), .val (.int xc), .val (.int (Int32.ofNat bn)), .val (.ref ix), .val (.ref ox), .val (.int (Int32.ofNat pn)), .val (.int (Int32.ofNat mn)), .val (.ref fx), .val (.ref jx), .val (.ref ax), .val (.int mv), .unset, .unset, .unset, .unset, .unset] [])) t := fun t k => pre0 t (by
    show Steps p.tables e below (T0.setTop (mkF m 289 #[.val (.int xa), .val (.int xb), .val (.int xc), .val (.int (Int32.ofNat bn)), .val (.ref ix), .val (.ref ox), .val (.int (Int32.ofNat pn)), .val (.int (Int32.ofNat mn)), .val (.ref fx), .val (.ref jx), .val (.ref ax), .val (.int mv), .unset, .unset, .unset, .unset, .unset] [])) _
    refine XS.aload X0.here hx rfl (hb hby at_289) rfl rfl ?_
    refine XS.iconst X0.here hx rfl (hb hby at_291) ?_
    refine XS.aload X0.here hx rfl (hb hby at_292) rfl rfl ?_
    refine XS.aload X0.here hx rfl (hb hby at_294) rfl rfl ?_
    exact k)
  have R3 : Rep Z n0 h0 ((ax, Obj "com/example/witgen/witgen/regex/Partition" [("elements", "[I", (.ref b1)), ("location", "[I", (.ref b2)), ("blockOf", "[I", (.ref b3)), ("start", "[I", (.ref b4)), ("end", "[I", (.ref b5)), ("marked", "[I", (.ref b6)), ("touched", "[I", (.ref b7)), ("blocks", "I", (.int (Int32.ofNat cnt))), ("touchedCount", "I", (.int (Int32.ofNat tc)))]) :: (b1, Ar .int (nl el)) :: (b4, Ar .int (nl sta)) :: (b5, Ar .int (nl en)) :: (fx, Ar .int (nl [0, 1, 2, 3, 4])) :: (jx, Ar .long (ll [0, 1, 2, 3])) :: (b2, Ar .int (nl lo)) :: (b3, Ar .int (nl es)) :: (ix, Ar .int (nl es)) :: Rst) := R0.pick [8, 8, 7, 7, 5, 5] rfl
  obtain ⟨cq2, kq2, q2a, q2b, q2c⟩ := isOf hZ e0 (R3.exa (i := 0) rfl)
  obtain ⟨_, _, ⟨T2, L2, k2, n2⟩, -, X2, ⟨Lc2, hQ2, l2, y2, z2⟩, st2⟩ := X0.virtualBack hx (y := (⟨"com/example/witgen/witgen/regex/Partition", "gather", "(I[I[J)[J"⟩ : MethodName)) (z := (⟨"com/example/witgen/witgen/regex/Partition", "gather", "(I[I[J)[J"⟩ : MethodName)) hown (mvT hZ (hw _ (List.mem_of_getElem? (i := 65) rfl))) (mvT hZ (hw _ (List.mem_of_getElem? (i := 66) rfl))) (notFace_of_selects (args := #[]) (mvT hZ (hw _ (List.mem_of_getElem? (i := 68) rfl)))) (mvT hZ (hw _ (List.mem_of_getElem? (i := 68) rfl))) (mvT hZ (hw _ (List.mem_of_getElem? (i := 67) rfl))) (by decide) (backOf (W := 0) (rm8 l Z a0 hw [] ax 0 fx jx _ _ _ _ _ _ _ _ _ _ _ _ h0 n0 _ R3 (hG0)) hZ (hw _ (List.mem_of_getElem? (i := 69) rfl)) (hw _ (List.mem_of_getElem? (i := 11) rfl)) (by decide) (by decide)) q2a q2c (g := (mkF m 296 #[.val (.int xa), .val (.int xb), .val (.int xc), .val (.int (Int32.ofNat bn)), .val (.ref ix), .val (.ref ox), .val (.int (Int32.ofNat pn)), .val (.int (Int32.ofNat mn)), .val (.ref fx), .val (.ref jx), .val (.ref ax), .val (.int mv), .unset, .unset, .unset, .unset, .unset] [(.ref jx), (.ref fx), (.int (0 : Int32)), (.ref ax)])) rfl (by rw [hml]; rfl) (Steps.refl _) (argsL := [(.int (0 : Int32)), (.ref fx), (.ref jx)]) (rest := []) (lenOf pd__28I_5bI_5bJ_29_5bJ rfl) rfl (by show 2 * 0 + _ ≤ _; exact Nat.le_of_eq rfl) (hb hby at_296) (fun _ _ => ⟨rfl, e0, (by decide : 13 + 1 ≤ _), (by decide : 78 + 4 ≤ _)⟩)
  dsimp only [Pt.U, Pt.locs, Pt.cells, Pt.slots] at X2 l2 y2 z2 st2 hQ2
  subst y2 z2
  obtain ⟨bx2, rfl, N2q, R2⟩ := hQ2
  have N2 : Fr n0 L2 := by rw [l2]; exact Fr.app N0 N2q
  replace R2 : Rep Z n0 T2.heap ((bx2, Ar .long (ll (gat el sta en 0))) :: (ax, Obj "com/example/witgen/witgen/regex/Partition" [("elements", "[I", (.ref b1)), ("location", "[I", (.ref b2)), ("blockOf", "[I", (.ref b3)), ("start", "[I", (.ref b4)), ("end", "[I", (.ref b5)), ("marked", "[I", (.ref b6)), ("touched", "[I", (.ref b7)), ("blocks", "I", (.int (Int32.ofNat cnt))), ("touchedCount", "I", (.int (Int32.ofNat tc)))]) :: (b1, Ar .int (nl el)) :: (b4, Ar .int (nl sta)) :: (b5, Ar .int (nl en)) :: (fx, Ar .int (nl [0, 1, 2, 3, 4])) :: (jx, Ar .long (ll [0, 1, 2, 3])) :: (b2, Ar .int (nl lo)) :: (b3, Ar .int (nl es)) :: (ix, Ar .int (nl es)) :: Rst) := R2
  have pre4 : ∀ t, Steps p.tables e below (T2.setTop (mkF m 299 #[.val (.int xa), .val (.int xb), .val (.int xc), .val (.int (Int32.ofNat bn)), .val (.ref ix), .val (.ref ox), .val (.int (Int32.ofNat pn)), .val (.int (Int32.ofNat mn)), .val (.ref fx), .val (.ref jx), .val (.ref ax), .val (.int mv), .unset, .unset, .unset, .unset, .unset] [(.ref bx2)])) t → Steps p.tables e below (T0.setTop (mkF m 289 #[.val (.int xa), .val (.int xb), .val (.int xc), .val (.int (Int32.ofNat bn)), .val (.ref ix), .val (.ref ox), .val (.int (Int32.ofNat pn)), .val (.int (Int32.ofNat mn)), .val (.ref fx), .val (.ref jx), .val (.ref ax), .val (.int mv), .unset, .unset, .unset, .unset, .unset] [])) t := fun t k => pre1 t (st2.trans k)
  have pre5 : ∀ t, Steps p.tables e below (T2.setTop (mkF m 308 #[.val (.int xa), .val (.int xb), .val (.int xc), .val (.int (Int32.ofNat bn)), .val (.ref ix), .val (.ref ox), .val (.int (Int32.ofNat pn)), .val (.int (Int32.ofNat mn)), .val (.ref fx), .val (.ref jx), .val (.ref ax), .val (.int mv), .val (.ref bx2), .unset, .unset, .unset, .unset] [(.ref jx), (.ref fx), (.int (1 : Int32)), (.ref ax)])) t → Steps p.tables e below (T0.setTop (mkF m 289 #[.val (.int xa), .val (.int xb), .val (.int xc), .val (.int (Int32.ofNat bn)), .val (.ref ix), .val (.ref ox), .val (.int (Int32.ofNat pn)), .val (.int (Int32.ofNat mn)), .val (.ref fx), .val (.ref jx), .val (.ref ax), .val (.int mv), .unset, .unset, .unset, .unset, .unset] [])) t := fun t k => pre4 t (by
    show Steps p.tables e below (T2.setTop (mkF m 299 #[.val (.int xa), .val (.int xb), .val (.int xc), .val (.int (Int32.ofNat bn)), .val (.ref ix), .val (.ref ox), .val (.int (Int32.ofNat pn)), .val (.int (Int32.ofNat mn)), .val (.ref fx), .val (.ref jx), .val (.ref ax), .val (.int mv), .unset, .unset, .unset, .unset, .unset] [(.ref bx2)])) _
    refine XS.astore X2.here hx rfl (hb hby at_299) rfl rfl (l' := #[.val (.int xa), .val (.int xb), .val (.int xc), .val (.int (Int32.ofNat bn)), .val (.ref ix), .val (.ref ox), .val (.int (Int32.ofNat pn)), .val (.int (Int32.ofNat mn)), .val (.ref fx), .val (.ref jx), .val (.ref ax), .val (.int mv), .val (.ref bx2), .unset, .unset, .unset, .unset]) rfl ?_
    refine XS.aload X2.here hx rfl (hb hby at_301) rfl rfl ?_
    refine XS.iconst X2.here hx rfl (hb hby at_303) ?_
    refine XS.aload X2.here hx rfl (hb hby at_304) rfl rfl ?_
    refine XS.aload X2.here hx rfl (hb hby at_306) rfl rfl ?_
    exact k)
  have R7 : Rep Z n0 T2.heap ((ax, Obj "com/example/witgen/witgen/regex/Partition" [("elements", "[I", (.ref b1)), ("location", "[I", (.ref b2)), ("blockOf", "[I", (.ref b3)), ("start", "[I", (.ref b4)), ("end", "[I", (.ref b5)), ("marked", "[I", (.ref b6)), ("touched", "[I", (.ref b7)), ("blocks", "I", (.int (Int32.ofNat cnt))), ("touchedCount", "I", (.int (Int32.ofNat tc)))]) :: (b1, Ar .int (nl el)) :: (b4, Ar .int (nl sta)) :: (b5, Ar .int (nl en)) :: (fx, Ar .int (nl [0, 1, 2, 3, 4])) :: (jx, Ar .long (ll [0, 1, 2, 3])) :: (bx2, Ar .long (ll (gat el sta en 0))) :: (b2, Ar .int (nl lo)) :: (b3, Ar .int (nl es)) :: (ix, Ar .int (nl es)) :: Rst) := R2.pick [6, 6, 6, 6, 6, 6] rfl
  obtain ⟨cq6, kq6, q6a, q6b, q6c⟩ := isOf hZ rfl (R7.exa (i := 0) rfl)
  obtain ⟨_, _, ⟨T6, L6, k6, n6⟩, -, X6, ⟨Lc6, hQ6, l6, y6, z6⟩, st6⟩ := X2.virtualBack hx (y := (⟨"com/example/witgen/witgen/regex/Partition", "gather", "(I[I[J)[J"⟩ : MethodName)) (z := (⟨"com/example/witgen/witgen/regex/Partition", "gather", "(I[I[J)[J"⟩ : MethodName)) hown (mvT hZ (hw _ (List.mem_of_getElem? (i := 65) rfl))) (mvT hZ (hw _ (List.mem_of_getElem? (i := 66) rfl))) (notFace_of_selects (args := #[]) (mvT hZ (hw _ (List.mem_of_getElem? (i := 68) rfl)))) (mvT hZ (hw _ (List.mem_of_getElem? (i := 68) rfl))) (mvT hZ (hw _ (List.mem_of_getElem? (i := 67) rfl))) (by decide) (backOf (W := 0) (rm8 l Z a0 hw [] ax 1 fx jx _ _ _ _ _ _ _ _ _ _ _ _ T2.heap n0 _ R7 (hG1)) hZ (hw _ (List.mem_of_getElem? (i := 69) rfl)) (hw _ (List.mem_of_getElem? (i := 11) rfl)) (by decide) (by decide)) q6a q6c (g := (mkF m 308 #[.val (.int xa), .val (.int xb), .val (.int xc), .val (.int (Int32.ofNat bn)), .val (.ref ix), .val (.ref ox), .val (.int (Int32.ofNat pn)), .val (.int (Int32.ofNat mn)), .val (.ref fx), .val (.ref jx), .val (.ref ax), .val (.int mv), .val (.ref bx2), .unset, .unset, .unset, .unset] [(.ref jx), (.ref fx), (.int (1 : Int32)), (.ref ax)])) rfl (by rw [hml]; rfl) (Steps.refl _) (argsL := [(.int (1 : Int32)), (.ref fx), (.ref jx)]) (rest := []) (lenOf pd__28I_5bI_5bJ_29_5bJ rfl) rfl (by show 2 * 0 + _ ≤ _; exact Nat.le_of_eq rfl) (hb hby at_308) (fun _ _ => ⟨rfl, rfl, (by decide : 14 + 1 ≤ _), (by decide : 82 + 4 ≤ _)⟩)
  dsimp only [Pt.U, Pt.locs, Pt.cells, Pt.slots] at X6 l6 y6 z6 st6 hQ6
  subst y6 z6
  obtain ⟨bx6, rfl, N6q, R6⟩ := hQ6
  have N6 : Fr n0 L6 := by rw [l6]; exact Fr.app N2 N6q
  replace R6 : Rep Z n0 T6.heap ((bx6, Ar .long (ll (gat el sta en 1))) :: (ax, Obj "com/example/witgen/witgen/regex/Partition" [("elements", "[I", (.ref b1)), ("location", "[I", (.ref b2)), ("blockOf", "[I", (.ref b3)), ("start", "[I", (.ref b4)), ("end", "[I", (.ref b5)), ("marked", "[I", (.ref b6)), ("touched", "[I", (.ref b7)), ("blocks", "I", (.int (Int32.ofNat cnt))), ("touchedCount", "I", (.int (Int32.ofNat tc)))]) :: (b1, Ar .int (nl el)) :: (b4, Ar .int (nl sta)) :: (b5, Ar .int (nl en)) :: (fx, Ar .int (nl [0, 1, 2, 3, 4])) :: (jx, Ar .long (ll [0, 1, 2, 3])) :: (bx2, Ar .long (ll (gat el sta en 0))) :: (b2, Ar .int (nl lo)) :: (b3, Ar .int (nl es)) :: (ix, Ar .int (nl es)) :: Rst) := R6
  have pre8 : ∀ t, Steps p.tables e below (T6.setTop (mkF m 311 #[.val (.int xa), .val (.int xb), .val (.int xc), .val (.int (Int32.ofNat bn)), .val (.ref ix), .val (.ref ox), .val (.int (Int32.ofNat pn)), .val (.int (Int32.ofNat mn)), .val (.ref fx), .val (.ref jx), .val (.ref ax), .val (.int mv), .val (.ref bx2), .unset, .unset, .unset, .unset] [(.ref bx6)])) t → Steps p.tables e below (T0.setTop (mkF m 289 #[.val (.int xa), .val (.int xb), .val (.int xc), .val (.int (Int32.ofNat bn)), .val (.ref ix), .val (.ref ox), .val (.int (Int32.ofNat pn)), .val (.int (Int32.ofNat mn)), .val (.ref fx), .val (.ref jx), .val (.ref ax), .val (.int mv), .unset, .unset, .unset, .unset, .unset] [])) t := fun t k => pre5 t (st6.trans k)
  have pre9 : ∀ t, Steps p.tables e below (T6.setTop (mkF m 330 #[.val (.int xa), .val (.int xb), .val (.int xc), .val (.int (Int32.ofNat bn)), .val (.ref ix), .val (.ref ox), .val (.int (Int32.ofNat pn)), .val (.int (Int32.ofNat mn)), .val (.ref fx), .val (.ref jx), .val (.ref ax), .val (.int mv), .val (.ref bx2), .val (.ref bx6), .val (.int (Int32.ofNat bn)), .val (.int (((Int32.ofNat bn) ^^^ (-1 : Int32)) &&& (15 : Int32))), .unset] [(.int mv), (.int (((Int32.ofNat bn) ^^^ (-1 : Int32)) &&& (15 : Int32))), (.ref bx2)])) t → Steps p.tables e below (T0.setTop (mkF m 289 #[.val (.int xa), .val (.int xb), .val (.int xc), .val (.int (Int32.ofNat bn)), .val (.ref ix), .val (.ref ox), .val (.int (Int32.ofNat pn)), .val (.int (Int32.ofNat mn)), .val (.ref fx), .val (.ref jx), .val (.ref ax), .val (.int mv), .unset, .unset, .unset, .unset, .unset] [])) t := fun t k => pre8 t (by
    show Steps p.tables e below (T6.setTop (mkF m 311 #[.val (.int xa), .val (.int xb), .val (.int xc), .val (.int (Int32.ofNat bn)), .val (.ref ix), .val (.ref ox), .val (.int (Int32.ofNat pn)), .val (.int (Int32.ofNat mn)), .val (.ref fx), .val (.ref jx), .val (.ref ax), .val (.int mv), .val (.ref bx2), .unset, .unset, .unset, .unset] [(.ref bx6)])) _
    refine XS.astore X6.here hx rfl (hb hby at_311) rfl rfl (l' := #[.val (.int xa), .val (.int xb), .val (.int xc), .val (.int (Int32.ofNat bn)), .val (.ref ix), .val (.ref ox), .val (.int (Int32.ofNat pn)), .val (.int (Int32.ofNat mn)), .val (.ref fx), .val (.ref jx), .val (.ref ax), .val (.int mv), .val (.ref bx2), .val (.ref bx6), .unset, .unset, .unset]) rfl ?_
    refine XS.iloadN X6.here hx rfl (hb hby at_313) rfl ?_
    refine XS.istore X6.here hx rfl (hb hby at_314) rfl (l' := #[.val (.int xa), .val (.int xb), .val (.int xc), .val (.int (Int32.ofNat bn)), .val (.ref ix), .val (.ref ox), .val (.int (Int32.ofNat pn)), .val (.int (Int32.ofNat mn)), .val (.ref fx), .val (.ref jx), .val (.ref ax), .val (.int mv), .val (.ref bx2), .val (.ref bx6), .val (.int (Int32.ofNat bn)), .unset, .unset]) rfl ?_
    refine XS.iloadN X6.here hx rfl (hb hby at_316) rfl ?_
    refine XS.iconst X6.here hx rfl (hb hby at_317) ?_
    refine XS.ixor X6.here hx rfl (hb hby at_318) rfl ?_
    refine XS.bipush X6.here hx rfl (hb hby at_319) ?_
    show Steps p.tables e below (T6.setTop (mkF m 321 #[.val (.int xa), .val (.int xb), .val (.int xc), .val (.int (Int32.ofNat bn)), .val (.ref ix), .val (.ref ox), .val (.int (Int32.ofNat pn)), .val (.int (Int32.ofNat mn)), .val (.ref fx), .val (.ref jx), .val (.ref ax), .val (.int mv), .val (.ref bx2), .val (.ref bx6), .val (.int (Int32.ofNat bn)), .unset, .unset] [(.int (15 : Int32)), (.int ((Int32.ofNat bn) ^^^ (-1 : Int32)))])) _
    refine XS.iand X6.here hx rfl (hb hby at_321) rfl ?_
    refine XS.istore X6.here hx rfl (hb hby at_322) rfl (l' := #[.val (.int xa), .val (.int xb), .val (.int xc), .val (.int (Int32.ofNat bn)), .val (.ref ix), .val (.ref ox), .val (.int (Int32.ofNat pn)), .val (.int (Int32.ofNat mn)), .val (.ref fx), .val (.ref jx), .val (.ref ax), .val (.int mv), .val (.ref bx2), .val (.ref bx6), .val (.int (Int32.ofNat bn)), .val (.int (((Int32.ofNat bn) ^^^ (-1 : Int32)) &&& (15 : Int32))), .unset]) rfl ?_
    refine XS.aload X6.here hx rfl (hb hby at_324) rfl rfl ?_
    refine XS.iload X6.here hx rfl (hb hby at_326) rfl ?_
    refine XS.iload X6.here hx rfl (hb hby at_328) rfl ?_
    exact k)
  have R11 : Rep Z n0 T6.heap ((bx2, Ar .long (ll (gat el sta en 0))) :: (bx6, Ar .long (ll (gat el sta en 1))) :: (ax, Obj "com/example/witgen/witgen/regex/Partition" [("elements", "[I", (.ref b1)), ("location", "[I", (.ref b2)), ("blockOf", "[I", (.ref b3)), ("start", "[I", (.ref b4)), ("end", "[I", (.ref b5)), ("marked", "[I", (.ref b6)), ("touched", "[I", (.ref b7)), ("blocks", "I", (.int (Int32.ofNat cnt))), ("touchedCount", "I", (.int (Int32.ofNat tc)))]) :: (b1, Ar .int (nl el)) :: (b4, Ar .int (nl sta)) :: (b5, Ar .int (nl en)) :: (fx, Ar .int (nl [0, 1, 2, 3, 4])) :: (jx, Ar .long (ll [0, 1, 2, 3])) :: (b2, Ar .int (nl lo)) :: (b3, Ar .int (nl es)) :: (ix, Ar .int (nl es)) :: Rst) := R6.pick [7] rfl
  obtain ⟨_, _, ⟨T10, L10, k10, n10⟩, -, X10, ⟨Lc10, hQ10, l10, y10, z10⟩, st10⟩ := Jvm.LawKit.callS X6 hx (y := (⟨"com/example/witgen/witgen/regex/PartitionMarkPinLaw", "blockOk", "([JII)Z"⟩ : MethodName)) hown (mvT hZ (hw _ (List.mem_of_getElem? (i := 71) rfl))) (mvT hZ (hw _ (List.mem_of_getElem? (i := 72) rfl))) (mvT hZ (hw _ (List.mem_of_getElem? (i := 4) rfl))) (mvT hZ (hw _ (List.mem_of_getElem? (i := 73) rfl))) (by decide) (backOf (W := 0) (rm9 l Z a0 hw [] bx2 (((Int32.ofNat bn) ^^^ (-1 : Int32)) &&& (15 : Int32)) mv _ T6.heap n0 _ R11 (hl0)) hZ (hw _ (List.mem_of_getElem? (i := 73) rfl)) (hw _ (List.mem_of_getElem? (i := 4) rfl)) (by decide) (by decide)) (g := (mkF m 330 #[.val (.int xa), .val (.int xb), .val (.int xc), .val (.int (Int32.ofNat bn)), .val (.ref ix), .val (.ref ox), .val (.int (Int32.ofNat pn)), .val (.int (Int32.ofNat mn)), .val (.ref fx), .val (.ref jx), .val (.ref ax), .val (.int mv), .val (.ref bx2), .val (.ref bx6), .val (.int (Int32.ofNat bn)), .val (.int (((Int32.ofNat bn) ^^^ (-1 : Int32)) &&& (15 : Int32))), .unset] [(.int mv), (.int (((Int32.ofNat bn) ^^^ (-1 : Int32)) &&& (15 : Int32))), (.ref bx2)])) rfl (by rw [hml]; rfl) (argsL := [(.ref bx2), (.int (((Int32.ofNat bn) ^^^ (-1 : Int32)) &&& (15 : Int32))), (.int mv)]) (rest := []) (lenOf pd__28_5bJII_29Z rfl) rfl (by show 2 * 0 + _ ≤ _; exact Nat.le_of_eq rfl) (hb hby at_330) (fun _ _ => ⟨rfl, rfl, (by decide : 15 + 0 ≤ _), (by decide : 86 + 0 ≤ _)⟩)
  dsimp only [Pt.U, Pt.locs, Pt.cells, Pt.slots] at X10 l10 y10 z10 st10 hQ10
  subst y10 z10
  obtain ⟨rfl, N10q, R10⟩ := hQ10
  have N10 : Fr n0 L10 := by rw [l10]; exact Fr.app N6 N10q
  replace R10 : Rep Z n0 T10.heap ((bx2, Ar .long (ll (gat el sta en 0))) :: (bx6, Ar .long (ll (gat el sta en 1))) :: (ax, Obj "com/example/witgen/witgen/regex/Partition" [("elements", "[I", (.ref b1)), ("location", "[I", (.ref b2)), ("blockOf", "[I", (.ref b3)), ("start", "[I", (.ref b4)), ("end", "[I", (.ref b5)), ("marked", "[I", (.ref b6)), ("touched", "[I", (.ref b7)), ("blocks", "I", (.int (Int32.ofNat cnt))), ("touchedCount", "I", (.int (Int32.ofNat tc)))]) :: (b1, Ar .int (nl el)) :: (b4, Ar .int (nl sta)) :: (b5, Ar .int (nl en)) :: (fx, Ar .int (nl [0, 1, 2, 3, 4])) :: (jx, Ar .long (ll [0, 1, 2, 3])) :: (b2, Ar .int (nl lo)) :: (b3, Ar .int (nl es)) :: (ix, Ar .int (nl es)) :: Rst) := R10
  have pre12 : ∀ t, Steps p.tables e below (T10.setTop (mkF m 333 #[.val (.int xa), .val (.int xb), .val (.int xc), .val (.int (Int32.ofNat bn)), .val (.ref ix), .val (.ref ox), .val (.int (Int32.ofNat pn)), .val (.int (Int32.ofNat mn)), .val (.ref fx), .val (.ref jx), .val (.ref ax), .val (.int mv), .val (.ref bx2), .val (.ref bx6), .val (.int (Int32.ofNat bn)), .val (.int (((Int32.ofNat bn) ^^^ (-1 : Int32)) &&& (15 : Int32))), .unset] [(.int (F9 (((Int32.ofNat bn) ^^^ (-1 : Int32)) &&& (15 : Int32)) mv (gat el sta en 0)))])) t → Steps p.tables e below (T0.setTop (mkF m 289 #[.val (.int xa), .val (.int xb), .val (.int xc), .val (.int (Int32.ofNat bn)), .val (.ref ix), .val (.ref ox), .val (.int (Int32.ofNat pn)), .val (.int (Int32.ofNat mn)), .val (.ref fx), .val (.ref jx), .val (.ref ax), .val (.int mv), .unset, .unset, .unset, .unset, .unset] [])) t := fun t k => pre9 t (st10 t k)
  have hb13 : ¬ ((F9 (((Int32.ofNat bn) ^^^ (-1 : Int32)) &&& (15 : Int32)) mv (gat el sta en 0)) = (0 : Int32)) := (by rw [hB0]; decide)
  have pre14 : ∀ t, Steps p.tables e below (T10.setTop (mkF m 342 #[.val (.int xa), .val (.int xb), .val (.int xc), .val (.int (Int32.ofNat bn)), .val (.ref ix), .val (.ref ox), .val (.int (Int32.ofNat pn)), .val (.int (Int32.ofNat mn)), .val (.ref fx), .val (.ref jx), .val (.ref ax), .val (.int mv), .val (.ref bx2), .val (.ref bx6), .val (.int (Int32.ofNat bn)), .val (.int (((Int32.ofNat bn) ^^^ (-1 : Int32)) &&& (15 : Int32))), .unset] [(.int mv), (.int (Int32.ofNat bn)), (.ref bx6)])) t → Steps p.tables e below (T0.setTop (mkF m 289 #[.val (.int xa), .val (.int xb), .val (.int xc), .val (.int (Int32.ofNat bn)), .val (.ref ix), .val (.ref ox), .val (.int (Int32.ofNat pn)), .val (.int (Int32.ofNat mn)), .val (.ref fx), .val (.ref jx), .val (.ref ax), .val (.int mv), .unset, .unset, .unset, .unset, .unset] [])) t := fun t k => pre12 t (by
    show Steps p.tables e below (T10.setTop (mkF m 333 #[.val (.int xa), .val (.int xb), .val (.int xc), .val (.int (Int32.ofNat bn)), .val (.ref ix), .val (.ref ox), .val (.int (Int32.ofNat pn)), .val (.int (Int32.ofNat mn)), .val (.ref fx), .val (.ref jx), .val (.ref ax), .val (.int mv), .val (.ref bx2), .val (.ref bx6), .val (.int (Int32.ofNat bn)), .val (.int (((Int32.ofNat bn) ^^^ (-1 : Int32)) &&& (15 : Int32))), .unset] [(.int (F9 (((Int32.ofNat bn) ^^^ (-1 : Int32)) &&& (15 : Int32)) mv (gat el sta en 0)))])) _
    refine XS.ifNo X10.here hx rfl (hb hby at_333) rfl ((if0 _ _).trans (feq hb13).1) ?_
    refine XS.aload X10.here hx rfl (hb hby at_336) rfl rfl ?_
    refine XS.iload X10.here hx rfl (hb hby at_338) rfl ?_
    refine XS.iload X10.here hx rfl (hb hby at_340) rfl ?_
    exact k)
  have R16 : Rep Z n0 T10.heap ((bx6, Ar .long (ll (gat el sta en 1))) :: (bx2, Ar .long (ll (gat el sta en 0))) :: (ax, Obj "com/example/witgen/witgen/regex/Partition" [("elements", "[I", (.ref b1)), ("location", "[I", (.ref b2)), ("blockOf", "[I", (.ref b3)), ("start", "[I", (.ref b4)), ("end", "[I", (.ref b5)), ("marked", "[I", (.ref b6)), ("touched", "[I", (.ref b7)), ("blocks", "I", (.int (Int32.ofNat cnt))), ("touchedCount", "I", (.int (Int32.ofNat tc)))]) :: (b1, Ar .int (nl el)) :: (b4, Ar .int (nl sta)) :: (b5, Ar .int (nl en)) :: (fx, Ar .int (nl [0, 1, 2, 3, 4])) :: (jx, Ar .long (ll [0, 1, 2, 3])) :: (b2, Ar .int (nl lo)) :: (b3, Ar .int (nl es)) :: (ix, Ar .int (nl es)) :: Rst) := R10.pick [1] rfl
  obtain ⟨_, _, ⟨T15, L15, k15, n15⟩, -, X15, ⟨Lc15, hQ15, l15, y15, z15⟩, st15⟩ := Jvm.LawKit.callS X10 hx (y := (⟨"com/example/witgen/witgen/regex/PartitionMarkPinLaw", "blockOk", "([JII)Z"⟩ : MethodName)) hown (mvT hZ (hw _ (List.mem_of_getElem? (i := 71) rfl))) (mvT hZ (hw _ (List.mem_of_getElem? (i := 72) rfl))) (mvT hZ (hw _ (List.mem_of_getElem? (i := 4) rfl))) (mvT hZ (hw _ (List.mem_of_getElem? (i := 73) rfl))) (by decide) (backOf (W := 0) (rm9 l Z a0 hw [] bx6 (Int32.ofNat bn) mv _ T10.heap n0 _ R16 (hl1)) hZ (hw _ (List.mem_of_getElem? (i := 73) rfl)) (hw _ (List.mem_of_getElem? (i := 4) rfl)) (by decide) (by decide)) (g := (mkF m 342 #[.val (.int xa), .val (.int xb), .val (.int xc), .val (.int (Int32.ofNat bn)), .val (.ref ix), .val (.ref ox), .val (.int (Int32.ofNat pn)), .val (.int (Int32.ofNat mn)), .val (.ref fx), .val (.ref jx), .val (.ref ax), .val (.int mv), .val (.ref bx2), .val (.ref bx6), .val (.int (Int32.ofNat bn)), .val (.int (((Int32.ofNat bn) ^^^ (-1 : Int32)) &&& (15 : Int32))), .unset] [(.int mv), (.int (Int32.ofNat bn)), (.ref bx6)])) rfl (by rw [hml]; rfl) (argsL := [(.ref bx6), (.int (Int32.ofNat bn)), (.int mv)]) (rest := []) (lenOf pd__28_5bJII_29Z rfl) rfl (by show 2 * 0 + _ ≤ _; exact Nat.le_of_eq rfl) (hb hby at_342) (fun _ _ => ⟨rfl, rfl, (by decide : 15 + 0 ≤ _), (by decide : 86 + 0 ≤ _)⟩)
  dsimp only [Pt.U, Pt.locs, Pt.cells, Pt.slots] at X15 l15 y15 z15 st15 hQ15
  subst y15 z15
  obtain ⟨rfl, N15q, R15⟩ := hQ15
  have N15 : Fr n0 L15 := by rw [l15]; exact Fr.app N10 N15q
  replace R15 : Rep Z n0 T15.heap ((bx6, Ar .long (ll (gat el sta en 1))) :: (bx2, Ar .long (ll (gat el sta en 0))) :: (ax, Obj "com/example/witgen/witgen/regex/Partition" [("elements", "[I", (.ref b1)), ("location", "[I", (.ref b2)), ("blockOf", "[I", (.ref b3)), ("start", "[I", (.ref b4)), ("end", "[I", (.ref b5)), ("marked", "[I", (.ref b6)), ("touched", "[I", (.ref b7)), ("blocks", "I", (.int (Int32.ofNat cnt))), ("touchedCount", "I", (.int (Int32.ofNat tc)))]) :: (b1, Ar .int (nl el)) :: (b4, Ar .int (nl sta)) :: (b5, Ar .int (nl en)) :: (fx, Ar .int (nl [0, 1, 2, 3, 4])) :: (jx, Ar .long (ll [0, 1, 2, 3])) :: (b2, Ar .int (nl lo)) :: (b3, Ar .int (nl es)) :: (ix, Ar .int (nl es)) :: Rst) := R15
  have pre17 : ∀ t, Steps p.tables e below (T15.setTop (mkF m 345 #[.val (.int xa), .val (.int xb), .val (.int xc), .val (.int (Int32.ofNat bn)), .val (.ref ix), .val (.ref ox), .val (.int (Int32.ofNat pn)), .val (.int (Int32.ofNat mn)), .val (.ref fx), .val (.ref jx), .val (.ref ax), .val (.int mv), .val (.ref bx2), .val (.ref bx6), .val (.int (Int32.ofNat bn)), .val (.int (((Int32.ofNat bn) ^^^ (-1 : Int32)) &&& (15 : Int32))), .unset] [(.int (F9 (Int32.ofNat bn) mv (gat el sta en 1)))])) t → Steps p.tables e below (T0.setTop (mkF m 289 #[.val (.int xa), .val (.int xb), .val (.int xc), .val (.int (Int32.ofNat bn)), .val (.ref ix), .val (.ref ox), .val (.int (Int32.ofNat pn)), .val (.int (Int32.ofNat mn)), .val (.ref fx), .val (.ref jx), .val (.ref ax), .val (.int mv), .unset, .unset, .unset, .unset, .unset] [])) t := fun t k => pre14 t (st15 t k)
  have hb18 : ¬ ((F9 (Int32.ofNat bn) mv (gat el sta en 1)) = (0 : Int32)) := (by rw [hB1]; decide)
  have pre19 : ∀ t, Steps p.tables e below (T15.setTop (mkF m 355 #[.val (.int xa), .val (.int xb), .val (.int xc), .val (.int (Int32.ofNat bn)), .val (.ref ix), .val (.ref ox), .val (.int (Int32.ofNat pn)), .val (.int (Int32.ofNat mn)), .val (.ref fx), .val (.ref jx), .val (.ref ax), .val (.int mv), .val (.ref bx2), .val (.ref bx6), .val (.int (Int32.ofNat bn)), .val (.int (((Int32.ofNat bn) ^^^ (-1 : Int32)) &&& (15 : Int32))), .val (.int (1 : Int32))] [])) t → Steps p.tables e below (T0.setTop (mkF m 289 #[.val (.int xa), .val (.int xb), .val (.int xc), .val (.int (Int32.ofNat bn)), .val (.ref ix), .val (.ref ox), .val (.int (Int32.ofNat pn)), .val (.int (Int32.ofNat mn)), .val (.ref fx), .val (.ref jx), .val (.ref ax), .val (.int mv), .unset, .unset, .unset, .unset, .unset] [])) t := fun t k => pre17 t (by
    show Steps p.tables e below (T15.setTop (mkF m 345 #[.val (.int xa), .val (.int xb), .val (.int xc), .val (.int (Int32.ofNat bn)), .val (.ref ix), .val (.ref ox), .val (.int (Int32.ofNat pn)), .val (.int (Int32.ofNat mn)), .val (.ref fx), .val (.ref jx), .val (.ref ax), .val (.int mv), .val (.ref bx2), .val (.ref bx6), .val (.int (Int32.ofNat bn)), .val (.int (((Int32.ofNat bn) ^^^ (-1 : Int32)) &&& (15 : Int32))), .unset] [(.int (F9 (Int32.ofNat bn) mv (gat el sta en 1)))])) _
    refine XS.ifNo X15.here hx rfl (hb hby at_345) rfl ((if0 _ _).trans (feq hb18).1) ?_
    refine XS.iconst X15.here hx rfl (hb hby at_348) ?_
    refine XS.goto X15.here hx rfl (pc0 := 349) (pc' := 353) rfl (hb hby at_349) (by decide) (by decide) ?_
    refine XS.istore X15.here hx rfl (hb hby at_353) rfl (l' := #[.val (.int xa), .val (.int xb), .val (.int xc), .val (.int (Int32.ofNat bn)), .val (.ref ix), .val (.ref ox), .val (.int (Int32.ofNat pn)), .val (.int (Int32.ofNat mn)), .val (.ref fx), .val (.ref jx), .val (.ref ax), .val (.int mv), .val (.ref bx2), .val (.ref bx6), .val (.int (Int32.ofNat bn)), .val (.int (((Int32.ofNat bn) ^^^ (-1 : Int32)) &&& (15 : Int32))), .val (.int (1 : Int32))]) rfl ?_
    exact k)
  have R20 : Rep Z n0 T15.heap ((ax, Obj "com/example/witgen/witgen/regex/Partition" [("elements", "[I", (.ref b1)), ("location", "[I", (.ref b2)), ("blockOf", "[I", (.ref b3)), ("start", "[I", (.ref b4)), ("end", "[I", (.ref b5)), ("marked", "[I", (.ref b6)), ("touched", "[I", (.ref b7)), ("blocks", "I", (.int (Int32.ofNat cnt))), ("touchedCount", "I", (.int (Int32.ofNat tc)))]) :: (b1, Ar .int (nl el)) :: (b2, Ar .int (nl lo)) :: (b3, Ar .int (nl es)) :: (b4, Ar .int (nl sta)) :: (b5, Ar .int (nl en)) :: (ix, Ar .int (nl es)) :: (fx, Ar .int (nl [0, 1, 2, 3, 4])) :: (jx, Ar .long (ll [0, 1, 2, 3])) :: (bx2, Ar .long (ll (gat el sta en 0))) :: (bx6, Ar .long (ll (gat el sta en 1))) :: Rst) := R15.pick [0, 1, 7, 7, 10, 8, 8, 10, 10, 10, 10] rfl
  exact ⟨bx2, bx6, T15, _, _, X15, rfl, N15, R20, pre19⟩
theorem pd__28Lcom_2fexample_2fwitgen_2fwitgen_2fregex_2fPartition_3bI_5bJ_29Z : parseMethodDescriptor "(Lcom/example/witgen/witgen/regex/Partition;I[J)Z" = some ⟨[(.object "com/example/witgen/witgen/regex/Partition"), .int, (.array .long)], some .boolean⟩ := by decide +kernel
set_option maxRecDepth 65536 in
set_option maxHeartbeats 40000000 in
theorem tf_0 {p : Program} {l : Launch} {e : Env} {s : State} {m : MethodId} {args : Array Value} {below : List Frame} {meth : Method} {c : Code} {T0 : State} {locs : List Loc} {Z : State} {a0 : Array Value} {h0 : Heap} {n0 : Nat} {Rst : RL} (xa : Int32) (xb : Int32) (xc : Int32) (bn : Nat) (pn : Nat) (mn : Nat) (ix : Addr) (ox : Addr) (fx : Addr) (jx : Addr) (ax : Addr) (b1 : Addr) (b2 : Addr) (b3 : Addr) (b4 : Addr) (b5 : Addr) (b6 : Addr) (b7 : Addr) (cnt : Nat) (tc : Nat) (lo : List Nat) (es : List Nat) (sta : List Nat) (mv : Int32) (g0 : Addr) (g1 : Addr) (gs0 : List Nat) (gs1 : List Nat)
    (X0 : Stand p l e room_1 s m args below meth c T0 locs 15 86) (hx : p.tables.exec = Jvm.exec) (hZ : Z.Warmed39 s.vm) (hw : ∀ d ∈ tables_1, d.before a0 Z = true) (hby : c.code = code) (hml : c.maxLocals = 17) (hown : s.vm.findClass "com/example/witgen/witgen/regex/PartitionMarkPinLaw" = some m.cls) (e0 : T0.heap = h0) (N0 : Fr n0 locs) (R0 : Rep Z n0 h0 ((ax, Obj "com/example/witgen/witgen/regex/Partition" [("elements", "[I", (.ref b1)), ("location", "[I", (.ref b2)), ("blockOf", "[I", (.ref b3)), ("start", "[I", (.ref b4)), ("end", "[I", (.ref b5)), ("marked", "[I", (.ref b6)), ("touched", "[I", (.ref b7)), ("blocks", "I", (.int (Int32.ofNat cnt))), ("touchedCount", "I", (.int (Int32.ofNat tc)))]) :: (b2, Ar .int (nl lo)) :: (b3, Ar .int (nl es)) :: (b4, Ar .int (nl sta)) :: (ix, Ar .int (nl es)) :: (g0, Ar .long (ll gs0)) :: (g1, Ar .long (ll gs1)) :: Rst)) (hz0 : (Int32.ofNat (es.getD 0 0)) = (0 : Int32) → F12 0 lo es sta gs0 = 1) (hz1 : ¬ ((Int32.ofNat (es.getD 0 0)) = (0 : Int32)) → F12 0 lo es sta gs1 = 1) (p1 : 0 < lo.length) (p3 : 0 < es.length) (p4 : es.getD 0 0 < sta.length) (p5 : es.getD 0 0 < 1000) (hl0 : gs0.length < 1000) (hl1 : gs1.length < 1000) :
    ∃ (T' : State) (h' : Heap) (locs' : List Loc), Stand p l e room_1 s m args below meth c T' locs' 15 86 ∧ T'.heap = h' ∧ Fr n0 locs' ∧ Rep Z n0 h' ((ax, Obj "com/example/witgen/witgen/regex/Partition" [("elements", "[I", (.ref b1)), ("location", "[I", (.ref b2)), ("blockOf", "[I", (.ref b3)), ("start", "[I", (.ref b4)), ("end", "[I", (.ref b5)), ("marked", "[I", (.ref b6)), ("touched", "[I", (.ref b7)), ("blocks", "I", (.int (Int32.ofNat cnt))), ("touchedCount", "I", (.int (Int32.ofNat tc)))]) :: (b2, Ar .int (nl lo)) :: (b3, Ar .int (nl es)) :: (b4, Ar .int (nl sta)) :: (ix, Ar .int (nl es)) :: (g0, Ar .long (ll gs0)) :: (g1, Ar .long (ll gs1)) :: Rst) ∧ ∀ t, Steps p.tables e below (T'.setTop (mkF m 390 #[.val (.int xa), .val (.int xb), .val (.int xc), .val (.int (Int32.ofNat bn)), .val (.ref ix), .val (.ref ox), .val (.int (Int32.ofNat pn)), .val (.int (Int32.ofNat mn)), .val (.ref fx), .val (.ref jx), .val (.ref ax), .val (.int mv), .val (.ref g0), .val (.ref g1), .val (.int (Int32.ofNat bn)), .val (.int (((Int32.ofNat bn) ^^^ (-1 : Int32)) &&& (15 : Int32))), .val (.int (1 : Int32))] [])) t → Steps p.tables e below (T0.setTop (mkF m 355 #[.val (.int xa), .val (.int xb), .val (.int xc), .val (.int (Int32.ofNat bn)), .val (.ref ix), .val (.ref ox), .val (.int (Int32.ofNat pn)), .val (.int (Int32.ofNat mn)), .val (.ref fx), .val (.ref jx), .val (.ref ax), .val (.int mv), .val (.ref g0), .val (.ref g1), .val (.int (Int32.ofNat bn)), .val (.int (((Int32.ofNat bn) ^^^ (-1 : Int32)) &&& (15 : Int32))), .val (.int (1 : Int32))] [])) t := by
  have pre0 : ∀ t, Steps p.tables e below (T0.setTop (mkF m 355 #[.val (.int xa), .val (.int xb), .val (.int xc), .val (.int (Int32.ofNat bn)), .val (.ref ix), .val (.ref ox), .val (.int (Int32.ofNat pn)), .val (.int (Int32.ofNat mn)), .val (.ref fx), .val (.ref jx), .val (.ref ax), .val (.int mv), .val (.ref g0), .val (.ref g1), .val (.int (Int32.ofNat bn)), .val (.int (((Int32.ofNat bn) ^^^ (-1 : Int32)) &&& (15 : Int32))), .val (.int (1 : Int32))] [])) t → Steps p.tables e below (T0.setTop (mkF m 355 #[.val (.int xa), .val (.int xb), .val (.int xc), .val (.int (Int32.ofNat bn)), .val (.ref ix), .val (.ref ox), .val (.int (Int32.ofNat pn)), .val (.int (Int32.ofNat mn)), .val (.ref fx), .val (.ref jx), .val (.ref ax), .val (.int mv), .val (.ref g0), .val (.ref g1), .val (.int (Int32.ofNat bn)), .val (.int (((Int32.ofNat bn) ^^^ (-1 : Int32)) &&& (15 : Int32))), .val (.int (1 : Int32))] [])) t := fun t k => k
  have pre2 : ∀ t, Steps p.tables e below (T0.setTop (mkF m 357 #[.val (.int xa), .val (.int xb), .val (.int xc), .val (.int (Int32.ofNat bn)), .val (.ref ix), .val (.ref ox), .val (.int (Int32.ofNat pn)), .val (.int (Int32.ofNat mn)), .val (.ref fx), .val (.ref jx), .val (.ref ax), .val (.int mv), .val (.ref g0), .val (.ref g1), .val (.int (Int32.ofNat bn)), .val (.int (((Int32.ofNat bn) ^^^ (-1 : Int32)) &&& (15 : Int32))), .val (.int (1 : Int32))] [(.int (1 : Int32))])) t → Steps p.tables e below (T0.setTop (mkF m 355 #[.val (.int xa), .val (.int xb), .val (.int xc), .val (.int (Int32.ofNat bn)), .val (.ref ix), .val (.ref ox), .val (.int (Int32.ofNat pn)), .val (.int (Int32.ofNat mn)), .val (.ref fx), .val (.ref jx), .val (.ref ax), .val (.int mv), .val (.ref g0), .val (.ref g1), .val (.int (Int32.ofNat bn)), .val (.int (((Int32.ofNat bn) ^^^ (-1 : Int32)) &&& (15 : Int32))), .val (.int (1 : Int32))] [])) t := fun t k => pre0 t (by
    show Steps p.tables e below (T0.setTop (mkF m 355 #[.val (.int xa), .val (.int xb), .val (.int xc), .val (.int (Int32.ofNat bn)), .val (.ref ix), .val (.ref ox), .val (.int (Int32.ofNat pn)), .val (.int (Int32.ofNat mn)), .val (.ref fx), .val (.ref jx), .val (.ref ax), .val (.int mv), .val (.ref g0), .val (.ref g1), .val (.int (Int32.ofNat bn)), .val (.int (((Int32.ofNat bn) ^^^ (-1 : Int32)) &&& (15 : Int32))), .val (.int (1 : Int32))] [])) _
    refine XS.iload X0.here hx rfl (hb hby at_355) rfl ?_
    exact k)
  have hb1 : ¬ ((1 : Int32) = (0 : Int32)) := (by decide)
  have pre3 : ∀ t, Steps p.tables e below (T0.setTop (mkF m 367 #[.val (.int xa), .val (.int xb), .val (.int xc), .val (.int (Int32.ofNat bn)), .val (.ref ix), .val (.ref ox), .val (.int (Int32.ofNat pn)), .val (.int (Int32.ofNat mn)), .val (.ref fx), .val (.ref jx), .val (.ref ax), .val (.int mv), .val (.ref g0), .val (.ref g1), .val (.int (Int32.ofNat bn)), .val (.int (((Int32.ofNat bn) ^^^ (-1 : Int32)) &&& (15 : Int32))), .val (.int (1 : Int32))] [(.int (Int32.ofNat (es.getD 0 0))), (.int (0 : Int32)), (.ref ax)])) t → Steps p.tables e below (T0.setTop (mkF m 355 #[.val (.int xa), .val (.int xb), .val (.int xc), .val (.int (Int32.ofNat bn)), .val (.ref ix), .val (.ref ox), .val (.int (Int32.ofNat pn)), .val (.int (Int32.ofNat mn)), .val (.ref fx), .val (.ref jx), .val (.ref ax), .val (.int mv), .val (.ref g0), .val (.ref g1), .val (.int (Int32.ofNat bn)), .val (.int (((Int32.ofNat bn) ^^^ (-1 : Int32)) &&& (15 : Int32))), .val (.int (1 : Int32))] [])) t := fun t k => pre2 t (by
    show Steps p.tables e below (T0.setTop (mkF m 357 #[.val (.int xa), .val (.int xb), .val (.int xc), .val (.int (Int32.ofNat bn)), .val (.ref ix), .val (.ref ox), .val (.int (Int32.ofNat pn)), .val (.int (Int32.ofNat mn)), .val (.ref fx), .val (.ref jx), .val (.ref ax), .val (.int mv), .val (.ref g0), .val (.ref g1), .val (.int (Int32.ofNat bn)), .val (.int (((Int32.ofNat bn) ^^^ (-1 : Int32)) &&& (15 : Int32))), .val (.int (1 : Int32))] [(.int (1 : Int32))])) _
    refine XS.ifNo X0.here hx rfl (hb hby at_357) rfl ((if0 _ _).trans (feq hb1).1) ?_
    refine XS.aload X0.here hx rfl (hb hby at_360) rfl rfl ?_
    refine XS.iconst X0.here hx rfl (hb hby at_362) ?_
    refine XS.aload X0.here hx rfl (hb hby at_363) rfl rfl ?_
    refine XS.iconst X0.here hx rfl (hb hby at_365) ?_
    refine gIald X0 hx hZ e0 R0 4 rfl (j := (Int32.ofNat 0)) (v := (.int (Int32.ofNat (es.getD 0 0)))) (n_nn (by decide)) (nl_at (p3) (by decide)) (g := (mkF m 366 #[.val (.int xa), .val (.int xb), .val (.int xc), .val (.int (Int32.ofNat bn)), .val (.ref ix), .val (.ref ox), .val (.int (Int32.ofNat pn)), .val (.int (Int32.ofNat mn)), .val (.ref fx), .val (.ref jx), .val (.ref ax), .val (.int mv), .val (.ref g0), .val (.ref g1), .val (.int (Int32.ofNat bn)), .val (.int (((Int32.ofNat bn) ^^^ (-1 : Int32)) &&& (15 : Int32))), .val (.int (1 : Int32))] [(.int (0 : Int32)), (.ref ix), (.int (0 : Int32)), (.ref ax)])) rfl rfl (hb hby at_366) _ ?_
    exact k)
  by_cases hz : (Int32.ofNat (es.getD 0 0)) = (0 : Int32)
  · have pre4 : ∀ t, Steps p.tables e below (T0.setTop (mkF m 370 #[.val (.int xa), .val (.int xb), .val (.int xc), .val (.int (Int32.ofNat bn)), .val (.ref ix), .val (.ref ox), .val (.int (Int32.ofNat pn)), .val (.int (Int32.ofNat mn)), .val (.ref fx), .val (.ref jx), .val (.ref ax), .val (.int mv), .val (.ref g0), .val (.ref g1), .val (.int (Int32.ofNat bn)), .val (.int (((Int32.ofNat bn) ^^^ (-1 : Int32)) &&& (15 : Int32))), .val (.int (1 : Int32))] [(.int (0 : Int32)), (.ref ax)])) t → Steps p.tables e below (T0.setTop (mkF m 355 #[.val (.int xa), .val (.int xb), .val (.int xc), .val (.int (Int32.ofNat bn)), .val (.ref ix), .val (.ref ox), .val (.int (Int32.ofNat pn)), .val (.int (Int32.ofNat mn)), .val (.ref fx), .val (.ref jx), .val (.ref ax), .val (.int mv), .val (.ref g0), .val (.ref g1), .val (.int (Int32.ofNat bn)), .val (.int (((Int32.ofNat bn) ^^^ (-1 : Int32)) &&& (15 : Int32))), .val (.int (1 : Int32))] [])) t := fun t k => pre3 t (by show Steps p.tables e below (T0.setTop (mkF m 367 #[.val (.int xa), .val (.int xb), .val (.int xc), .val (.int (Int32.ofNat bn)), .val (.ref ix), .val (.ref ox), .val (.int (Int32.ofNat pn)), .val (.int (Int32.ofNat mn)), .val (.ref fx), .val (.ref jx), .val (.ref ax), .val (.int mv), .val (.ref g0), .val (.ref g1), .val (.int (Int32.ofNat bn)), .val (.int (((Int32.ofNat bn) ^^^ (-1 : Int32)) &&& (15 : Int32))), .val (.int (1 : Int32))] [(.int (Int32.ofNat (es.getD 0 0))), (.int (0 : Int32)), (.ref ax)])) _; refine XS.ifNo X0.here hx rfl (hb hby at_367) rfl ((if0 _ _).trans (teq hz).2) ?_; exact k)
    have pre5 : ∀ t, Steps p.tables e below (T0.setTop (mkF m 377 #[.val (.int xa), .val (.int xb), .val (.int xc), .val (.int (Int32.ofNat bn)), .val (.ref ix), .val (.ref ox), .val (.int (Int32.ofNat pn)), .val (.int (Int32.ofNat mn)), .val (.ref fx), .val (.ref jx), .val (.ref ax), .val (.int mv), .val (.ref g0), .val (.ref g1), .val (.int (Int32.ofNat bn)), .val (.int (((Int32.ofNat bn) ^^^ (-1 : Int32)) &&& (15 : Int32))), .val (.int (1 : Int32))] [(.ref g0), (.int (0 : Int32)), (.ref ax)])) t → Steps p.tables e below (T0.setTop (mkF m 355 #[.val (.int xa), .val (.int xb), .val (.int xc), .val (.int (Int32.ofNat bn)), .val (.ref ix), .val (.ref ox), .val (.int (Int32.ofNat pn)), .val (.int (Int32.ofNat mn)), .val (.ref fx), .val (.ref jx), .val (.ref ax), .val (.int mv), .val (.ref g0), .val (.ref g1), .val (.int (Int32.ofNat bn)), .val (.int (((Int32.ofNat bn) ^^^ (-1 : Int32)) &&& (15 : Int32))), .val (.int (1 : Int32))] [])) t := fun t k => pre4 t (by
      show Steps p.tables e below (T0.setTop (mkF m 370 #[.val (.int xa), .val (.int xb), .val (.int xc), .val (.int (Int32.ofNat bn)), .val (.ref ix), .val (.ref ox), .val (.int (Int32.ofNat pn)), .val (.int (Int32.ofNat mn)), .val (.ref fx), .val (.ref jx), .val (.ref ax), .val (.int mv), .val (.ref g0), .val (.ref g1), .val (.int (Int32.ofNat bn)), .val (.int (((Int32.ofNat bn) ^^^ (-1 : Int32)) &&& (15 : Int32))), .val (.int (1 : Int32))] [(.int (0 : Int32)), (.ref ax)])) _
      refine XS.aload X0.here hx rfl (hb hby at_370) rfl rfl ?_
      refine XS.goto X0.here hx rfl (pc0 := 372) (pc' := 377) rfl (hb hby at_372) (by decide) (by decide) ?_
      exact k)
    have R7 : Rep Z n0 h0 ((ax, Obj "com/example/witgen/witgen/regex/Partition" [("elements", "[I", (.ref b1)), ("location", "[I", (.ref b2)), ("blockOf", "[I", (.ref b3)), ("start", "[I", (.ref b4)), ("end", "[I", (.ref b5)), ("marked", "[I", (.ref b6)), ("touched", "[I", (.ref b7)), ("blocks", "I", (.int (Int32.ofNat cnt))), ("touchedCount", "I", (.int (Int32.ofNat tc)))]) :: (b2, Ar .int (nl lo)) :: (b3, Ar .int (nl es)) :: (b4, Ar .int (nl sta)) :: (g0, Ar .long (ll gs0)) :: (ix, Ar .int (nl es)) :: (g1, Ar .long (ll gs1)) :: Rst) := R0.pick [5, 4, 4, 4, 4] rfl
    obtain ⟨_, _, ⟨T6, L6, k6, n6⟩, -, X6, ⟨Lc6, hQ6, l6, y6, z6⟩, st6⟩ := Jvm.LawKit.callS X0 hx (y := (⟨"com/example/witgen/witgen/regex/PartitionMarkPinLaw", "firstOk", "(Lcom/example/witgen/witgen/regex/Partition;I[J)Z"⟩ : MethodName)) hown (mvT hZ (hw _ (List.mem_of_getElem? (i := 80) rfl))) (mvT hZ (hw _ (List.mem_of_getElem? (i := 81) rfl))) (mvT hZ (hw _ (List.mem_of_getElem? (i := 4) rfl))) (mvT hZ (hw _ (List.mem_of_getElem? (i := 82) rfl))) (by decide) (backOf (W := 0) (rm12 l Z a0 hw [] ax 0 g0 _ _ _ _ _ _ _ _ _ _ _ _ _ h0 n0 _ R7 (p1) (by decide) (p3) (p4) (p5) (hl0)) hZ (hw _ (List.mem_of_getElem? (i := 82) rfl)) (hw _ (List.mem_of_getElem? (i := 4) rfl)) (by decide) (by decide)) (g := (mkF m 377 #[.val (.int xa), .val (.int xb), .val (.int xc), .val (.int (Int32.ofNat bn)), .val (.ref ix), .val (.ref ox), .val (.int (Int32.ofNat pn)), .val (.int (Int32.ofNat mn)), .val (.ref fx), .val (.ref jx), .val (.ref ax), .val (.int mv), .val (.ref g0), .val (.ref g1), .val (.int (Int32.ofNat bn)), .val (.int (((Int32.ofNat bn) ^^^ (-1 : Int32)) &&& (15 : Int32))), .val (.int (1 : Int32))] [(.ref g0), (.int (0 : Int32)), (.ref ax)])) rfl (by rw [hml]; rfl) (argsL := [(.ref ax), (.int (0 : Int32)), (.ref g0)]) (rest := []) (lenOf pd__28Lcom_2fexample_2fwitgen_2fwitgen_2fregex_2fPartition_3bI_5bJ_29Z rfl) rfl (by show 2 * 0 + _ ≤ _; exact Nat.le_of_eq rfl) (hb hby at_377) (fun _ _ => ⟨rfl, e0, (by decide : 15 + 0 ≤ _), (by decide : 86 + 0 ≤ _)⟩)
    dsimp only [Pt.U, Pt.locs, Pt.cells, Pt.slots] at X6 l6 y6 z6 st6 hQ6
    subst y6 z6
    obtain ⟨rfl, N6q, R6⟩ := hQ6
    have N6 : Fr n0 L6 := by rw [l6]; exact Fr.app N0 N6q
    replace R6 : Rep Z n0 T6.heap ((ax, Obj "com/example/witgen/witgen/regex/Partition" [("elements", "[I", (.ref b1)), ("location", "[I", (.ref b2)), ("blockOf", "[I", (.ref b3)), ("start", "[I", (.ref b4)), ("end", "[I", (.ref b5)), ("marked", "[I", (.ref b6)), ("touched", "[I", (.ref b7)), ("blocks", "I", (.int (Int32.ofNat cnt))), ("touchedCount", "I", (.int (Int32.ofNat tc)))]) :: (b2, Ar .int (nl lo)) :: (b3, Ar .int (nl es)) :: (b4, Ar .int (nl sta)) :: (g0, Ar .long (ll gs0)) :: (ix, Ar .int (nl es)) :: (g1, Ar .long (ll gs1)) :: Rst) := R6
    have pre8 : ∀ t, Steps p.tables e below (T6.setTop (mkF m 380 #[.val (.int xa), .val (.int xb), .val (.int xc), .val (.int (Int32.ofNat bn)), .val (.ref ix), .val (.ref ox), .val (.int (Int32.ofNat pn)), .val (.int (Int32.ofNat mn)), .val (.ref fx), .val (.ref jx), .val (.ref ax), .val (.int mv), .val (.ref g0), .val (.ref g1), .val (.int (Int32.ofNat bn)), .val (.int (((Int32.ofNat bn) ^^^ (-1 : Int32)) &&& (15 : Int32))), .val (.int (1 : Int32))] [(.int (F12 0 lo es sta gs0))])) t → Steps p.tables e below (T0.setTop (mkF m 355 #[.val (.int xa), .val (.int xb), .val (.int xc), .val (.int (Int32.ofNat bn)), .val (.ref ix), .val (.ref ox), .val (.int (Int32.ofNat pn)), .val (.int (Int32.ofNat mn)), .val (.ref fx), .val (.ref jx), .val (.ref ax), .val (.int mv), .val (.ref g0), .val (.ref g1), .val (.int (Int32.ofNat bn)), .val (.int (((Int32.ofNat bn) ^^^ (-1 : Int32)) &&& (15 : Int32))), .val (.int (1 : Int32))] [])) t := fun t k => pre5 t (st6 t k)
    have hb9 : ¬ ((F12 0 lo es sta gs0) = (0 : Int32)) := (by rw [hz0 hz]; decide)
    have pre10 : ∀ t, Steps p.tables e below (T6.setTop (mkF m 390 #[.val (.int xa), .val (.int xb), .val (.int xc), .val (.int (Int32.ofNat bn)), .val (.ref ix), .val (.ref ox), .val (.int (Int32.ofNat pn)), .val (.int (Int32.ofNat mn)), .val (.ref fx), .val (.ref jx), .val (.ref ax), .val (.int mv), .val (.ref g0), .val (.ref g1), .val (.int (Int32.ofNat bn)), .val (.int (((Int32.ofNat bn) ^^^ (-1 : Int32)) &&& (15 : Int32))), .val (.int (1 : Int32))] [])) t → Steps p.tables e below (T0.setTop (mkF m 355 #[.val (.int xa), .val (.int xb), .val (.int xc), .val (.int (Int32.ofNat bn)), .val (.ref ix), .val (.ref ox), .val (.int (Int32.ofNat pn)), .val (.int (Int32.ofNat mn)), .val (.ref fx), .val (.ref jx), .val (.ref ax), .val (.int mv), .val (.ref g0), .val (.ref g1), .val (.int (Int32.ofNat bn)), .val (.int (((Int32.ofNat bn) ^^^ (-1 : Int32)) &&& (15 : Int32))), .val (.int (1 : Int32))] [])) t := fun t k => pre8 t (by
      show Steps p.tables e below (T6.setTop (mkF m 380 #[.val (.int xa), .val (.int xb), .val (.int xc), .val (.int (Int32.ofNat bn)), .val (.ref ix), .val (.ref ox), .val (.int (Int32.ofNat pn)), .val (.int (Int32.ofNat mn)), .val (.ref fx), .val (.ref jx), .val (.ref ax), .val (.int mv), .val (.ref g0), .val (.ref g1), .val (.int (Int32.ofNat bn)), .val (.int (((Int32.ofNat bn) ^^^ (-1 : Int32)) &&& (15 : Int32))), .val (.int (1 : Int32))] [(.int (F12 0 lo es sta gs0))])) _
      refine XS.ifNo X6.here hx rfl (hb hby at_380) rfl ((if0 _ _).trans (feq hb9).1) ?_
      refine XS.iconst X6.here hx rfl (hb hby at_383) ?_
      refine XS.goto X6.here hx rfl (pc0 := 384) (pc' := 388) rfl (hb hby at_384) (by decide) (by decide) ?_
      refine XS.istore X6.here hx rfl (hb hby at_388) rfl (l' := #[.val (.int xa), .val (.int xb), .val (.int xc), .val (.int (Int32.ofNat bn)), .val (.ref ix), .val (.ref ox), .val (.int (Int32.ofNat pn)), .val (.int (Int32.ofNat mn)), .val (.ref fx), .val (.ref jx), .val (.ref ax), .val (.int mv), .val (.ref g0), .val (.ref g1), .val (.int (Int32.ofNat bn)), .val (.int (((Int32.ofNat bn) ^^^ (-1 : Int32)) &&& (15 : Int32))), .val (.int (1 : Int32))]) rfl ?_
      exact k)
    have R11 : Rep Z n0 T6.heap ((ax, Obj "com/example/witgen/witgen/regex/Partition" [("elements", "[I", (.ref b1)), ("location", "[I", (.ref b2)), ("blockOf", "[I", (.ref b3)), ("start", "[I", (.ref b4)), ("end", "[I", (.ref b5)), ("marked", "[I", (.ref b6)), ("touched", "[I", (.ref b7)), ("blocks", "I", (.int (Int32.ofNat cnt))), ("touchedCount", "I", (.int (Int32.ofNat tc)))]) :: (b2, Ar .int (nl lo)) :: (b3, Ar .int (nl es)) :: (b4, Ar .int (nl sta)) :: (ix, Ar .int (nl es)) :: (g0, Ar .long (ll gs0)) :: (g1, Ar .long (ll gs1)) :: Rst) := R6.pick [6, 5, 6, 6, 6, 6, 6] rfl
    exact ⟨T6, _, _, X6, rfl, N6, R11, pre10⟩
  · have pre12 : ∀ t, Steps p.tables e below (T0.setTop (mkF m 375 #[.val (.int xa), .val (.int xb), .val (.int xc), .val (.int (Int32.ofNat bn)), .val (.ref ix), .val (.ref ox), .val (.int (Int32.ofNat pn)), .val (.int (Int32.ofNat mn)), .val (.ref fx), .val (.ref jx), .val (.ref ax), .val (.int mv), .val (.ref g0), .val (.ref g1), .val (.int (Int32.ofNat bn)), .val (.int (((Int32.ofNat bn) ^^^ (-1 : Int32)) &&& (15 : Int32))), .val (.int (1 : Int32))] [(.int (0 : Int32)), (.ref ax)])) t → Steps p.tables e below (T0.setTop (mkF m 355 #[.val (.int xa), .val (.int xb), .val (.int xc), .val (.int (Int32.ofNat bn)), .val (.ref ix), .val (.ref ox), .val (.int (Int32.ofNat pn)), .val (.int (Int32.ofNat mn)), .val (.ref fx), .val (.ref jx), .val (.ref ax), .val (.int mv), .val (.ref g0), .val (.ref g1), .val (.int (Int32.ofNat bn)), .val (.int (((Int32.ofNat bn) ^^^ (-1 : Int32)) &&& (15 : Int32))), .val (.int (1 : Int32))] [])) t := fun t k => pre3 t (by show Steps p.tables e below (T0.setTop (mkF m 367 #[.val (.int xa), .val (.int xb), .val (.int xc), .val (.int (Int32.ofNat bn)), .val (.ref ix), .val (.ref ox), .val (.int (Int32.ofNat pn)), .val (.int (Int32.ofNat mn)), .val (.ref fx), .val (.ref jx), .val (.ref ax), .val (.int mv), .val (.ref g0), .val (.ref g1), .val (.int (Int32.ofNat bn)), .val (.int (((Int32.ofNat bn) ^^^ (-1 : Int32)) &&& (15 : Int32))), .val (.int (1 : Int32))] [(.int (Int32.ofNat (es.getD 0 0))), (.int (0 : Int32)), (.ref ax)])) _; refine XS.ifYes X0.here hx rfl (pc0 := 367) (pc' := 375) rfl (hb hby at_367) rfl ((if0 _ _).trans (feq hz).2) (by decide) (by decide) ?_; exact k)
    have pre13 : ∀ t, Steps p.tables e below (T0.setTop (mkF m 377 #[.val (.int xa), .val (.int xb), .val (.int xc), .val (.int (Int32.ofNat bn)), .val (.ref ix), .val (.ref ox), .val (.int (Int32.ofNat pn)), .val (.int (Int32.ofNat mn)), .val (.ref fx), .val (.ref jx), .val (.ref ax), .val (.int mv), .val (.ref g0), .val (.ref g1), .val (.int (Int32.ofNat bn)), .val (.int (((Int32.ofNat bn) ^^^ (-1 : Int32)) &&& (15 : Int32))), .val (.int (1 : Int32))] [(.ref g1), (.int (0 : Int32)), (.ref ax)])) t → Steps p.tables e below (T0.setTop (mkF m 355 #[.val (.int xa), .val (.int xb), .val (.int xc), .val (.int (Int32.ofNat bn)), .val (.ref ix), .val (.ref ox), .val (.int (Int32.ofNat pn)), .val (.int (Int32.ofNat mn)), .val (.ref fx), .val (.ref jx), .val (.ref ax), .val (.int mv), .val (.ref g0), .val (.ref g1), .val (.int (Int32.ofNat bn)), .val (.int (((Int32.ofNat bn) ^^^ (-1 : Int32)) &&& (15 : Int32))), .val (.int (1 : Int32))] [])) t := fun t k => pre12 t (by
      show Steps p.tables e below (T0.setTop (mkF m 375 #[.val (.int xa), .val (.int xb), .val (.int xc), .val (.int (Int32.ofNat bn)), .val (.ref ix), .val (.ref ox), .val (.int (Int32.ofNat pn)), .val (.int (Int32.ofNat mn)), .val (.ref fx), .val (.ref jx), .val (.ref ax), .val (.int mv), .val (.ref g0), .val (.ref g1), .val (.int (Int32.ofNat bn)), .val (.int (((Int32.ofNat bn) ^^^ (-1 : Int32)) &&& (15 : Int32))), .val (.int (1 : Int32))] [(.int (0 : Int32)), (.ref ax)])) _
      refine XS.aload X0.here hx rfl (hb hby at_375) rfl rfl ?_
      exact k)
    have R15 : Rep Z n0 h0 ((ax, Obj "com/example/witgen/witgen/regex/Partition" [("elements", "[I", (.ref b1)), ("location", "[I", (.ref b2)), ("blockOf", "[I", (.ref b3)), ("start", "[I", (.ref b4)), ("end", "[I", (.ref b5)), ("marked", "[I", (.ref b6)), ("touched", "[I", (.ref b7)), ("blocks", "I", (.int (Int32.ofNat cnt))), ("touchedCount", "I", (.int (Int32.ofNat tc)))]) :: (b2, Ar .int (nl lo)) :: (b3, Ar .int (nl es)) :: (b4, Ar .int (nl sta)) :: (g1, Ar .long (ll gs1)) :: (ix, Ar .int (nl es)) :: (g0, Ar .long (ll gs0)) :: Rst) := R0.pick [6, 4, 4, 4, 4] rfl
    obtain ⟨_, _, ⟨T14, L14, k14, n14⟩, -, X14, ⟨Lc14, hQ14, l14, y14, z14⟩, st14⟩ := Jvm.LawKit.callS X0 hx (y := (⟨"com/example/witgen/witgen/regex/PartitionMarkPinLaw", "firstOk", "(Lcom/example/witgen/witgen/regex/Partition;I[J)Z"⟩ : MethodName)) hown (mvT hZ (hw _ (List.mem_of_getElem? (i := 80) rfl))) (mvT hZ (hw _ (List.mem_of_getElem? (i := 81) rfl))) (mvT hZ (hw _ (List.mem_of_getElem? (i := 4) rfl))) (mvT hZ (hw _ (List.mem_of_getElem? (i := 82) rfl))) (by decide) (backOf (W := 0) (rm12 l Z a0 hw [] ax 0 g1 _ _ _ _ _ _ _ _ _ _ _ _ _ h0 n0 _ R15 (p1) (by decide) (p3) (p4) (p5) (hl1)) hZ (hw _ (List.mem_of_getElem? (i := 82) rfl)) (hw _ (List.mem_of_getElem? (i := 4) rfl)) (by decide) (by decide)) (g := (mkF m 377 #[.val (.int xa), .val (.int xb), .val (.int xc), .val (.int (Int32.ofNat bn)), .val (.ref ix), .val (.ref ox), .val (.int (Int32.ofNat pn)), .val (.int (Int32.ofNat mn)), .val (.ref fx), .val (.ref jx), .val (.ref ax), .val (.int mv), .val (.ref g0), .val (.ref g1), .val (.int (Int32.ofNat bn)), .val (.int (((Int32.ofNat bn) ^^^ (-1 : Int32)) &&& (15 : Int32))), .val (.int (1 : Int32))] [(.ref g1), (.int (0 : Int32)), (.ref ax)])) rfl (by rw [hml]; rfl) (argsL := [(.ref ax), (.int (0 : Int32)), (.ref g1)]) (rest := []) (lenOf pd__28Lcom_2fexample_2fwitgen_2fwitgen_2fregex_2fPartition_3bI_5bJ_29Z rfl) rfl (by show 2 * 0 + _ ≤ _; exact Nat.le_of_eq rfl) (hb hby at_377) (fun _ _ => ⟨rfl, e0, (by decide : 15 + 0 ≤ _), (by decide : 86 + 0 ≤ _)⟩)
    dsimp only [Pt.U, Pt.locs, Pt.cells, Pt.slots] at X14 l14 y14 z14 st14 hQ14
    subst y14 z14
    obtain ⟨rfl, N14q, R14⟩ := hQ14
    have N14 : Fr n0 L14 := by rw [l14]; exact Fr.app N0 N14q
    replace R14 : Rep Z n0 T14.heap ((ax, Obj "com/example/witgen/witgen/regex/Partition" [("elements", "[I", (.ref b1)), ("location", "[I", (.ref b2)), ("blockOf", "[I", (.ref b3)), ("start", "[I", (.ref b4)), ("end", "[I", (.ref b5)), ("marked", "[I", (.ref b6)), ("touched", "[I", (.ref b7)), ("blocks", "I", (.int (Int32.ofNat cnt))), ("touchedCount", "I", (.int (Int32.ofNat tc)))]) :: (b2, Ar .int (nl lo)) :: (b3, Ar .int (nl es)) :: (b4, Ar .int (nl sta)) :: (g1, Ar .long (ll gs1)) :: (ix, Ar .int (nl es)) :: (g0, Ar .long (ll gs0)) :: Rst) := R14
    have pre16 : ∀ t, Steps p.tables e below (T14.setTop (mkF m 380 #[.val (.int xa), .val (.int xb), .val (.int xc), .val (.int (Int32.ofNat bn)), .val (.ref ix), .val (.ref ox), .val (.int (Int32.ofNat pn)), .val (.int (Int32.ofNat mn)), .val (.ref fx), .val (.ref jx), .val (.ref ax), .val (.int mv), .val (.ref g0), .val (.ref g1), .val (.int (Int32.ofNat bn)), .val (.int (((Int32.ofNat bn) ^^^ (-1 : Int32)) &&& (15 : Int32))), .val (.int (1 : Int32))] [(.int (F12 0 lo es sta gs1))])) t → Steps p.tables e below (T0.setTop (mkF m 355 #[.val (.int xa), .val (.int xb), .val (.int xc), .val (.int (Int32.ofNat bn)), .val (.ref ix), .val (.ref ox), .val (.int (Int32.ofNat pn)), .val (.int (Int32.ofNat mn)), .val (.ref fx), .val (.ref jx), .val (.ref ax), .val (.int mv), .val (.ref g0), .val (.ref g1), .val (.int (Int32.ofNat bn)), .val (.int (((Int32.ofNat bn) ^^^ (-1 : Int32)) &&& (15 : Int32))), .val (.int (1 : Int32))] [])) t := fun t k => pre13 t (st14 t k)
    have hb17 : ¬ ((F12 0 lo es sta gs1) = (0 : Int32)) := (by rw [hz1 hz]; decide)
    have pre18 : ∀ t, Steps p.tables e below (T14.setTop (mkF m 390 #[.val (.int xa), .val (.int xb), .val (.int xc), .val (.int (Int32.ofNat bn)), .val (.ref ix), .val (.ref ox), .val (.int (Int32.ofNat pn)), .val (.int (Int32.ofNat mn)), .val (.ref fx), .val (.ref jx), .val (.ref ax), .val (.int mv), .val (.ref g0), .val (.ref g1), .val (.int (Int32.ofNat bn)), .val (.int (((Int32.ofNat bn) ^^^ (-1 : Int32)) &&& (15 : Int32))), .val (.int (1 : Int32))] [])) t → Steps p.tables e below (T0.setTop (mkF m 355 #[.val (.int xa), .val (.int xb), .val (.int xc), .val (.int (Int32.ofNat bn)), .val (.ref ix), .val (.ref ox), .val (.int (Int32.ofNat pn)), .val (.int (Int32.ofNat mn)), .val (.ref fx), .val (.ref jx), .val (.ref ax), .val (.int mv), .val (.ref g0), .val (.ref g1), .val (.int (Int32.ofNat bn)), .val (.int (((Int32.ofNat bn) ^^^ (-1 : Int32)) &&& (15 : Int32))), .val (.int (1 : Int32))] [])) t := fun t k => pre16 t (by
      show Steps p.tables e below (T14.setTop (mkF m 380 #[.val (.int xa), .val (.int xb), .val (.int xc), .val (.int (Int32.ofNat bn)), .val (.ref ix), .val (.ref ox), .val (.int (Int32.ofNat pn)), .val (.int (Int32.ofNat mn)), .val (.ref fx), .val (.ref jx), .val (.ref ax), .val (.int mv), .val (.ref g0), .val (.ref g1), .val (.int (Int32.ofNat bn)), .val (.int (((Int32.ofNat bn) ^^^ (-1 : Int32)) &&& (15 : Int32))), .val (.int (1 : Int32))] [(.int (F12 0 lo es sta gs1))])) _
      refine XS.ifNo X14.here hx rfl (hb hby at_380) rfl ((if0 _ _).trans (feq hb17).1) ?_
      refine XS.iconst X14.here hx rfl (hb hby at_383) ?_
      refine XS.goto X14.here hx rfl (pc0 := 384) (pc' := 388) rfl (hb hby at_384) (by decide) (by decide) ?_
      refine XS.istore X14.here hx rfl (hb hby at_388) rfl (l' := #[.val (.int xa), .val (.int xb), .val (.int xc), .val (.int (Int32.ofNat bn)), .val (.ref ix), .val (.ref ox), .val (.int (Int32.ofNat pn)), .val (.int (Int32.ofNat mn)), .val (.ref fx), .val (.ref jx), .val (.ref ax), .val (.int mv), .val (.ref g0), .val (.ref g1), .val (.int (Int32.ofNat bn)), .val (.int (((Int32.ofNat bn) ^^^ (-1 : Int32)) &&& (15 : Int32))), .val (.int (1 : Int32))]) rfl ?_
      exact k)
    have R19 : Rep Z n0 T14.heap ((ax, Obj "com/example/witgen/witgen/regex/Partition" [("elements", "[I", (.ref b1)), ("location", "[I", (.ref b2)), ("blockOf", "[I", (.ref b3)), ("start", "[I", (.ref b4)), ("end", "[I", (.ref b5)), ("marked", "[I", (.ref b6)), ("touched", "[I", (.ref b7)), ("blocks", "I", (.int (Int32.ofNat cnt))), ("touchedCount", "I", (.int (Int32.ofNat tc)))]) :: (b2, Ar .int (nl lo)) :: (b3, Ar .int (nl es)) :: (b4, Ar .int (nl sta)) :: (ix, Ar .int (nl es)) :: (g0, Ar .long (ll gs0)) :: (g1, Ar .long (ll gs1)) :: Rst) := R14.pick [4, 6, 6, 6, 6, 6, 6] rfl
    exact ⟨T14, _, _, X14, rfl, N14, R19, pre18⟩
set_option maxRecDepth 65536 in
set_option maxHeartbeats 40000000 in
theorem tf_1 {p : Program} {l : Launch} {e : Env} {s : State} {m : MethodId} {args : Array Value} {below : List Frame} {meth : Method} {c : Code} {T0 : State} {locs : List Loc} {Z : State} {a0 : Array Value} {h0 : Heap} {n0 : Nat} {Rst : RL} (xa : Int32) (xb : Int32) (xc : Int32) (bn : Nat) (pn : Nat) (mn : Nat) (ix : Addr) (ox : Addr) (fx : Addr) (jx : Addr) (ax : Addr) (b1 : Addr) (b2 : Addr) (b3 : Addr) (b4 : Addr) (b5 : Addr) (b6 : Addr) (b7 : Addr) (cnt : Nat) (tc : Nat) (lo : List Nat) (es : List Nat) (sta : List Nat) (mv : Int32) (g0 : Addr) (g1 : Addr) (gs0 : List Nat) (gs1 : List Nat)
    (X0 : Stand p l e room_1 s m args below meth c T0 locs 15 86) (hx : p.tables.exec = Jvm.exec) (hZ : Z.Warmed39 s.vm) (hw : ∀ d ∈ tables_1, d.before a0 Z = true) (hby : c.code = code) (hml : c.maxLocals = 17) (hown : s.vm.findClass "com/example/witgen/witgen/regex/PartitionMarkPinLaw" = some m.cls) (e0 : T0.heap = h0) (N0 : Fr n0 locs) (R0 : Rep Z n0 h0 ((ax, Obj "com/example/witgen/witgen/regex/Partition" [("elements", "[I", (.ref b1)), ("location", "[I", (.ref b2)), ("blockOf", "[I", (.ref b3)), ("start", "[I", (.ref b4)), ("end", "[I", (.ref b5)), ("marked", "[I", (.ref b6)), ("touched", "[I", (.ref b7)), ("blocks", "I", (.int (Int32.ofNat cnt))), ("touchedCount", "I", (.int (Int32.ofNat tc)))]) :: (b2, Ar .int (nl lo)) :: (b3, Ar .int (nl es)) :: (b4, Ar .int (nl sta)) :: (ix, Ar .int (nl es)) :: (g0, Ar .long (ll gs0)) :: (g1, Ar .long (ll gs1)) :: Rst)) (hz0 : (Int32.ofNat (es.getD 1 0)) = (0 : Int32) → F12 1 lo es sta gs0 = 1) (hz1 : ¬ ((Int32.ofNat (es.getD 1 0)) = (0 : Int32)) → F12 1 lo es sta gs1 = 1) (p1 : 1 < lo.length) (p3 : 1 < es.length) (p4 : es.getD 1 0 < sta.length) (p5 : es.getD 1 0 < 1000) (hl0 : gs0.length < 1000) (hl1 : gs1.length < 1000) :
    ∃ (T' : State) (h' : Heap) (locs' : List Loc), Stand p l e room_1 s m args below meth c T' locs' 15 86 ∧ T'.heap = h' ∧ Fr n0 locs' ∧ Rep Z n0 h' ((ax, Obj "com/example/witgen/witgen/regex/Partition" [("elements", "[I", (.ref b1)), ("location", "[I", (.ref b2)), ("blockOf", "[I", (.ref b3)), ("start", "[I", (.ref b4)), ("end", "[I", (.ref b5)), ("marked", "[I", (.ref b6)), ("touched", "[I", (.ref b7)), ("blocks", "I", (.int (Int32.ofNat cnt))), ("touchedCount", "I", (.int (Int32.ofNat tc)))]) :: (b2, Ar .int (nl lo)) :: (b3, Ar .int (nl es)) :: (b4, Ar .int (nl sta)) :: (ix, Ar .int (nl es)) :: (g0, Ar .long (ll gs0)) :: (g1, Ar .long (ll gs1)) :: Rst) ∧ ∀ t, Steps p.tables e below (T'.setTop (mkF m 425 #[.val (.int xa), .val (.int xb), .val (.int xc), .val (.int (Int32.ofNat bn)), .val (.ref ix), .val (.ref ox), .val (.int (Int32.ofNat pn)), .val (.int (Int32.ofNat mn)), .val (.ref fx), .val (.ref jx), .val (.ref ax), .val (.int mv), .val (.ref g0), .val (.ref g1), .val (.int (Int32.ofNat bn)), .val (.int (((Int32.ofNat bn) ^^^ (-1 : Int32)) &&& (15 : Int32))), .val (.int (1 : Int32))] [])) t → Steps p.tables e below (T0.setTop (mkF m 390 #[.val (.int xa), .val (.int xb), .val (.int xc), .val (.int (Int32.ofNat bn)), .val (.ref ix), .val (.ref ox), .val (.int (Int32.ofNat pn)), .val (.int (Int32.ofNat mn)), .val (.ref fx), .val (.ref jx), .val (.ref ax), .val (.int mv), .val (.ref g0), .val (.ref g1), .val (.int (Int32.ofNat bn)), .val (.int (((Int32.ofNat bn) ^^^ (-1 : Int32)) &&& (15 : Int32))), .val (.int (1 : Int32))] [])) t := by
  have pre0 : ∀ t, Steps p.tables e below (T0.setTop (mkF m 390 #[.val (.int xa), .val (.int xb), .val (.int xc), .val (.int (Int32.ofNat bn)), .val (.ref ix), .val (.ref ox), .val (.int (Int32.ofNat pn)), .val (.int (Int32.ofNat mn)), .val (.ref fx), .val (.ref jx), .val (.ref ax), .val (.int mv), .val (.ref g0), .val (.ref g1), .val (.int (Int32.ofNat bn)), .val (.int (((Int32.ofNat bn) ^^^ (-1 : Int32)) &&& (15 : Int32))), .val (.int (1 : Int32))] [])) t → Steps p.tables e below (T0.setTop (mkF m 390 #[.val (.int xa), .val (.int xb), .val (.int xc), .val (.int (Int32.ofNat bn)), .val (.ref ix), .val (.ref ox), .val (.int (Int32.ofNat pn)), .val (.int (Int32.ofNat mn)), .val (.ref fx), .val (.ref jx), .val (.ref ax), .val (.int mv), .val (.ref g0), .val (.ref g1), .val (.int (Int32.ofNat bn)), .val (.int (((Int32.ofNat bn) ^^^ (-1 : Int32)) &&& (15 : Int32))), .val (.int (1 : Int32))] [])) t := fun t k => k
  have pre2 : ∀ t, Steps p.tables e below (T0.setTop (mkF m 392 #[.val (.int xa), .val (.int xb), .val (.int xc), .val (.int (Int32.ofNat bn)), .val (.ref ix), .val (.ref ox), .val (.int (Int32.ofNat pn)), .val (.int (Int32.ofNat mn)), .val (.ref fx), .val (.ref jx), .val (.ref ax), .val (.int mv), .val (.ref g0), .val (.ref g1), .val (.int (Int32.ofNat bn)), .val (.int (((Int32.ofNat bn) ^^^ (-1 : Int32)) &&& (15 : Int32))), .val (.int (1 : Int32))] [(.int (1 : Int32))])) t → Steps p.tables e below (T0.setTop (mkF m 390 #[.val (.int xa), .val (.int xb), .val (.int xc), .val (.int (Int32.ofNat bn)), .val (.ref ix), .val (.ref ox), .val (.int (Int32.ofNat pn)), .val (.int (Int32.ofNat mn)), .val (.ref fx), .val (.ref jx), .val (.ref ax), .val (.int mv), .val (.ref g0), .val (.ref g1), .val (.int (Int32.ofNat bn)), .val (.int (((Int32.ofNat bn) ^^^ (-1 : Int32)) &&& (15 : Int32))), .val (.int (1 : Int32))] [])) t := fun t k => pre0 t (by
    show Steps p.tables e below (T0.setTop (mkF m 390 #[.val (.int xa), .val (.int xb), .val (.int xc), .val (.int (Int32.ofNat bn)), .val (.ref ix), .val (.ref ox), .val (.int (Int32.ofNat pn)), .val (.int (Int32.ofNat mn)), .val (.ref fx), .val (.ref jx), .val (.ref ax), .val (.int mv), .val (.ref g0), .val (.ref g1), .val (.int (Int32.ofNat bn)), .val (.int (((Int32.ofNat bn) ^^^ (-1 : Int32)) &&& (15 : Int32))), .val (.int (1 : Int32))] [])) _
    refine XS.iload X0.here hx rfl (hb hby at_390) rfl ?_
    exact k)
  have hb1 : ¬ ((1 : Int32) = (0 : Int32)) := (by decide)
  have pre3 : ∀ t, Steps p.tables e below (T0.setTop (mkF m 402 #[.val (.int xa), .val (.int xb), .val (.int xc), .val (.int (Int32.ofNat bn)), .val (.ref ix), .val (.ref ox), .val (.int (Int32.ofNat pn)), .val (.int (Int32.ofNat mn)), .val (.ref fx), .val (.ref jx), .val (.ref ax), .val (.int mv), .val (.ref g0), .val (.ref g1), .val (.int (Int32.ofNat bn)), .val (.int (((Int32.ofNat bn) ^^^ (-1 : Int32)) &&& (15 : Int32))), .val (.int (1 : Int32))] [(.int (Int32.ofNat (es.getD 1 0))), (.int (1 : Int32)), (.ref ax)])) t → Steps p.tables e below (T0.setTop (mkF m 390 #[.val (.int xa), .val (.int xb), .val (.int xc), .val (.int (Int32.ofNat bn)), .val (.ref ix), .val (.ref ox), .val (.int (Int32.ofNat pn)), .val (.int (Int32.ofNat mn)), .val (.ref fx), .val (.ref jx), .val (.ref ax), .val (.int mv), .val (.ref g0), .val (.ref g1), .val (.int (Int32.ofNat bn)), .val (.int (((Int32.ofNat bn) ^^^ (-1 : Int32)) &&& (15 : Int32))), .val (.int (1 : Int32))] [])) t := fun t k => pre2 t (by
    show Steps p.tables e below (T0.setTop (mkF m 392 #[.val (.int xa), .val (.int xb), .val (.int xc), .val (.int (Int32.ofNat bn)), .val (.ref ix), .val (.ref ox), .val (.int (Int32.ofNat pn)), .val (.int (Int32.ofNat mn)), .val (.ref fx), .val (.ref jx), .val (.ref ax), .val (.int mv), .val (.ref g0), .val (.ref g1), .val (.int (Int32.ofNat bn)), .val (.int (((Int32.ofNat bn) ^^^ (-1 : Int32)) &&& (15 : Int32))), .val (.int (1 : Int32))] [(.int (1 : Int32))])) _
    refine XS.ifNo X0.here hx rfl (hb hby at_392) rfl ((if0 _ _).trans (feq hb1).1) ?_
    refine XS.aload X0.here hx rfl (hb hby at_395) rfl rfl ?_
    refine XS.iconst X0.here hx rfl (hb hby at_397) ?_
    refine XS.aload X0.here hx rfl (hb hby at_398) rfl rfl ?_
    refine XS.iconst X0.here hx rfl (hb hby at_400) ?_
    refine gIald X0 hx hZ e0 R0 4 rfl (j := (Int32.ofNat 1)) (v := (.int (Int32.ofNat (es.getD 1 0)))) (n_nn (by decide)) (nl_at (p3) (by decide)) (g := (mkF m 401 #[.val (.int xa), .val (.int xb), .val (.int xc), .val (.int (Int32.ofNat bn)), .val (.ref ix), .val (.ref ox), .val (.int (Int32.ofNat pn)), .val (.int (Int32.ofNat mn)), .val (.ref fx), .val (.ref jx), .val (.ref ax), .val (.int mv), .val (.ref g0), .val (.ref g1), .val (.int (Int32.ofNat bn)), .val (.int (((Int32.ofNat bn) ^^^ (-1 : Int32)) &&& (15 : Int32))), .val (.int (1 : Int32))] [(.int (1 : Int32)), (.ref ix), (.int (1 : Int32)), (.ref ax)])) rfl rfl (hb hby at_401) _ ?_
    exact k)
  by_cases hz : (Int32.ofNat (es.getD 1 0)) = (0 : Int32)
  · have pre4 : ∀ t, Steps p.tables e below (T0.setTop (mkF m 405 #[.val (.int xa), .val (.int xb), .val (.int xc), .val (.int (Int32.ofNat bn)), .val (.ref ix), .val (.ref ox), .val (.int (Int32.ofNat pn)), .val (.int (Int32.ofNat mn)), .val (.ref fx), .val (.ref jx), .val (.ref ax), .val (.int mv), .val (.ref g0), .val (.ref g1), .val (.int (Int32.ofNat bn)), .val (.int (((Int32.ofNat bn) ^^^ (-1 : Int32)) &&& (15 : Int32))), .val (.int (1 : Int32))] [(.int (1 : Int32)), (.ref ax)])) t → Steps p.tables e below (T0.setTop (mkF m 390 #[.val (.int xa), .val (.int xb), .val (.int xc), .val (.int (Int32.ofNat bn)), .val (.ref ix), .val (.ref ox), .val (.int (Int32.ofNat pn)), .val (.int (Int32.ofNat mn)), .val (.ref fx), .val (.ref jx), .val (.ref ax), .val (.int mv), .val (.ref g0), .val (.ref g1), .val (.int (Int32.ofNat bn)), .val (.int (((Int32.ofNat bn) ^^^ (-1 : Int32)) &&& (15 : Int32))), .val (.int (1 : Int32))] [])) t := fun t k => pre3 t (by show Steps p.tables e below (T0.setTop (mkF m 402 #[.val (.int xa), .val (.int xb), .val (.int xc), .val (.int (Int32.ofNat bn)), .val (.ref ix), .val (.ref ox), .val (.int (Int32.ofNat pn)), .val (.int (Int32.ofNat mn)), .val (.ref fx), .val (.ref jx), .val (.ref ax), .val (.int mv), .val (.ref g0), .val (.ref g1), .val (.int (Int32.ofNat bn)), .val (.int (((Int32.ofNat bn) ^^^ (-1 : Int32)) &&& (15 : Int32))), .val (.int (1 : Int32))] [(.int (Int32.ofNat (es.getD 1 0))), (.int (1 : Int32)), (.ref ax)])) _; refine XS.ifNo X0.here hx rfl (hb hby at_402) rfl ((if0 _ _).trans (teq hz).2) ?_; exact k)
    have pre5 : ∀ t, Steps p.tables e below (T0.setTop (mkF m 412 #[.val (.int xa), .val (.int xb), .val (.int xc), .val (.int (Int32.ofNat bn)), .val (.ref ix), .val (.ref ox), .val (.int (Int32.ofNat pn)), .val (.int (Int32.ofNat mn)), .val (.ref fx), .val (.ref jx), .val (.ref ax), .val (.int mv), .val (.ref g0), .val (.ref g1), .val (.int (Int32.ofNat bn)), .val (.int (((Int32.ofNat bn) ^^^ (-1 : Int32)) &&& (15 : Int32))), .val (.int (1 : Int32))] [(.ref g0), (.int (1 : Int32)), (.ref ax)])) t → Steps p.tables e below (T0.setTop (mkF m 390 #[.val (.int xa), .val (.int xb), .val (.int xc), .val (.int (Int32.ofNat bn)), .val (.ref ix), .val (.ref ox), .val (.int (Int32.ofNat pn)), .val (.int (Int32.ofNat mn)), .val (.ref fx), .val (.ref jx), .val (.ref ax), .val (.int mv), .val (.ref g0), .val (.ref g1), .val (.int (Int32.ofNat bn)), .val (.int (((Int32.ofNat bn) ^^^ (-1 : Int32)) &&& (15 : Int32))), .val (.int (1 : Int32))] [])) t := fun t k => pre4 t (by
      show Steps p.tables e below (T0.setTop (mkF m 405 #[.val (.int xa), .val (.int xb), .val (.int xc), .val (.int (Int32.ofNat bn)), .val (.ref ix), .val (.ref ox), .val (.int (Int32.ofNat pn)), .val (.int (Int32.ofNat mn)), .val (.ref fx), .val (.ref jx), .val (.ref ax), .val (.int mv), .val (.ref g0), .val (.ref g1), .val (.int (Int32.ofNat bn)), .val (.int (((Int32.ofNat bn) ^^^ (-1 : Int32)) &&& (15 : Int32))), .val (.int (1 : Int32))] [(.int (1 : Int32)), (.ref ax)])) _
      refine XS.aload X0.here hx rfl (hb hby at_405) rfl rfl ?_
      refine XS.goto X0.here hx rfl (pc0 := 407) (pc' := 412) rfl (hb hby at_407) (by decide) (by decide) ?_
      exact k)
    have R7 : Rep Z n0 h0 ((ax, Obj "com/example/witgen/witgen/regex/Partition" [("elements", "[I", (.ref b1)), ("location", "[I", (.ref b2)), ("blockOf", "[I", (.ref b3)), ("start", "[I", (.ref b4)), ("end", "[I", (.ref b5)), ("marked", "[I", (.ref b6)), ("touched", "[I", (.ref b7)), ("blocks", "I", (.int (Int32.ofNat cnt))), ("touchedCount", "I", (.int (Int32.ofNat tc)))]) :: (b2, Ar .int (nl lo)) :: (b3, Ar .int (nl es)) :: (b4, Ar .int (nl sta)) :: (g0, Ar .long (ll gs0)) :: (ix, Ar .int (nl es)) :: (g1, Ar .long (ll gs1)) :: Rst) := R0.pick [5, 4, 4, 4, 4] rfl
    obtain ⟨_, _, ⟨T6, L6, k6, n6⟩, -, X6, ⟨Lc6, hQ6, l6, y6, z6⟩, st6⟩ := Jvm.LawKit.callS X0 hx (y := (⟨"com/example/witgen/witgen/regex/PartitionMarkPinLaw", "firstOk", "(Lcom/example/witgen/witgen/regex/Partition;I[J)Z"⟩ : MethodName)) hown (mvT hZ (hw _ (List.mem_of_getElem? (i := 80) rfl))) (mvT hZ (hw _ (List.mem_of_getElem? (i := 81) rfl))) (mvT hZ (hw _ (List.mem_of_getElem? (i := 4) rfl))) (mvT hZ (hw _ (List.mem_of_getElem? (i := 82) rfl))) (by decide) (backOf (W := 0) (rm12 l Z a0 hw [] ax 1 g0 _ _ _ _ _ _ _ _ _ _ _ _ _ h0 n0 _ R7 (p1) (by decide) (p3) (p4) (p5) (hl0)) hZ (hw _ (List.mem_of_getElem? (i := 82) rfl)) (hw _ (List.mem_of_getElem? (i := 4) rfl)) (by decide) (by decide)) (g := (mkF m 412 #[.val (.int xa), .val (.int xb), .val (.int xc), .val (.int (Int32.ofNat bn)), .val (.ref ix), .val (.ref ox), .val (.int (Int32.ofNat pn)), .val (.int (Int32.ofNat mn)), .val (.ref fx), .val (.ref jx), .val (.ref ax), .val (.int mv), .val (.ref g0), .val (.ref g1), .val (.int (Int32.ofNat bn)), .val (.int (((Int32.ofNat bn) ^^^ (-1 : Int32)) &&& (15 : Int32))), .val (.int (1 : Int32))] [(.ref g0), (.int (1 : Int32)), (.ref ax)])) rfl (by rw [hml]; rfl) (argsL := [(.ref ax), (.int (1 : Int32)), (.ref g0)]) (rest := []) (lenOf pd__28Lcom_2fexample_2fwitgen_2fwitgen_2fregex_2fPartition_3bI_5bJ_29Z rfl) rfl (by show 2 * 0 + _ ≤ _; exact Nat.le_of_eq rfl) (hb hby at_412) (fun _ _ => ⟨rfl, e0, (by decide : 15 + 0 ≤ _), (by decide : 86 + 0 ≤ _)⟩)
    dsimp only [Pt.U, Pt.locs, Pt.cells, Pt.slots] at X6 l6 y6 z6 st6 hQ6
    subst y6 z6
    obtain ⟨rfl, N6q, R6⟩ := hQ6
    have N6 : Fr n0 L6 := by rw [l6]; exact Fr.app N0 N6q
    replace R6 : Rep Z n0 T6.heap ((ax, Obj "com/example/witgen/witgen/regex/Partition" [("elements", "[I", (.ref b1)), ("location", "[I", (.ref b2)), ("blockOf", "[I", (.ref b3)), ("start", "[I", (.ref b4)), ("end", "[I", (.ref b5)), ("marked", "[I", (.ref b6)), ("touched", "[I", (.ref b7)), ("blocks", "I", (.int (Int32.ofNat cnt))), ("touchedCount", "I", (.int (Int32.ofNat tc)))]) :: (b2, Ar .int (nl lo)) :: (b3, Ar .int (nl es)) :: (b4, Ar .int (nl sta)) :: (g0, Ar .long (ll gs0)) :: (ix, Ar .int (nl es)) :: (g1, Ar .long (ll gs1)) :: Rst) := R6
    have pre8 : ∀ t, Steps p.tables e below (T6.setTop (mkF m 415 #[.val (.int xa), .val (.int xb), .val (.int xc), .val (.int (Int32.ofNat bn)), .val (.ref ix), .val (.ref ox), .val (.int (Int32.ofNat pn)), .val (.int (Int32.ofNat mn)), .val (.ref fx), .val (.ref jx), .val (.ref ax), .val (.int mv), .val (.ref g0), .val (.ref g1), .val (.int (Int32.ofNat bn)), .val (.int (((Int32.ofNat bn) ^^^ (-1 : Int32)) &&& (15 : Int32))), .val (.int (1 : Int32))] [(.int (F12 1 lo es sta gs0))])) t → Steps p.tables e below (T0.setTop (mkF m 390 #[.val (.int xa), .val (.int xb), .val (.int xc), .val (.int (Int32.ofNat bn)), .val (.ref ix), .val (.ref ox), .val (.int (Int32.ofNat pn)), .val (.int (Int32.ofNat mn)), .val (.ref fx), .val (.ref jx), .val (.ref ax), .val (.int mv), .val (.ref g0), .val (.ref g1), .val (.int (Int32.ofNat bn)), .val (.int (((Int32.ofNat bn) ^^^ (-1 : Int32)) &&& (15 : Int32))), .val (.int (1 : Int32))] [])) t := fun t k => pre5 t (st6 t k)
    have hb9 : ¬ ((F12 1 lo es sta gs0) = (0 : Int32)) := (by rw [hz0 hz]; decide)
    have pre10 : ∀ t, Steps p.tables e below (T6.setTop (mkF m 425 #[.val (.int xa), .val (.int xb), .val (.int xc), .val (.int (Int32.ofNat bn)), .val (.ref ix), .val (.ref ox), .val (.int (Int32.ofNat pn)), .val (.int (Int32.ofNat mn)), .val (.ref fx), .val (.ref jx), .val (.ref ax), .val (.int mv), .val (.ref g0), .val (.ref g1), .val (.int (Int32.ofNat bn)), .val (.int (((Int32.ofNat bn) ^^^ (-1 : Int32)) &&& (15 : Int32))), .val (.int (1 : Int32))] [])) t → Steps p.tables e below (T0.setTop (mkF m 390 #[.val (.int xa), .val (.int xb), .val (.int xc), .val (.int (Int32.ofNat bn)), .val (.ref ix), .val (.ref ox), .val (.int (Int32.ofNat pn)), .val (.int (Int32.ofNat mn)), .val (.ref fx), .val (.ref jx), .val (.ref ax), .val (.int mv), .val (.ref g0), .val (.ref g1), .val (.int (Int32.ofNat bn)), .val (.int (((Int32.ofNat bn) ^^^ (-1 : Int32)) &&& (15 : Int32))), .val (.int (1 : Int32))] [])) t := fun t k => pre8 t (by
      show Steps p.tables e below (T6.setTop (mkF m 415 #[.val (.int xa), .val (.int xb), .val (.int xc), .val (.int (Int32.ofNat bn)), .val (.ref ix), .val (.ref ox), .val (.int (Int32.ofNat pn)), .val (.int (Int32.ofNat mn)), .val (.ref fx), .val (.ref jx), .val (.ref ax), .val (.int mv), .val (.ref g0), .val (.ref g1), .val (.int (Int32.ofNat bn)), .val (.int (((Int32.ofNat bn) ^^^ (-1 : Int32)) &&& (15 : Int32))), .val (.int (1 : Int32))] [(.int (F12 1 lo es sta gs0))])) _
      refine XS.ifNo X6.here hx rfl (hb hby at_415) rfl ((if0 _ _).trans (feq hb9).1) ?_
      refine XS.iconst X6.here hx rfl (hb hby at_418) ?_
      refine XS.goto X6.here hx rfl (pc0 := 419) (pc' := 423) rfl (hb hby at_419) (by decide) (by decide) ?_
      refine XS.istore X6.here hx rfl (hb hby at_423) rfl (l' := #[.val (.int xa), .val (.int xb), .val (.int xc), .val (.int (Int32.ofNat bn)), .val (.ref ix), .val (.ref ox), .val (.int (Int32.ofNat pn)), .val (.int (Int32.ofNat mn)), .val (.ref fx), .val (.ref jx), .val (.ref ax), .val (.int mv), .val (.ref g0), .val (.ref g1), .val (.int (Int32.ofNat bn)), .val (.int (((Int32.ofNat bn) ^^^ (-1 : Int32)) &&& (15 : Int32))), .val (.int (1 : Int32))]) rfl ?_
      exact k)
    have R11 : Rep Z n0 T6.heap ((ax, Obj "com/example/witgen/witgen/regex/Partition" [("elements", "[I", (.ref b1)), ("location", "[I", (.ref b2)), ("blockOf", "[I", (.ref b3)), ("start", "[I", (.ref b4)), ("end", "[I", (.ref b5)), ("marked", "[I", (.ref b6)), ("touched", "[I", (.ref b7)), ("blocks", "I", (.int (Int32.ofNat cnt))), ("touchedCount", "I", (.int (Int32.ofNat tc)))]) :: (b2, Ar .int (nl lo)) :: (b3, Ar .int (nl es)) :: (b4, Ar .int (nl sta)) :: (ix, Ar .int (nl es)) :: (g0, Ar .long (ll gs0)) :: (g1, Ar .long (ll gs1)) :: Rst) := R6.pick [6, 5, 6, 6, 6, 6, 6] rfl
    exact ⟨T6, _, _, X6, rfl, N6, R11, pre10⟩
  · have pre12 : ∀ t, Steps p.tables e below (T0.setTop (mkF m 410 #[.val (.int xa), .val (.int xb), .val (.int xc), .val (.int (Int32.ofNat bn)), .val (.ref ix), .val (.ref ox), .val (.int (Int32.ofNat pn)), .val (.int (Int32.ofNat mn)), .val (.ref fx), .val (.ref jx), .val (.ref ax), .val (.int mv), .val (.ref g0), .val (.ref g1), .val (.int (Int32.ofNat bn)), .val (.int (((Int32.ofNat bn) ^^^ (-1 : Int32)) &&& (15 : Int32))), .val (.int (1 : Int32))] [(.int (1 : Int32)), (.ref ax)])) t → Steps p.tables e below (T0.setTop (mkF m 390 #[.val (.int xa), .val (.int xb), .val (.int xc), .val (.int (Int32.ofNat bn)), .val (.ref ix), .val (.ref ox), .val (.int (Int32.ofNat pn)), .val (.int (Int32.ofNat mn)), .val (.ref fx), .val (.ref jx), .val (.ref ax), .val (.int mv), .val (.ref g0), .val (.ref g1), .val (.int (Int32.ofNat bn)), .val (.int (((Int32.ofNat bn) ^^^ (-1 : Int32)) &&& (15 : Int32))), .val (.int (1 : Int32))] [])) t := fun t k => pre3 t (by show Steps p.tables e below (T0.setTop (mkF m 402 #[.val (.int xa), .val (.int xb), .val (.int xc), .val (.int (Int32.ofNat bn)), .val (.ref ix), .val (.ref ox), .val (.int (Int32.ofNat pn)), .val (.int (Int32.ofNat mn)), .val (.ref fx), .val (.ref jx), .val (.ref ax), .val (.int mv), .val (.ref g0), .val (.ref g1), .val (.int (Int32.ofNat bn)), .val (.int (((Int32.ofNat bn) ^^^ (-1 : Int32)) &&& (15 : Int32))), .val (.int (1 : Int32))] [(.int (Int32.ofNat (es.getD 1 0))), (.int (1 : Int32)), (.ref ax)])) _; refine XS.ifYes X0.here hx rfl (pc0 := 402) (pc' := 410) rfl (hb hby at_402) rfl ((if0 _ _).trans (feq hz).2) (by decide) (by decide) ?_; exact k)
    have pre13 : ∀ t, Steps p.tables e below (T0.setTop (mkF m 412 #[.val (.int xa), .val (.int xb), .val (.int xc), .val (.int (Int32.ofNat bn)), .val (.ref ix), .val (.ref ox), .val (.int (Int32.ofNat pn)), .val (.int (Int32.ofNat mn)), .val (.ref fx), .val (.ref jx), .val (.ref ax), .val (.int mv), .val (.ref g0), .val (.ref g1), .val (.int (Int32.ofNat bn)), .val (.int (((Int32.ofNat bn) ^^^ (-1 : Int32)) &&& (15 : Int32))), .val (.int (1 : Int32))] [(.ref g1), (.int (1 : Int32)), (.ref ax)])) t → Steps p.tables e below (T0.setTop (mkF m 390 #[.val (.int xa), .val (.int xb), .val (.int xc), .val (.int (Int32.ofNat bn)), .val (.ref ix), .val (.ref ox), .val (.int (Int32.ofNat pn)), .val (.int (Int32.ofNat mn)), .val (.ref fx), .val (.ref jx), .val (.ref ax), .val (.int mv), .val (.ref g0), .val (.ref g1), .val (.int (Int32.ofNat bn)), .val (.int (((Int32.ofNat bn) ^^^ (-1 : Int32)) &&& (15 : Int32))), .val (.int (1 : Int32))] [])) t := fun t k => pre12 t (by
      show Steps p.tables e below (T0.setTop (mkF m 410 #[.val (.int xa), .val (.int xb), .val (.int xc), .val (.int (Int32.ofNat bn)), .val (.ref ix), .val (.ref ox), .val (.int (Int32.ofNat pn)), .val (.int (Int32.ofNat mn)), .val (.ref fx), .val (.ref jx), .val (.ref ax), .val (.int mv), .val (.ref g0), .val (.ref g1), .val (.int (Int32.ofNat bn)), .val (.int (((Int32.ofNat bn) ^^^ (-1 : Int32)) &&& (15 : Int32))), .val (.int (1 : Int32))] [(.int (1 : Int32)), (.ref ax)])) _
      refine XS.aload X0.here hx rfl (hb hby at_410) rfl rfl ?_
      exact k)
    have R15 : Rep Z n0 h0 ((ax, Obj "com/example/witgen/witgen/regex/Partition" [("elements", "[I", (.ref b1)), ("location", "[I", (.ref b2)), ("blockOf", "[I", (.ref b3)), ("start", "[I", (.ref b4)), ("end", "[I", (.ref b5)), ("marked", "[I", (.ref b6)), ("touched", "[I", (.ref b7)), ("blocks", "I", (.int (Int32.ofNat cnt))), ("touchedCount", "I", (.int (Int32.ofNat tc)))]) :: (b2, Ar .int (nl lo)) :: (b3, Ar .int (nl es)) :: (b4, Ar .int (nl sta)) :: (g1, Ar .long (ll gs1)) :: (ix, Ar .int (nl es)) :: (g0, Ar .long (ll gs0)) :: Rst) := R0.pick [6, 4, 4, 4, 4] rfl
    obtain ⟨_, _, ⟨T14, L14, k14, n14⟩, -, X14, ⟨Lc14, hQ14, l14, y14, z14⟩, st14⟩ := Jvm.LawKit.callS X0 hx (y := (⟨"com/example/witgen/witgen/regex/PartitionMarkPinLaw", "firstOk", "(Lcom/example/witgen/witgen/regex/Partition;I[J)Z"⟩ : MethodName)) hown (mvT hZ (hw _ (List.mem_of_getElem? (i := 80) rfl))) (mvT hZ (hw _ (List.mem_of_getElem? (i := 81) rfl))) (mvT hZ (hw _ (List.mem_of_getElem? (i := 4) rfl))) (mvT hZ (hw _ (List.mem_of_getElem? (i := 82) rfl))) (by decide) (backOf (W := 0) (rm12 l Z a0 hw [] ax 1 g1 _ _ _ _ _ _ _ _ _ _ _ _ _ h0 n0 _ R15 (p1) (by decide) (p3) (p4) (p5) (hl1)) hZ (hw _ (List.mem_of_getElem? (i := 82) rfl)) (hw _ (List.mem_of_getElem? (i := 4) rfl)) (by decide) (by decide)) (g := (mkF m 412 #[.val (.int xa), .val (.int xb), .val (.int xc), .val (.int (Int32.ofNat bn)), .val (.ref ix), .val (.ref ox), .val (.int (Int32.ofNat pn)), .val (.int (Int32.ofNat mn)), .val (.ref fx), .val (.ref jx), .val (.ref ax), .val (.int mv), .val (.ref g0), .val (.ref g1), .val (.int (Int32.ofNat bn)), .val (.int (((Int32.ofNat bn) ^^^ (-1 : Int32)) &&& (15 : Int32))), .val (.int (1 : Int32))] [(.ref g1), (.int (1 : Int32)), (.ref ax)])) rfl (by rw [hml]; rfl) (argsL := [(.ref ax), (.int (1 : Int32)), (.ref g1)]) (rest := []) (lenOf pd__28Lcom_2fexample_2fwitgen_2fwitgen_2fregex_2fPartition_3bI_5bJ_29Z rfl) rfl (by show 2 * 0 + _ ≤ _; exact Nat.le_of_eq rfl) (hb hby at_412) (fun _ _ => ⟨rfl, e0, (by decide : 15 + 0 ≤ _), (by decide : 86 + 0 ≤ _)⟩)
    dsimp only [Pt.U, Pt.locs, Pt.cells, Pt.slots] at X14 l14 y14 z14 st14 hQ14
    subst y14 z14
    obtain ⟨rfl, N14q, R14⟩ := hQ14
    have N14 : Fr n0 L14 := by rw [l14]; exact Fr.app N0 N14q
    replace R14 : Rep Z n0 T14.heap ((ax, Obj "com/example/witgen/witgen/regex/Partition" [("elements", "[I", (.ref b1)), ("location", "[I", (.ref b2)), ("blockOf", "[I", (.ref b3)), ("start", "[I", (.ref b4)), ("end", "[I", (.ref b5)), ("marked", "[I", (.ref b6)), ("touched", "[I", (.ref b7)), ("blocks", "I", (.int (Int32.ofNat cnt))), ("touchedCount", "I", (.int (Int32.ofNat tc)))]) :: (b2, Ar .int (nl lo)) :: (b3, Ar .int (nl es)) :: (b4, Ar .int (nl sta)) :: (g1, Ar .long (ll gs1)) :: (ix, Ar .int (nl es)) :: (g0, Ar .long (ll gs0)) :: Rst) := R14
    have pre16 : ∀ t, Steps p.tables e below (T14.setTop (mkF m 415 #[.val (.int xa), .val (.int xb), .val (.int xc), .val (.int (Int32.ofNat bn)), .val (.ref ix), .val (.ref ox), .val (.int (Int32.ofNat pn)), .val (.int (Int32.ofNat mn)), .val (.ref fx), .val (.ref jx), .val (.ref ax), .val (.int mv), .val (.ref g0), .val (.ref g1), .val (.int (Int32.ofNat bn)), .val (.int (((Int32.ofNat bn) ^^^ (-1 : Int32)) &&& (15 : Int32))), .val (.int (1 : Int32))] [(.int (F12 1 lo es sta gs1))])) t → Steps p.tables e below (T0.setTop (mkF m 390 #[.val (.int xa), .val (.int xb), .val (.int xc), .val (.int (Int32.ofNat bn)), .val (.ref ix), .val (.ref ox), .val (.int (Int32.ofNat pn)), .val (.int (Int32.ofNat mn)), .val (.ref fx), .val (.ref jx), .val (.ref ax), .val (.int mv), .val (.ref g0), .val (.ref g1), .val (.int (Int32.ofNat bn)), .val (.int (((Int32.ofNat bn) ^^^ (-1 : Int32)) &&& (15 : Int32))), .val (.int (1 : Int32))] [])) t := fun t k => pre13 t (st14 t k)
    have hb17 : ¬ ((F12 1 lo es sta gs1) = (0 : Int32)) := (by rw [hz1 hz]; decide)
    have pre18 : ∀ t, Steps p.tables e below (T14.setTop (mkF m 425 #[.val (.int xa), .val (.int xb), .val (.int xc), .val (.int (Int32.ofNat bn)), .val (.ref ix), .val (.ref ox), .val (.int (Int32.ofNat pn)), .val (.int (Int32.ofNat mn)), .val (.ref fx), .val (.ref jx), .val (.ref ax), .val (.int mv), .val (.ref g0), .val (.ref g1), .val (.int (Int32.ofNat bn)), .val (.int (((Int32.ofNat bn) ^^^ (-1 : Int32)) &&& (15 : Int32))), .val (.int (1 : Int32))] [])) t → Steps p.tables e below (T0.setTop (mkF m 390 #[.val (.int xa), .val (.int xb), .val (.int xc), .val (.int (Int32.ofNat bn)), .val (.ref ix), .val (.ref ox), .val (.int (Int32.ofNat pn)), .val (.int (Int32.ofNat mn)), .val (.ref fx), .val (.ref jx), .val (.ref ax), .val (.int mv), .val (.ref g0), .val (.ref g1), .val (.int (Int32.ofNat bn)), .val (.int (((Int32.ofNat bn) ^^^ (-1 : Int32)) &&& (15 : Int32))), .val (.int (1 : Int32))] [])) t := fun t k => pre16 t (by
      show Steps p.tables e below (T14.setTop (mkF m 415 #[.val (.int xa), .val (.int xb), .val (.int xc), .val (.int (Int32.ofNat bn)), .val (.ref ix), .val (.ref ox), .val (.int (Int32.ofNat pn)), .val (.int (Int32.ofNat mn)), .val (.ref fx), .val (.ref jx), .val (.ref ax), .val (.int mv), .val (.ref g0), .val (.ref g1), .val (.int (Int32.ofNat bn)), .val (.int (((Int32.ofNat bn) ^^^ (-1 : Int32)) &&& (15 : Int32))), .val (.int (1 : Int32))] [(.int (F12 1 lo es sta gs1))])) _
      refine XS.ifNo X14.here hx rfl (hb hby at_415) rfl ((if0 _ _).trans (feq hb17).1) ?_
      refine XS.iconst X14.here hx rfl (hb hby at_418) ?_
      refine XS.goto X14.here hx rfl (pc0 := 419) (pc' := 423) rfl (hb hby at_419) (by decide) (by decide) ?_
      refine XS.istore X14.here hx rfl (hb hby at_423) rfl (l' := #[.val (.int xa), .val (.int xb), .val (.int xc), .val (.int (Int32.ofNat bn)), .val (.ref ix), .val (.ref ox), .val (.int (Int32.ofNat pn)), .val (.int (Int32.ofNat mn)), .val (.ref fx), .val (.ref jx), .val (.ref ax), .val (.int mv), .val (.ref g0), .val (.ref g1), .val (.int (Int32.ofNat bn)), .val (.int (((Int32.ofNat bn) ^^^ (-1 : Int32)) &&& (15 : Int32))), .val (.int (1 : Int32))]) rfl ?_
      exact k)
    have R19 : Rep Z n0 T14.heap ((ax, Obj "com/example/witgen/witgen/regex/Partition" [("elements", "[I", (.ref b1)), ("location", "[I", (.ref b2)), ("blockOf", "[I", (.ref b3)), ("start", "[I", (.ref b4)), ("end", "[I", (.ref b5)), ("marked", "[I", (.ref b6)), ("touched", "[I", (.ref b7)), ("blocks", "I", (.int (Int32.ofNat cnt))), ("touchedCount", "I", (.int (Int32.ofNat tc)))]) :: (b2, Ar .int (nl lo)) :: (b3, Ar .int (nl es)) :: (b4, Ar .int (nl sta)) :: (ix, Ar .int (nl es)) :: (g0, Ar .long (ll gs0)) :: (g1, Ar .long (ll gs1)) :: Rst) := R14.pick [4, 6, 6, 6, 6, 6, 6] rfl
    exact ⟨T14, _, _, X14, rfl, N14, R19, pre18⟩
set_option maxRecDepth 65536 in
set_option maxHeartbeats 40000000 in
theorem tf_2 {p : Program} {l : Launch} {e : Env} {s : State} {m : MethodId} {args : Array Value} {below : List Frame} {meth : Method} {c : Code} {T0 : State} {locs : List Loc} {Z : State} {a0 : Array Value} {h0 : Heap} {n0 : Nat} {Rst : RL} (xa : Int32) (xb : Int32) (xc : Int32) (bn : Nat) (pn : Nat) (mn : Nat) (ix : Addr) (ox : Addr) (fx : Addr) (jx : Addr) (ax : Addr) (b1 : Addr) (b2 : Addr) (b3 : Addr) (b4 : Addr) (b5 : Addr) (b6 : Addr) (b7 : Addr) (cnt : Nat) (tc : Nat) (lo : List Nat) (es : List Nat) (sta : List Nat) (mv : Int32) (g0 : Addr) (g1 : Addr) (gs0 : List Nat) (gs1 : List Nat)
    (X0 : Stand p l e room_1 s m args below meth c T0 locs 15 86) (hx : p.tables.exec = Jvm.exec) (hZ : Z.Warmed39 s.vm) (hw : ∀ d ∈ tables_1, d.before a0 Z = true) (hby : c.code = code) (hml : c.maxLocals = 17) (hown : s.vm.findClass "com/example/witgen/witgen/regex/PartitionMarkPinLaw" = some m.cls) (e0 : T0.heap = h0) (N0 : Fr n0 locs) (R0 : Rep Z n0 h0 ((ax, Obj "com/example/witgen/witgen/regex/Partition" [("elements", "[I", (.ref b1)), ("location", "[I", (.ref b2)), ("blockOf", "[I", (.ref b3)), ("start", "[I", (.ref b4)), ("end", "[I", (.ref b5)), ("marked", "[I", (.ref b6)), ("touched", "[I", (.ref b7)), ("blocks", "I", (.int (Int32.ofNat cnt))), ("touchedCount", "I", (.int (Int32.ofNat tc)))]) :: (b2, Ar .int (nl lo)) :: (b3, Ar .int (nl es)) :: (b4, Ar .int (nl sta)) :: (ix, Ar .int (nl es)) :: (g0, Ar .long (ll gs0)) :: (g1, Ar .long (ll gs1)) :: Rst)) (hz0 : (Int32.ofNat (es.getD 2 0)) = (0 : Int32) → F12 2 lo es sta gs0 = 1) (hz1 : ¬ ((Int32.ofNat (es.getD 2 0)) = (0 : Int32)) → F12 2 lo es sta gs1 = 1) (p1 : 2 < lo.length) (p3 : 2 < es.length) (p4 : es.getD 2 0 < sta.length) (p5 : es.getD 2 0 < 1000) (hl0 : gs0.length < 1000) (hl1 : gs1.length < 1000) :
    ∃ (T' : State) (h' : Heap) (locs' : List Loc), Stand p l e room_1 s m args below meth c T' locs' 15 86 ∧ T'.heap = h' ∧ Fr n0 locs' ∧ Rep Z n0 h' ((ax, Obj "com/example/witgen/witgen/regex/Partition" [("elements", "[I", (.ref b1)), ("location", "[I", (.ref b2)), ("blockOf", "[I", (.ref b3)), ("start", "[I", (.ref b4)), ("end", "[I", (.ref b5)), ("marked", "[I", (.ref b6)), ("touched", "[I", (.ref b7)), ("blocks", "I", (.int (Int32.ofNat cnt))), ("touchedCount", "I", (.int (Int32.ofNat tc)))]) :: (b2, Ar .int (nl lo)) :: (b3, Ar .int (nl es)) :: (b4, Ar .int (nl sta)) :: (ix, Ar .int (nl es)) :: (g0, Ar .long (ll gs0)) :: (g1, Ar .long (ll gs1)) :: Rst) ∧ ∀ t, Steps p.tables e below (T'.setTop (mkF m 460 #[.val (.int xa), .val (.int xb), .val (.int xc), .val (.int (Int32.ofNat bn)), .val (.ref ix), .val (.ref ox), .val (.int (Int32.ofNat pn)), .val (.int (Int32.ofNat mn)), .val (.ref fx), .val (.ref jx), .val (.ref ax), .val (.int mv), .val (.ref g0), .val (.ref g1), .val (.int (Int32.ofNat bn)), .val (.int (((Int32.ofNat bn) ^^^ (-1 : Int32)) &&& (15 : Int32))), .val (.int (1 : Int32))] [])) t → Steps p.tables e below (T0.setTop (mkF m 425 #[.val (.int xa), .val (.int xb), .val (.int xc), .val (.int (Int32.ofNat bn)), .val (.ref ix), .val (.ref ox), .val (.int (Int32.ofNat pn)), .val (.int (Int32.ofNat mn)), .val (.ref fx), .val (.ref jx), .val (.ref ax), .val (.int mv), .val (.ref g0), .val (.ref g1), .val (.int (Int32.ofNat bn)), .val (.int (((Int32.ofNat bn) ^^^ (-1 : Int32)) &&& (15 : Int32))), .val (.int (1 : Int32))] [])) t := by
  have pre0 : ∀ t, Steps p.tables e below (T0.setTop (mkF m 425 #[.val (.int xa), .val (.int xb), .val (.int xc), .val (.int (Int32.ofNat bn)), .val (.ref ix), .val (.ref ox), .val (.int (Int32.ofNat pn)), .val (.int (Int32.ofNat mn)), .val (.ref fx), .val (.ref jx), .val (.ref ax), .val (.int mv), .val (.ref g0), .val (.ref g1), .val (.int (Int32.ofNat bn)), .val (.int (((Int32.ofNat bn) ^^^ (-1 : Int32)) &&& (15 : Int32))), .val (.int (1 : Int32))] [])) t → Steps p.tables e below (T0.setTop (mkF m 425 #[.val (.int xa), .val (.int xb), .val (.int xc), .val (.int (Int32.ofNat bn)), .val (.ref ix), .val (.ref ox), .val (.int (Int32.ofNat pn)), .val (.int (Int32.ofNat mn)), .val (.ref fx), .val (.ref jx), .val (.ref ax), .val (.int mv), .val (.ref g0), .val (.ref g1), .val (.int (Int32.ofNat bn)), .val (.int (((Int32.ofNat bn) ^^^ (-1 : Int32)) &&& (15 : Int32))), .val (.int (1 : Int32))] [])) t := fun t k => k
  have pre2 : ∀ t, Steps p.tables e below (T0.setTop (mkF m 427 #[.val (.int xa), .val (.int xb), .val (.int xc), .val (.int (Int32.ofNat bn)), .val (.ref ix), .val (.ref ox), .val (.int (Int32.ofNat pn)), .val (.int (Int32.ofNat mn)), .val (.ref fx), .val (.ref jx), .val (.ref ax), .val (.int mv), .val (.ref g0), .val (.ref g1), .val (.int (Int32.ofNat bn)), .val (.int (((Int32.ofNat bn) ^^^ (-1 : Int32)) &&& (15 : Int32))), .val (.int (1 : Int32))] [(.int (1 : Int32))])) t → Steps p.tables e below (T0.setTop (mkF m 425 #[.val (.int xa), .val (.int xb), .val (.int xc), .val (.int (Int32.ofNat bn)), .val (.ref ix), .val (.ref ox), .val (.int (Int32.ofNat pn)), .val (.int (Int32.ofNat mn)), .val (.ref fx), .val (.ref jx), .val (.ref ax), .val (.int mv), .val (.ref g0), .val (.ref g1), .val (.int (Int32.ofNat bn)), .val (.int (((Int32.ofNat bn) ^^^ (-1 : Int32)) &&& (15 : Int32))), .val (.int (1 : Int32))] [])) t := fun t k => pre0 t (by
    show Steps p.tables e below (T0.setTop (mkF m 425 #[.val (.int xa), .val (.int xb), .val (.int xc), .val (.int (Int32.ofNat bn)), .val (.ref ix), .val (.ref ox), .val (.int (Int32.ofNat pn)), .val (.int (Int32.ofNat mn)), .val (.ref fx), .val (.ref jx), .val (.ref ax), .val (.int mv), .val (.ref g0), .val (.ref g1), .val (.int (Int32.ofNat bn)), .val (.int (((Int32.ofNat bn) ^^^ (-1 : Int32)) &&& (15 : Int32))), .val (.int (1 : Int32))] [])) _
    refine XS.iload X0.here hx rfl (hb hby at_425) rfl ?_
    exact k)
  have hb1 : ¬ ((1 : Int32) = (0 : Int32)) := (by decide)
  have pre3 : ∀ t, Steps p.tables e below (T0.setTop (mkF m 437 #[.val (.int xa), .val (.int xb), .val (.int xc), .val (.int (Int32.ofNat bn)), .val (.ref ix), .val (.ref ox), .val (.int (Int32.ofNat pn)), .val (.int (Int32.ofNat mn)), .val (.ref fx), .val (.ref jx), .val (.ref ax), .val (.int mv), .val (.ref g0), .val (.ref g1), .val (.int (Int32.ofNat bn)), .val (.int (((Int32.ofNat bn) ^^^ (-1 : Int32)) &&& (15 : Int32))), .val (.int (1 : Int32))] [(.int (Int32.ofNat (es.getD 2 0))), (.int (2 : Int32)), (.ref ax)])) t → Steps p.tables e below (T0.setTop (mkF m 425 #[.val (.int xa), .val (.int xb), .val (.int xc), .val (.int (Int32.ofNat bn)), .val (.ref ix), .val (.ref ox), .val (.int (Int32.ofNat pn)), .val (.int (Int32.ofNat mn)), .val (.ref fx), .val (.ref jx), .val (.ref ax), .val (.int mv), .val (.ref g0), .val (.ref g1), .val (.int (Int32.ofNat bn)), .val (.int (((Int32.ofNat bn) ^^^ (-1 : Int32)) &&& (15 : Int32))), .val (.int (1 : Int32))] [])) t := fun t k => pre2 t (by
    show Steps p.tables e below (T0.setTop (mkF m 427 #[.val (.int xa), .val (.int xb), .val (.int xc), .val (.int (Int32.ofNat bn)), .val (.ref ix), .val (.ref ox), .val (.int (Int32.ofNat pn)), .val (.int (Int32.ofNat mn)), .val (.ref fx), .val (.ref jx), .val (.ref ax), .val (.int mv), .val (.ref g0), .val (.ref g1), .val (.int (Int32.ofNat bn)), .val (.int (((Int32.ofNat bn) ^^^ (-1 : Int32)) &&& (15 : Int32))), .val (.int (1 : Int32))] [(.int (1 : Int32))])) _
    refine XS.ifNo X0.here hx rfl (hb hby at_427) rfl ((if0 _ _).trans (feq hb1).1) ?_
    refine XS.aload X0.here hx rfl (hb hby at_430) rfl rfl ?_
    refine XS.iconst X0.here hx rfl (hb hby at_432) ?_
    refine XS.aload X0.here hx rfl (hb hby at_433) rfl rfl ?_
    refine XS.iconst X0.here hx rfl (hb hby at_435) ?_
    refine gIald X0 hx hZ e0 R0 4 rfl (j := (Int32.ofNat 2)) (v := (.int (Int32.ofNat (es.getD 2 0)))) (n_nn (by decide)) (nl_at (p3) (by decide)) (g := (mkF m 436 #[.val (.int xa), .val (.int xb), .val (.int xc), .val (.int (Int32.ofNat bn)), .val (.ref ix), .val (.ref ox), .val (.int (Int32.ofNat pn)), .val (.int (Int32.ofNat mn)), .val (.ref fx), .val (.ref jx), .val (.ref ax), .val (.int mv), .val (.ref g0), .val (.ref g1), .val (.int (Int32.ofNat bn)), .val (.int (((Int32.ofNat bn) ^^^ (-1 : Int32)) &&& (15 : Int32))), .val (.int (1 : Int32))] [(.int (2 : Int32)), (.ref ix), (.int (2 : Int32)), (.ref ax)])) rfl rfl (hb hby at_436) _ ?_
    exact k)
  by_cases hz : (Int32.ofNat (es.getD 2 0)) = (0 : Int32)
  · have pre4 : ∀ t, Steps p.tables e below (T0.setTop (mkF m 440 #[.val (.int xa), .val (.int xb), .val (.int xc), .val (.int (Int32.ofNat bn)), .val (.ref ix), .val (.ref ox), .val (.int (Int32.ofNat pn)), .val (.int (Int32.ofNat mn)), .val (.ref fx), .val (.ref jx), .val (.ref ax), .val (.int mv), .val (.ref g0), .val (.ref g1), .val (.int (Int32.ofNat bn)), .val (.int (((Int32.ofNat bn) ^^^ (-1 : Int32)) &&& (15 : Int32))), .val (.int (1 : Int32))] [(.int (2 : Int32)), (.ref ax)])) t → Steps p.tables e below (T0.setTop (mkF m 425 #[.val (.int xa), .val (.int xb), .val (.int xc), .val (.int (Int32.ofNat bn)), .val (.ref ix), .val (.ref ox), .val (.int (Int32.ofNat pn)), .val (.int (Int32.ofNat mn)), .val (.ref fx), .val (.ref jx), .val (.ref ax), .val (.int mv), .val (.ref g0), .val (.ref g1), .val (.int (Int32.ofNat bn)), .val (.int (((Int32.ofNat bn) ^^^ (-1 : Int32)) &&& (15 : Int32))), .val (.int (1 : Int32))] [])) t := fun t k => pre3 t (by show Steps p.tables e below (T0.setTop (mkF m 437 #[.val (.int xa), .val (.int xb), .val (.int xc), .val (.int (Int32.ofNat bn)), .val (.ref ix), .val (.ref ox), .val (.int (Int32.ofNat pn)), .val (.int (Int32.ofNat mn)), .val (.ref fx), .val (.ref jx), .val (.ref ax), .val (.int mv), .val (.ref g0), .val (.ref g1), .val (.int (Int32.ofNat bn)), .val (.int (((Int32.ofNat bn) ^^^ (-1 : Int32)) &&& (15 : Int32))), .val (.int (1 : Int32))] [(.int (Int32.ofNat (es.getD 2 0))), (.int (2 : Int32)), (.ref ax)])) _; refine XS.ifNo X0.here hx rfl (hb hby at_437) rfl ((if0 _ _).trans (teq hz).2) ?_; exact k)
    have pre5 : ∀ t, Steps p.tables e below (T0.setTop (mkF m 447 #[.val (.int xa), .val (.int xb), .val (.int xc), .val (.int (Int32.ofNat bn)), .val (.ref ix), .val (.ref ox), .val (.int (Int32.ofNat pn)), .val (.int (Int32.ofNat mn)), .val (.ref fx), .val (.ref jx), .val (.ref ax), .val (.int mv), .val (.ref g0), .val (.ref g1), .val (.int (Int32.ofNat bn)), .val (.int (((Int32.ofNat bn) ^^^ (-1 : Int32)) &&& (15 : Int32))), .val (.int (1 : Int32))] [(.ref g0), (.int (2 : Int32)), (.ref ax)])) t → Steps p.tables e below (T0.setTop (mkF m 425 #[.val (.int xa), .val (.int xb), .val (.int xc), .val (.int (Int32.ofNat bn)), .val (.ref ix), .val (.ref ox), .val (.int (Int32.ofNat pn)), .val (.int (Int32.ofNat mn)), .val (.ref fx), .val (.ref jx), .val (.ref ax), .val (.int mv), .val (.ref g0), .val (.ref g1), .val (.int (Int32.ofNat bn)), .val (.int (((Int32.ofNat bn) ^^^ (-1 : Int32)) &&& (15 : Int32))), .val (.int (1 : Int32))] [])) t := fun t k => pre4 t (by
      show Steps p.tables e below (T0.setTop (mkF m 440 #[.val (.int xa), .val (.int xb), .val (.int xc), .val (.int (Int32.ofNat bn)), .val (.ref ix), .val (.ref ox), .val (.int (Int32.ofNat pn)), .val (.int (Int32.ofNat mn)), .val (.ref fx), .val (.ref jx), .val (.ref ax), .val (.int mv), .val (.ref g0), .val (.ref g1), .val (.int (Int32.ofNat bn)), .val (.int (((Int32.ofNat bn) ^^^ (-1 : Int32)) &&& (15 : Int32))), .val (.int (1 : Int32))] [(.int (2 : Int32)), (.ref ax)])) _
      refine XS.aload X0.here hx rfl (hb hby at_440) rfl rfl ?_
      refine XS.goto X0.here hx rfl (pc0 := 442) (pc' := 447) rfl (hb hby at_442) (by decide) (by decide) ?_
      exact k)
    have R7 : Rep Z n0 h0 ((ax, Obj "com/example/witgen/witgen/regex/Partition" [("elements", "[I", (.ref b1)), ("location", "[I", (.ref b2)), ("blockOf", "[I", (.ref b3)), ("start", "[I", (.ref b4)), ("end", "[I", (.ref b5)), ("marked", "[I", (.ref b6)), ("touched", "[I", (.ref b7)), ("blocks", "I", (.int (Int32.ofNat cnt))), ("touchedCount", "I", (.int (Int32.ofNat tc)))]) :: (b2, Ar .int (nl lo)) :: (b3, Ar .int (nl es)) :: (b4, Ar .int (nl sta)) :: (g0, Ar .long (ll gs0)) :: (ix, Ar .int (nl es)) :: (g1, Ar .long (ll gs1)) :: Rst) := R0.pick [5, 4, 4, 4, 4] rfl
    obtain ⟨_, _, ⟨T6, L6, k6, n6⟩, -, X6, ⟨Lc6, hQ6, l6, y6, z6⟩, st6⟩ := Jvm.LawKit.callS X0 hx (y := (⟨"com/example/witgen/witgen/regex/PartitionMarkPinLaw", "firstOk", "(Lcom/example/witgen/witgen/regex/Partition;I[J)Z"⟩ : MethodName)) hown (mvT hZ (hw _ (List.mem_of_getElem? (i := 80) rfl))) (mvT hZ (hw _ (List.mem_of_getElem? (i := 81) rfl))) (mvT hZ (hw _ (List.mem_of_getElem? (i := 4) rfl))) (mvT hZ (hw _ (List.mem_of_getElem? (i := 82) rfl))) (by decide) (backOf (W := 0) (rm12 l Z a0 hw [] ax 2 g0 _ _ _ _ _ _ _ _ _ _ _ _ _ h0 n0 _ R7 (p1) (by decide) (p3) (p4) (p5) (hl0)) hZ (hw _ (List.mem_of_getElem? (i := 82) rfl)) (hw _ (List.mem_of_getElem? (i := 4) rfl)) (by decide) (by decide)) (g := (mkF m 447 #[.val (.int xa), .val (.int xb), .val (.int xc), .val (.int (Int32.ofNat bn)), .val (.ref ix), .val (.ref ox), .val (.int (Int32.ofNat pn)), .val (.int (Int32.ofNat mn)), .val (.ref fx), .val (.ref jx), .val (.ref ax), .val (.int mv), .val (.ref g0), .val (.ref g1), .val (.int (Int32.ofNat bn)), .val (.int (((Int32.ofNat bn) ^^^ (-1 : Int32)) &&& (15 : Int32))), .val (.int (1 : Int32))] [(.ref g0), (.int (2 : Int32)), (.ref ax)])) rfl (by rw [hml]; rfl) (argsL := [(.ref ax), (.int (2 : Int32)), (.ref g0)]) (rest := []) (lenOf pd__28Lcom_2fexample_2fwitgen_2fwitgen_2fregex_2fPartition_3bI_5bJ_29Z rfl) rfl (by show 2 * 0 + _ ≤ _; exact Nat.le_of_eq rfl) (hb hby at_447) (fun _ _ => ⟨rfl, e0, (by decide : 15 + 0 ≤ _), (by decide : 86 + 0 ≤ _)⟩)
    dsimp only [Pt.U, Pt.locs, Pt.cells, Pt.slots] at X6 l6 y6 z6 st6 hQ6
    subst y6 z6
    obtain ⟨rfl, N6q, R6⟩ := hQ6
    have N6 : Fr n0 L6 := by rw [l6]; exact Fr.app N0 N6q
    replace R6 : Rep Z n0 T6.heap ((ax, Obj "com/example/witgen/witgen/regex/Partition" [("elements", "[I", (.ref b1)), ("location", "[I", (.ref b2)), ("blockOf", "[I", (.ref b3)), ("start", "[I", (.ref b4)), ("end", "[I", (.ref b5)), ("marked", "[I", (.ref b6)), ("touched", "[I", (.ref b7)), ("blocks", "I", (.int (Int32.ofNat cnt))), ("touchedCount", "I", (.int (Int32.ofNat tc)))]) :: (b2, Ar .int (nl lo)) :: (b3, Ar .int (nl es)) :: (b4, Ar .int (nl sta)) :: (g0, Ar .long (ll gs0)) :: (ix, Ar .int (nl es)) :: (g1, Ar .long (ll gs1)) :: Rst) := R6
    have pre8 : ∀ t, Steps p.tables e below (T6.setTop (mkF m 450 #[.val (.int xa), .val (.int xb), .val (.int xc), .val (.int (Int32.ofNat bn)), .val (.ref ix), .val (.ref ox), .val (.int (Int32.ofNat pn)), .val (.int (Int32.ofNat mn)), .val (.ref fx), .val (.ref jx), .val (.ref ax), .val (.int mv), .val (.ref g0), .val (.ref g1), .val (.int (Int32.ofNat bn)), .val (.int (((Int32.ofNat bn) ^^^ (-1 : Int32)) &&& (15 : Int32))), .val (.int (1 : Int32))] [(.int (F12 2 lo es sta gs0))])) t → Steps p.tables e below (T0.setTop (mkF m 425 #[.val (.int xa), .val (.int xb), .val (.int xc), .val (.int (Int32.ofNat bn)), .val (.ref ix), .val (.ref ox), .val (.int (Int32.ofNat pn)), .val (.int (Int32.ofNat mn)), .val (.ref fx), .val (.ref jx), .val (.ref ax), .val (.int mv), .val (.ref g0), .val (.ref g1), .val (.int (Int32.ofNat bn)), .val (.int (((Int32.ofNat bn) ^^^ (-1 : Int32)) &&& (15 : Int32))), .val (.int (1 : Int32))] [])) t := fun t k => pre5 t (st6 t k)
    have hb9 : ¬ ((F12 2 lo es sta gs0) = (0 : Int32)) := (by rw [hz0 hz]; decide)
    have pre10 : ∀ t, Steps p.tables e below (T6.setTop (mkF m 460 #[.val (.int xa), .val (.int xb), .val (.int xc), .val (.int (Int32.ofNat bn)), .val (.ref ix), .val (.ref ox), .val (.int (Int32.ofNat pn)), .val (.int (Int32.ofNat mn)), .val (.ref fx), .val (.ref jx), .val (.ref ax), .val (.int mv), .val (.ref g0), .val (.ref g1), .val (.int (Int32.ofNat bn)), .val (.int (((Int32.ofNat bn) ^^^ (-1 : Int32)) &&& (15 : Int32))), .val (.int (1 : Int32))] [])) t → Steps p.tables e below (T0.setTop (mkF m 425 #[.val (.int xa), .val (.int xb), .val (.int xc), .val (.int (Int32.ofNat bn)), .val (.ref ix), .val (.ref ox), .val (.int (Int32.ofNat pn)), .val (.int (Int32.ofNat mn)), .val (.ref fx), .val (.ref jx), .val (.ref ax), .val (.int mv), .val (.ref g0), .val (.ref g1), .val (.int (Int32.ofNat bn)), .val (.int (((Int32.ofNat bn) ^^^ (-1 : Int32)) &&& (15 : Int32))), .val (.int (1 : Int32))] [])) t := fun t k => pre8 t (by
      show Steps p.tables e below (T6.setTop (mkF m 450 #[.val (.int xa), .val (.int xb), .val (.int xc), .val (.int (Int32.ofNat bn)), .val (.ref ix), .val (.ref ox), .val (.int (Int32.ofNat pn)), .val (.int (Int32.ofNat mn)), .val (.ref fx), .val (.ref jx), .val (.ref ax), .val (.int mv), .val (.ref g0), .val (.ref g1), .val (.int (Int32.ofNat bn)), .val (.int (((Int32.ofNat bn) ^^^ (-1 : Int32)) &&& (15 : Int32))), .val (.int (1 : Int32))] [(.int (F12 2 lo es sta gs0))])) _
      refine XS.ifNo X6.here hx rfl (hb hby at_450) rfl ((if0 _ _).trans (feq hb9).1) ?_
      refine XS.iconst X6.here hx rfl (hb hby at_453) ?_
      refine XS.goto X6.here hx rfl (pc0 := 454) (pc' := 458) rfl (hb hby at_454) (by decide) (by decide) ?_
      refine XS.istore X6.here hx rfl (hb hby at_458) rfl (l' := #[.val (.int xa), .val (.int xb), .val (.int xc), .val (.int (Int32.ofNat bn)), .val (.ref ix), .val (.ref ox), .val (.int (Int32.ofNat pn)), .val (.int (Int32.ofNat mn)), .val (.ref fx), .val (.ref jx), .val (.ref ax), .val (.int mv), .val (.ref g0), .val (.ref g1), .val (.int (Int32.ofNat bn)), .val (.int (((Int32.ofNat bn) ^^^ (-1 : Int32)) &&& (15 : Int32))), .val (.int (1 : Int32))]) rfl ?_
      exact k)
    have R11 : Rep Z n0 T6.heap ((ax, Obj "com/example/witgen/witgen/regex/Partition" [("elements", "[I", (.ref b1)), ("location", "[I", (.ref b2)), ("blockOf", "[I", (.ref b3)), ("start", "[I", (.ref b4)), ("end", "[I", (.ref b5)), ("marked", "[I", (.ref b6)), ("touched", "[I", (.ref b7)), ("blocks", "I", (.int (Int32.ofNat cnt))), ("touchedCount", "I", (.int (Int32.ofNat tc)))]) :: (b2, Ar .int (nl lo)) :: (b3, Ar .int (nl es)) :: (b4, Ar .int (nl sta)) :: (ix, Ar .int (nl es)) :: (g0, Ar .long (ll gs0)) :: (g1, Ar .long (ll gs1)) :: Rst) := R6.pick [6, 5, 6, 6, 6, 6, 6] rfl
    exact ⟨T6, _, _, X6, rfl, N6, R11, pre10⟩
  · have pre12 : ∀ t, Steps p.tables e below (T0.setTop (mkF m 445 #[.val (.int xa), .val (.int xb), .val (.int xc), .val (.int (Int32.ofNat bn)), .val (.ref ix), .val (.ref ox), .val (.int (Int32.ofNat pn)), .val (.int (Int32.ofNat mn)), .val (.ref fx), .val (.ref jx), .val (.ref ax), .val (.int mv), .val (.ref g0), .val (.ref g1), .val (.int (Int32.ofNat bn)), .val (.int (((Int32.ofNat bn) ^^^ (-1 : Int32)) &&& (15 : Int32))), .val (.int (1 : Int32))] [(.int (2 : Int32)), (.ref ax)])) t → Steps p.tables e below (T0.setTop (mkF m 425 #[.val (.int xa), .val (.int xb), .val (.int xc), .val (.int (Int32.ofNat bn)), .val (.ref ix), .val (.ref ox), .val (.int (Int32.ofNat pn)), .val (.int (Int32.ofNat mn)), .val (.ref fx), .val (.ref jx), .val (.ref ax), .val (.int mv), .val (.ref g0), .val (.ref g1), .val (.int (Int32.ofNat bn)), .val (.int (((Int32.ofNat bn) ^^^ (-1 : Int32)) &&& (15 : Int32))), .val (.int (1 : Int32))] [])) t := fun t k => pre3 t (by show Steps p.tables e below (T0.setTop (mkF m 437 #[.val (.int xa), .val (.int xb), .val (.int xc), .val (.int (Int32.ofNat bn)), .val (.ref ix), .val (.ref ox), .val (.int (Int32.ofNat pn)), .val (.int (Int32.ofNat mn)), .val (.ref fx), .val (.ref jx), .val (.ref ax), .val (.int mv), .val (.ref g0), .val (.ref g1), .val (.int (Int32.ofNat bn)), .val (.int (((Int32.ofNat bn) ^^^ (-1 : Int32)) &&& (15 : Int32))), .val (.int (1 : Int32))] [(.int (Int32.ofNat (es.getD 2 0))), (.int (2 : Int32)), (.ref ax)])) _; refine XS.ifYes X0.here hx rfl (pc0 := 437) (pc' := 445) rfl (hb hby at_437) rfl ((if0 _ _).trans (feq hz).2) (by decide) (by decide) ?_; exact k)
    have pre13 : ∀ t, Steps p.tables e below (T0.setTop (mkF m 447 #[.val (.int xa), .val (.int xb), .val (.int xc), .val (.int (Int32.ofNat bn)), .val (.ref ix), .val (.ref ox), .val (.int (Int32.ofNat pn)), .val (.int (Int32.ofNat mn)), .val (.ref fx), .val (.ref jx), .val (.ref ax), .val (.int mv), .val (.ref g0), .val (.ref g1), .val (.int (Int32.ofNat bn)), .val (.int (((Int32.ofNat bn) ^^^ (-1 : Int32)) &&& (15 : Int32))), .val (.int (1 : Int32))] [(.ref g1), (.int (2 : Int32)), (.ref ax)])) t → Steps p.tables e below (T0.setTop (mkF m 425 #[.val (.int xa), .val (.int xb), .val (.int xc), .val (.int (Int32.ofNat bn)), .val (.ref ix), .val (.ref ox), .val (.int (Int32.ofNat pn)), .val (.int (Int32.ofNat mn)), .val (.ref fx), .val (.ref jx), .val (.ref ax), .val (.int mv), .val (.ref g0), .val (.ref g1), .val (.int (Int32.ofNat bn)), .val (.int (((Int32.ofNat bn) ^^^ (-1 : Int32)) &&& (15 : Int32))), .val (.int (1 : Int32))] [])) t := fun t k => pre12 t (by
      show Steps p.tables e below (T0.setTop (mkF m 445 #[.val (.int xa), .val (.int xb), .val (.int xc), .val (.int (Int32.ofNat bn)), .val (.ref ix), .val (.ref ox), .val (.int (Int32.ofNat pn)), .val (.int (Int32.ofNat mn)), .val (.ref fx), .val (.ref jx), .val (.ref ax), .val (.int mv), .val (.ref g0), .val (.ref g1), .val (.int (Int32.ofNat bn)), .val (.int (((Int32.ofNat bn) ^^^ (-1 : Int32)) &&& (15 : Int32))), .val (.int (1 : Int32))] [(.int (2 : Int32)), (.ref ax)])) _
      refine XS.aload X0.here hx rfl (hb hby at_445) rfl rfl ?_
      exact k)
    have R15 : Rep Z n0 h0 ((ax, Obj "com/example/witgen/witgen/regex/Partition" [("elements", "[I", (.ref b1)), ("location", "[I", (.ref b2)), ("blockOf", "[I", (.ref b3)), ("start", "[I", (.ref b4)), ("end", "[I", (.ref b5)), ("marked", "[I", (.ref b6)), ("touched", "[I", (.ref b7)), ("blocks", "I", (.int (Int32.ofNat cnt))), ("touchedCount", "I", (.int (Int32.ofNat tc)))]) :: (b2, Ar .int (nl lo)) :: (b3, Ar .int (nl es)) :: (b4, Ar .int (nl sta)) :: (g1, Ar .long (ll gs1)) :: (ix, Ar .int (nl es)) :: (g0, Ar .long (ll gs0)) :: Rst) := R0.pick [6, 4, 4, 4, 4] rfl
    obtain ⟨_, _, ⟨T14, L14, k14, n14⟩, -, X14, ⟨Lc14, hQ14, l14, y14, z14⟩, st14⟩ := Jvm.LawKit.callS X0 hx (y := (⟨"com/example/witgen/witgen/regex/PartitionMarkPinLaw", "firstOk", "(Lcom/example/witgen/witgen/regex/Partition;I[J)Z"⟩ : MethodName)) hown (mvT hZ (hw _ (List.mem_of_getElem? (i := 80) rfl))) (mvT hZ (hw _ (List.mem_of_getElem? (i := 81) rfl))) (mvT hZ (hw _ (List.mem_of_getElem? (i := 4) rfl))) (mvT hZ (hw _ (List.mem_of_getElem? (i := 82) rfl))) (by decide) (backOf (W := 0) (rm12 l Z a0 hw [] ax 2 g1 _ _ _ _ _ _ _ _ _ _ _ _ _ h0 n0 _ R15 (p1) (by decide) (p3) (p4) (p5) (hl1)) hZ (hw _ (List.mem_of_getElem? (i := 82) rfl)) (hw _ (List.mem_of_getElem? (i := 4) rfl)) (by decide) (by decide)) (g := (mkF m 447 #[.val (.int xa), .val (.int xb), .val (.int xc), .val (.int (Int32.ofNat bn)), .val (.ref ix), .val (.ref ox), .val (.int (Int32.ofNat pn)), .val (.int (Int32.ofNat mn)), .val (.ref fx), .val (.ref jx), .val (.ref ax), .val (.int mv), .val (.ref g0), .val (.ref g1), .val (.int (Int32.ofNat bn)), .val (.int (((Int32.ofNat bn) ^^^ (-1 : Int32)) &&& (15 : Int32))), .val (.int (1 : Int32))] [(.ref g1), (.int (2 : Int32)), (.ref ax)])) rfl (by rw [hml]; rfl) (argsL := [(.ref ax), (.int (2 : Int32)), (.ref g1)]) (rest := []) (lenOf pd__28Lcom_2fexample_2fwitgen_2fwitgen_2fregex_2fPartition_3bI_5bJ_29Z rfl) rfl (by show 2 * 0 + _ ≤ _; exact Nat.le_of_eq rfl) (hb hby at_447) (fun _ _ => ⟨rfl, e0, (by decide : 15 + 0 ≤ _), (by decide : 86 + 0 ≤ _)⟩)
    dsimp only [Pt.U, Pt.locs, Pt.cells, Pt.slots] at X14 l14 y14 z14 st14 hQ14
    subst y14 z14
    obtain ⟨rfl, N14q, R14⟩ := hQ14
    have N14 : Fr n0 L14 := by rw [l14]; exact Fr.app N0 N14q
    replace R14 : Rep Z n0 T14.heap ((ax, Obj "com/example/witgen/witgen/regex/Partition" [("elements", "[I", (.ref b1)), ("location", "[I", (.ref b2)), ("blockOf", "[I", (.ref b3)), ("start", "[I", (.ref b4)), ("end", "[I", (.ref b5)), ("marked", "[I", (.ref b6)), ("touched", "[I", (.ref b7)), ("blocks", "I", (.int (Int32.ofNat cnt))), ("touchedCount", "I", (.int (Int32.ofNat tc)))]) :: (b2, Ar .int (nl lo)) :: (b3, Ar .int (nl es)) :: (b4, Ar .int (nl sta)) :: (g1, Ar .long (ll gs1)) :: (ix, Ar .int (nl es)) :: (g0, Ar .long (ll gs0)) :: Rst) := R14
    have pre16 : ∀ t, Steps p.tables e below (T14.setTop (mkF m 450 #[.val (.int xa), .val (.int xb), .val (.int xc), .val (.int (Int32.ofNat bn)), .val (.ref ix), .val (.ref ox), .val (.int (Int32.ofNat pn)), .val (.int (Int32.ofNat mn)), .val (.ref fx), .val (.ref jx), .val (.ref ax), .val (.int mv), .val (.ref g0), .val (.ref g1), .val (.int (Int32.ofNat bn)), .val (.int (((Int32.ofNat bn) ^^^ (-1 : Int32)) &&& (15 : Int32))), .val (.int (1 : Int32))] [(.int (F12 2 lo es sta gs1))])) t → Steps p.tables e below (T0.setTop (mkF m 425 #[.val (.int xa), .val (.int xb), .val (.int xc), .val (.int (Int32.ofNat bn)), .val (.ref ix), .val (.ref ox), .val (.int (Int32.ofNat pn)), .val (.int (Int32.ofNat mn)), .val (.ref fx), .val (.ref jx), .val (.ref ax), .val (.int mv), .val (.ref g0), .val (.ref g1), .val (.int (Int32.ofNat bn)), .val (.int (((Int32.ofNat bn) ^^^ (-1 : Int32)) &&& (15 : Int32))), .val (.int (1 : Int32))] [])) t := fun t k => pre13 t (st14 t k)
    have hb17 : ¬ ((F12 2 lo es sta gs1) = (0 : Int32)) := (by rw [hz1 hz]; decide)
    have pre18 : ∀ t, Steps p.tables e below (T14.setTop (mkF m 460 #[.val (.int xa), .val (.int xb), .val (.int xc), .val (.int (Int32.ofNat bn)), .val (.ref ix), .val (.ref ox), .val (.int (Int32.ofNat pn)), .val (.int (Int32.ofNat mn)), .val (.ref fx), .val (.ref jx), .val (.ref ax), .val (.int mv), .val (.ref g0), .val (.ref g1), .val (.int (Int32.ofNat bn)), .val (.int (((Int32.ofNat bn) ^^^ (-1 : Int32)) &&& (15 : Int32))), .val (.int (1 : Int32))] [])) t → Steps p.tables e below (T0.setTop (mkF m 425 #[.val (.int xa), .val (.int xb), .val (.int xc), .val (.int (Int32.ofNat bn)), .val (.ref ix), .val (.ref ox), .val (.int (Int32.ofNat pn)), .val (.int (Int32.ofNat mn)), .val (.ref fx), .val (.ref jx), .val (.ref ax), .val (.int mv), .val (.ref g0), .val (.ref g1), .val (.int (Int32.ofNat bn)), .val (.int (((Int32.ofNat bn) ^^^ (-1 : Int32)) &&& (15 : Int32))), .val (.int (1 : Int32))] [])) t := fun t k => pre16 t (by
      show Steps p.tables e below (T14.setTop (mkF m 450 #[.val (.int xa), .val (.int xb), .val (.int xc), .val (.int (Int32.ofNat bn)), .val (.ref ix), .val (.ref ox), .val (.int (Int32.ofNat pn)), .val (.int (Int32.ofNat mn)), .val (.ref fx), .val (.ref jx), .val (.ref ax), .val (.int mv), .val (.ref g0), .val (.ref g1), .val (.int (Int32.ofNat bn)), .val (.int (((Int32.ofNat bn) ^^^ (-1 : Int32)) &&& (15 : Int32))), .val (.int (1 : Int32))] [(.int (F12 2 lo es sta gs1))])) _
      refine XS.ifNo X14.here hx rfl (hb hby at_450) rfl ((if0 _ _).trans (feq hb17).1) ?_
      refine XS.iconst X14.here hx rfl (hb hby at_453) ?_
      refine XS.goto X14.here hx rfl (pc0 := 454) (pc' := 458) rfl (hb hby at_454) (by decide) (by decide) ?_
      refine XS.istore X14.here hx rfl (hb hby at_458) rfl (l' := #[.val (.int xa), .val (.int xb), .val (.int xc), .val (.int (Int32.ofNat bn)), .val (.ref ix), .val (.ref ox), .val (.int (Int32.ofNat pn)), .val (.int (Int32.ofNat mn)), .val (.ref fx), .val (.ref jx), .val (.ref ax), .val (.int mv), .val (.ref g0), .val (.ref g1), .val (.int (Int32.ofNat bn)), .val (.int (((Int32.ofNat bn) ^^^ (-1 : Int32)) &&& (15 : Int32))), .val (.int (1 : Int32))]) rfl ?_
      exact k)
    have R19 : Rep Z n0 T14.heap ((ax, Obj "com/example/witgen/witgen/regex/Partition" [("elements", "[I", (.ref b1)), ("location", "[I", (.ref b2)), ("blockOf", "[I", (.ref b3)), ("start", "[I", (.ref b4)), ("end", "[I", (.ref b5)), ("marked", "[I", (.ref b6)), ("touched", "[I", (.ref b7)), ("blocks", "I", (.int (Int32.ofNat cnt))), ("touchedCount", "I", (.int (Int32.ofNat tc)))]) :: (b2, Ar .int (nl lo)) :: (b3, Ar .int (nl es)) :: (b4, Ar .int (nl sta)) :: (ix, Ar .int (nl es)) :: (g0, Ar .long (ll gs0)) :: (g1, Ar .long (ll gs1)) :: Rst) := R14.pick [4, 6, 6, 6, 6, 6, 6] rfl
    exact ⟨T14, _, _, X14, rfl, N14, R19, pre18⟩
set_option maxRecDepth 65536 in
set_option maxHeartbeats 40000000 in
theorem tf_3 {p : Program} {l : Launch} {e : Env} {s : State} {m : MethodId} {args : Array Value} {below : List Frame} {meth : Method} {c : Code} {T0 : State} {locs : List Loc} {Z : State} {a0 : Array Value} {h0 : Heap} {n0 : Nat} {Rst : RL} (xa : Int32) (xb : Int32) (xc : Int32) (bn : Nat) (pn : Nat) (mn : Nat) (ix : Addr) (ox : Addr) (fx : Addr) (jx : Addr) (ax : Addr) (b1 : Addr) (b2 : Addr) (b3 : Addr) (b4 : Addr) (b5 : Addr) (b6 : Addr) (b7 : Addr) (cnt : Nat) (tc : Nat) (lo : List Nat) (es : List Nat) (sta : List Nat) (mv : Int32) (g0 : Addr) (g1 : Addr) (gs0 : List Nat) (gs1 : List Nat)
    (X0 : Stand p l e room_1 s m args below meth c T0 locs 15 86) (hx : p.tables.exec = Jvm.exec) (hZ : Z.Warmed39 s.vm) (hw : ∀ d ∈ tables_1, d.before a0 Z = true) (hby : c.code = code) (hml : c.maxLocals = 17) (hown : s.vm.findClass "com/example/witgen/witgen/regex/PartitionMarkPinLaw" = some m.cls) (e0 : T0.heap = h0) (N0 : Fr n0 locs) (R0 : Rep Z n0 h0 ((ax, Obj "com/example/witgen/witgen/regex/Partition" [("elements", "[I", (.ref b1)), ("location", "[I", (.ref b2)), ("blockOf", "[I", (.ref b3)), ("start", "[I", (.ref b4)), ("end", "[I", (.ref b5)), ("marked", "[I", (.ref b6)), ("touched", "[I", (.ref b7)), ("blocks", "I", (.int (Int32.ofNat cnt))), ("touchedCount", "I", (.int (Int32.ofNat tc)))]) :: (b2, Ar .int (nl lo)) :: (b3, Ar .int (nl es)) :: (b4, Ar .int (nl sta)) :: (ix, Ar .int (nl es)) :: (g0, Ar .long (ll gs0)) :: (g1, Ar .long (ll gs1)) :: Rst)) (hz0 : (Int32.ofNat (es.getD 3 0)) = (0 : Int32) → F12 3 lo es sta gs0 = 1) (hz1 : ¬ ((Int32.ofNat (es.getD 3 0)) = (0 : Int32)) → F12 3 lo es sta gs1 = 1) (p1 : 3 < lo.length) (p3 : 3 < es.length) (p4 : es.getD 3 0 < sta.length) (p5 : es.getD 3 0 < 1000) (hl0 : gs0.length < 1000) (hl1 : gs1.length < 1000) :
    ∃ (T' : State) (h' : Heap) (locs' : List Loc), Stand p l e room_1 s m args below meth c T' locs' 15 86 ∧ T'.heap = h' ∧ Fr n0 locs' ∧ Rep Z n0 h' ((ax, Obj "com/example/witgen/witgen/regex/Partition" [("elements", "[I", (.ref b1)), ("location", "[I", (.ref b2)), ("blockOf", "[I", (.ref b3)), ("start", "[I", (.ref b4)), ("end", "[I", (.ref b5)), ("marked", "[I", (.ref b6)), ("touched", "[I", (.ref b7)), ("blocks", "I", (.int (Int32.ofNat cnt))), ("touchedCount", "I", (.int (Int32.ofNat tc)))]) :: (b2, Ar .int (nl lo)) :: (b3, Ar .int (nl es)) :: (b4, Ar .int (nl sta)) :: (ix, Ar .int (nl es)) :: (g0, Ar .long (ll gs0)) :: (g1, Ar .long (ll gs1)) :: Rst) ∧ ∀ t, Steps p.tables e below (T'.setTop (mkF m 495 #[.val (.int xa), .val (.int xb), .val (.int xc), .val (.int (Int32.ofNat bn)), .val (.ref ix), .val (.ref ox), .val (.int (Int32.ofNat pn)), .val (.int (Int32.ofNat mn)), .val (.ref fx), .val (.ref jx), .val (.ref ax), .val (.int mv), .val (.ref g0), .val (.ref g1), .val (.int (Int32.ofNat bn)), .val (.int (((Int32.ofNat bn) ^^^ (-1 : Int32)) &&& (15 : Int32))), .val (.int (1 : Int32))] [])) t → Steps p.tables e below (T0.setTop (mkF m 460 #[.val (.int xa), .val (.int xb), .val (.int xc), .val (.int (Int32.ofNat bn)), .val (.ref ix), .val (.ref ox), .val (.int (Int32.ofNat pn)), .val (.int (Int32.ofNat mn)), .val (.ref fx), .val (.ref jx), .val (.ref ax), .val (.int mv), .val (.ref g0), .val (.ref g1), .val (.int (Int32.ofNat bn)), .val (.int (((Int32.ofNat bn) ^^^ (-1 : Int32)) &&& (15 : Int32))), .val (.int (1 : Int32))] [])) t := by
  have pre0 : ∀ t, Steps p.tables e below (T0.setTop (mkF m 460 #[.val (.int xa), .val (.int xb), .val (.int xc), .val (.int (Int32.ofNat bn)), .val (.ref ix), .val (.ref ox), .val (.int (Int32.ofNat pn)), .val (.int (Int32.ofNat mn)), .val (.ref fx), .val (.ref jx), .val (.ref ax), .val (.int mv), .val (.ref g0), .val (.ref g1), .val (.int (Int32.ofNat bn)), .val (.int (((Int32.ofNat bn) ^^^ (-1 : Int32)) &&& (15 : Int32))), .val (.int (1 : Int32))] [])) t → Steps p.tables e below (T0.setTop (mkF m 460 #[.val (.int xa), .val (.int xb), .val (.int xc), .val (.int (Int32.ofNat bn)), .val (.ref ix), .val (.ref ox), .val (.int (Int32.ofNat pn)), .val (.int (Int32.ofNat mn)), .val (.ref fx), .val (.ref jx), .val (.ref ax), .val (.int mv), .val (.ref g0), .val (.ref g1), .val (.int (Int32.ofNat bn)), .val (.int (((Int32.ofNat bn) ^^^ (-1 : Int32)) &&& (15 : Int32))), .val (.int (1 : Int32))] [])) t := fun t k => k
  have pre2 : ∀ t, Steps p.tables e below (T0.setTop (mkF m 462 #[.val (.int xa), .val (.int xb), .val (.int xc), .val (.int (Int32.ofNat bn)), .val (.ref ix), .val (.ref ox), .val (.int (Int32.ofNat pn)), .val (.int (Int32.ofNat mn)), .val (.ref fx), .val (.ref jx), .val (.ref ax), .val (.int mv), .val (.ref g0), .val (.ref g1), .val (.int (Int32.ofNat bn)), .val (.int (((Int32.ofNat bn) ^^^ (-1 : Int32)) &&& (15 : Int32))), .val (.int (1 : Int32))] [(.int (1 : Int32))])) t → Steps p.tables e below (T0.setTop (mkF m 460 #[.val (.int xa), .val (.int xb), .val (.int xc), .val (.int (Int32.ofNat bn)), .val (.ref ix), .val (.ref ox), .val (.int (Int32.ofNat pn)), .val (.int (Int32.ofNat mn)), .val (.ref fx), .val (.ref jx), .val (.ref ax), .val (.int mv), .val (.ref g0), .val (.ref g1), .val (.int (Int32.ofNat bn)), .val (.int (((Int32.ofNat bn) ^^^ (-1 : Int32)) &&& (15 : Int32))), .val (.int (1 : Int32))] [])) t := fun t k => pre0 t (by
    show Steps p.tables e below (T0.setTop (mkF m 460 #[.val (.int xa), .val (.int xb), .val (.int xc), .val (.int (Int32.ofNat bn)), .val (.ref ix), .val (.ref ox), .val (.int (Int32.ofNat pn)), .val (.int (Int32.ofNat mn)), .val (.ref fx), .val (.ref jx), .val (.ref ax), .val (.int mv), .val (.ref g0), .val (.ref g1), .val (.int (Int32.ofNat bn)), .val (.int (((Int32.ofNat bn) ^^^ (-1 : Int32)) &&& (15 : Int32))), .val (.int (1 : Int32))] [])) _
    refine XS.iload X0.here hx rfl (hb hby at_460) rfl ?_
    exact k)
  have hb1 : ¬ ((1 : Int32) = (0 : Int32)) := (by decide)
  have pre3 : ∀ t, Steps p.tables e below (T0.setTop (mkF m 472 #[.val (.int xa), .val (.int xb), .val (.int xc), .val (.int (Int32.ofNat bn)), .val (.ref ix), .val (.ref ox), .val (.int (Int32.ofNat pn)), .val (.int (Int32.ofNat mn)), .val (.ref fx), .val (.ref jx), .val (.ref ax), .val (.int mv), .val (.ref g0), .val (.ref g1), .val (.int (Int32.ofNat bn)), .val (.int (((Int32.ofNat bn) ^^^ (-1 : Int32)) &&& (15 : Int32))), .val (.int (1 : Int32))] [(.int (Int32.ofNat (es.getD 3 0))), (.int (3 : Int32)), (.ref ax)])) t → Steps p.tables e below (T0.setTop (mkF m 460 #[.val (.int xa), .val (.int xb), .val (.int xc), .val (.int (Int32.ofNat bn)), .val (.ref ix), .val (.ref ox), .val (.int (Int32.ofNat pn)), .val (.int (Int32.ofNat mn)), .val (.ref fx), .val (.ref jx), .val (.ref ax), .val (.int mv), .val (.ref g0), .val (.ref g1), .val (.int (Int32.ofNat bn)), .val (.int (((Int32.ofNat bn) ^^^ (-1 : Int32)) &&& (15 : Int32))), .val (.int (1 : Int32))] [])) t := fun t k => pre2 t (by
    show Steps p.tables e below (T0.setTop (mkF m 462 #[.val (.int xa), .val (.int xb), .val (.int xc), .val (.int (Int32.ofNat bn)), .val (.ref ix), .val (.ref ox), .val (.int (Int32.ofNat pn)), .val (.int (Int32.ofNat mn)), .val (.ref fx), .val (.ref jx), .val (.ref ax), .val (.int mv), .val (.ref g0), .val (.ref g1), .val (.int (Int32.ofNat bn)), .val (.int (((Int32.ofNat bn) ^^^ (-1 : Int32)) &&& (15 : Int32))), .val (.int (1 : Int32))] [(.int (1 : Int32))])) _
    refine XS.ifNo X0.here hx rfl (hb hby at_462) rfl ((if0 _ _).trans (feq hb1).1) ?_
    refine XS.aload X0.here hx rfl (hb hby at_465) rfl rfl ?_
    refine XS.iconst X0.here hx rfl (hb hby at_467) ?_
    refine XS.aload X0.here hx rfl (hb hby at_468) rfl rfl ?_
    refine XS.iconst X0.here hx rfl (hb hby at_470) ?_
    refine gIald X0 hx hZ e0 R0 4 rfl (j := (Int32.ofNat 3)) (v := (.int (Int32.ofNat (es.getD 3 0)))) (n_nn (by decide)) (nl_at (p3) (by decide)) (g := (mkF m 471 #[.val (.int xa), .val (.int xb), .val (.int xc), .val (.int (Int32.ofNat bn)), .val (.ref ix), .val (.ref ox), .val (.int (Int32.ofNat pn)), .val (.int (Int32.ofNat mn)), .val (.ref fx), .val (.ref jx), .val (.ref ax), .val (.int mv), .val (.ref g0), .val (.ref g1), .val (.int (Int32.ofNat bn)), .val (.int (((Int32.ofNat bn) ^^^ (-1 : Int32)) &&& (15 : Int32))), .val (.int (1 : Int32))] [(.int (3 : Int32)), (.ref ix), (.int (3 : Int32)), (.ref ax)])) rfl rfl (hb hby at_471) _ ?_
    exact k)
  by_cases hz : (Int32.ofNat (es.getD 3 0)) = (0 : Int32)
  · have pre4 : ∀ t, Steps p.tables e below (T0.setTop (mkF m 475 #[.val (.int xa), .val (.int xb), .val (.int xc), .val (.int (Int32.ofNat bn)), .val (.ref ix), .val (.ref ox), .val (.int (Int32.ofNat pn)), .val (.int (Int32.ofNat mn)), .val (.ref fx), .val (.ref jx), .val (.ref ax), .val (.int mv), .val (.ref g0), .val (.ref g1), .val (.int (Int32.ofNat bn)), .val (.int (((Int32.ofNat bn) ^^^ (-1 : Int32)) &&& (15 : Int32))), .val (.int (1 : Int32))] [(.int (3 : Int32)), (.ref ax)])) t → Steps p.tables e below (T0.setTop (mkF m 460 #[.val (.int xa), .val (.int xb), .val (.int xc), .val (.int (Int32.ofNat bn)), .val (.ref ix), .val (.ref ox), .val (.int (Int32.ofNat pn)), .val (.int (Int32.ofNat mn)), .val (.ref fx), .val (.ref jx), .val (.ref ax), .val (.int mv), .val (.ref g0), .val (.ref g1), .val (.int (Int32.ofNat bn)), .val (.int (((Int32.ofNat bn) ^^^ (-1 : Int32)) &&& (15 : Int32))), .val (.int (1 : Int32))] [])) t := fun t k => pre3 t (by show Steps p.tables e below (T0.setTop (mkF m 472 #[.val (.int xa), .val (.int xb), .val (.int xc), .val (.int (Int32.ofNat bn)), .val (.ref ix), .val (.ref ox), .val (.int (Int32.ofNat pn)), .val (.int (Int32.ofNat mn)), .val (.ref fx), .val (.ref jx), .val (.ref ax), .val (.int mv), .val (.ref g0), .val (.ref g1), .val (.int (Int32.ofNat bn)), .val (.int (((Int32.ofNat bn) ^^^ (-1 : Int32)) &&& (15 : Int32))), .val (.int (1 : Int32))] [(.int (Int32.ofNat (es.getD 3 0))), (.int (3 : Int32)), (.ref ax)])) _; refine XS.ifNo X0.here hx rfl (hb hby at_472) rfl ((if0 _ _).trans (teq hz).2) ?_; exact k)
    have pre5 : ∀ t, Steps p.tables e below (T0.setTop (mkF m 482 #[.val (.int xa), .val (.int xb), .val (.int xc), .val (.int (Int32.ofNat bn)), .val (.ref ix), .val (.ref ox), .val (.int (Int32.ofNat pn)), .val (.int (Int32.ofNat mn)), .val (.ref fx), .val (.ref jx), .val (.ref ax), .val (.int mv), .val (.ref g0), .val (.ref g1), .val (.int (Int32.ofNat bn)), .val (.int (((Int32.ofNat bn) ^^^ (-1 : Int32)) &&& (15 : Int32))), .val (.int (1 : Int32))] [(.ref g0), (.int (3 : Int32)), (.ref ax)])) t → Steps p.tables e below (T0.setTop (mkF m 460 #[.val (.int xa), .val (.int xb), .val (.int xc), .val (.int (Int32.ofNat bn)), .val (.ref ix), .val (.ref ox), .val (.int (Int32.ofNat pn)), .val (.int (Int32.ofNat mn)), .val (.ref fx), .val (.ref jx), .val (.ref ax), .val (.int mv), .val (.ref g0), .val (.ref g1), .val (.int (Int32.ofNat bn)), .val (.int (((Int32.ofNat bn) ^^^ (-1 : Int32)) &&& (15 : Int32))), .val (.int (1 : Int32))] [])) t := fun t k => pre4 t (by
      show Steps p.tables e below (T0.setTop (mkF m 475 #[.val (.int xa), .val (.int xb), .val (.int xc), .val (.int (Int32.ofNat bn)), .val (.ref ix), .val (.ref ox), .val (.int (Int32.ofNat pn)), .val (.int (Int32.ofNat mn)), .val (.ref fx), .val (.ref jx), .val (.ref ax), .val (.int mv), .val (.ref g0), .val (.ref g1), .val (.int (Int32.ofNat bn)), .val (.int (((Int32.ofNat bn) ^^^ (-1 : Int32)) &&& (15 : Int32))), .val (.int (1 : Int32))] [(.int (3 : Int32)), (.ref ax)])) _
      refine XS.aload X0.here hx rfl (hb hby at_475) rfl rfl ?_
      refine XS.goto X0.here hx rfl (pc0 := 477) (pc' := 482) rfl (hb hby at_477) (by decide) (by decide) ?_
      exact k)
    have R7 : Rep Z n0 h0 ((ax, Obj "com/example/witgen/witgen/regex/Partition" [("elements", "[I", (.ref b1)), ("location", "[I", (.ref b2)), ("blockOf", "[I", (.ref b3)), ("start", "[I", (.ref b4)), ("end", "[I", (.ref b5)), ("marked", "[I", (.ref b6)), ("touched", "[I", (.ref b7)), ("blocks", "I", (.int (Int32.ofNat cnt))), ("touchedCount", "I", (.int (Int32.ofNat tc)))]) :: (b2, Ar .int (nl lo)) :: (b3, Ar .int (nl es)) :: (b4, Ar .int (nl sta)) :: (g0, Ar .long (ll gs0)) :: (ix, Ar .int (nl es)) :: (g1, Ar .long (ll gs1)) :: Rst) := R0.pick [5, 4, 4, 4, 4] rfl
    obtain ⟨_, _, ⟨T6, L6, k6, n6⟩, -, X6, ⟨Lc6, hQ6, l6, y6, z6⟩, st6⟩ := Jvm.LawKit.callS X0 hx (y := (⟨"com/example/witgen/witgen/regex/PartitionMarkPinLaw", "firstOk", "(Lcom/example/witgen/witgen/regex/Partition;I[J)Z"⟩ : MethodName)) hown (mvT hZ (hw _ (List.mem_of_getElem? (i := 80) rfl))) (mvT hZ (hw _ (List.mem_of_getElem? (i := 81) rfl))) (mvT hZ (hw _ (List.mem_of_getElem? (i := 4) rfl))) (mvT hZ (hw _ (List.mem_of_getElem? (i := 82) rfl))) (by decide) (backOf (W := 0) (rm12 l Z a0 hw [] ax 3 g0 _ _ _ _ _ _ _ _ _ _ _ _ _ h0 n0 _ R7 (p1) (by decide) (p3) (p4) (p5) (hl0)) hZ (hw _ (List.mem_of_getElem? (i := 82) rfl)) (hw _ (List.mem_of_getElem? (i := 4) rfl)) (by decide) (by decide)) (g := (mkF m 482 #[.val (.int xa), .val (.int xb), .val (.int xc), .val (.int (Int32.ofNat bn)), .val (.ref ix), .val (.ref ox), .val (.int (Int32.ofNat pn)), .val (.int (Int32.ofNat mn)), .val (.ref fx), .val (.ref jx), .val (.ref ax), .val (.int mv), .val (.ref g0), .val (.ref g1), .val (.int (Int32.ofNat bn)), .val (.int (((Int32.ofNat bn) ^^^ (-1 : Int32)) &&& (15 : Int32))), .val (.int (1 : Int32))] [(.ref g0), (.int (3 : Int32)), (.ref ax)])) rfl (by rw [hml]; rfl) (argsL := [(.ref ax), (.int (3 : Int32)), (.ref g0)]) (rest := []) (lenOf pd__28Lcom_2fexample_2fwitgen_2fwitgen_2fregex_2fPartition_3bI_5bJ_29Z rfl) rfl (by show 2 * 0 + _ ≤ _; exact Nat.le_of_eq rfl) (hb hby at_482) (fun _ _ => ⟨rfl, e0, (by decide : 15 + 0 ≤ _), (by decide : 86 + 0 ≤ _)⟩)
    dsimp only [Pt.U, Pt.locs, Pt.cells, Pt.slots] at X6 l6 y6 z6 st6 hQ6
    subst y6 z6
    obtain ⟨rfl, N6q, R6⟩ := hQ6
    have N6 : Fr n0 L6 := by rw [l6]; exact Fr.app N0 N6q
    replace R6 : Rep Z n0 T6.heap ((ax, Obj "com/example/witgen/witgen/regex/Partition" [("elements", "[I", (.ref b1)), ("location", "[I", (.ref b2)), ("blockOf", "[I", (.ref b3)), ("start", "[I", (.ref b4)), ("end", "[I", (.ref b5)), ("marked", "[I", (.ref b6)), ("touched", "[I", (.ref b7)), ("blocks", "I", (.int (Int32.ofNat cnt))), ("touchedCount", "I", (.int (Int32.ofNat tc)))]) :: (b2, Ar .int (nl lo)) :: (b3, Ar .int (nl es)) :: (b4, Ar .int (nl sta)) :: (g0, Ar .long (ll gs0)) :: (ix, Ar .int (nl es)) :: (g1, Ar .long (ll gs1)) :: Rst) := R6
    have pre8 : ∀ t, Steps p.tables e below (T6.setTop (mkF m 485 #[.val (.int xa), .val (.int xb), .val (.int xc), .val (.int (Int32.ofNat bn)), .val (.ref ix), .val (.ref ox), .val (.int (Int32.ofNat pn)), .val (.int (Int32.ofNat mn)), .val (.ref fx), .val (.ref jx), .val (.ref ax), .val (.int mv), .val (.ref g0), .val (.ref g1), .val (.int (Int32.ofNat bn)), .val (.int (((Int32.ofNat bn) ^^^ (-1 : Int32)) &&& (15 : Int32))), .val (.int (1 : Int32))] [(.int (F12 3 lo es sta gs0))])) t → Steps p.tables e below (T0.setTop (mkF m 460 #[.val (.int xa), .val (.int xb), .val (.int xc), .val (.int (Int32.ofNat bn)), .val (.ref ix), .val (.ref ox), .val (.int (Int32.ofNat pn)), .val (.int (Int32.ofNat mn)), .val (.ref fx), .val (.ref jx), .val (.ref ax), .val (.int mv), .val (.ref g0), .val (.ref g1), .val (.int (Int32.ofNat bn)), .val (.int (((Int32.ofNat bn) ^^^ (-1 : Int32)) &&& (15 : Int32))), .val (.int (1 : Int32))] [])) t := fun t k => pre5 t (st6 t k)
    have hb9 : ¬ ((F12 3 lo es sta gs0) = (0 : Int32)) := (by rw [hz0 hz]; decide)
    have pre10 : ∀ t, Steps p.tables e below (T6.setTop (mkF m 495 #[.val (.int xa), .val (.int xb), .val (.int xc), .val (.int (Int32.ofNat bn)), .val (.ref ix), .val (.ref ox), .val (.int (Int32.ofNat pn)), .val (.int (Int32.ofNat mn)), .val (.ref fx), .val (.ref jx), .val (.ref ax), .val (.int mv), .val (.ref g0), .val (.ref g1), .val (.int (Int32.ofNat bn)), .val (.int (((Int32.ofNat bn) ^^^ (-1 : Int32)) &&& (15 : Int32))), .val (.int (1 : Int32))] [])) t → Steps p.tables e below (T0.setTop (mkF m 460 #[.val (.int xa), .val (.int xb), .val (.int xc), .val (.int (Int32.ofNat bn)), .val (.ref ix), .val (.ref ox), .val (.int (Int32.ofNat pn)), .val (.int (Int32.ofNat mn)), .val (.ref fx), .val (.ref jx), .val (.ref ax), .val (.int mv), .val (.ref g0), .val (.ref g1), .val (.int (Int32.ofNat bn)), .val (.int (((Int32.ofNat bn) ^^^ (-1 : Int32)) &&& (15 : Int32))), .val (.int (1 : Int32))] [])) t := fun t k => pre8 t (by
      show Steps p.tables e below (T6.setTop (mkF m 485 #[.val (.int xa), .val (.int xb), .val (.int xc), .val (.int (Int32.ofNat bn)), .val (.ref ix), .val (.ref ox), .val (.int (Int32.ofNat pn)), .val (.int (Int32.ofNat mn)), .val (.ref fx), .val (.ref jx), .val (.ref ax), .val (.int mv), .val (.ref g0), .val (.ref g1), .val (.int (Int32.ofNat bn)), .val (.int (((Int32.ofNat bn) ^^^ (-1 : Int32)) &&& (15 : Int32))), .val (.int (1 : Int32))] [(.int (F12 3 lo es sta gs0))])) _
      refine XS.ifNo X6.here hx rfl (hb hby at_485) rfl ((if0 _ _).trans (feq hb9).1) ?_
      refine XS.iconst X6.here hx rfl (hb hby at_488) ?_
      refine XS.goto X6.here hx rfl (pc0 := 489) (pc' := 493) rfl (hb hby at_489) (by decide) (by decide) ?_
      refine XS.istore X6.here hx rfl (hb hby at_493) rfl (l' := #[.val (.int xa), .val (.int xb), .val (.int xc), .val (.int (Int32.ofNat bn)), .val (.ref ix), .val (.ref ox), .val (.int (Int32.ofNat pn)), .val (.int (Int32.ofNat mn)), .val (.ref fx), .val (.ref jx), .val (.ref ax), .val (.int mv), .val (.ref g0), .val (.ref g1), .val (.int (Int32.ofNat bn)), .val (.int (((Int32.ofNat bn) ^^^ (-1 : Int32)) &&& (15 : Int32))), .val (.int (1 : Int32))]) rfl ?_
      exact k)
    have R11 : Rep Z n0 T6.heap ((ax, Obj "com/example/witgen/witgen/regex/Partition" [("elements", "[I", (.ref b1)), ("location", "[I", (.ref b2)), ("blockOf", "[I", (.ref b3)), ("start", "[I", (.ref b4)), ("end", "[I", (.ref b5)), ("marked", "[I", (.ref b6)), ("touched", "[I", (.ref b7)), ("blocks", "I", (.int (Int32.ofNat cnt))), ("touchedCount", "I", (.int (Int32.ofNat tc)))]) :: (b2, Ar .int (nl lo)) :: (b3, Ar .int (nl es)) :: (b4, Ar .int (nl sta)) :: (ix, Ar .int (nl es)) :: (g0, Ar .long (ll gs0)) :: (g1, Ar .long (ll gs1)) :: Rst) := R6.pick [6, 5, 6, 6, 6, 6, 6] rfl
    exact ⟨T6, _, _, X6, rfl, N6, R11, pre10⟩
  · have pre12 : ∀ t, Steps p.tables e below (T0.setTop (mkF m 480 #[.val (.int xa), .val (.int xb), .val (.int xc), .val (.int (Int32.ofNat bn)), .val (.ref ix), .val (.ref ox), .val (.int (Int32.ofNat pn)), .val (.int (Int32.ofNat mn)), .val (.ref fx), .val (.ref jx), .val (.ref ax), .val (.int mv), .val (.ref g0), .val (.ref g1), .val (.int (Int32.ofNat bn)), .val (.int (((Int32.ofNat bn) ^^^ (-1 : Int32)) &&& (15 : Int32))), .val (.int (1 : Int32))] [(.int (3 : Int32)), (.ref ax)])) t → Steps p.tables e below (T0.setTop (mkF m 460 #[.val (.int xa), .val (.int xb), .val (.int xc), .val (.int (Int32.ofNat bn)), .val (.ref ix), .val (.ref ox), .val (.int (Int32.ofNat pn)), .val (.int (Int32.ofNat mn)), .val (.ref fx), .val (.ref jx), .val (.ref ax), .val (.int mv), .val (.ref g0), .val (.ref g1), .val (.int (Int32.ofNat bn)), .val (.int (((Int32.ofNat bn) ^^^ (-1 : Int32)) &&& (15 : Int32))), .val (.int (1 : Int32))] [])) t := fun t k => pre3 t (by show Steps p.tables e below (T0.setTop (mkF m 472 #[.val (.int xa), .val (.int xb), .val (.int xc), .val (.int (Int32.ofNat bn)), .val (.ref ix), .val (.ref ox), .val (.int (Int32.ofNat pn)), .val (.int (Int32.ofNat mn)), .val (.ref fx), .val (.ref jx), .val (.ref ax), .val (.int mv), .val (.ref g0), .val (.ref g1), .val (.int (Int32.ofNat bn)), .val (.int (((Int32.ofNat bn) ^^^ (-1 : Int32)) &&& (15 : Int32))), .val (.int (1 : Int32))] [(.int (Int32.ofNat (es.getD 3 0))), (.int (3 : Int32)), (.ref ax)])) _; refine XS.ifYes X0.here hx rfl (pc0 := 472) (pc' := 480) rfl (hb hby at_472) rfl ((if0 _ _).trans (feq hz).2) (by decide) (by decide) ?_; exact k)
    have pre13 : ∀ t, Steps p.tables e below (T0.setTop (mkF m 482 #[.val (.int xa), .val (.int xb), .val (.int xc), .val (.int (Int32.ofNat bn)), .val (.ref ix), .val (.ref ox), .val (.int (Int32.ofNat pn)), .val (.int (Int32.ofNat mn)), .val (.ref fx), .val (.ref jx), .val (.ref ax), .val (.int mv), .val (.ref g0), .val (.ref g1), .val (.int (Int32.ofNat bn)), .val (.int (((Int32.ofNat bn) ^^^ (-1 : Int32)) &&& (15 : Int32))), .val (.int (1 : Int32))] [(.ref g1), (.int (3 : Int32)), (.ref ax)])) t → Steps p.tables e below (T0.setTop (mkF m 460 #[.val (.int xa), .val (.int xb), .val (.int xc), .val (.int (Int32.ofNat bn)), .val (.ref ix), .val (.ref ox), .val (.int (Int32.ofNat pn)), .val (.int (Int32.ofNat mn)), .val (.ref fx), .val (.ref jx), .val (.ref ax), .val (.int mv), .val (.ref g0), .val (.ref g1), .val (.int (Int32.ofNat bn)), .val (.int (((Int32.ofNat bn) ^^^ (-1 : Int32)) &&& (15 : Int32))), .val (.int (1 : Int32))] [])) t := fun t k => pre12 t (by
      show Steps p.tables e below (T0.setTop (mkF m 480 #[.val (.int xa), .val (.int xb), .val (.int xc), .val (.int (Int32.ofNat bn)), .val (.ref ix), .val (.ref ox), .val (.int (Int32.ofNat pn)), .val (.int (Int32.ofNat mn)), .val (.ref fx), .val (.ref jx), .val (.ref ax), .val (.int mv), .val (.ref g0), .val (.ref g1), .val (.int (Int32.ofNat bn)), .val (.int (((Int32.ofNat bn) ^^^ (-1 : Int32)) &&& (15 : Int32))), .val (.int (1 : Int32))] [(.int (3 : Int32)), (.ref ax)])) _
      refine XS.aload X0.here hx rfl (hb hby at_480) rfl rfl ?_
      exact k)
    have R15 : Rep Z n0 h0 ((ax, Obj "com/example/witgen/witgen/regex/Partition" [("elements", "[I", (.ref b1)), ("location", "[I", (.ref b2)), ("blockOf", "[I", (.ref b3)), ("start", "[I", (.ref b4)), ("end", "[I", (.ref b5)), ("marked", "[I", (.ref b6)), ("touched", "[I", (.ref b7)), ("blocks", "I", (.int (Int32.ofNat cnt))), ("touchedCount", "I", (.int (Int32.ofNat tc)))]) :: (b2, Ar .int (nl lo)) :: (b3, Ar .int (nl es)) :: (b4, Ar .int (nl sta)) :: (g1, Ar .long (ll gs1)) :: (ix, Ar .int (nl es)) :: (g0, Ar .long (ll gs0)) :: Rst) := R0.pick [6, 4, 4, 4, 4] rfl
    obtain ⟨_, _, ⟨T14, L14, k14, n14⟩, -, X14, ⟨Lc14, hQ14, l14, y14, z14⟩, st14⟩ := Jvm.LawKit.callS X0 hx (y := (⟨"com/example/witgen/witgen/regex/PartitionMarkPinLaw", "firstOk", "(Lcom/example/witgen/witgen/regex/Partition;I[J)Z"⟩ : MethodName)) hown (mvT hZ (hw _ (List.mem_of_getElem? (i := 80) rfl))) (mvT hZ (hw _ (List.mem_of_getElem? (i := 81) rfl))) (mvT hZ (hw _ (List.mem_of_getElem? (i := 4) rfl))) (mvT hZ (hw _ (List.mem_of_getElem? (i := 82) rfl))) (by decide) (backOf (W := 0) (rm12 l Z a0 hw [] ax 3 g1 _ _ _ _ _ _ _ _ _ _ _ _ _ h0 n0 _ R15 (p1) (by decide) (p3) (p4) (p5) (hl1)) hZ (hw _ (List.mem_of_getElem? (i := 82) rfl)) (hw _ (List.mem_of_getElem? (i := 4) rfl)) (by decide) (by decide)) (g := (mkF m 482 #[.val (.int xa), .val (.int xb), .val (.int xc), .val (.int (Int32.ofNat bn)), .val (.ref ix), .val (.ref ox), .val (.int (Int32.ofNat pn)), .val (.int (Int32.ofNat mn)), .val (.ref fx), .val (.ref jx), .val (.ref ax), .val (.int mv), .val (.ref g0), .val (.ref g1), .val (.int (Int32.ofNat bn)), .val (.int (((Int32.ofNat bn) ^^^ (-1 : Int32)) &&& (15 : Int32))), .val (.int (1 : Int32))] [(.ref g1), (.int (3 : Int32)), (.ref ax)])) rfl (by rw [hml]; rfl) (argsL := [(.ref ax), (.int (3 : Int32)), (.ref g1)]) (rest := []) (lenOf pd__28Lcom_2fexample_2fwitgen_2fwitgen_2fregex_2fPartition_3bI_5bJ_29Z rfl) rfl (by show 2 * 0 + _ ≤ _; exact Nat.le_of_eq rfl) (hb hby at_482) (fun _ _ => ⟨rfl, e0, (by decide : 15 + 0 ≤ _), (by decide : 86 + 0 ≤ _)⟩)
    dsimp only [Pt.U, Pt.locs, Pt.cells, Pt.slots] at X14 l14 y14 z14 st14 hQ14
    subst y14 z14
    obtain ⟨rfl, N14q, R14⟩ := hQ14
    have N14 : Fr n0 L14 := by rw [l14]; exact Fr.app N0 N14q
    replace R14 : Rep Z n0 T14.heap ((ax, Obj "com/example/witgen/witgen/regex/Partition" [("elements", "[I", (.ref b1)), ("location", "[I", (.ref b2)), ("blockOf", "[I", (.ref b3)), ("start", "[I", (.ref b4)), ("end", "[I", (.ref b5)), ("marked", "[I", (.ref b6)), ("touched", "[I", (.ref b7)), ("blocks", "I", (.int (Int32.ofNat cnt))), ("touchedCount", "I", (.int (Int32.ofNat tc)))]) :: (b2, Ar .int (nl lo)) :: (b3, Ar .int (nl es)) :: (b4, Ar .int (nl sta)) :: (g1, Ar .long (ll gs1)) :: (ix, Ar .int (nl es)) :: (g0, Ar .long (ll gs0)) :: Rst) := R14
    have pre16 : ∀ t, Steps p.tables e below (T14.setTop (mkF m 485 #[.val (.int xa), .val (.int xb), .val (.int xc), .val (.int (Int32.ofNat bn)), .val (.ref ix), .val (.ref ox), .val (.int (Int32.ofNat pn)), .val (.int (Int32.ofNat mn)), .val (.ref fx), .val (.ref jx), .val (.ref ax), .val (.int mv), .val (.ref g0), .val (.ref g1), .val (.int (Int32.ofNat bn)), .val (.int (((Int32.ofNat bn) ^^^ (-1 : Int32)) &&& (15 : Int32))), .val (.int (1 : Int32))] [(.int (F12 3 lo es sta gs1))])) t → Steps p.tables e below (T0.setTop (mkF m 460 #[.val (.int xa), .val (.int xb), .val (.int xc), .val (.int (Int32.ofNat bn)), .val (.ref ix), .val (.ref ox), .val (.int (Int32.ofNat pn)), .val (.int (Int32.ofNat mn)), .val (.ref fx), .val (.ref jx), .val (.ref ax), .val (.int mv), .val (.ref g0), .val (.ref g1), .val (.int (Int32.ofNat bn)), .val (.int (((Int32.ofNat bn) ^^^ (-1 : Int32)) &&& (15 : Int32))), .val (.int (1 : Int32))] [])) t := fun t k => pre13 t (st14 t k)
    have hb17 : ¬ ((F12 3 lo es sta gs1) = (0 : Int32)) := (by rw [hz1 hz]; decide)
    have pre18 : ∀ t, Steps p.tables e below (T14.setTop (mkF m 495 #[.val (.int xa), .val (.int xb), .val (.int xc), .val (.int (Int32.ofNat bn)), .val (.ref ix), .val (.ref ox), .val (.int (Int32.ofNat pn)), .val (.int (Int32.ofNat mn)), .val (.ref fx), .val (.ref jx), .val (.ref ax), .val (.int mv), .val (.ref g0), .val (.ref g1), .val (.int (Int32.ofNat bn)), .val (.int (((Int32.ofNat bn) ^^^ (-1 : Int32)) &&& (15 : Int32))), .val (.int (1 : Int32))] [])) t → Steps p.tables e below (T0.setTop (mkF m 460 #[.val (.int xa), .val (.int xb), .val (.int xc), .val (.int (Int32.ofNat bn)), .val (.ref ix), .val (.ref ox), .val (.int (Int32.ofNat pn)), .val (.int (Int32.ofNat mn)), .val (.ref fx), .val (.ref jx), .val (.ref ax), .val (.int mv), .val (.ref g0), .val (.ref g1), .val (.int (Int32.ofNat bn)), .val (.int (((Int32.ofNat bn) ^^^ (-1 : Int32)) &&& (15 : Int32))), .val (.int (1 : Int32))] [])) t := fun t k => pre16 t (by
      show Steps p.tables e below (T14.setTop (mkF m 485 #[.val (.int xa), .val (.int xb), .val (.int xc), .val (.int (Int32.ofNat bn)), .val (.ref ix), .val (.ref ox), .val (.int (Int32.ofNat pn)), .val (.int (Int32.ofNat mn)), .val (.ref fx), .val (.ref jx), .val (.ref ax), .val (.int mv), .val (.ref g0), .val (.ref g1), .val (.int (Int32.ofNat bn)), .val (.int (((Int32.ofNat bn) ^^^ (-1 : Int32)) &&& (15 : Int32))), .val (.int (1 : Int32))] [(.int (F12 3 lo es sta gs1))])) _
      refine XS.ifNo X14.here hx rfl (hb hby at_485) rfl ((if0 _ _).trans (feq hb17).1) ?_
      refine XS.iconst X14.here hx rfl (hb hby at_488) ?_
      refine XS.goto X14.here hx rfl (pc0 := 489) (pc' := 493) rfl (hb hby at_489) (by decide) (by decide) ?_
      refine XS.istore X14.here hx rfl (hb hby at_493) rfl (l' := #[.val (.int xa), .val (.int xb), .val (.int xc), .val (.int (Int32.ofNat bn)), .val (.ref ix), .val (.ref ox), .val (.int (Int32.ofNat pn)), .val (.int (Int32.ofNat mn)), .val (.ref fx), .val (.ref jx), .val (.ref ax), .val (.int mv), .val (.ref g0), .val (.ref g1), .val (.int (Int32.ofNat bn)), .val (.int (((Int32.ofNat bn) ^^^ (-1 : Int32)) &&& (15 : Int32))), .val (.int (1 : Int32))]) rfl ?_
      exact k)
    have R19 : Rep Z n0 T14.heap ((ax, Obj "com/example/witgen/witgen/regex/Partition" [("elements", "[I", (.ref b1)), ("location", "[I", (.ref b2)), ("blockOf", "[I", (.ref b3)), ("start", "[I", (.ref b4)), ("end", "[I", (.ref b5)), ("marked", "[I", (.ref b6)), ("touched", "[I", (.ref b7)), ("blocks", "I", (.int (Int32.ofNat cnt))), ("touchedCount", "I", (.int (Int32.ofNat tc)))]) :: (b2, Ar .int (nl lo)) :: (b3, Ar .int (nl es)) :: (b4, Ar .int (nl sta)) :: (ix, Ar .int (nl es)) :: (g0, Ar .long (ll gs0)) :: (g1, Ar .long (ll gs1)) :: Rst) := R14.pick [4, 6, 6, 6, 6, 6, 6] rfl
    exact ⟨T14, _, _, X14, rfl, N14, R19, pre18⟩
theorem pd__28_5bIII_29V : parseMethodDescriptor "([III)V" = some ⟨[(.array .int), .int, .int], none⟩ := by decide +kernel
theorem pd__28_5bII_29V : parseMethodDescriptor "([II)V" = some ⟨[(.array .int), .int], none⟩ := by decide +kernel
theorem pd__28I_29V : parseMethodDescriptor "(I)V" = some ⟨[.int], none⟩ := by decide +kernel
theorem ef_0 (m : MethodId) (x0 : Int32) (x1 : Int32) (x2 : Int32) : entryFrame m #[(.int x0), (.int x1), (.int x2)] maxLocals = mkF m 0 #[.val (.int x0), .val (.int x1), .val (.int x2), .unset, .unset, .unset, .unset, .unset, .unset, .unset, .unset, .unset, .unset, .unset, .unset, .unset, .unset] [] := by first | (simp [entryFrame, mkF, argsToLocals, Value.category, maxLocals]; done) | rfl
def Q0 (Z : State) (xa : Int32) (xb : Int32) (xc : Int32) (n0 : Nat) (Rst : RL) (v : Option Value) (h : Heap) (L : List Loc) : Prop := v = some (.int (1 : Int32)) ∧ Fr n0 L ∧ Rep Z n0 h (Rst)
set_option maxRecDepth 65536 in
set_option maxHeartbeats 40000000 in
theorem rm0 (l : Launch) (Z : State) (a0 : Array Value) (hw : ∀ d ∈ tables_1, d.before a0 Z = true) (ws : List Jvm.Cond) (xa : Int32) (xb : Int32) (xc : Int32) (h0 : Heap) (n0 : Nat) (R0 : Rep Z n0 h0 ([])) :
    MetFree l x (head1 (Jvm.Cond.code x code maxLocals ret :: ws) room_1) (fun a U => a = #[(.int xa), (.int xb), (.int xc)] ∧ Z.Warmed39 U.vm ∧ U.heap = h0) (fun _ _ _ _ _ => True) (fun _ U o U' => ∃ v L, o = .returned v ∧ Q0 Z xa xb xc n0 [] v U'.heap L ∧ FrameEnd U o U' L 40 192) := by
  refine MetFree.of_bodySF (plainFor_of_name pn_com_example_witgen_witgen_regex_PartitionMarkPinLaw) hisR ?_
  intro p e s m args below meth c s₁ Bd hml0 hP hK
  obtain ⟨rfl, hZ, hh⟩ := hP
  have hx := Bd.exec
  have hby := Bd.bytes
  have hml : c.maxLocals = 17 := hml0
  have hown : s.vm.findClass "com/example/witgen/witgen/regex/PartitionMarkPinLaw" = some m.cls := findClass_of_methodNamed Bd.named
  have hnm := (name_of_methodNamed Bd.named Bd.method).1
  have X0 : Stand p l e room_1 s m #[(.int xa), (.int xb), (.int xc)] below meth c s₁ [] 0 0 := Stand.of_body Bd
  have e0 : s₁.heap = h0 := by rw [← hh, Bd.state]; rfl
  have N0 := Fr.nil n0
  have pre0 : ∀ t, Steps p.tables e below (s₁.setTop (mkF m 0 #[.val (.int xa), .val (.int xb), .val (.int xc), .unset, .unset, .unset, .unset, .unset, .unset, .unset, .unset, .unset, .unset, .unset, .unset, .unset, .unset] [])) t → Steps p.tables e below (s₁.setTop (entryFrame m #[(.int xa), (.int xb), (.int xc)] maxLocals)) t := fun t k => castTop (ef_0 m xa xb xc) k
  have pre2 : ∀ t, Steps p.tables e below (s₁.setTop (mkF m 5 #[.val (.int xa), .val (.int xb), .val (.int xc), .val (.int (xa &&& (15 : Int32))), .unset, .unset, .unset, .unset, .unset, .unset, .unset, .unset, .unset, .unset, .unset, .unset, .unset] [])) t → Steps p.tables e below (s₁.setTop (entryFrame m #[(.int xa), (.int xb), (.int xc)] maxLocals)) t := fun t k => pre0 t (by
    show Steps p.tables e below (s₁.setTop (mkF m 0 #[.val (.int xa), .val (.int xb), .val (.int xc), .unset, .unset, .unset, .unset, .unset, .unset, .unset, .unset, .unset, .unset, .unset, .unset, .unset, .unset] [])) _
    refine XS.iloadN X0.here hx rfl (hb hby at_0) rfl ?_
    refine XS.bipush X0.here hx rfl (hb hby at_1) ?_
    refine XS.iand X0.here hx rfl (hb hby at_3) rfl ?_
    refine XS.istoreN X0.here hx rfl (hb hby at_4) rfl (l' := #[.val (.int xa), .val (.int xb), .val (.int xc), .val (.int (xa &&& (15 : Int32))), .unset, .unset, .unset, .unset, .unset, .unset, .unset, .unset, .unset, .unset, .unset, .unset, .unset]) rfl ?_
    exact k)
  obtain ⟨v1, hv1⟩ : ∃ z : Int32, z = (xa &&& (15 : Int32)) := ⟨_, rfl⟩
  rw [← hv1] at pre2
  obtain ⟨bn, hnbn, hb16⟩ := own_b hv1
  rw [hnbn] at pre2
  have pre3 : ∀ t, Steps p.tables e below (s₁.setTop (mkF m 6 #[.val (.int xa), .val (.int xb), .val (.int xc), .val (.int (Int32.ofNat bn)), .unset, .unset, .unset, .unset, .unset, .unset, .unset, .unset, .unset, .unset, .unset, .unset, .unset] [(.int (4 : Int32))])) t → Steps p.tables e below (s₁.setTop (entryFrame m #[(.int xa), (.int xb), (.int xc)] maxLocals)) t := fun t k => pre2 t (by
    show Steps p.tables e below (s₁.setTop (mkF m 5 #[.val (.int xa), .val (.int xb), .val (.int xc), .val (.int (Int32.ofNat bn)), .unset, .unset, .unset, .unset, .unset, .unset, .unset, .unset, .unset, .unset, .unset, .unset, .unset] [])) _
    refine XS.iconst X0.here hx rfl (hb hby at_5) ?_
    exact k)
  obtain ⟨T4, h4, b4, X4, e4, R4, st4⟩ := gNewP X0 hx hZ (hw _ (List.mem_of_getElem? (i := 0) rfl)) e0 R0 (g := (mkF m 6 #[.val (.int xa), .val (.int xb), .val (.int xc), .val (.int (Int32.ofNat bn)), .unset, .unset, .unset, .unset, .unset, .unset, .unset, .unset, .unset, .unset, .unset, .unset, .unset] [(.int (4 : Int32))])) rfl (hb hby at_6) rfl (by decide) 4 (by decide) (by decide) (by decide) (by decide) (vs := [(.int (0 : Int32)), (.int (0 : Int32)), (.int (0 : Int32)), (.int (0 : Int32))]) rfl
  replace R4 : Rep Z n0 h4 ((b4, Ar .int [(.int (0 : Int32)), (.int (0 : Int32)), (.int (0 : Int32)), (.int (0 : Int32))]) :: []) := R4
  have pre5 : ∀ t, Steps p.tables e below (T4.setTop (mkF m 8 #[.val (.int xa), .val (.int xb), .val (.int xc), .val (.int (Int32.ofNat bn)), .unset, .unset, .unset, .unset, .unset, .unset, .unset, .unset, .unset, .unset, .unset, .unset, .unset] [(.ref b4)])) t → Steps p.tables e below (s₁.setTop (entryFrame m #[(.int xa), (.int xb), (.int xc)] maxLocals)) t := fun t k => pre3 t (st4 t k)
  have pre6 : ∀ t, Steps p.tables e below (T4.setTop (mkF m 16 #[.val (.int xa), .val (.int xb), .val (.int xc), .val (.int (Int32.ofNat bn)), .val (.ref b4), .unset, .unset, .unset, .unset, .unset, .unset, .unset, .unset, .unset, .unset, .unset, .unset] [(.int ((Int32.ofNat bn) &&& (1 : Int32))), (.int (0 : Int32)), (.ref b4)])) t → Steps p.tables e below (s₁.setTop (entryFrame m #[(.int xa), (.int xb), (.int xc)] maxLocals)) t := fun t k => pre5 t (by
    show Steps p.tables e below (T4.setTop (mkF m 8 #[.val (.int xa), .val (.int xb), .val (.int xc), .val (.int (Int32.ofNat bn)), .unset, .unset, .unset, .unset, .unset, .unset, .unset, .unset, .unset, .unset, .unset, .unset, .unset] [(.ref b4)])) _
    refine XS.astore X4.here hx rfl (hb hby at_8) rfl rfl (l' := #[.val (.int xa), .val (.int xb), .val (.int xc), .val (.int (Int32.ofNat bn)), .val (.ref b4), .unset, .unset, .unset, .unset, .unset, .unset, .unset, .unset, .unset, .unset, .unset, .unset]) rfl ?_
    refine XS.aload X4.here hx rfl (hb hby at_10) rfl rfl ?_
    refine XS.iconst X4.here hx rfl (hb hby at_12) ?_
    refine XS.iloadN X4.here hx rfl (hb hby at_13) rfl ?_
    refine XS.iconst X4.here hx rfl (hb hby at_14) ?_
    refine XS.iand X4.here hx rfl (hb hby at_15) rfl ?_
    exact k)
  rw [own_b0 hb16] at pre6
  obtain ⟨T7, h7, ls7, X7, e7, N7, R7, st7⟩ := gIst X4 hx hZ e4 N0 R4 0 rfl (j := (0 : Int32)) (by decide) (0) rfl (show (0 : Nat) < 4 by decide) (g := (mkF m 16 #[.val (.int xa), .val (.int xb), .val (.int xc), .val (.int (Int32.ofNat bn)), .val (.ref b4), .unset, .unset, .unset, .unset, .unset, .unset, .unset, .unset, .unset, .unset, .unset, .unset] [(.int (Int32.ofNat (bn % 2))), (.int (0 : Int32)), (.ref b4)])) rfl rfl (hb hby at_16)
  replace R7 : Rep Z n0 h7 ((b4, Ar .int [(.int (Int32.ofNat (bn % 2))), (.int (0 : Int32)), (.int (0 : Int32)), (.int (0 : Int32))]) :: []) := R7
  have pre8 : ∀ t, Steps p.tables e below (T7.setTop (mkF m 17 #[.val (.int xa), .val (.int xb), .val (.int xc), .val (.int (Int32.ofNat bn)), .val (.ref b4), .unset, .unset, .unset, .unset, .unset, .unset, .unset, .unset, .unset, .unset, .unset, .unset] [])) t → Steps p.tables e below (s₁.setTop (entryFrame m #[(.int xa), (.int xb), (.int xc)] maxLocals)) t := fun t k => pre6 t (st7 t k)
  have pre9 : ∀ t, Steps p.tables e below (T7.setTop (mkF m 25 #[.val (.int xa), .val (.int xb), .val (.int xc), .val (.int (Int32.ofNat bn)), .val (.ref b4), .unset, .unset, .unset, .unset, .unset, .unset, .unset, .unset, .unset, .unset, .unset, .unset] [(.int ((ishr (Int32.ofNat bn) (1 : Int32)) &&& (1 : Int32))), (.int (1 : Int32)), (.ref b4)])) t → Steps p.tables e below (s₁.setTop (entryFrame m #[(.int xa), (.int xb), (.int xc)] maxLocals)) t := fun t k => pre8 t (by
    show Steps p.tables e below (T7.setTop (mkF m 17 #[.val (.int xa), .val (.int xb), .val (.int xc), .val (.int (Int32.ofNat bn)), .val (.ref b4), .unset, .unset, .unset, .unset, .unset, .unset, .unset, .unset, .unset, .unset, .unset, .unset] [])) _
    refine XS.aload X7.here hx rfl (hb hby at_17) rfl rfl ?_
    refine XS.iconst X7.here hx rfl (hb hby at_19) ?_
    refine XS.iloadN X7.here hx rfl (hb hby at_20) rfl ?_
    refine XS.iconst X7.here hx rfl (hb hby at_21) ?_
    refine XS.ishr X7.here hx rfl (hb hby at_22) rfl ?_
    refine XS.iconst X7.here hx rfl (hb hby at_23) ?_
    refine XS.iand X7.here hx rfl (hb hby at_24) rfl ?_
    exact k)
  rw [own_b1 hb16] at pre9
  obtain ⟨T10, h10, ls10, X10, e10, N10, R10, st10⟩ := gIst X7 hx hZ e7 N7 R7 0 rfl (j := (1 : Int32)) (by decide) (1) rfl (show (1 : Nat) < 4 by decide) (g := (mkF m 25 #[.val (.int xa), .val (.int xb), .val (.int xc), .val (.int (Int32.ofNat bn)), .val (.ref b4), .unset, .unset, .unset, .unset, .unset, .unset, .unset, .unset, .unset, .unset, .unset, .unset] [(.int (Int32.ofNat (bn / 2 % 2))), (.int (1 : Int32)), (.ref b4)])) rfl rfl (hb hby at_25)
  replace R10 : Rep Z n0 h10 ((b4, Ar .int [(.int (Int32.ofNat (bn % 2))), (.int (Int32.ofNat (bn / 2 % 2))), (.int (0 : Int32)), (.int (0 : Int32))]) :: []) := R10
  have pre11 : ∀ t, Steps p.tables e below (T10.setTop (mkF m 26 #[.val (.int xa), .val (.int xb), .val (.int xc), .val (.int (Int32.ofNat bn)), .val (.ref b4), .unset, .unset, .unset, .unset, .unset, .unset, .unset, .unset, .unset, .unset, .unset, .unset] [])) t → Steps p.tables e below (s₁.setTop (entryFrame m #[(.int xa), (.int xb), (.int xc)] maxLocals)) t := fun t k => pre9 t (st10 t k)
  have pre12 : ∀ t, Steps p.tables e below (T10.setTop (mkF m 34 #[.val (.int xa), .val (.int xb), .val (.int xc), .val (.int (Int32.ofNat bn)), .val (.ref b4), .unset, .unset, .unset, .unset, .unset, .unset, .unset, .unset, .unset, .unset, .unset, .unset] [(.int ((ishr (Int32.ofNat bn) (2 : Int32)) &&& (1 : Int32))), (.int (2 : Int32)), (.ref b4)])) t → Steps p.tables e below (s₁.setTop (entryFrame m #[(.int xa), (.int xb), (.int xc)] maxLocals)) t := fun t k => pre11 t (by
    show Steps p.tables e below (T10.setTop (mkF m 26 #[.val (.int xa), .val (.int xb), .val (.int xc), .val (.int (Int32.ofNat bn)), .val (.ref b4), .unset, .unset, .unset, .unset, .unset, .unset, .unset, .unset, .unset, .unset, .unset, .unset] [])) _
    refine XS.aload X10.here hx rfl (hb hby at_26) rfl rfl ?_
    refine XS.iconst X10.here hx rfl (hb hby at_28) ?_
    refine XS.iloadN X10.here hx rfl (hb hby at_29) rfl ?_
    refine XS.iconst X10.here hx rfl (hb hby at_30) ?_
    refine XS.ishr X10.here hx rfl (hb hby at_31) rfl ?_
    refine XS.iconst X10.here hx rfl (hb hby at_32) ?_
    refine XS.iand X10.here hx rfl (hb hby at_33) rfl ?_
    exact k)
  rw [own_b2 hb16] at pre12
  obtain ⟨T13, h13, ls13, X13, e13, N13, R13, st13⟩ := gIst X10 hx hZ e10 N10 R10 0 rfl (j := (2 : Int32)) (by decide) (2) rfl (show (2 : Nat) < 4 by decide) (g := (mkF m 34 #[.val (.int xa), .val (.int xb), .val (.int xc), .val (.int (Int32.ofNat bn)), .val (.ref b4), .unset, .unset, .unset, .unset, .unset, .unset, .unset, .unset, .unset, .unset, .unset, .unset] [(.int (Int32.ofNat (bn / 4 % 2))), (.int (2 : Int32)), (.ref b4)])) rfl rfl (hb hby at_34)
  replace R13 : Rep Z n0 h13 ((b4, Ar .int [(.int (Int32.ofNat (bn % 2))), (.int (Int32.ofNat (bn / 2 % 2))), (.int (Int32.ofNat (bn / 4 % 2))), (.int (0 : Int32))]) :: []) := R13
  have pre14 : ∀ t, Steps p.tables e below (T13.setTop (mkF m 35 #[.val (.int xa), .val (.int xb), .val (.int xc), .val (.int (Int32.ofNat bn)), .val (.ref b4), .unset, .unset, .unset, .unset, .unset, .unset, .unset, .unset, .unset, .unset, .unset, .unset] [])) t → Steps p.tables e below (s₁.setTop (entryFrame m #[(.int xa), (.int xb), (.int xc)] maxLocals)) t := fun t k => pre12 t (st13 t k)
  have pre15 : ∀ t, Steps p.tables e below (T13.setTop (mkF m 43 #[.val (.int xa), .val (.int xb), .val (.int xc), .val (.int (Int32.ofNat bn)), .val (.ref b4), .unset, .unset, .unset, .unset, .unset, .unset, .unset, .unset, .unset, .unset, .unset, .unset] [(.int ((ishr (Int32.ofNat bn) (3 : Int32)) &&& (1 : Int32))), (.int (3 : Int32)), (.ref b4)])) t → Steps p.tables e below (s₁.setTop (entryFrame m #[(.int xa), (.int xb), (.int xc)] maxLocals)) t := fun t k => pre14 t (by
    show Steps p.tables e below (T13.setTop (mkF m 35 #[.val (.int xa), .val (.int xb), .val (.int xc), .val (.int (Int32.ofNat bn)), .val (.ref b4), .unset, .unset, .unset, .unset, .unset, .unset, .unset, .unset, .unset, .unset, .unset, .unset] [])) _
    refine XS.aload X13.here hx rfl (hb hby at_35) rfl rfl ?_
    refine XS.iconst X13.here hx rfl (hb hby at_37) ?_
    refine XS.iloadN X13.here hx rfl (hb hby at_38) rfl ?_
    refine XS.iconst X13.here hx rfl (hb hby at_39) ?_
    refine XS.ishr X13.here hx rfl (hb hby at_40) rfl ?_
    refine XS.iconst X13.here hx rfl (hb hby at_41) ?_
    refine XS.iand X13.here hx rfl (hb hby at_42) rfl ?_
    exact k)
  rw [own_b3 hb16] at pre15
  obtain ⟨T16, h16, ls16, X16, e16, N16, R16, st16⟩ := gIst X13 hx hZ e13 N13 R13 0 rfl (j := (3 : Int32)) (by decide) (3) rfl (show (3 : Nat) < 4 by decide) (g := (mkF m 43 #[.val (.int xa), .val (.int xb), .val (.int xc), .val (.int (Int32.ofNat bn)), .val (.ref b4), .unset, .unset, .unset, .unset, .unset, .unset, .unset, .unset, .unset, .unset, .unset, .unset] [(.int (Int32.ofNat (bn / 8 % 2))), (.int (3 : Int32)), (.ref b4)])) rfl rfl (hb hby at_43)
  replace R16 : Rep Z n0 h16 ((b4, Ar .int [(.int (Int32.ofNat (bn % 2))), (.int (Int32.ofNat (bn / 2 % 2))), (.int (Int32.ofNat (bn / 4 % 2))), (.int (Int32.ofNat (bn / 8 % 2)))]) :: []) := R16
  have pre17 : ∀ t, Steps p.tables e below (T16.setTop (mkF m 44 #[.val (.int xa), .val (.int xb), .val (.int xc), .val (.int (Int32.ofNat bn)), .val (.ref b4), .unset, .unset, .unset, .unset, .unset, .unset, .unset, .unset, .unset, .unset, .unset, .unset] [])) t → Steps p.tables e below (s₁.setTop (entryFrame m #[(.int xa), (.int xb), (.int xc)] maxLocals)) t := fun t k => pre15 t (st16 t k)
  have pre18 : ∀ t, Steps p.tables e below (T16.setTop (mkF m 45 #[.val (.int xa), .val (.int xb), .val (.int xc), .val (.int (Int32.ofNat bn)), .val (.ref b4), .unset, .unset, .unset, .unset, .unset, .unset, .unset, .unset, .unset, .unset, .unset, .unset] [(.int (4 : Int32))])) t → Steps p.tables e below (s₁.setTop (entryFrame m #[(.int xa), (.int xb), (.int xc)] maxLocals)) t := fun t k => pre17 t (by
    show Steps p.tables e below (T16.setTop (mkF m 44 #[.val (.int xa), .val (.int xb), .val (.int xc), .val (.int (Int32.ofNat bn)), .val (.ref b4), .unset, .unset, .unset, .unset, .unset, .unset, .unset, .unset, .unset, .unset, .unset, .unset] [])) _
    refine XS.iconst X16.here hx rfl (hb hby at_44) ?_
    exact k)
  obtain ⟨T19, h19, b19, X19, e19, R19, st19⟩ := gNewP X16 hx hZ (hw _ (List.mem_of_getElem? (i := 0) rfl)) e16 R16 (g := (mkF m 45 #[.val (.int xa), .val (.int xb), .val (.int xc), .val (.int (Int32.ofNat bn)), .val (.ref b4), .unset, .unset, .unset, .unset, .unset, .unset, .unset, .unset, .unset, .unset, .unset, .unset] [(.int (4 : Int32))])) rfl (hb hby at_45) rfl (by decide) 4 (by decide) (by decide) (by decide) (by decide) (vs := [(.int (0 : Int32)), (.int (0 : Int32)), (.int (0 : Int32)), (.int (0 : Int32))]) rfl
  replace R19 : Rep Z n0 h19 ((b19, Ar .int [(.int (0 : Int32)), (.int (0 : Int32)), (.int (0 : Int32)), (.int (0 : Int32))]) :: (b4, Ar .int [(.int (Int32.ofNat (bn % 2))), (.int (Int32.ofNat (bn / 2 % 2))), (.int (Int32.ofNat (bn / 4 % 2))), (.int (Int32.ofNat (bn / 8 % 2)))]) :: []) := R19
  have pre20 : ∀ t, Steps p.tables e below (T19.setTop (mkF m 47 #[.val (.int xa), .val (.int xb), .val (.int xc), .val (.int (Int32.ofNat bn)), .val (.ref b4), .unset, .unset, .unset, .unset, .unset, .unset, .unset, .unset, .unset, .unset, .unset, .unset] [(.ref b19)])) t → Steps p.tables e below (s₁.setTop (entryFrame m #[(.int xa), (.int xb), (.int xc)] maxLocals)) t := fun t k => pre18 t (st19 t k)
  have pre21 : ∀ t, Steps p.tables e below (T19.setTop (mkF m 50 #[.val (.int xa), .val (.int xb), .val (.int xc), .val (.int (Int32.ofNat bn)), .val (.ref b4), .unset, .unset, .unset, .unset, .unset, .unset, .unset, .unset, .unset, .unset, .unset, .unset] [(.int (0 : Int32)), (.int (0 : Int32)), (.ref b19), (.ref b19)])) t → Steps p.tables e below (s₁.setTop (entryFrame m #[(.int xa), (.int xb), (.int xc)] maxLocals)) t := fun t k => pre20 t (by
    show Steps p.tables e below (T19.setTop (mkF m 47 #[.val (.int xa), .val (.int xb), .val (.int xc), .val (.int (Int32.ofNat bn)), .val (.ref b4), .unset, .unset, .unset, .unset, .unset, .unset, .unset, .unset, .unset, .unset, .unset, .unset] [(.ref b19)])) _
    refine XS.dup X19.here hx rfl (hb hby at_47) rfl rfl ?_
    refine XS.iconst X19.here hx rfl (hb hby at_48) ?_
    refine XS.iconst X19.here hx rfl (hb hby at_49) ?_
    exact k)
  obtain ⟨T22, h22, ls22, X22, e22, N22, R22, st22⟩ := gIst X19 hx hZ e19 N16 R19 0 rfl (j := (0 : Int32)) (by decide) (0) rfl (show (0 : Nat) < 4 by decide) (g := (mkF m 50 #[.val (.int xa), .val (.int xb), .val (.int xc), .val (.int (Int32.ofNat bn)), .val (.ref b4), .unset, .unset, .unset, .unset, .unset, .unset, .unset, .unset, .unset, .unset, .unset, .unset] [(.int (0 : Int32)), (.int (0 : Int32)), (.ref b19), (.ref b19)])) rfl rfl (hb hby at_50)
  replace R22 : Rep Z n0 h22 ((b19, Ar .int [(.int (0 : Int32)), (.int (0 : Int32)), (.int (0 : Int32)), (.int (0 : Int32))]) :: (b4, Ar .int [(.int (Int32.ofNat (bn % 2))), (.int (Int32.ofNat (bn / 2 % 2))), (.int (Int32.ofNat (bn / 4 % 2))), (.int (Int32.ofNat (bn / 8 % 2)))]) :: []) := R22
  have pre23 : ∀ t, Steps p.tables e below (T22.setTop (mkF m 51 #[.val (.int xa), .val (.int xb), .val (.int xc), .val (.int (Int32.ofNat bn)), .val (.ref b4), .unset, .unset, .unset, .unset, .unset, .unset, .unset, .unset, .unset, .unset, .unset, .unset] [(.ref b19)])) t → Steps p.tables e below (s₁.setTop (entryFrame m #[(.int xa), (.int xb), (.int xc)] maxLocals)) t := fun t k => pre21 t (st22 t k)
  have pre24 : ∀ t, Steps p.tables e below (T22.setTop (mkF m 54 #[.val (.int xa), .val (.int xb), .val (.int xc), .val (.int (Int32.ofNat bn)), .val (.ref b4), .unset, .unset, .unset, .unset, .unset, .unset, .unset, .unset, .unset, .unset, .unset, .unset] [(.int (1 : Int32)), (.int (1 : Int32)), (.ref b19), (.ref b19)])) t → Steps p.tables e below (s₁.setTop (entryFrame m #[(.int xa), (.int xb), (.int xc)] maxLocals)) t := fun t k => pre23 t (by
    show Steps p.tables e below (T22.setTop (mkF m 51 #[.val (.int xa), .val (.int xb), .val (.int xc), .val (.int (Int32.ofNat bn)), .val (.ref b4), .unset, .unset, .unset, .unset, .unset, .unset, .unset, .unset, .unset, .unset, .unset, .unset] [(.ref b19)])) _
    refine XS.dup X22.here hx rfl (hb hby at_51) rfl rfl ?_
    refine XS.iconst X22.here hx rfl (hb hby at_52) ?_
    refine XS.iconst X22.here hx rfl (hb hby at_53) ?_
    exact k)
  obtain ⟨T25, h25, ls25, X25, e25, N25, R25, st25⟩ := gIst X22 hx hZ e22 N22 R22 0 rfl (j := (1 : Int32)) (by decide) (1) rfl (show (1 : Nat) < 4 by decide) (g := (mkF m 54 #[.val (.int xa), .val (.int xb), .val (.int xc), .val (.int (Int32.ofNat bn)), .val (.ref b4), .unset, .unset, .unset, .unset, .unset, .unset, .unset, .unset, .unset, .unset, .unset, .unset] [(.int (1 : Int32)), (.int (1 : Int32)), (.ref b19), (.ref b19)])) rfl rfl (hb hby at_54)
  replace R25 : Rep Z n0 h25 ((b19, Ar .int [(.int (0 : Int32)), (.int (1 : Int32)), (.int (0 : Int32)), (.int (0 : Int32))]) :: (b4, Ar .int [(.int (Int32.ofNat (bn % 2))), (.int (Int32.ofNat (bn / 2 % 2))), (.int (Int32.ofNat (bn / 4 % 2))), (.int (Int32.ofNat (bn / 8 % 2)))]) :: []) := R25
  have pre26 : ∀ t, Steps p.tables e below (T25.setTop (mkF m 55 #[.val (.int xa), .val (.int xb), .val (.int xc), .val (.int (Int32.ofNat bn)), .val (.ref b4), .unset, .unset, .unset, .unset, .unset, .unset, .unset, .unset, .unset, .unset, .unset, .unset] [(.ref b19)])) t → Steps p.tables e below (s₁.setTop (entryFrame m #[(.int xa), (.int xb), (.int xc)] maxLocals)) t := fun t k => pre24 t (st25 t k)
  have pre27 : ∀ t, Steps p.tables e below (T25.setTop (mkF m 58 #[.val (.int xa), .val (.int xb), .val (.int xc), .val (.int (Int32.ofNat bn)), .val (.ref b4), .unset, .unset, .unset, .unset, .unset, .unset, .unset, .unset, .unset, .unset, .unset, .unset] [(.int (2 : Int32)), (.int (2 : Int32)), (.ref b19), (.ref b19)])) t → Steps p.tables e below (s₁.setTop (entryFrame m #[(.int xa), (.int xb), (.int xc)] maxLocals)) t := fun t k => pre26 t (by
    show Steps p.tables e below (T25.setTop (mkF m 55 #[.val (.int xa), .val (.int xb), .val (.int xc), .val (.int (Int32.ofNat bn)), .val (.ref b4), .unset, .unset, .unset, .unset, .unset, .unset, .unset, .unset, .unset, .unset, .unset, .unset] [(.ref b19)])) _
    refine XS.dup X25.here hx rfl (hb hby at_55) rfl rfl ?_
    refine XS.iconst X25.here hx rfl (hb hby at_56) ?_
    refine XS.iconst X25.here hx rfl (hb hby at_57) ?_
    exact k)
  obtain ⟨T28, h28, ls28, X28, e28, N28, R28, st28⟩ := gIst X25 hx hZ e25 N25 R25 0 rfl (j := (2 : Int32)) (by decide) (2) rfl (show (2 : Nat) < 4 by decide) (g := (mkF m 58 #[.val (.int xa), .val (.int xb), .val (.int xc), .val (.int (Int32.ofNat bn)), .val (.ref b4), .unset, .unset, .unset, .unset, .unset, .unset, .unset, .unset, .unset, .unset, .unset, .unset] [(.int (2 : Int32)), (.int (2 : Int32)), (.ref b19), (.ref b19)])) rfl rfl (hb hby at_58)
  replace R28 : Rep Z n0 h28 ((b19, Ar .int [(.int (0 : Int32)), (.int (1 : Int32)), (.int (2 : Int32)), (.int (0 : Int32))]) :: (b4, Ar .int [(.int (Int32.ofNat (bn % 2))), (.int (Int32.ofNat (bn / 2 % 2))), (.int (Int32.ofNat (bn / 4 % 2))), (.int (Int32.ofNat (bn / 8 % 2)))]) :: []) := R28
  have pre29 : ∀ t, Steps p.tables e below (T28.setTop (mkF m 59 #[.val (.int xa), .val (.int xb), .val (.int xc), .val (.int (Int32.ofNat bn)), .val (.ref b4), .unset, .unset, .unset, .unset, .unset, .unset, .unset, .unset, .unset, .unset, .unset, .unset] [(.ref b19)])) t → Steps p.tables e below (s₁.setTop (entryFrame m #[(.int xa), (.int xb), (.int xc)] maxLocals)) t := fun t k => pre27 t (st28 t k)
  have pre30 : ∀ t, Steps p.tables e below (T28.setTop (mkF m 62 #[.val (.int xa), .val (.int xb), .val (.int xc), .val (.int (Int32.ofNat bn)), .val (.ref b4), .unset, .unset, .unset, .unset, .unset, .unset, .unset, .unset, .unset, .unset, .unset, .unset] [(.int (3 : Int32)), (.int (3 : Int32)), (.ref b19), (.ref b19)])) t → Steps p.tables e below (s₁.setTop (entryFrame m #[(.int xa), (.int xb), (.int xc)] maxLocals)) t := fun t k => pre29 t (by
    show Steps p.tables e below (T28.setTop (mkF m 59 #[.val (.int xa), .val (.int xb), .val (.int xc), .val (.int (Int32.ofNat bn)), .val (.ref b4), .unset, .unset, .unset, .unset, .unset, .unset, .unset, .unset, .unset, .unset, .unset, .unset] [(.ref b19)])) _
    refine XS.dup X28.here hx rfl (hb hby at_59) rfl rfl ?_
    refine XS.iconst X28.here hx rfl (hb hby at_60) ?_
    refine XS.iconst X28.here hx rfl (hb hby at_61) ?_
    exact k)
  obtain ⟨T31, h31, ls31, X31, e31, N31, R31, st31⟩ := gIst X28 hx hZ e28 N28 R28 0 rfl (j := (3 : Int32)) (by decide) (3) rfl (show (3 : Nat) < 4 by decide) (g := (mkF m 62 #[.val (.int xa), .val (.int xb), .val (.int xc), .val (.int (Int32.ofNat bn)), .val (.ref b4), .unset, .unset, .unset, .unset, .unset, .unset, .unset, .unset, .unset, .unset, .unset, .unset] [(.int (3 : Int32)), (.int (3 : Int32)), (.ref b19), (.ref b19)])) rfl rfl (hb hby at_62)
  replace R31 : Rep Z n0 h31 ((b19, Ar .int [(.int (0 : Int32)), (.int (1 : Int32)), (.int (2 : Int32)), (.int (3 : Int32))]) :: (b4, Ar .int [(.int (Int32.ofNat (bn % 2))), (.int (Int32.ofNat (bn / 2 % 2))), (.int (Int32.ofNat (bn / 4 % 2))), (.int (Int32.ofNat (bn / 8 % 2)))]) :: []) := R31
  have pre32 : ∀ t, Steps p.tables e below (T31.setTop (mkF m 63 #[.val (.int xa), .val (.int xb), .val (.int xc), .val (.int (Int32.ofNat bn)), .val (.ref b4), .unset, .unset, .unset, .unset, .unset, .unset, .unset, .unset, .unset, .unset, .unset, .unset] [(.ref b19)])) t → Steps p.tables e below (s₁.setTop (entryFrame m #[(.int xa), (.int xb), (.int xc)] maxLocals)) t := fun t k => pre30 t (st31 t k)
  have RN32 : Rep Z n0 h31 ((b19, Ar .int (nl [0, 1, 2, 3])) :: (b4, Ar .int (nl (bl bn))) :: []) := R31
  have pre35 : ∀ t, Steps p.tables e below (T31.setTop (mkF m 74 #[.val (.int xa), .val (.int xb), .val (.int xc), .val (.int (Int32.ofNat bn)), .val (.ref b4), .val (.ref b19), .val (.int ((xb &&& (2147483647 : Int32)) % (24 : Int32))), .unset, .unset, .unset, .unset, .unset, .unset, .unset, .unset, .unset, .unset] [])) t → Steps p.tables e below (s₁.setTop (entryFrame m #[(.int xa), (.int xb), (.int xc)] maxLocals)) t := fun t k => pre32 t (by
    show Steps p.tables e below (T31.setTop (mkF m 63 #[.val (.int xa), .val (.int xb), .val (.int xc), .val (.int (Int32.ofNat bn)), .val (.ref b4), .unset, .unset, .unset, .unset, .unset, .unset, .unset, .unset, .unset, .unset, .unset, .unset] [(.ref b19)])) _
    refine XS.astore X31.here hx rfl (hb hby at_63) rfl rfl (l' := #[.val (.int xa), .val (.int xb), .val (.int xc), .val (.int (Int32.ofNat bn)), .val (.ref b4), .val (.ref b19), .unset, .unset, .unset, .unset, .unset, .unset, .unset, .unset, .unset, .unset, .unset]) rfl ?_
    refine XS.iloadN X31.here hx rfl (hb hby at_65) rfl ?_
    refine X31.ldcInt hx hown (mvT hZ (hw _ (List.mem_of_getElem? (i := 1) rfl))) (g := (mkF m 66 #[.val (.int xa), .val (.int xb), .val (.int xc), .val (.int (Int32.ofNat bn)), .val (.ref b4), .val (.ref b19), .unset, .unset, .unset, .unset, .unset, .unset, .unset, .unset, .unset, .unset, .unset] [(.int xb)])) rfl (hb hby at_66) _ ?_
    refine XS.iand X31.here hx rfl (hb hby at_68) rfl ?_
    refine XS.bipush X31.here hx rfl (hb hby at_69) ?_
    refine iremM X31 hx rfl (hb hby at_71) rfl (by decide) ?_
    refine XS.istore X31.here hx rfl (hb hby at_72) rfl (l' := #[.val (.int xa), .val (.int xb), .val (.int xc), .val (.int (Int32.ofNat bn)), .val (.ref b4), .val (.ref b19), .val (.int ((xb &&& (2147483647 : Int32)) % (24 : Int32))), .unset, .unset, .unset, .unset, .unset, .unset, .unset, .unset, .unset, .unset]) rfl ?_
    exact k)
  obtain ⟨v34, hv34⟩ : ∃ z : Int32, z = ((xb &&& (2147483647 : Int32)) % (24 : Int32)) := ⟨_, rfl⟩
  rw [← hv34] at pre35
  obtain ⟨pn, hnpn, hp24⟩ := own_p hv34
  rw [hnpn] at pre35
  have pre36 : ∀ t, Steps p.tables e below (T31.setTop (mkF m 81 #[.val (.int xa), .val (.int xb), .val (.int xc), .val (.int (Int32.ofNat bn)), .val (.ref b4), .val (.ref b19), .val (.int (Int32.ofNat pn)), .unset, .unset, .unset, .unset, .unset, .unset, .unset, .unset, .unset, .unset] [(.int ((Int32.ofNat pn) % (4 : Int32))), (.int (0 : Int32)), (.ref b19)])) t → Steps p.tables e below (s₁.setTop (entryFrame m #[(.int xa), (.int xb), (.int xc)] maxLocals)) t := fun t k => pre35 t (by
    show Steps p.tables e below (T31.setTop (mkF m 74 #[.val (.int xa), .val (.int xb), .val (.int xc), .val (.int (Int32.ofNat bn)), .val (.ref b4), .val (.ref b19), .val (.int (Int32.ofNat pn)), .unset, .unset, .unset, .unset, .unset, .unset, .unset, .unset, .unset, .unset] [])) _
    refine XS.aload X31.here hx rfl (hb hby at_74) rfl rfl ?_
    refine XS.iconst X31.here hx rfl (hb hby at_76) ?_
    refine XS.iload X31.here hx rfl (hb hby at_77) rfl ?_
    refine XS.iconst X31.here hx rfl (hb hby at_79) ?_
    refine iremM X31 hx rfl (hb hby at_80) rfl (by decide) ?_
    exact k)
  rw [own_r0 hp24] at pre36
  obtain ⟨_, _, ⟨T37, L37, k37, n37⟩, -, X37, ⟨Lc37, hQ37, l37, y37, z37⟩, st37⟩ := Jvm.LawKit.callS X31 hx (y := (⟨"com/example/witgen/witgen/regex/PartitionMarkPinLaw", "swap", "([III)V"⟩ : MethodName)) hown (mvT hZ (hw _ (List.mem_of_getElem? (i := 2) rfl))) (mvT hZ (hw _ (List.mem_of_getElem? (i := 3) rfl))) (mvT hZ (hw _ (List.mem_of_getElem? (i := 4) rfl))) (mvT hZ (hw _ (List.mem_of_getElem? (i := 5) rfl))) (by decide) (backOf (W := 0) (rm1 l Z a0 hw [] b19 0 (pn % 4) _ h31 n0 _ RN32 (by simp only [sw_len, List.length_cons, List.length_nil]; omega) (by simp only [sw_len, List.length_cons, List.length_nil]; omega) (by omega) (by omega)) hZ (hw _ (List.mem_of_getElem? (i := 5) rfl)) (hw _ (List.mem_of_getElem? (i := 4) rfl)) (by decide) (by decide)) (g := (mkF m 81 #[.val (.int xa), .val (.int xb), .val (.int xc), .val (.int (Int32.ofNat bn)), .val (.ref b4), .val (.ref b19), .val (.int (Int32.ofNat pn)), .unset, .unset, .unset, .unset, .unset, .unset, .unset, .unset, .unset, .unset] [(.int (Int32.ofNat (pn % 4))), (.int (0 : Int32)), (.ref b19)])) rfl (by rw [hml]; rfl) (argsL := [(.ref b19), (.int (0 : Int32)), (.int (Int32.ofNat (pn % 4)))]) (rest := []) (lenOf pd__28_5bIII_29V rfl) rfl (by show 2 * 0 + _ ≤ _; exact Nat.le_of_eq rfl) (hb hby at_81) (fun _ _ => ⟨rfl, e31, (by decide : 2 + 0 ≤ _), (by decide : 8 + 0 ≤ _)⟩)
  dsimp only [Pt.U, Pt.locs, Pt.cells, Pt.slots] at X37 l37 y37 z37 st37 hQ37
  subst y37 z37
  obtain ⟨rfl, N37q, R37⟩ := hQ37
  have N37 : Fr n0 L37 := by rw [l37]; exact Fr.app N31 N37q
  replace R37 : Rep Z n0 T37.heap ((b19, Ar .int (nl (sw [0, 1, 2, 3] 0 (pn % 4)))) :: (b4, Ar .int (nl (bl bn))) :: []) := R37
  have pre38 : ∀ t, Steps p.tables e below (T37.setTop (mkF m 84 #[.val (.int xa), .val (.int xb), .val (.int xc), .val (.int (Int32.ofNat bn)), .val (.ref b4), .val (.ref b19), .val (.int (Int32.ofNat pn)), .unset, .unset, .unset, .unset, .unset, .unset, .unset, .unset, .unset, .unset] [])) t → Steps p.tables e below (s₁.setTop (entryFrame m #[(.int xa), (.int xb), (.int xc)] maxLocals)) t := fun t k => pre36 t (st37 t k)
  have pre39 : ∀ t, Steps p.tables e below (T37.setTop (mkF m 95 #[.val (.int xa), .val (.int xb), .val (.int xc), .val (.int (Int32.ofNat bn)), .val (.ref b4), .val (.ref b19), .val (.int (Int32.ofNat pn)), .unset, .unset, .unset, .unset, .unset, .unset, .unset, .unset, .unset, .unset] [(.int ((1 : Int32) + (((Int32.ofNat pn) / (4 : Int32)) % (3 : Int32)))), (.int (1 : Int32)), (.ref b19)])) t → Steps p.tables e below (s₁.setTop (entryFrame m #[(.int xa), (.int xb), (.int xc)] maxLocals)) t := fun t k => pre38 t (by
    show Steps p.tables e below (T37.setTop (mkF m 84 #[.val (.int xa), .val (.int xb), .val (.int xc), .val (.int (Int32.ofNat bn)), .val (.ref b4), .val (.ref b19), .val (.int (Int32.ofNat pn)), .unset, .unset, .unset, .unset, .unset, .unset, .unset, .unset, .unset, .unset] [])) _
    refine XS.aload X37.here hx rfl (hb hby at_84) rfl rfl ?_
    refine XS.iconst X37.here hx rfl (hb hby at_86) ?_
    refine XS.iconst X37.here hx rfl (hb hby at_87) ?_
    refine XS.iload X37.here hx rfl (hb hby at_88) rfl ?_
    refine XS.iconst X37.here hx rfl (hb hby at_90) ?_
    refine XS.idiv X37.here hx rfl (hb hby at_91) rfl (by decide) ?_
    refine XS.iconst X37.here hx rfl (hb hby at_92) ?_
    show Steps p.tables e below (T37.setTop (mkF m 93 #[.val (.int xa), .val (.int xb), .val (.int xc), .val (.int (Int32.ofNat bn)), .val (.ref b4), .val (.ref b19), .val (.int (Int32.ofNat pn)), .unset, .unset, .unset, .unset, .unset, .unset, .unset, .unset, .unset, .unset] [(.int (3 : Int32)), (.int ((Int32.ofNat pn) / (4 : Int32))), (.int (1 : Int32)), (.int (1 : Int32)), (.ref b19)])) _
    refine iremM X37 hx rfl (hb hby at_93) rfl (by decide) ?_
    refine XS.iadd X37.here hx rfl (hb hby at_94) rfl ?_
    exact k)
  rw [own_r1 hp24] at pre39
  obtain ⟨_, _, ⟨T40, L40, k40, n40⟩, -, X40, ⟨Lc40, hQ40, l40, y40, z40⟩, st40⟩ := Jvm.LawKit.callS X37 hx (y := (⟨"com/example/witgen/witgen/regex/PartitionMarkPinLaw", "swap", "([III)V"⟩ : MethodName)) hown (mvT hZ (hw _ (List.mem_of_getElem? (i := 2) rfl))) (mvT hZ (hw _ (List.mem_of_getElem? (i := 3) rfl))) (mvT hZ (hw _ (List.mem_of_getElem? (i := 4) rfl))) (mvT hZ (hw _ (List.mem_of_getElem? (i := 5) rfl))) (by decide) (backOf (W := 0) (rm1 l Z a0 hw [] b19 1 (1 + pn / 4 % 3) _ T37.heap n0 _ R37 (by simp only [sw_len, List.length_cons, List.length_nil]; omega) (by simp only [sw_len, List.length_cons, List.length_nil]; omega) (by omega) (by omega)) hZ (hw _ (List.mem_of_getElem? (i := 5) rfl)) (hw _ (List.mem_of_getElem? (i := 4) rfl)) (by decide) (by decide)) (g := (mkF m 95 #[.val (.int xa), .val (.int xb), .val (.int xc), .val (.int (Int32.ofNat bn)), .val (.ref b4), .val (.ref b19), .val (.int (Int32.ofNat pn)), .unset, .unset, .unset, .unset, .unset, .unset, .unset, .unset, .unset, .unset] [(.int (Int32.ofNat (1 + pn / 4 % 3))), (.int (1 : Int32)), (.ref b19)])) rfl (by rw [hml]; rfl) (argsL := [(.ref b19), (.int (1 : Int32)), (.int (Int32.ofNat (1 + pn / 4 % 3)))]) (rest := []) (lenOf pd__28_5bIII_29V rfl) rfl (by show 2 * 0 + _ ≤ _; exact Nat.le_of_eq rfl) (hb hby at_95) (fun _ _ => ⟨rfl, rfl, (by decide : 2 + 0 ≤ _), (by decide : 8 + 0 ≤ _)⟩)
  dsimp only [Pt.U, Pt.locs, Pt.cells, Pt.slots] at X40 l40 y40 z40 st40 hQ40
  subst y40 z40
  obtain ⟨rfl, N40q, R40⟩ := hQ40
  have N40 : Fr n0 L40 := by rw [l40]; exact Fr.app N37 N40q
  replace R40 : Rep Z n0 T40.heap ((b19, Ar .int (nl (sw (sw [0, 1, 2, 3] 0 (pn % 4)) 1 (1 + pn / 4 % 3)))) :: (b4, Ar .int (nl (bl bn))) :: []) := R40
  have pre41 : ∀ t, Steps p.tables e below (T40.setTop (mkF m 98 #[.val (.int xa), .val (.int xb), .val (.int xc), .val (.int (Int32.ofNat bn)), .val (.ref b4), .val (.ref b19), .val (.int (Int32.ofNat pn)), .unset, .unset, .unset, .unset, .unset, .unset, .unset, .unset, .unset, .unset] [])) t → Steps p.tables e below (s₁.setTop (entryFrame m #[(.int xa), (.int xb), (.int xc)] maxLocals)) t := fun t k => pre39 t (st40 t k)
  have pre42 : ∀ t, Steps p.tables e below (T40.setTop (mkF m 110 #[.val (.int xa), .val (.int xb), .val (.int xc), .val (.int (Int32.ofNat bn)), .val (.ref b4), .val (.ref b19), .val (.int (Int32.ofNat pn)), .unset, .unset, .unset, .unset, .unset, .unset, .unset, .unset, .unset, .unset] [(.int ((2 : Int32) + (((Int32.ofNat pn) / (12 : Int32)) % (2 : Int32)))), (.int (2 : Int32)), (.ref b19)])) t → Steps p.tables e below (s₁.setTop (entryFrame m #[(.int xa), (.int xb), (.int xc)] maxLocals)) t := fun t k => pre41 t (by
    show Steps p.tables e below (T40.setTop (mkF m 98 #[.val (.int xa), .val (.int xb), .val (.int xc), .val (.int (Int32.ofNat bn)), .val (.ref b4), .val (.ref b19), .val (.int (Int32.ofNat pn)), .unset, .unset, .unset, .unset, .unset, .unset, .unset, .unset, .unset, .unset] [])) _
    refine XS.aload X40.here hx rfl (hb hby at_98) rfl rfl ?_
    refine XS.iconst X40.here hx rfl (hb hby at_100) ?_
    refine XS.iconst X40.here hx rfl (hb hby at_101) ?_
    refine XS.iload X40.here hx rfl (hb hby at_102) rfl ?_
    refine XS.bipush X40.here hx rfl (hb hby at_104) ?_
    refine XS.idiv X40.here hx rfl (hb hby at_106) rfl (by decide) ?_
    refine XS.iconst X40.here hx rfl (hb hby at_107) ?_
    show Steps p.tables e below (T40.setTop (mkF m 108 #[.val (.int xa), .val (.int xb), .val (.int xc), .val (.int (Int32.ofNat bn)), .val (.ref b4), .val (.ref b19), .val (.int (Int32.ofNat pn)), .unset, .unset, .unset, .unset, .unset, .unset, .unset, .unset, .unset, .unset] [(.int (2 : Int32)), (.int ((Int32.ofNat pn) / (12 : Int32))), (.int (2 : Int32)), (.int (2 : Int32)), (.ref b19)])) _
    refine iremM X40 hx rfl (hb hby at_108) rfl (by decide) ?_
    refine XS.iadd X40.here hx rfl (hb hby at_109) rfl ?_
    exact k)
  rw [own_r2 hp24] at pre42
  obtain ⟨_, _, ⟨T43, L43, k43, n43⟩, -, X43, ⟨Lc43, hQ43, l43, y43, z43⟩, st43⟩ := Jvm.LawKit.callS X40 hx (y := (⟨"com/example/witgen/witgen/regex/PartitionMarkPinLaw", "swap", "([III)V"⟩ : MethodName)) hown (mvT hZ (hw _ (List.mem_of_getElem? (i := 2) rfl))) (mvT hZ (hw _ (List.mem_of_getElem? (i := 3) rfl))) (mvT hZ (hw _ (List.mem_of_getElem? (i := 4) rfl))) (mvT hZ (hw _ (List.mem_of_getElem? (i := 5) rfl))) (by decide) (backOf (W := 0) (rm1 l Z a0 hw [] b19 2 (2 + pn / 12 % 2) _ T40.heap n0 _ R40 (by simp only [sw_len, List.length_cons, List.length_nil]; omega) (by simp only [sw_len, List.length_cons, List.length_nil]; omega) (by omega) (by omega)) hZ (hw _ (List.mem_of_getElem? (i := 5) rfl)) (hw _ (List.mem_of_getElem? (i := 4) rfl)) (by decide) (by decide)) (g := (mkF m 110 #[.val (.int xa), .val (.int xb), .val (.int xc), .val (.int (Int32.ofNat bn)), .val (.ref b4), .val (.ref b19), .val (.int (Int32.ofNat pn)), .unset, .unset, .unset, .unset, .unset, .unset, .unset, .unset, .unset, .unset] [(.int (Int32.ofNat (2 + pn / 12 % 2))), (.int (2 : Int32)), (.ref b19)])) rfl (by rw [hml]; rfl) (argsL := [(.ref b19), (.int (2 : Int32)), (.int (Int32.ofNat (2 + pn / 12 % 2)))]) (rest := []) (lenOf pd__28_5bIII_29V rfl) rfl (by show 2 * 0 + _ ≤ _; exact Nat.le_of_eq rfl) (hb hby at_110) (fun _ _ => ⟨rfl, rfl, (by decide : 2 + 0 ≤ _), (by decide : 8 + 0 ≤ _)⟩)
  dsimp only [Pt.U, Pt.locs, Pt.cells, Pt.slots] at X43 l43 y43 z43 st43 hQ43
  subst y43 z43
  obtain ⟨rfl, N43q, R43⟩ := hQ43
  have N43 : Fr n0 L43 := by rw [l43]; exact Fr.app N40 N43q
  replace R43 : Rep Z n0 T43.heap ((b19, Ar .int (nl (sw (sw (sw [0, 1, 2, 3] 0 (pn % 4)) 1 (1 + pn / 4 % 3)) 2 (2 + pn / 12 % 2)))) :: (b4, Ar .int (nl (bl bn))) :: []) := R43
  have pre44 : ∀ t, Steps p.tables e below (T43.setTop (mkF m 113 #[.val (.int xa), .val (.int xb), .val (.int xc), .val (.int (Int32.ofNat bn)), .val (.ref b4), .val (.ref b19), .val (.int (Int32.ofNat pn)), .unset, .unset, .unset, .unset, .unset, .unset, .unset, .unset, .unset, .unset] [])) t → Steps p.tables e below (s₁.setTop (entryFrame m #[(.int xa), (.int xb), (.int xc)] maxLocals)) t := fun t k => pre42 t (st43 t k)
  have RN44 : Rep Z n0 T43.heap ((b19, Ar .int (nl (oP pn))) :: (b4, Ar .int (nl (bl bn))) :: []) := R43
  have pre47 : ∀ t, Steps p.tables e below (T43.setTop (mkF m 121 #[.val (.int xa), .val (.int xb), .val (.int xc), .val (.int (Int32.ofNat bn)), .val (.ref b4), .val (.ref b19), .val (.int (Int32.ofNat pn)), .val (.int ((xc &&& (2147483647 : Int32)) % (5 : Int32))), .unset, .unset, .unset, .unset, .unset, .unset, .unset, .unset, .unset] [])) t → Steps p.tables e below (s₁.setTop (entryFrame m #[(.int xa), (.int xb), (.int xc)] maxLocals)) t := fun t k => pre44 t (by
    show Steps p.tables e below (T43.setTop (mkF m 113 #[.val (.int xa), .val (.int xb), .val (.int xc), .val (.int (Int32.ofNat bn)), .val (.ref b4), .val (.ref b19), .val (.int (Int32.ofNat pn)), .unset, .unset, .unset, .unset, .unset, .unset, .unset, .unset, .unset, .unset] [])) _
    refine XS.iloadN X43.here hx rfl (hb hby at_113) rfl ?_
    refine X43.ldcInt hx hown (mvT hZ (hw _ (List.mem_of_getElem? (i := 1) rfl))) (g := (mkF m 114 #[.val (.int xa), .val (.int xb), .val (.int xc), .val (.int (Int32.ofNat bn)), .val (.ref b4), .val (.ref b19), .val (.int (Int32.ofNat pn)), .unset, .unset, .unset, .unset, .unset, .unset, .unset, .unset, .unset, .unset] [(.int xc)])) rfl (hb hby at_114) _ ?_
    refine XS.iand X43.here hx rfl (hb hby at_116) rfl ?_
    refine XS.iconst X43.here hx rfl (hb hby at_117) ?_
    refine iremM X43 hx rfl (hb hby at_118) rfl (by decide) ?_
    refine XS.istore X43.here hx rfl (hb hby at_119) rfl (l' := #[.val (.int xa), .val (.int xb), .val (.int xc), .val (.int (Int32.ofNat bn)), .val (.ref b4), .val (.ref b19), .val (.int (Int32.ofNat pn)), .val (.int ((xc &&& (2147483647 : Int32)) % (5 : Int32))), .unset, .unset, .unset, .unset, .unset, .unset, .unset, .unset, .unset]) rfl ?_
    exact k)
  obtain ⟨v46, hv46⟩ : ∃ z : Int32, z = ((xc &&& (2147483647 : Int32)) % (5 : Int32)) := ⟨_, rfl⟩
  rw [← hv46] at pre47
  obtain ⟨mn, hnmn, hm5⟩ := own_mm hv46
  rw [hnmn] at pre47
  have pre48 : ∀ t, Steps p.tables e below (T43.setTop (mkF m 122 #[.val (.int xa), .val (.int xb), .val (.int xc), .val (.int (Int32.ofNat bn)), .val (.ref b4), .val (.ref b19), .val (.int (Int32.ofNat pn)), .val (.int (Int32.ofNat mn)), .unset, .unset, .unset, .unset, .unset, .unset, .unset, .unset, .unset] [(.int (5 : Int32))])) t → Steps p.tables e below (s₁.setTop (entryFrame m #[(.int xa), (.int xb), (.int xc)] maxLocals)) t := fun t k => pre47 t (by
    show Steps p.tables e below (T43.setTop (mkF m 121 #[.val (.int xa), .val (.int xb), .val (.int xc), .val (.int (Int32.ofNat bn)), .val (.ref b4), .val (.ref b19), .val (.int (Int32.ofNat pn)), .val (.int (Int32.ofNat mn)), .unset, .unset, .unset, .unset, .unset, .unset, .unset, .unset, .unset] [])) _
    refine XS.iconst X43.here hx rfl (hb hby at_121) ?_
    exact k)
  obtain ⟨T49, h49, b49, X49, e49, R49, st49⟩ := gNewP X43 hx hZ (hw _ (List.mem_of_getElem? (i := 0) rfl)) rfl RN44 (g := (mkF m 122 #[.val (.int xa), .val (.int xb), .val (.int xc), .val (.int (Int32.ofNat bn)), .val (.ref b4), .val (.ref b19), .val (.int (Int32.ofNat pn)), .val (.int (Int32.ofNat mn)), .unset, .unset, .unset, .unset, .unset, .unset, .unset, .unset, .unset] [(.int (5 : Int32))])) rfl (hb hby at_122) rfl (by decide) 5 (by decide) (by decide) (by decide) (by decide) (vs := [(.int (0 : Int32)), (.int (0 : Int32)), (.int (0 : Int32)), (.int (0 : Int32)), (.int (0 : Int32))]) rfl
  replace R49 : Rep Z n0 h49 ((b49, Ar .int [(.int (0 : Int32)), (.int (0 : Int32)), (.int (0 : Int32)), (.int (0 : Int32)), (.int (0 : Int32))]) :: (b19, Ar .int (nl (oP pn))) :: (b4, Ar .int (nl (bl bn))) :: []) := R49
  have pre50 : ∀ t, Steps p.tables e below (T49.setTop (mkF m 124 #[.val (.int xa), .val (.int xb), .val (.int xc), .val (.int (Int32.ofNat bn)), .val (.ref b4), .val (.ref b19), .val (.int (Int32.ofNat pn)), .val (.int (Int32.ofNat mn)), .unset, .unset, .unset, .unset, .unset, .unset, .unset, .unset, .unset] [(.ref b49)])) t → Steps p.tables e below (s₁.setTop (entryFrame m #[(.int xa), (.int xb), (.int xc)] maxLocals)) t := fun t k => pre48 t (st49 t k)
  have pre51 : ∀ t, Steps p.tables e below (T49.setTop (mkF m 127 #[.val (.int xa), .val (.int xb), .val (.int xc), .val (.int (Int32.ofNat bn)), .val (.ref b4), .val (.ref b19), .val (.int (Int32.ofNat pn)), .val (.int (Int32.ofNat mn)), .unset, .unset, .unset, .unset, .unset, .unset, .unset, .unset, .unset] [(.int (0 : Int32)), (.int (0 : Int32)), (.ref b49), (.ref b49)])) t → Steps p.tables e below (s₁.setTop (entryFrame m #[(.int xa), (.int xb), (.int xc)] maxLocals)) t := fun t k => pre50 t (by
    show Steps p.tables e below (T49.setTop (mkF m 124 #[.val (.int xa), .val (.int xb), .val (.int xc), .val (.int (Int32.ofNat bn)), .val (.ref b4), .val (.ref b19), .val (.int (Int32.ofNat pn)), .val (.int (Int32.ofNat mn)), .unset, .unset, .unset, .unset, .unset, .unset, .unset, .unset, .unset] [(.ref b49)])) _
    refine XS.dup X49.here hx rfl (hb hby at_124) rfl rfl ?_
    refine XS.iconst X49.here hx rfl (hb hby at_125) ?_
    refine XS.iconst X49.here hx rfl (hb hby at_126) ?_
    exact k)
  obtain ⟨T52, h52, ls52, X52, e52, N52, R52, st52⟩ := gIst X49 hx hZ e49 N43 R49 0 rfl (j := (0 : Int32)) (by decide) (0) rfl (show (0 : Nat) < 5 by decide) (g := (mkF m 127 #[.val (.int xa), .val (.int xb), .val (.int xc), .val (.int (Int32.ofNat bn)), .val (.ref b4), .val (.ref b19), .val (.int (Int32.ofNat pn)), .val (.int (Int32.ofNat mn)), .unset, .unset, .unset, .unset, .unset, .unset, .unset, .unset, .unset] [(.int (0 : Int32)), (.int (0 : Int32)), (.ref b49), (.ref b49)])) rfl rfl (hb hby at_127)
  replace R52 : Rep Z n0 h52 ((b49, Ar .int [(.int (0 : Int32)), (.int (0 : Int32)), (.int (0 : Int32)), (.int (0 : Int32)), (.int (0 : Int32))]) :: (b19, Ar .int (nl (oP pn))) :: (b4, Ar .int (nl (bl bn))) :: []) := R52
  have pre53 : ∀ t, Steps p.tables e below (T52.setTop (mkF m 128 #[.val (.int xa), .val (.int xb), .val (.int xc), .val (.int (Int32.ofNat bn)), .val (.ref b4), .val (.ref b19), .val (.int (Int32.ofNat pn)), .val (.int (Int32.ofNat mn)), .unset, .unset, .unset, .unset, .unset, .unset, .unset, .unset, .unset] [(.ref b49)])) t → Steps p.tables e below (s₁.setTop (entryFrame m #[(.int xa), (.int xb), (.int xc)] maxLocals)) t := fun t k => pre51 t (st52 t k)
  have pre54 : ∀ t, Steps p.tables e below (T52.setTop (mkF m 131 #[.val (.int xa), .val (.int xb), .val (.int xc), .val (.int (Int32.ofNat bn)), .val (.ref b4), .val (.ref b19), .val (.int (Int32.ofNat pn)), .val (.int (Int32.ofNat mn)), .unset, .unset, .unset, .unset, .unset, .unset, .unset, .unset, .unset] [(.int (1 : Int32)), (.int (1 : Int32)), (.ref b49), (.ref b49)])) t → Steps p.tables e below (s₁.setTop (entryFrame m #[(.int xa), (.int xb), (.int xc)] maxLocals)) t := fun t k => pre53 t (by
    show Steps p.tables e below (T52.setTop (mkF m 128 #[.val (.int xa), .val (.int xb), .val (.int xc), .val (.int (Int32.ofNat bn)), .val (.ref b4), .val (.ref b19), .val (.int (Int32.ofNat pn)), .val (.int (Int32.ofNat mn)), .unset, .unset, .unset, .unset, .unset, .unset, .unset, .unset, .unset] [(.ref b49)])) _
    refine XS.dup X52.here hx rfl (hb hby at_128) rfl rfl ?_
    refine XS.iconst X52.here hx rfl (hb hby at_129) ?_
    refine XS.iconst X52.here hx rfl (hb hby at_130) ?_
    exact k)
  obtain ⟨T55, h55, ls55, X55, e55, N55, R55, st55⟩ := gIst X52 hx hZ e52 N52 R52 0 rfl (j := (1 : Int32)) (by decide) (1) rfl (show (1 : Nat) < 5 by decide) (g := (mkF m 131 #[.val (.int xa), .val (.int xb), .val (.int xc), .val (.int (Int32.ofNat bn)), .val (.ref b4), .val (.ref b19), .val (.int (Int32.ofNat pn)), .val (.int (Int32.ofNat mn)), .unset, .unset, .unset, .unset, .unset, .unset, .unset, .unset, .unset] [(.int (1 : Int32)), (.int (1 : Int32)), (.ref b49), (.ref b49)])) rfl rfl (hb hby at_131)
  replace R55 : Rep Z n0 h55 ((b49, Ar .int [(.int (0 : Int32)), (.int (1 : Int32)), (.int (0 : Int32)), (.int (0 : Int32)), (.int (0 : Int32))]) :: (b19, Ar .int (nl (oP pn))) :: (b4, Ar .int (nl (bl bn))) :: []) := R55
  have pre56 : ∀ t, Steps p.tables e below (T55.setTop (mkF m 132 #[.val (.int xa), .val (.int xb), .val (.int xc), .val (.int (Int32.ofNat bn)), .val (.ref b4), .val (.ref b19), .val (.int (Int32.ofNat pn)), .val (.int (Int32.ofNat mn)), .unset, .unset, .unset, .unset, .unset, .unset, .unset, .unset, .unset] [(.ref b49)])) t → Steps p.tables e below (s₁.setTop (entryFrame m #[(.int xa), (.int xb), (.int xc)] maxLocals)) t := fun t k => pre54 t (st55 t k)
  have pre57 : ∀ t, Steps p.tables e below (T55.setTop (mkF m 135 #[.val (.int xa), .val (.int xb), .val (.int xc), .val (.int (Int32.ofNat bn)), .val (.ref b4), .val (.ref b19), .val (.int (Int32.ofNat pn)), .val (.int (Int32.ofNat mn)), .unset, .unset, .unset, .unset, .unset, .unset, .unset, .unset, .unset] [(.int (2 : Int32)), (.int (2 : Int32)), (.ref b49), (.ref b49)])) t → Steps p.tables e below (s₁.setTop (entryFrame m #[(.int xa), (.int xb), (.int xc)] maxLocals)) t := fun t k => pre56 t (by
    show Steps p.tables e below (T55.setTop (mkF m 132 #[.val (.int xa), .val (.int xb), .val (.int xc), .val (.int (Int32.ofNat bn)), .val (.ref b4), .val (.ref b19), .val (.int (Int32.ofNat pn)), .val (.int (Int32.ofNat mn)), .unset, .unset, .unset, .unset, .unset, .unset, .unset, .unset, .unset] [(.ref b49)])) _
    refine XS.dup X55.here hx rfl (hb hby at_132) rfl rfl ?_
    refine XS.iconst X55.here hx rfl (hb hby at_133) ?_
    refine XS.iconst X55.here hx rfl (hb hby at_134) ?_
    exact k)
  obtain ⟨T58, h58, ls58, X58, e58, N58, R58, st58⟩ := gIst X55 hx hZ e55 N55 R55 0 rfl (j := (2 : Int32)) (by decide) (2) rfl (show (2 : Nat) < 5 by decide) (g := (mkF m 135 #[.val (.int xa), .val (.int xb), .val (.int xc), .val (.int (Int32.ofNat bn)), .val (.ref b4), .val (.ref b19), .val (.int (Int32.ofNat pn)), .val (.int (Int32.ofNat mn)), .unset, .unset, .unset, .unset, .unset, .unset, .unset, .unset, .unset] [(.int (2 : Int32)), (.int (2 : Int32)), (.ref b49), (.ref b49)])) rfl rfl (hb hby at_135)
  replace R58 : Rep Z n0 h58 ((b49, Ar .int [(.int (0 : Int32)), (.int (1 : Int32)), (.int (2 : Int32)), (.int (0 : Int32)), (.int (0 : Int32))]) :: (b19, Ar .int (nl (oP pn))) :: (b4, Ar .int (nl (bl bn))) :: []) := R58
  have pre59 : ∀ t, Steps p.tables e below (T58.setTop (mkF m 136 #[.val (.int xa), .val (.int xb), .val (.int xc), .val (.int (Int32.ofNat bn)), .val (.ref b4), .val (.ref b19), .val (.int (Int32.ofNat pn)), .val (.int (Int32.ofNat mn)), .unset, .unset, .unset, .unset, .unset, .unset, .unset, .unset, .unset] [(.ref b49)])) t → Steps p.tables e below (s₁.setTop (entryFrame m #[(.int xa), (.int xb), (.int xc)] maxLocals)) t := fun t k => pre57 t (st58 t k)
  have pre60 : ∀ t, Steps p.tables e below (T58.setTop (mkF m 139 #[.val (.int xa), .val (.int xb), .val (.int xc), .val (.int (Int32.ofNat bn)), .val (.ref b4), .val (.ref b19), .val (.int (Int32.ofNat pn)), .val (.int (Int32.ofNat mn)), .unset, .unset, .unset, .unset, .unset, .unset, .unset, .unset, .unset] [(.int (3 : Int32)), (.int (3 : Int32)), (.ref b49), (.ref b49)])) t → Steps p.tables e below (s₁.setTop (entryFrame m #[(.int xa), (.int xb), (.int xc)] maxLocals)) t := fun t k => pre59 t (by
    show Steps p.tables e below (T58.setTop (mkF m 136 #[.val (.int xa), .val (.int xb), .val (.int xc), .val (.int (Int32.ofNat bn)), .val (.ref b4), .val (.ref b19), .val (.int (Int32.ofNat pn)), .val (.int (Int32.ofNat mn)), .unset, .unset, .unset, .unset, .unset, .unset, .unset, .unset, .unset] [(.ref b49)])) _
    refine XS.dup X58.here hx rfl (hb hby at_136) rfl rfl ?_
    refine XS.iconst X58.here hx rfl (hb hby at_137) ?_
    refine XS.iconst X58.here hx rfl (hb hby at_138) ?_
    exact k)
  obtain ⟨T61, h61, ls61, X61, e61, N61, R61, st61⟩ := gIst X58 hx hZ e58 N58 R58 0 rfl (j := (3 : Int32)) (by decide) (3) rfl (show (3 : Nat) < 5 by decide) (g := (mkF m 139 #[.val (.int xa), .val (.int xb), .val (.int xc), .val (.int (Int32.ofNat bn)), .val (.ref b4), .val (.ref b19), .val (.int (Int32.ofNat pn)), .val (.int (Int32.ofNat mn)), .unset, .unset, .unset, .unset, .unset, .unset, .unset, .unset, .unset] [(.int (3 : Int32)), (.int (3 : Int32)), (.ref b49), (.ref b49)])) rfl rfl (hb hby at_139)
  replace R61 : Rep Z n0 h61 ((b49, Ar .int [(.int (0 : Int32)), (.int (1 : Int32)), (.int (2 : Int32)), (.int (3 : Int32)), (.int (0 : Int32))]) :: (b19, Ar .int (nl (oP pn))) :: (b4, Ar .int (nl (bl bn))) :: []) := R61
  have pre62 : ∀ t, Steps p.tables e below (T61.setTop (mkF m 140 #[.val (.int xa), .val (.int xb), .val (.int xc), .val (.int (Int32.ofNat bn)), .val (.ref b4), .val (.ref b19), .val (.int (Int32.ofNat pn)), .val (.int (Int32.ofNat mn)), .unset, .unset, .unset, .unset, .unset, .unset, .unset, .unset, .unset] [(.ref b49)])) t → Steps p.tables e below (s₁.setTop (entryFrame m #[(.int xa), (.int xb), (.int xc)] maxLocals)) t := fun t k => pre60 t (st61 t k)
  have pre63 : ∀ t, Steps p.tables e below (T61.setTop (mkF m 143 #[.val (.int xa), .val (.int xb), .val (.int xc), .val (.int (Int32.ofNat bn)), .val (.ref b4), .val (.ref b19), .val (.int (Int32.ofNat pn)), .val (.int (Int32.ofNat mn)), .unset, .unset, .unset, .unset, .unset, .unset, .unset, .unset, .unset] [(.int (4 : Int32)), (.int (4 : Int32)), (.ref b49), (.ref b49)])) t → Steps p.tables e below (s₁.setTop (entryFrame m #[(.int xa), (.int xb), (.int xc)] maxLocals)) t := fun t k => pre62 t (by
    show Steps p.tables e below (T61.setTop (mkF m 140 #[.val (.int xa), .val (.int xb), .val (.int xc), .val (.int (Int32.ofNat bn)), .val (.ref b4), .val (.ref b19), .val (.int (Int32.ofNat pn)), .val (.int (Int32.ofNat mn)), .unset, .unset, .unset, .unset, .unset, .unset, .unset, .unset, .unset] [(.ref b49)])) _
    refine XS.dup X61.here hx rfl (hb hby at_140) rfl rfl ?_
    refine XS.iconst X61.here hx rfl (hb hby at_141) ?_
    refine XS.iconst X61.here hx rfl (hb hby at_142) ?_
    exact k)
  obtain ⟨T64, h64, ls64, X64, e64, N64, R64, st64⟩ := gIst X61 hx hZ e61 N61 R61 0 rfl (j := (4 : Int32)) (by decide) (4) rfl (show (4 : Nat) < 5 by decide) (g := (mkF m 143 #[.val (.int xa), .val (.int xb), .val (.int xc), .val (.int (Int32.ofNat bn)), .val (.ref b4), .val (.ref b19), .val (.int (Int32.ofNat pn)), .val (.int (Int32.ofNat mn)), .unset, .unset, .unset, .unset, .unset, .unset, .unset, .unset, .unset] [(.int (4 : Int32)), (.int (4 : Int32)), (.ref b49), (.ref b49)])) rfl rfl (hb hby at_143)
  replace R64 : Rep Z n0 h64 ((b49, Ar .int [(.int (0 : Int32)), (.int (1 : Int32)), (.int (2 : Int32)), (.int (3 : Int32)), (.int (4 : Int32))]) :: (b19, Ar .int (nl (oP pn))) :: (b4, Ar .int (nl (bl bn))) :: []) := R64
  have pre65 : ∀ t, Steps p.tables e below (T64.setTop (mkF m 144 #[.val (.int xa), .val (.int xb), .val (.int xc), .val (.int (Int32.ofNat bn)), .val (.ref b4), .val (.ref b19), .val (.int (Int32.ofNat pn)), .val (.int (Int32.ofNat mn)), .unset, .unset, .unset, .unset, .unset, .unset, .unset, .unset, .unset] [(.ref b49)])) t → Steps p.tables e below (s₁.setTop (entryFrame m #[(.int xa), (.int xb), (.int xc)] maxLocals)) t := fun t k => pre63 t (st64 t k)
  have RN65 : Rep Z n0 h64 ((b49, Ar .int (nl [0, 1, 2, 3, 4])) :: (b19, Ar .int (nl (oP pn))) :: (b4, Ar .int (nl (bl bn))) :: []) := R64
  have pre67 : ∀ t, Steps p.tables e below (T64.setTop (mkF m 147 #[.val (.int xa), .val (.int xb), .val (.int xc), .val (.int (Int32.ofNat bn)), .val (.ref b4), .val (.ref b19), .val (.int (Int32.ofNat pn)), .val (.int (Int32.ofNat mn)), .val (.ref b49), .unset, .unset, .unset, .unset, .unset, .unset, .unset, .unset] [(.int (4 : Int32))])) t → Steps p.tables e below (s₁.setTop (entryFrame m #[(.int xa), (.int xb), (.int xc)] maxLocals)) t := fun t k => pre65 t (by
    show Steps p.tables e below (T64.setTop (mkF m 144 #[.val (.int xa), .val (.int xb), .val (.int xc), .val (.int (Int32.ofNat bn)), .val (.ref b4), .val (.ref b19), .val (.int (Int32.ofNat pn)), .val (.int (Int32.ofNat mn)), .unset, .unset, .unset, .unset, .unset, .unset, .unset, .unset, .unset] [(.ref b49)])) _
    refine XS.astore X64.here hx rfl (hb hby at_144) rfl rfl (l' := #[.val (.int xa), .val (.int xb), .val (.int xc), .val (.int (Int32.ofNat bn)), .val (.ref b4), .val (.ref b19), .val (.int (Int32.ofNat pn)), .val (.int (Int32.ofNat mn)), .val (.ref b49), .unset, .unset, .unset, .unset, .unset, .unset, .unset, .unset]) rfl ?_
    refine XS.iconst X64.here hx rfl (hb hby at_146) ?_
    exact k)
  obtain ⟨T68, h68, b68, X68, e68, R68, st68⟩ := gNewP X64 hx hZ (hw _ (List.mem_of_getElem? (i := 6) rfl)) e64 RN65 (g := (mkF m 147 #[.val (.int xa), .val (.int xb), .val (.int xc), .val (.int (Int32.ofNat bn)), .val (.ref b4), .val (.ref b19), .val (.int (Int32.ofNat pn)), .val (.int (Int32.ofNat mn)), .val (.ref b49), .unset, .unset, .unset, .unset, .unset, .unset, .unset, .unset] [(.int (4 : Int32))])) rfl (hb hby at_147) rfl (by decide) 4 (by decide) (by decide) (by decide) (by decide) (vs := [(.long (0 : Int64)), (.long (0 : Int64)), (.long (0 : Int64)), (.long (0 : Int64))]) rfl
  replace R68 : Rep Z n0 h68 ((b68, Ar .long [(.long (0 : Int64)), (.long (0 : Int64)), (.long (0 : Int64)), (.long (0 : Int64))]) :: (b49, Ar .int (nl [0, 1, 2, 3, 4])) :: (b19, Ar .int (nl (oP pn))) :: (b4, Ar .int (nl (bl bn))) :: []) := R68
  have pre69 : ∀ t, Steps p.tables e below (T68.setTop (mkF m 149 #[.val (.int xa), .val (.int xb), .val (.int xc), .val (.int (Int32.ofNat bn)), .val (.ref b4), .val (.ref b19), .val (.int (Int32.ofNat pn)), .val (.int (Int32.ofNat mn)), .val (.ref b49), .unset, .unset, .unset, .unset, .unset, .unset, .unset, .unset] [(.ref b68)])) t → Steps p.tables e below (s₁.setTop (entryFrame m #[(.int xa), (.int xb), (.int xc)] maxLocals)) t := fun t k => pre67 t (st68 t k)
  have pre70 : ∀ t, Steps p.tables e below (T68.setTop (mkF m 152 #[.val (.int xa), .val (.int xb), .val (.int xc), .val (.int (Int32.ofNat bn)), .val (.ref b4), .val (.ref b19), .val (.int (Int32.ofNat pn)), .val (.int (Int32.ofNat mn)), .val (.ref b49), .unset, .unset, .unset, .unset, .unset, .unset, .unset, .unset] [(.long (0 : Int64)), (.int (0 : Int32)), (.ref b68), (.ref b68)])) t → Steps p.tables e below (s₁.setTop (entryFrame m #[(.int xa), (.int xb), (.int xc)] maxLocals)) t := fun t k => pre69 t (by
    show Steps p.tables e below (T68.setTop (mkF m 149 #[.val (.int xa), .val (.int xb), .val (.int xc), .val (.int (Int32.ofNat bn)), .val (.ref b4), .val (.ref b19), .val (.int (Int32.ofNat pn)), .val (.int (Int32.ofNat mn)), .val (.ref b49), .unset, .unset, .unset, .unset, .unset, .unset, .unset, .unset] [(.ref b68)])) _
    refine XS.dup X68.here hx rfl (hb hby at_149) rfl rfl ?_
    refine XS.iconst X68.here hx rfl (hb hby at_150) ?_
    refine XS.lconst X68.here hx rfl (hb hby at_151) ?_
    exact k)
  obtain ⟨T71, h71, ls71, X71, e71, N71, R71, st71⟩ := gLst X68 hx hZ e68 N64 R68 0 rfl (j := (0 : Int32)) (by decide) (0) rfl (show (0 : Nat) < 4 by decide) (g := (mkF m 152 #[.val (.int xa), .val (.int xb), .val (.int xc), .val (.int (Int32.ofNat bn)), .val (.ref b4), .val (.ref b19), .val (.int (Int32.ofNat pn)), .val (.int (Int32.ofNat mn)), .val (.ref b49), .unset, .unset, .unset, .unset, .unset, .unset, .unset, .unset] [(.long (0 : Int64)), (.int (0 : Int32)), (.ref b68), (.ref b68)])) rfl rfl (hb hby at_152)
  replace R71 : Rep Z n0 h71 ((b68, Ar .long [(.long (0 : Int64)), (.long (0 : Int64)), (.long (0 : Int64)), (.long (0 : Int64))]) :: (b49, Ar .int (nl [0, 1, 2, 3, 4])) :: (b19, Ar .int (nl (oP pn))) :: (b4, Ar .int (nl (bl bn))) :: []) := R71
  have pre72 : ∀ t, Steps p.tables e below (T71.setTop (mkF m 153 #[.val (.int xa), .val (.int xb), .val (.int xc), .val (.int (Int32.ofNat bn)), .val (.ref b4), .val (.ref b19), .val (.int (Int32.ofNat pn)), .val (.int (Int32.ofNat mn)), .val (.ref b49), .unset, .unset, .unset, .unset, .unset, .unset, .unset, .unset] [(.ref b68)])) t → Steps p.tables e below (s₁.setTop (entryFrame m #[(.int xa), (.int xb), (.int xc)] maxLocals)) t := fun t k => pre70 t (st71 t k)
  have pre73 : ∀ t, Steps p.tables e below (T71.setTop (mkF m 156 #[.val (.int xa), .val (.int xb), .val (.int xc), .val (.int (Int32.ofNat bn)), .val (.ref b4), .val (.ref b19), .val (.int (Int32.ofNat pn)), .val (.int (Int32.ofNat mn)), .val (.ref b49), .unset, .unset, .unset, .unset, .unset, .unset, .unset, .unset] [(.long (1 : Int64)), (.int (1 : Int32)), (.ref b68), (.ref b68)])) t → Steps p.tables e below (s₁.setTop (entryFrame m #[(.int xa), (.int xb), (.int xc)] maxLocals)) t := fun t k => pre72 t (by
    show Steps p.tables e below (T71.setTop (mkF m 153 #[.val (.int xa), .val (.int xb), .val (.int xc), .val (.int (Int32.ofNat bn)), .val (.ref b4), .val (.ref b19), .val (.int (Int32.ofNat pn)), .val (.int (Int32.ofNat mn)), .val (.ref b49), .unset, .unset, .unset, .unset, .unset, .unset, .unset, .unset] [(.ref b68)])) _
    refine XS.dup X71.here hx rfl (hb hby at_153) rfl rfl ?_
    refine XS.iconst X71.here hx rfl (hb hby at_154) ?_
    refine XS.lconst X71.here hx rfl (hb hby at_155) ?_
    exact k)
  obtain ⟨T74, h74, ls74, X74, e74, N74, R74, st74⟩ := gLst X71 hx hZ e71 N71 R71 0 rfl (j := (1 : Int32)) (by decide) (1) rfl (show (1 : Nat) < 4 by decide) (g := (mkF m 156 #[.val (.int xa), .val (.int xb), .val (.int xc), .val (.int (Int32.ofNat bn)), .val (.ref b4), .val (.ref b19), .val (.int (Int32.ofNat pn)), .val (.int (Int32.ofNat mn)), .val (.ref b49), .unset, .unset, .unset, .unset, .unset, .unset, .unset, .unset] [(.long (1 : Int64)), (.int (1 : Int32)), (.ref b68), (.ref b68)])) rfl rfl (hb hby at_156)
  replace R74 : Rep Z n0 h74 ((b68, Ar .long [(.long (0 : Int64)), (.long (1 : Int64)), (.long (0 : Int64)), (.long (0 : Int64))]) :: (b49, Ar .int (nl [0, 1, 2, 3, 4])) :: (b19, Ar .int (nl (oP pn))) :: (b4, Ar .int (nl (bl bn))) :: []) := R74
  have pre75 : ∀ t, Steps p.tables e below (T74.setTop (mkF m 157 #[.val (.int xa), .val (.int xb), .val (.int xc), .val (.int (Int32.ofNat bn)), .val (.ref b4), .val (.ref b19), .val (.int (Int32.ofNat pn)), .val (.int (Int32.ofNat mn)), .val (.ref b49), .unset, .unset, .unset, .unset, .unset, .unset, .unset, .unset] [(.ref b68)])) t → Steps p.tables e below (s₁.setTop (entryFrame m #[(.int xa), (.int xb), (.int xc)] maxLocals)) t := fun t k => pre73 t (st74 t k)
  have pre76 : ∀ t, Steps p.tables e below (T74.setTop (mkF m 162 #[.val (.int xa), .val (.int xb), .val (.int xc), .val (.int (Int32.ofNat bn)), .val (.ref b4), .val (.ref b19), .val (.int (Int32.ofNat pn)), .val (.int (Int32.ofNat mn)), .val (.ref b49), .unset, .unset, .unset, .unset, .unset, .unset, .unset, .unset] [(.long (2 : Int64)), (.int (2 : Int32)), (.ref b68), (.ref b68)])) t → Steps p.tables e below (s₁.setTop (entryFrame m #[(.int xa), (.int xb), (.int xc)] maxLocals)) t := fun t k => pre75 t (by
    show Steps p.tables e below (T74.setTop (mkF m 157 #[.val (.int xa), .val (.int xb), .val (.int xc), .val (.int (Int32.ofNat bn)), .val (.ref b4), .val (.ref b19), .val (.int (Int32.ofNat pn)), .val (.int (Int32.ofNat mn)), .val (.ref b49), .unset, .unset, .unset, .unset, .unset, .unset, .unset, .unset] [(.ref b68)])) _
    refine XS.dup X74.here hx rfl (hb hby at_157) rfl rfl ?_
    refine XS.iconst X74.here hx rfl (hb hby at_158) ?_
    refine X74.ldc2Long hx hown (mvT hZ (hw _ (List.mem_of_getElem? (i := 7) rfl))) (g := (mkF m 159 #[.val (.int xa), .val (.int xb), .val (.int xc), .val (.int (Int32.ofNat bn)), .val (.ref b4), .val (.ref b19), .val (.int (Int32.ofNat pn)), .val (.int (Int32.ofNat mn)), .val (.ref b49), .unset, .unset, .unset, .unset, .unset, .unset, .unset, .unset] [(.int (2 : Int32)), (.ref b68), (.ref b68)])) rfl (hb hby at_159) _ ?_
    exact k)
  obtain ⟨T77, h77, ls77, X77, e77, N77, R77, st77⟩ := gLst X74 hx hZ e74 N74 R74 0 rfl (j := (2 : Int32)) (by decide) (2) rfl (show (2 : Nat) < 4 by decide) (g := (mkF m 162 #[.val (.int xa), .val (.int xb), .val (.int xc), .val (.int (Int32.ofNat bn)), .val (.ref b4), .val (.ref b19), .val (.int (Int32.ofNat pn)), .val (.int (Int32.ofNat mn)), .val (.ref b49), .unset, .unset, .unset, .unset, .unset, .unset, .unset, .unset] [(.long (2 : Int64)), (.int (2 : Int32)), (.ref b68), (.ref b68)])) rfl rfl (hb hby at_162)
  replace R77 : Rep Z n0 h77 ((b68, Ar .long [(.long (0 : Int64)), (.long (1 : Int64)), (.long (2 : Int64)), (.long (0 : Int64))]) :: (b49, Ar .int (nl [0, 1, 2, 3, 4])) :: (b19, Ar .int (nl (oP pn))) :: (b4, Ar .int (nl (bl bn))) :: []) := R77
  have pre78 : ∀ t, Steps p.tables e below (T77.setTop (mkF m 163 #[.val (.int xa), .val (.int xb), .val (.int xc), .val (.int (Int32.ofNat bn)), .val (.ref b4), .val (.ref b19), .val (.int (Int32.ofNat pn)), .val (.int (Int32.ofNat mn)), .val (.ref b49), .unset, .unset, .unset, .unset, .unset, .unset, .unset, .unset] [(.ref b68)])) t → Steps p.tables e below (s₁.setTop (entryFrame m #[(.int xa), (.int xb), (.int xc)] maxLocals)) t := fun t k => pre76 t (st77 t k)
  have pre79 : ∀ t, Steps p.tables e below (T77.setTop (mkF m 168 #[.val (.int xa), .val (.int xb), .val (.int xc), .val (.int (Int32.ofNat bn)), .val (.ref b4), .val (.ref b19), .val (.int (Int32.ofNat pn)), .val (.int (Int32.ofNat mn)), .val (.ref b49), .unset, .unset, .unset, .unset, .unset, .unset, .unset, .unset] [(.long (3 : Int64)), (.int (3 : Int32)), (.ref b68), (.ref b68)])) t → Steps p.tables e below (s₁.setTop (entryFrame m #[(.int xa), (.int xb), (.int xc)] maxLocals)) t := fun t k => pre78 t (by
    show Steps p.tables e below (T77.setTop (mkF m 163 #[.val (.int xa), .val (.int xb), .val (.int xc), .val (.int (Int32.ofNat bn)), .val (.ref b4), .val (.ref b19), .val (.int (Int32.ofNat pn)), .val (.int (Int32.ofNat mn)), .val (.ref b49), .unset, .unset, .unset, .unset, .unset, .unset, .unset, .unset] [(.ref b68)])) _
    refine XS.dup X77.here hx rfl (hb hby at_163) rfl rfl ?_
    refine XS.iconst X77.here hx rfl (hb hby at_164) ?_
    refine X77.ldc2Long hx hown (mvT hZ (hw _ (List.mem_of_getElem? (i := 8) rfl))) (g := (mkF m 165 #[.val (.int xa), .val (.int xb), .val (.int xc), .val (.int (Int32.ofNat bn)), .val (.ref b4), .val (.ref b19), .val (.int (Int32.ofNat pn)), .val (.int (Int32.ofNat mn)), .val (.ref b49), .unset, .unset, .unset, .unset, .unset, .unset, .unset, .unset] [(.int (3 : Int32)), (.ref b68), (.ref b68)])) rfl (hb hby at_165) _ ?_
    exact k)
  obtain ⟨T80, h80, ls80, X80, e80, N80, R80, st80⟩ := gLst X77 hx hZ e77 N77 R77 0 rfl (j := (3 : Int32)) (by decide) (3) rfl (show (3 : Nat) < 4 by decide) (g := (mkF m 168 #[.val (.int xa), .val (.int xb), .val (.int xc), .val (.int (Int32.ofNat bn)), .val (.ref b4), .val (.ref b19), .val (.int (Int32.ofNat pn)), .val (.int (Int32.ofNat mn)), .val (.ref b49), .unset, .unset, .unset, .unset, .unset, .unset, .unset, .unset] [(.long (3 : Int64)), (.int (3 : Int32)), (.ref b68), (.ref b68)])) rfl rfl (hb hby at_168)
  replace R80 : Rep Z n0 h80 ((b68, Ar .long [(.long (0 : Int64)), (.long (1 : Int64)), (.long (2 : Int64)), (.long (3 : Int64))]) :: (b49, Ar .int (nl [0, 1, 2, 3, 4])) :: (b19, Ar .int (nl (oP pn))) :: (b4, Ar .int (nl (bl bn))) :: []) := R80
  have pre81 : ∀ t, Steps p.tables e below (T80.setTop (mkF m 169 #[.val (.int xa), .val (.int xb), .val (.int xc), .val (.int (Int32.ofNat bn)), .val (.ref b4), .val (.ref b19), .val (.int (Int32.ofNat pn)), .val (.int (Int32.ofNat mn)), .val (.ref b49), .unset, .unset, .unset, .unset, .unset, .unset, .unset, .unset] [(.ref b68)])) t → Steps p.tables e below (s₁.setTop (entryFrame m #[(.int xa), (.int xb), (.int xc)] maxLocals)) t := fun t k => pre79 t (st80 t k)
  have RN81 : Rep Z n0 h80 ((b68, Ar .long (ll [0, 1, 2, 3])) :: (b49, Ar .int (nl [0, 1, 2, 3, 4])) :: (b19, Ar .int (nl (oP pn))) :: (b4, Ar .int (nl (bl bn))) :: []) := R80
  obtain ⟨hC, hM0, hM1, hM2, hM3, hT0, hT1, hT2, hT3, hT4⟩ := chk_ok (own_at hb16 hp24)
  have pre83 : ∀ t, Steps p.tables e below (T80.setTop (mkF m 171 #[.val (.int xa), .val (.int xb), .val (.int xc), .val (.int (Int32.ofNat bn)), .val (.ref b4), .val (.ref b19), .val (.int (Int32.ofNat pn)), .val (.int (Int32.ofNat mn)), .val (.ref b49), .val (.ref b68), .unset, .unset, .unset, .unset, .unset, .unset, .unset] [])) t → Steps p.tables e below (s₁.setTop (entryFrame m #[(.int xa), (.int xb), (.int xc)] maxLocals)) t := fun t k => pre81 t (by
    show Steps p.tables e below (T80.setTop (mkF m 169 #[.val (.int xa), .val (.int xb), .val (.int xc), .val (.int (Int32.ofNat bn)), .val (.ref b4), .val (.ref b19), .val (.int (Int32.ofNat pn)), .val (.int (Int32.ofNat mn)), .val (.ref b49), .unset, .unset, .unset, .unset, .unset, .unset, .unset, .unset] [(.ref b68)])) _
    refine XS.astore X80.here hx rfl (hb hby at_169) rfl rfl (l' := #[.val (.int xa), .val (.int xb), .val (.int xc), .val (.int (Int32.ofNat bn)), .val (.ref b4), .val (.ref b19), .val (.int (Int32.ofNat pn)), .val (.int (Int32.ofNat mn)), .val (.ref b49), .val (.ref b68), .unset, .unset, .unset, .unset, .unset, .unset, .unset]) rfl ?_
    exact k)
  obtain ⟨T84, h84, b84, X84, e84, R84, st84⟩ := gNew X80 hx hZ hown (hw _ (List.mem_of_getElem? (i := 9) rfl)) (hw _ (List.mem_of_getElem? (i := 10) rfl)) (hw _ (List.mem_of_getElem? (i := 11) rfl)) e80 RN81 (fs := [("elements", "[I", .null), ("location", "[I", .null), ("blockOf", "[I", .null), ("start", "[I", .null), ("end", "[I", .null), ("marked", "[I", .null), ("touched", "[I", .null), ("blocks", "I", (.int (0 : Int32))), ("touchedCount", "I", (.int (0 : Int32)))]) ⟨⟨Or.inr (hw _ (List.mem_of_getElem? (i := 23) rfl)), (.array .int), by decide, rfl⟩, ⟨⟨Or.inr (hw _ (List.mem_of_getElem? (i := 25) rfl)), (.array .int), by decide, rfl⟩, ⟨⟨Or.inr (hw _ (List.mem_of_getElem? (i := 36) rfl)), (.array .int), by decide, rfl⟩, ⟨⟨Or.inr (hw _ (List.mem_of_getElem? (i := 38) rfl)), (.array .int), by decide, rfl⟩, ⟨⟨Or.inr (hw _ (List.mem_of_getElem? (i := 40) rfl)), (.array .int), by decide, rfl⟩, ⟨⟨Or.inr (hw _ (List.mem_of_getElem? (i := 42) rfl)), (.array .int), by decide, rfl⟩, ⟨⟨Or.inr (hw _ (List.mem_of_getElem? (i := 44) rfl)), (.array .int), by decide, rfl⟩, ⟨⟨Or.inl (hw _ (List.mem_of_getElem? (i := 46) rfl)), .int, by decide, rfl⟩, ⟨⟨Or.inl (hw _ (List.mem_of_getElem? (i := 64) rfl)), .int, by decide, rfl⟩, trivial⟩⟩⟩⟩⟩⟩⟩⟩⟩ (by decide) (g := (mkF m 171 #[.val (.int xa), .val (.int xb), .val (.int xc), .val (.int (Int32.ofNat bn)), .val (.ref b4), .val (.ref b19), .val (.int (Int32.ofNat pn)), .val (.int (Int32.ofNat mn)), .val (.ref b49), .val (.ref b68), .unset, .unset, .unset, .unset, .unset, .unset, .unset] [])) rfl (hb hby at_171) (by decide) (by decide)
  have pre85 : ∀ t, Steps p.tables e below (T84.setTop (mkF m 174 #[.val (.int xa), .val (.int xb), .val (.int xc), .val (.int (Int32.ofNat bn)), .val (.ref b4), .val (.ref b19), .val (.int (Int32.ofNat pn)), .val (.int (Int32.ofNat mn)), .val (.ref b49), .val (.ref b68), .unset, .unset, .unset, .unset, .unset, .unset, .unset] [(.ref b84)])) t → Steps p.tables e below (s₁.setTop (entryFrame m #[(.int xa), (.int xb), (.int xc)] maxLocals)) t := fun t k => pre83 t (st84 t k)
  have pre86 : ∀ t, Steps p.tables e below (T84.setTop (mkF m 178 #[.val (.int xa), .val (.int xb), .val (.int xc), .val (.int (Int32.ofNat bn)), .val (.ref b4), .val (.ref b19), .val (.int (Int32.ofNat pn)), .val (.int (Int32.ofNat mn)), .val (.ref b49), .val (.ref b68), .unset, .unset, .unset, .unset, .unset, .unset, .unset] [(.int (2 : Int32)), (.ref b4), (.ref b84), (.ref b84)])) t → Steps p.tables e below (s₁.setTop (entryFrame m #[(.int xa), (.int xb), (.int xc)] maxLocals)) t := fun t k => pre85 t (by
    show Steps p.tables e below (T84.setTop (mkF m 174 #[.val (.int xa), .val (.int xb), .val (.int xc), .val (.int (Int32.ofNat bn)), .val (.ref b4), .val (.ref b19), .val (.int (Int32.ofNat pn)), .val (.int (Int32.ofNat mn)), .val (.ref b49), .val (.ref b68), .unset, .unset, .unset, .unset, .unset, .unset, .unset] [(.ref b84)])) _
    refine XS.dup X84.here hx rfl (hb hby at_174) rfl rfl ?_
    refine XS.aload X84.here hx rfl (hb hby at_175) rfl rfl ?_
    refine XS.iconst X84.here hx rfl (hb hby at_177) ?_
    exact k)
  have R88 : Rep Z n0 h84 ((b84, Obj "com/example/witgen/witgen/regex/Partition" [("elements", "[I", .null), ("location", "[I", .null), ("blockOf", "[I", .null), ("start", "[I", .null), ("end", "[I", .null), ("marked", "[I", .null), ("touched", "[I", .null), ("blocks", "I", (.int (0 : Int32))), ("touchedCount", "I", (.int (0 : Int32)))]) :: (b4, Ar .int (nl (bl bn))) :: (b68, Ar .long (ll [0, 1, 2, 3])) :: (b49, Ar .int (nl [0, 1, 2, 3, 4])) :: (b19, Ar .int (nl (oP pn))) :: []) := R84.pick [4, 1] rfl
  obtain ⟨_, _, ⟨T87, L87, k87, n87⟩, -, X87, ⟨Lc87, hQ87, l87, y87, z87⟩, st87⟩ := X84.specialBack hx (y := (⟨"com/example/witgen/witgen/regex/Partition", "<init>", "([II)V"⟩ : MethodName)) rfl hown (mvT hZ (hw _ (List.mem_of_getElem? (i := 12) rfl))) (mvT hZ (hw _ (List.mem_of_getElem? (i := 13) rfl))) (mvT hZ (hw _ (List.mem_of_getElem? (i := 14) rfl))) (by decide) (backOf (W := 1) (rm2 l Z a0 hw [] b84 b4 2 _ _ _ _ _ _ _ _ _ h84 n0 _ R88 (show (4 : Nat) ≤ 4 by decide) (by decide) (by decide) (hC)) hZ (hw _ (List.mem_of_getElem? (i := 14) rfl)) (hw _ (List.mem_of_getElem? (i := 11) rfl)) (by decide) (by decide)) (g := (mkF m 178 #[.val (.int xa), .val (.int xb), .val (.int xc), .val (.int (Int32.ofNat bn)), .val (.ref b4), .val (.ref b19), .val (.int (Int32.ofNat pn)), .val (.int (Int32.ofNat mn)), .val (.ref b49), .val (.ref b68), .unset, .unset, .unset, .unset, .unset, .unset, .unset] [(.int (2 : Int32)), (.ref b4), (.ref b84), (.ref b84)])) rfl (by rw [hml]; rfl) (Steps.refl _) (a := b84) (argsL := [(.ref b4), (.int (2 : Int32))]) (rest := [(.ref b84)]) (lenOf pd__28_5bII_29V rfl) rfl (by show 2 * 0 + _ ≤ _; exact Nat.le_of_eq rfl) (hb hby at_178) (fun _ _ => ⟨rfl, e84, (by decide : 5 + 8 ≤ _), (by decide : 26 + 52 ≤ _)⟩)
  dsimp only [Pt.U, Pt.locs, Pt.cells, Pt.slots] at X87 l87 y87 z87 st87 hQ87
  subst y87 z87
  obtain ⟨b187, b287, b387, b487, b587, b687, b787, rfl, N87q, R87⟩ := hQ87
  have N87 : Fr n0 L87 := by rw [l87]; exact Fr.app N80 N87q
  replace R87 : Rep Z n0 T87.heap ((b84, Obj "com/example/witgen/witgen/regex/Partition" [("elements", "[I", (.ref b187)), ("location", "[I", (.ref b287)), ("blockOf", "[I", (.ref b387)), ("start", "[I", (.ref b487)), ("end", "[I", (.ref b587)), ("marked", "[I", (.ref b687)), ("touched", "[I", (.ref b787)), ("blocks", "I", (.int (Int32.ofNat 2))), ("touchedCount", "I", (.int (0 : Int32)))]) :: (b187, Ar .int (nl (pS4 (bl bn) 2).1)) :: (b287, Ar .int (nl (pS4 (bl bn) 2).2.1)) :: (b387, Ar .int (nl (bl bn))) :: (b487, Ar .int (nl (pSt (bl bn) 2))) :: (b587, Ar .int (nl (pEn (bl bn) 2))) :: (b687, Ar .int (nl (List.replicate (max (bl bn).length 2) 0))) :: (b787, Ar .int (nl (List.replicate (max (bl bn).length 2) 0))) :: (b4, Ar .int (nl (bl bn))) :: (b68, Ar .long (ll [0, 1, 2, 3])) :: (b49, Ar .int (nl [0, 1, 2, 3, 4])) :: (b19, Ar .int (nl (oP pn))) :: []) := R87
  have pre89 : ∀ t, Steps p.tables e below (T87.setTop (mkF m 181 #[.val (.int xa), .val (.int xb), .val (.int xc), .val (.int (Int32.ofNat bn)), .val (.ref b4), .val (.ref b19), .val (.int (Int32.ofNat pn)), .val (.int (Int32.ofNat mn)), .val (.ref b49), .val (.ref b68), .unset, .unset, .unset, .unset, .unset, .unset, .unset] [(.ref b84)])) t → Steps p.tables e below (s₁.setTop (entryFrame m #[(.int xa), (.int xb), (.int xc)] maxLocals)) t := fun t k => pre86 t (st87.trans k)
  have RF87 : Rep Z n0 T87.heap ((b84, Obj "com/example/witgen/witgen/regex/Partition" [("elements", "[I", (.ref b187)), ("location", "[I", (.ref b287)), ("blockOf", "[I", (.ref b387)), ("start", "[I", (.ref b487)), ("end", "[I", (.ref b587)), ("marked", "[I", (.ref b687)), ("touched", "[I", (.ref b787)), ("blocks", "I", (.int (Int32.ofNat 2))), ("touchedCount", "I", (.int (Int32.ofNat (cM0 bn pn))))]) :: (b187, Ar .int (nl (eM0 bn pn))) :: (b287, Ar .int (nl (lM0 bn pn))) :: (b387, Ar .int (nl (bl bn))) :: (b487, Ar .int (nl (pSt (bl bn) 2))) :: (b587, Ar .int (nl (pEn (bl bn) 2))) :: (b687, Ar .int (nl (kM0 bn pn))) :: (b787, Ar .int (nl (tM0 bn pn))) :: (b4, Ar .int (nl (bl bn))) :: (b68, Ar .long (ll [0, 1, 2, 3])) :: (b49, Ar .int (nl [0, 1, 2, 3, 4])) :: (b19, Ar .int (nl (oP pn))) :: []) := R87
  have pre90 : ∀ t, Steps p.tables e below (T87.setTop (mkF m 188 #[.val (.int xa), .val (.int xb), .val (.int xc), .val (.int (Int32.ofNat bn)), .val (.ref b4), .val (.ref b19), .val (.int (Int32.ofNat pn)), .val (.int (Int32.ofNat mn)), .val (.ref b49), .val (.ref b68), .val (.ref b84), .val (.int (0 : Int32)), .unset, .unset, .unset, .unset, .unset] [(.int (Int32.ofNat mn))])) t → Steps p.tables e below (s₁.setTop (entryFrame m #[(.int xa), (.int xb), (.int xc)] maxLocals)) t := fun t k => pre89 t (by
    show Steps p.tables e below (T87.setTop (mkF m 181 #[.val (.int xa), .val (.int xb), .val (.int xc), .val (.int (Int32.ofNat bn)), .val (.ref b4), .val (.ref b19), .val (.int (Int32.ofNat pn)), .val (.int (Int32.ofNat mn)), .val (.ref b49), .val (.ref b68), .unset, .unset, .unset, .unset, .unset, .unset, .unset] [(.ref b84)])) _
    refine XS.astore X87.here hx rfl (hb hby at_181) rfl rfl (l' := #[.val (.int xa), .val (.int xb), .val (.int xc), .val (.int (Int32.ofNat bn)), .val (.ref b4), .val (.ref b19), .val (.int (Int32.ofNat pn)), .val (.int (Int32.ofNat mn)), .val (.ref b49), .val (.ref b68), .val (.ref b84), .unset, .unset, .unset, .unset, .unset, .unset]) rfl ?_
    refine XS.iconst X87.here hx rfl (hb hby at_183) ?_
    refine XS.istore X87.here hx rfl (hb hby at_184) rfl (l' := #[.val (.int xa), .val (.int xb), .val (.int xc), .val (.int (Int32.ofNat bn)), .val (.ref b4), .val (.ref b19), .val (.int (Int32.ofNat pn)), .val (.int (Int32.ofNat mn)), .val (.ref b49), .val (.ref b68), .val (.ref b84), .val (.int (0 : Int32)), .unset, .unset, .unset, .unset, .unset]) rfl ?_
    refine XS.iload X87.here hx rfl (hb hby at_186) rfl ?_
    exact k)
  by_cases hgt0 : (0 : Int32) < (Int32.ofNat mn)
  · have pre91 : ∀ t, Steps p.tables e below (T87.setTop (mkF m 191 #[.val (.int xa), .val (.int xb), .val (.int xc), .val (.int (Int32.ofNat bn)), .val (.ref b4), .val (.ref b19), .val (.int (Int32.ofNat pn)), .val (.int (Int32.ofNat mn)), .val (.ref b49), .val (.ref b68), .val (.ref b84), .val (.int (0 : Int32)), .unset, .unset, .unset, .unset, .unset] [])) t → Steps p.tables e below (s₁.setTop (entryFrame m #[(.int xa), (.int xb), (.int xc)] maxLocals)) t := fun t k => pre90 t (by show Steps p.tables e below (T87.setTop (mkF m 188 #[.val (.int xa), .val (.int xb), .val (.int xc), .val (.int (Int32.ofNat bn)), .val (.ref b4), .val (.ref b19), .val (.int (Int32.ofNat pn)), .val (.int (Int32.ofNat mn)), .val (.ref b49), .val (.ref b68), .val (.ref b84), .val (.int (0 : Int32)), .unset, .unset, .unset, .unset, .unset] [(.int (Int32.ofNat mn))])) _; refine XS.ifNo X87.here hx rfl (hb hby at_188) rfl ((if0 _ _).trans (tlt hgt0).2.2.2) ?_; exact k)
    have pre92 : ∀ t, Steps p.tables e below (T87.setTop (mkF m 197 #[.val (.int xa), .val (.int xb), .val (.int xc), .val (.int (Int32.ofNat bn)), .val (.ref b4), .val (.ref b19), .val (.int (Int32.ofNat pn)), .val (.int (Int32.ofNat mn)), .val (.ref b49), .val (.ref b68), .val (.ref b84), .val (.int (0 : Int32)), .unset, .unset, .unset, .unset, .unset] [(.int (Int32.ofNat ((oP pn).getD 0 0))), (.ref b84)])) t → Steps p.tables e below (s₁.setTop (entryFrame m #[(.int xa), (.int xb), (.int xc)] maxLocals)) t := fun t k => pre91 t (by
      show Steps p.tables e below (T87.setTop (mkF m 191 #[.val (.int xa), .val (.int xb), .val (.int xc), .val (.int (Int32.ofNat bn)), .val (.ref b4), .val (.ref b19), .val (.int (Int32.ofNat pn)), .val (.int (Int32.ofNat mn)), .val (.ref b49), .val (.ref b68), .val (.ref b84), .val (.int (0 : Int32)), .unset, .unset, .unset, .unset, .unset] [])) _
      refine XS.aload X87.here hx rfl (hb hby at_191) rfl rfl ?_
      refine XS.aload X87.here hx rfl (hb hby at_193) rfl rfl ?_
      refine XS.iconst X87.here hx rfl (hb hby at_195) ?_
      refine gIald X87 hx hZ rfl RF87 11 rfl (j := (Int32.ofNat 0)) (v := (.int (Int32.ofNat ((oP pn).getD 0 0)))) (n_nn (by decide)) (nl_at (by rw [oP_len]; decide) (by decide)) (g := (mkF m 196 #[.val (.int xa), .val (.int xb), .val (.int xc), .val (.int (Int32.ofNat bn)), .val (.ref b4), .val (.ref b19), .val (.int (Int32.ofNat pn)), .val (.int (Int32.ofNat mn)), .val (.ref b49), .val (.ref b68), .val (.ref b84), .val (.int (0 : Int32)), .unset, .unset, .unset, .unset, .unset] [(.int (0 : Int32)), (.ref b19), (.ref b84)])) rfl rfl (hb hby at_196) _ ?_
      exact k)
    have R94 : Rep Z n0 T87.heap ((b84, Obj "com/example/witgen/witgen/regex/Partition" [("elements", "[I", (.ref b187)), ("location", "[I", (.ref b287)), ("blockOf", "[I", (.ref b387)), ("start", "[I", (.ref b487)), ("end", "[I", (.ref b587)), ("marked", "[I", (.ref b687)), ("touched", "[I", (.ref b787)), ("blocks", "I", (.int (Int32.ofNat 2))), ("touchedCount", "I", (.int (Int32.ofNat (cM0 bn pn))))]) :: (b187, Ar .int (nl (eM0 bn pn))) :: (b287, Ar .int (nl (lM0 bn pn))) :: (b387, Ar .int (nl (bl bn))) :: (b487, Ar .int (nl (pSt (bl bn) 2))) :: (b687, Ar .int (nl (kM0 bn pn))) :: (b787, Ar .int (nl (tM0 bn pn))) :: (b587, Ar .int (nl (pEn (bl bn) 2))) :: (b4, Ar .int (nl (bl bn))) :: (b68, Ar .long (ll [0, 1, 2, 3])) :: (b49, Ar .int (nl [0, 1, 2, 3, 4])) :: (b19, Ar .int (nl (oP pn))) :: []) := RF87.pick [7, 7, 6, 6, 6, 6, 6] rfl
    obtain ⟨cq93, kq93, q93a, q93b, q93c⟩ := isOf hZ rfl (R94.exa (i := 0) rfl)
    obtain ⟨_, _, ⟨T93, L93, k93, n93⟩, -, X93, ⟨Lc93, hQ93, l93, y93, z93⟩, st93⟩ := X87.virtualBack hx (y := (⟨"com/example/witgen/witgen/regex/Partition", "mark", "(I)V"⟩ : MethodName)) (z := (⟨"com/example/witgen/witgen/regex/Partition", "mark", "(I)V"⟩ : MethodName)) hown (mvT hZ (hw _ (List.mem_of_getElem? (i := 58) rfl))) (mvT hZ (hw _ (List.mem_of_getElem? (i := 59) rfl))) (notFace_of_selects (args := #[]) (mvT hZ (hw _ (List.mem_of_getElem? (i := 61) rfl)))) (mvT hZ (hw _ (List.mem_of_getElem? (i := 61) rfl))) (mvT hZ (hw _ (List.mem_of_getElem? (i := 60) rfl))) (by decide) (backOf (W := 0) (rm7 l Z a0 hw [] b84 ((oP pn).getD 0 0) _ _ _ _ _ _ _ _ _ _ _ _ _ _ _ T87.heap n0 _ R94 (hM0)) hZ (hw _ (List.mem_of_getElem? (i := 62) rfl)) (hw _ (List.mem_of_getElem? (i := 11) rfl)) (by decide) (by decide)) q93a q93c (g := (mkF m 197 #[.val (.int xa), .val (.int xb), .val (.int xc), .val (.int (Int32.ofNat bn)), .val (.ref b4), .val (.ref b19), .val (.int (Int32.ofNat pn)), .val (.int (Int32.ofNat mn)), .val (.ref b49), .val (.ref b68), .val (.ref b84), .val (.int (0 : Int32)), .unset, .unset, .unset, .unset, .unset] [(.int (Int32.ofNat ((oP pn).getD 0 0))), (.ref b84)])) rfl (by rw [hml]; rfl) (Steps.refl _) (argsL := [(.int (Int32.ofNat ((oP pn).getD 0 0)))]) (rest := []) (lenOf pd__28I_29V rfl) rfl (by show 2 * 0 + _ ≤ _; exact Nat.le_of_eq rfl) (hb hby at_197) (fun _ _ => ⟨rfl, rfl, (by decide : 13 + 0 ≤ _), (by decide : 78 + 0 ≤ _)⟩)
    dsimp only [Pt.U, Pt.locs, Pt.cells, Pt.slots] at X93 l93 y93 z93 st93 hQ93
    subst y93 z93
    obtain ⟨rfl, N93q, R93⟩ := hQ93
    have N93 : Fr n0 L93 := by rw [l93]; exact Fr.app N87 N93q
    replace R93 : Rep Z n0 T93.heap ((b84, Obj "com/example/witgen/witgen/regex/Partition" [("elements", "[I", (.ref b187)), ("location", "[I", (.ref b287)), ("blockOf", "[I", (.ref b387)), ("start", "[I", (.ref b487)), ("end", "[I", (.ref b587)), ("marked", "[I", (.ref b687)), ("touched", "[I", (.ref b787)), ("blocks", "I", (.int (Int32.ofNat 2))), ("touchedCount", "I", (.int (Int32.ofNat (mTc (bl bn) (kM0 bn pn) (cM0 bn pn) ((oP pn).getD 0 0)))))]) :: (b187, Ar .int (nl (mEl (bl bn) (pSt (bl bn) 2) (eM0 bn pn) (lM0 bn pn) (kM0 bn pn) ((oP pn).getD 0 0)))) :: (b287, Ar .int (nl (mLo (bl bn) (pSt (bl bn) 2) (eM0 bn pn) (lM0 bn pn) (kM0 bn pn) ((oP pn).getD 0 0)))) :: (b387, Ar .int (nl (bl bn))) :: (b487, Ar .int (nl (pSt (bl bn) 2))) :: (b687, Ar .int (nl (mMk (bl bn) (kM0 bn pn) ((oP pn).getD 0 0)))) :: (b787, Ar .int (nl (mTo (bl bn) (kM0 bn pn) (tM0 bn pn) (cM0 bn pn) ((oP pn).getD 0 0)))) :: (b587, Ar .int (nl (pEn (bl bn) 2))) :: (b4, Ar .int (nl (bl bn))) :: (b68, Ar .long (ll [0, 1, 2, 3])) :: (b49, Ar .int (nl [0, 1, 2, 3, 4])) :: (b19, Ar .int (nl (oP pn))) :: []) := R93
    have pre95 : ∀ t, Steps p.tables e below (T93.setTop (mkF m 200 #[.val (.int xa), .val (.int xb), .val (.int xc), .val (.int (Int32.ofNat bn)), .val (.ref b4), .val (.ref b19), .val (.int (Int32.ofNat pn)), .val (.int (Int32.ofNat mn)), .val (.ref b49), .val (.ref b68), .val (.ref b84), .val (.int (0 : Int32)), .unset, .unset, .unset, .unset, .unset] [])) t → Steps p.tables e below (s₁.setTop (entryFrame m #[(.int xa), (.int xb), (.int xc)] maxLocals)) t := fun t k => pre92 t (st93.trans k)
    have RF93 : Rep Z n0 T93.heap ((b84, Obj "com/example/witgen/witgen/regex/Partition" [("elements", "[I", (.ref b187)), ("location", "[I", (.ref b287)), ("blockOf", "[I", (.ref b387)), ("start", "[I", (.ref b487)), ("end", "[I", (.ref b587)), ("marked", "[I", (.ref b687)), ("touched", "[I", (.ref b787)), ("blocks", "I", (.int (Int32.ofNat 2))), ("touchedCount", "I", (.int (Int32.ofNat (cM1 bn pn))))]) :: (b187, Ar .int (nl (eM1 bn pn))) :: (b287, Ar .int (nl (lM1 bn pn))) :: (b387, Ar .int (nl (bl bn))) :: (b487, Ar .int (nl (pSt (bl bn) 2))) :: (b687, Ar .int (nl (kM1 bn pn))) :: (b787, Ar .int (nl (tM1 bn pn))) :: (b587, Ar .int (nl (pEn (bl bn) 2))) :: (b4, Ar .int (nl (bl bn))) :: (b68, Ar .long (ll [0, 1, 2, 3])) :: (b49, Ar .int (nl [0, 1, 2, 3, 4])) :: (b19, Ar .int (nl (oP pn))) :: []) := R93
    have pre97 : ∀ t, Steps p.tables e below (T93.setTop (mkF m 211 #[.val (.int xa), .val (.int xb), .val (.int xc), .val (.int (Int32.ofNat bn)), .val (.ref b4), .val (.ref b19), .val (.int (Int32.ofNat pn)), .val (.int (Int32.ofNat mn)), .val (.ref b49), .val (.ref b68), .val (.ref b84), .val (.int ((0 : Int32) ||| (ishl (1 : Int32) (Int32.ofNat ((oP pn).getD 0 0))))), .unset, .unset, .unset, .unset, .unset] [])) t → Steps p.tables e below (s₁.setTop (entryFrame m #[(.int xa), (.int xb), (.int xc)] maxLocals)) t := fun t k => pre95 t (by
      show Steps p.tables e below (T93.setTop (mkF m 200 #[.val (.int xa), .val (.int xb), .val (.int xc), .val (.int (Int32.ofNat bn)), .val (.ref b4), .val (.ref b19), .val (.int (Int32.ofNat pn)), .val (.int (Int32.ofNat mn)), .val (.ref b49), .val (.ref b68), .val (.ref b84), .val (.int (0 : Int32)), .unset, .unset, .unset, .unset, .unset] [])) _
      refine XS.iload X93.here hx rfl (hb hby at_200) rfl ?_
      refine XS.iconst X93.here hx rfl (hb hby at_202) ?_
      refine XS.aload X93.here hx rfl (hb hby at_203) rfl rfl ?_
      refine XS.iconst X93.here hx rfl (hb hby at_205) ?_
      refine gIald X93 hx hZ rfl RF93 11 rfl (j := (Int32.ofNat 0)) (v := (.int (Int32.ofNat ((oP pn).getD 0 0)))) (n_nn (by decide)) (nl_at (by rw [oP_len]; decide) (by decide)) (g := (mkF m 206 #[.val (.int xa), .val (.int xb), .val (.int xc), .val (.int (Int32.ofNat bn)), .val (.ref b4), .val (.ref b19), .val (.int (Int32.ofNat pn)), .val (.int (Int32.ofNat mn)), .val (.ref b49), .val (.ref b68), .val (.ref b84), .val (.int (0 : Int32)), .unset, .unset, .unset, .unset, .unset] [(.int (0 : Int32)), (.ref b19), (.int (1 : Int32)), (.int (0 : Int32))])) rfl rfl (hb hby at_206) _ ?_
      refine XS.ishl X93.here hx rfl (hb hby at_207) rfl ?_
      refine XS.ior X93.here hx rfl (hb hby at_208) rfl ?_
      show Steps p.tables e below (T93.setTop (mkF m 209 #[.val (.int xa), .val (.int xb), .val (.int xc), .val (.int (Int32.ofNat bn)), .val (.ref b4), .val (.ref b19), .val (.int (Int32.ofNat pn)), .val (.int (Int32.ofNat mn)), .val (.ref b49), .val (.ref b68), .val (.ref b84), .val (.int (0 : Int32)), .unset, .unset, .unset, .unset, .unset] [(.int ((0 : Int32) ||| (ishl (1 : Int32) (Int32.ofNat ((oP pn).getD 0 0)))))])) _
      refine XS.istore X93.here hx rfl (hb hby at_209) rfl (l' := #[.val (.int xa), .val (.int xb), .val (.int xc), .val (.int (Int32.ofNat bn)), .val (.ref b4), .val (.ref b19), .val (.int (Int32.ofNat pn)), .val (.int (Int32.ofNat mn)), .val (.ref b49), .val (.ref b68), .val (.ref b84), .val (.int ((0 : Int32) ||| (ishl (1 : Int32) (Int32.ofNat ((oP pn).getD 0 0))))), .unset, .unset, .unset, .unset, .unset]) rfl ?_
      exact k)
    obtain ⟨v96, hv96⟩ : ∃ z : Int32, z = ((0 : Int32) ||| (ishl (1 : Int32) (Int32.ofNat ((oP pn).getD 0 0)))) := ⟨_, rfl⟩
    rw [← hv96] at pre97
    rw [show v96 = gM1 pn from hv96] at pre97
    have pre98 : ∀ t, Steps p.tables e below (T93.setTop (mkF m 214 #[.val (.int xa), .val (.int xb), .val (.int xc), .val (.int (Int32.ofNat bn)), .val (.ref b4), .val (.ref b19), .val (.int (Int32.ofNat pn)), .val (.int (Int32.ofNat mn)), .val (.ref b49), .val (.ref b68), .val (.ref b84), .val (.int (gM1 pn)), .unset, .unset, .unset, .unset, .unset] [(.int (1 : Int32)), (.int (Int32.ofNat mn))])) t → Steps p.tables e below (s₁.setTop (entryFrame m #[(.int xa), (.int xb), (.int xc)] maxLocals)) t := fun t k => pre97 t (by
      show Steps p.tables e below (T93.setTop (mkF m 211 #[.val (.int xa), .val (.int xb), .val (.int xc), .val (.int (Int32.ofNat bn)), .val (.ref b4), .val (.ref b19), .val (.int (Int32.ofNat pn)), .val (.int (Int32.ofNat mn)), .val (.ref b49), .val (.ref b68), .val (.ref b84), .val (.int (gM1 pn)), .unset, .unset, .unset, .unset, .unset] [])) _
      refine XS.iload X93.here hx rfl (hb hby at_211) rfl ?_
      refine XS.iconst X93.here hx rfl (hb hby at_213) ?_
      exact k)
    by_cases hgt1 : (1 : Int32) < (Int32.ofNat mn)
    · have pre99 : ∀ t, Steps p.tables e below (T93.setTop (mkF m 217 #[.val (.int xa), .val (.int xb), .val (.int xc), .val (.int (Int32.ofNat bn)), .val (.ref b4), .val (.ref b19), .val (.int (Int32.ofNat pn)), .val (.int (Int32.ofNat mn)), .val (.ref b49), .val (.ref b68), .val (.ref b84), .val (.int (gM1 pn)), .unset, .unset, .unset, .unset, .unset] [])) t → Steps p.tables e below (s₁.setTop (entryFrame m #[(.int xa), (.int xb), (.int xc)] maxLocals)) t := fun t k => pre98 t (by show Steps p.tables e below (T93.setTop (mkF m 214 #[.val (.int xa), .val (.int xb), .val (.int xc), .val (.int (Int32.ofNat bn)), .val (.ref b4), .val (.ref b19), .val (.int (Int32.ofNat pn)), .val (.int (Int32.ofNat mn)), .val (.ref b49), .val (.ref b68), .val (.ref b84), .val (.int (gM1 pn)), .unset, .unset, .unset, .unset, .unset] [(.int (1 : Int32)), (.int (Int32.ofNat mn))])) _; refine XS.icmpNo X93.here hx rfl (hb hby at_214) rfl (tlt hgt1).2.2.2 ?_; exact k)
      have pre100 : ∀ t, Steps p.tables e below (T93.setTop (mkF m 223 #[.val (.int xa), .val (.int xb), .val (.int xc), .val (.int (Int32.ofNat bn)), .val (.ref b4), .val (.ref b19), .val (.int (Int32.ofNat pn)), .val (.int (Int32.ofNat mn)), .val (.ref b49), .val (.ref b68), .val (.ref b84), .val (.int (gM1 pn)), .unset, .unset, .unset, .unset, .unset] [(.int (Int32.ofNat ((oP pn).getD 1 0))), (.ref b84)])) t → Steps p.tables e below (s₁.setTop (entryFrame m #[(.int xa), (.int xb), (.int xc)] maxLocals)) t := fun t k => pre99 t (by
        show Steps p.tables e below (T93.setTop (mkF m 217 #[.val (.int xa), .val (.int xb), .val (.int xc), .val (.int (Int32.ofNat bn)), .val (.ref b4), .val (.ref b19), .val (.int (Int32.ofNat pn)), .val (.int (Int32.ofNat mn)), .val (.ref b49), .val (.ref b68), .val (.ref b84), .val (.int (gM1 pn)), .unset, .unset, .unset, .unset, .unset] [])) _
        refine XS.aload X93.here hx rfl (hb hby at_217) rfl rfl ?_
        refine XS.aload X93.here hx rfl (hb hby at_219) rfl rfl ?_
        refine XS.iconst X93.here hx rfl (hb hby at_221) ?_
        refine gIald X93 hx hZ rfl RF93 11 rfl (j := (Int32.ofNat 1)) (v := (.int (Int32.ofNat ((oP pn).getD 1 0)))) (n_nn (by decide)) (nl_at (by rw [oP_len]; decide) (by decide)) (g := (mkF m 222 #[.val (.int xa), .val (.int xb), .val (.int xc), .val (.int (Int32.ofNat bn)), .val (.ref b4), .val (.ref b19), .val (.int (Int32.ofNat pn)), .val (.int (Int32.ofNat mn)), .val (.ref b49), .val (.ref b68), .val (.ref b84), .val (.int (gM1 pn)), .unset, .unset, .unset, .unset, .unset] [(.int (1 : Int32)), (.ref b19), (.ref b84)])) rfl rfl (hb hby at_222) _ ?_
        exact k)
      obtain ⟨cq101, kq101, q101a, q101b, q101c⟩ := isOf hZ rfl (RF93.exa (i := 0) rfl)
      obtain ⟨_, _, ⟨T101, L101, k101, n101⟩, -, X101, ⟨Lc101, hQ101, l101, y101, z101⟩, st101⟩ := X93.virtualBack hx (y := (⟨"com/example/witgen/witgen/regex/Partition", "mark", "(I)V"⟩ : MethodName)) (z := (⟨"com/example/witgen/witgen/regex/Partition", "mark", "(I)V"⟩ : MethodName)) hown (mvT hZ (hw _ (List.mem_of_getElem? (i := 58) rfl))) (mvT hZ (hw _ (List.mem_of_getElem? (i := 59) rfl))) (notFace_of_selects (args := #[]) (mvT hZ (hw _ (List.mem_of_getElem? (i := 61) rfl)))) (mvT hZ (hw _ (List.mem_of_getElem? (i := 61) rfl))) (mvT hZ (hw _ (List.mem_of_getElem? (i := 60) rfl))) (by decide) (backOf (W := 0) (rm7 l Z a0 hw [] b84 ((oP pn).getD 1 0) _ _ _ _ _ _ _ _ _ _ _ _ _ _ _ T93.heap n0 _ RF93 (hM1)) hZ (hw _ (List.mem_of_getElem? (i := 62) rfl)) (hw _ (List.mem_of_getElem? (i := 11) rfl)) (by decide) (by decide)) q101a q101c (g := (mkF m 223 #[.val (.int xa), .val (.int xb), .val (.int xc), .val (.int (Int32.ofNat bn)), .val (.ref b4), .val (.ref b19), .val (.int (Int32.ofNat pn)), .val (.int (Int32.ofNat mn)), .val (.ref b49), .val (.ref b68), .val (.ref b84), .val (.int (gM1 pn)), .unset, .unset, .unset, .unset, .unset] [(.int (Int32.ofNat ((oP pn).getD 1 0))), (.ref b84)])) rfl (by rw [hml]; rfl) (Steps.refl _) (argsL := [(.int (Int32.ofNat ((oP pn).getD 1 0)))]) (rest := []) (lenOf pd__28I_29V rfl) rfl (by show 2 * 0 + _ ≤ _; exact Nat.le_of_eq rfl) (hb hby at_223) (fun _ _ => ⟨rfl, rfl, (by decide : 13 + 0 ≤ _), (by decide : 78 + 0 ≤ _)⟩)
      dsimp only [Pt.U, Pt.locs, Pt.cells, Pt.slots] at X101 l101 y101 z101 st101 hQ101
      subst y101 z101
      obtain ⟨rfl, N101q, R101⟩ := hQ101
      have N101 : Fr n0 L101 := by rw [l101]; exact Fr.app N93 N101q
      replace R101 : Rep Z n0 T101.heap ((b84, Obj "com/example/witgen/witgen/regex/Partition" [("elements", "[I", (.ref b187)), ("location", "[I", (.ref b287)), ("blockOf", "[I", (.ref b387)), ("start", "[I", (.ref b487)), ("end", "[I", (.ref b587)), ("marked", "[I", (.ref b687)), ("touched", "[I", (.ref b787)), ("blocks", "I", (.int (Int32.ofNat 2))), ("touchedCount", "I", (.int (Int32.ofNat (mTc (bl bn) (kM1 bn pn) (cM1 bn pn) ((oP pn).getD 1 0)))))]) :: (b187, Ar .int (nl (mEl (bl bn) (pSt (bl bn) 2) (eM1 bn pn) (lM1 bn pn) (kM1 bn pn) ((oP pn).getD 1 0)))) :: (b287, Ar .int (nl (mLo (bl bn) (pSt (bl bn) 2) (eM1 bn pn) (lM1 bn pn) (kM1 bn pn) ((oP pn).getD 1 0)))) :: (b387, Ar .int (nl (bl bn))) :: (b487, Ar .int (nl (pSt (bl bn) 2))) :: (b687, Ar .int (nl (mMk (bl bn) (kM1 bn pn) ((oP pn).getD 1 0)))) :: (b787, Ar .int (nl (mTo (bl bn) (kM1 bn pn) (tM1 bn pn) (cM1 bn pn) ((oP pn).getD 1 0)))) :: (b587, Ar .int (nl (pEn (bl bn) 2))) :: (b4, Ar .int (nl (bl bn))) :: (b68, Ar .long (ll [0, 1, 2, 3])) :: (b49, Ar .int (nl [0, 1, 2, 3, 4])) :: (b19, Ar .int (nl (oP pn))) :: []) := R101
      have pre102 : ∀ t, Steps p.tables e below (T101.setTop (mkF m 226 #[.val (.int xa), .val (.int xb), .val (.int xc), .val (.int (Int32.ofNat bn)), .val (.ref b4), .val (.ref b19), .val (.int (Int32.ofNat pn)), .val (.int (Int32.ofNat mn)), .val (.ref b49), .val (.ref b68), .val (.ref b84), .val (.int (gM1 pn)), .unset, .unset, .unset, .unset, .unset] [])) t → Steps p.tables e below (s₁.setTop (entryFrame m #[(.int xa), (.int xb), (.int xc)] maxLocals)) t := fun t k => pre100 t (st101.trans k)
      have RF101 : Rep Z n0 T101.heap ((b84, Obj "com/example/witgen/witgen/regex/Partition" [("elements", "[I", (.ref b187)), ("location", "[I", (.ref b287)), ("blockOf", "[I", (.ref b387)), ("start", "[I", (.ref b487)), ("end", "[I", (.ref b587)), ("marked", "[I", (.ref b687)), ("touched", "[I", (.ref b787)), ("blocks", "I", (.int (Int32.ofNat 2))), ("touchedCount", "I", (.int (Int32.ofNat (cM2 bn pn))))]) :: (b187, Ar .int (nl (eM2 bn pn))) :: (b287, Ar .int (nl (lM2 bn pn))) :: (b387, Ar .int (nl (bl bn))) :: (b487, Ar .int (nl (pSt (bl bn) 2))) :: (b687, Ar .int (nl (kM2 bn pn))) :: (b787, Ar .int (nl (tM2 bn pn))) :: (b587, Ar .int (nl (pEn (bl bn) 2))) :: (b4, Ar .int (nl (bl bn))) :: (b68, Ar .long (ll [0, 1, 2, 3])) :: (b49, Ar .int (nl [0, 1, 2, 3, 4])) :: (b19, Ar .int (nl (oP pn))) :: []) := R101
      have pre104 : ∀ t, Steps p.tables e below (T101.setTop (mkF m 237 #[.val (.int xa), .val (.int xb), .val (.int xc), .val (.int (Int32.ofNat bn)), .val (.ref b4), .val (.ref b19), .val (.int (Int32.ofNat pn)), .val (.int (Int32.ofNat mn)), .val (.ref b49), .val (.ref b68), .val (.ref b84), .val (.int ((gM1 pn) ||| (ishl (1 : Int32) (Int32.ofNat ((oP pn).getD 1 0))))), .unset, .unset, .unset, .unset, .unset] [])) t → Steps p.tables e below (s₁.setTop (entryFrame m #[(.int xa), (.int xb), (.int xc)] maxLocals)) t := fun t k => pre102 t (by
        show Steps p.tables e below (T101.setTop (mkF m 226 #[.val (.int xa), .val (.int xb), .val (.int xc), .val (.int (Int32.ofNat bn)), .val (.ref b4), .val (.ref b19), .val (.int (Int32.ofNat pn)), .val (.int (Int32.ofNat mn)), .val (.ref b49), .val (.ref b68), .val (.ref b84), .val (.int (gM1 pn)), .unset, .unset, .unset, .unset, .unset] [])) _
        refine XS.iload X101.here hx rfl (hb hby at_226) rfl ?_
        refine XS.iconst X101.here hx rfl (hb hby at_228) ?_
        refine XS.aload X101.here hx rfl (hb hby at_229) rfl rfl ?_
        refine XS.iconst X101.here hx rfl (hb hby at_231) ?_
        refine gIald X101 hx hZ rfl RF101 11 rfl (j := (Int32.ofNat 1)) (v := (.int (Int32.ofNat ((oP pn).getD 1 0)))) (n_nn (by decide)) (nl_at (by rw [oP_len]; decide) (by decide)) (g := (mkF m 232 #[.val (.int xa), .val (.int xb), .val (.int xc), .val (.int (Int32.ofNat bn)), .val (.ref b4), .val (.ref b19), .val (.int (Int32.ofNat pn)), .val (.int (Int32.ofNat mn)), .val (.ref b49), .val (.ref b68), .val (.ref b84), .val (.int (gM1 pn)), .unset, .unset, .unset, .unset, .unset] [(.int (1 : Int32)), (.ref b19), (.int (1 : Int32)), (.int (gM1 pn))])) rfl rfl (hb hby at_232) _ ?_
        refine XS.ishl X101.here hx rfl (hb hby at_233) rfl ?_
        refine XS.ior X101.here hx rfl (hb hby at_234) rfl ?_
        show Steps p.tables e below (T101.setTop (mkF m 235 #[.val (.int xa), .val (.int xb), .val (.int xc), .val (.int (Int32.ofNat bn)), .val (.ref b4), .val (.ref b19), .val (.int (Int32.ofNat pn)), .val (.int (Int32.ofNat mn)), .val (.ref b49), .val (.ref b68), .val (.ref b84), .val (.int (gM1 pn)), .unset, .unset, .unset, .unset, .unset] [(.int ((gM1 pn) ||| (ishl (1 : Int32) (Int32.ofNat ((oP pn).getD 1 0)))))])) _
        refine XS.istore X101.here hx rfl (hb hby at_235) rfl (l' := #[.val (.int xa), .val (.int xb), .val (.int xc), .val (.int (Int32.ofNat bn)), .val (.ref b4), .val (.ref b19), .val (.int (Int32.ofNat pn)), .val (.int (Int32.ofNat mn)), .val (.ref b49), .val (.ref b68), .val (.ref b84), .val (.int ((gM1 pn) ||| (ishl (1 : Int32) (Int32.ofNat ((oP pn).getD 1 0))))), .unset, .unset, .unset, .unset, .unset]) rfl ?_
        exact k)
      obtain ⟨v103, hv103⟩ : ∃ z : Int32, z = ((gM1 pn) ||| (ishl (1 : Int32) (Int32.ofNat ((oP pn).getD 1 0)))) := ⟨_, rfl⟩
      rw [← hv103] at pre104
      rw [show v103 = gM2 pn from hv103] at pre104
      have pre105 : ∀ t, Steps p.tables e below (T101.setTop (mkF m 240 #[.val (.int xa), .val (.int xb), .val (.int xc), .val (.int (Int32.ofNat bn)), .val (.ref b4), .val (.ref b19), .val (.int (Int32.ofNat pn)), .val (.int (Int32.ofNat mn)), .val (.ref b49), .val (.ref b68), .val (.ref b84), .val (.int (gM2 pn)), .unset, .unset, .unset, .unset, .unset] [(.int (2 : Int32)), (.int (Int32.ofNat mn))])) t → Steps p.tables e below (s₁.setTop (entryFrame m #[(.int xa), (.int xb), (.int xc)] maxLocals)) t := fun t k => pre104 t (by
        show Steps p.tables e below (T101.setTop (mkF m 237 #[.val (.int xa), .val (.int xb), .val (.int xc), .val (.int (Int32.ofNat bn)), .val (.ref b4), .val (.ref b19), .val (.int (Int32.ofNat pn)), .val (.int (Int32.ofNat mn)), .val (.ref b49), .val (.ref b68), .val (.ref b84), .val (.int (gM2 pn)), .unset, .unset, .unset, .unset, .unset] [])) _
        refine XS.iload X101.here hx rfl (hb hby at_237) rfl ?_
        refine XS.iconst X101.here hx rfl (hb hby at_239) ?_
        exact k)
      by_cases hgt2 : (2 : Int32) < (Int32.ofNat mn)
      · have pre106 : ∀ t, Steps p.tables e below (T101.setTop (mkF m 243 #[.val (.int xa), .val (.int xb), .val (.int xc), .val (.int (Int32.ofNat bn)), .val (.ref b4), .val (.ref b19), .val (.int (Int32.ofNat pn)), .val (.int (Int32.ofNat mn)), .val (.ref b49), .val (.ref b68), .val (.ref b84), .val (.int (gM2 pn)), .unset, .unset, .unset, .unset, .unset] [])) t → Steps p.tables e below (s₁.setTop (entryFrame m #[(.int xa), (.int xb), (.int xc)] maxLocals)) t := fun t k => pre105 t (by show Steps p.tables e below (T101.setTop (mkF m 240 #[.val (.int xa), .val (.int xb), .val (.int xc), .val (.int (Int32.ofNat bn)), .val (.ref b4), .val (.ref b19), .val (.int (Int32.ofNat pn)), .val (.int (Int32.ofNat mn)), .val (.ref b49), .val (.ref b68), .val (.ref b84), .val (.int (gM2 pn)), .unset, .unset, .unset, .unset, .unset] [(.int (2 : Int32)), (.int (Int32.ofNat mn))])) _; refine XS.icmpNo X101.here hx rfl (hb hby at_240) rfl (tlt hgt2).2.2.2 ?_; exact k)
        have pre107 : ∀ t, Steps p.tables e below (T101.setTop (mkF m 249 #[.val (.int xa), .val (.int xb), .val (.int xc), .val (.int (Int32.ofNat bn)), .val (.ref b4), .val (.ref b19), .val (.int (Int32.ofNat pn)), .val (.int (Int32.ofNat mn)), .val (.ref b49), .val (.ref b68), .val (.ref b84), .val (.int (gM2 pn)), .unset, .unset, .unset, .unset, .unset] [(.int (Int32.ofNat ((oP pn).getD 2 0))), (.ref b84)])) t → Steps p.tables e below (s₁.setTop (entryFrame m #[(.int xa), (.int xb), (.int xc)] maxLocals)) t := fun t k => pre106 t (by
          show Steps p.tables e below (T101.setTop (mkF m 243 #[.val (.int xa), .val (.int xb), .val (.int xc), .val (.int (Int32.ofNat bn)), .val (.ref b4), .val (.ref b19), .val (.int (Int32.ofNat pn)), .val (.int (Int32.ofNat mn)), .val (.ref b49), .val (.ref b68), .val (.ref b84), .val (.int (gM2 pn)), .unset, .unset, .unset, .unset, .unset] [])) _
          refine XS.aload X101.here hx rfl (hb hby at_243) rfl rfl ?_
          refine XS.aload X101.here hx rfl (hb hby at_245) rfl rfl ?_
          refine XS.iconst X101.here hx rfl (hb hby at_247) ?_
          refine gIald X101 hx hZ rfl RF101 11 rfl (j := (Int32.ofNat 2)) (v := (.int (Int32.ofNat ((oP pn).getD 2 0)))) (n_nn (by decide)) (nl_at (by rw [oP_len]; decide) (by decide)) (g := (mkF m 248 #[.val (.int xa), .val (.int xb), .val (.int xc), .val (.int (Int32.ofNat bn)), .val (.ref b4), .val (.ref b19), .val (.int (Int32.ofNat pn)), .val (.int (Int32.ofNat mn)), .val (.ref b49), .val (.ref b68), .val (.ref b84), .val (.int (gM2 pn)), .unset, .unset, .unset, .unset, .unset] [(.int (2 : Int32)), (.ref b19), (.ref b84)])) rfl rfl (hb hby at_248) _ ?_
          exact k)
        obtain ⟨cq108, kq108, q108a, q108b, q108c⟩ := isOf hZ rfl (RF101.exa (i := 0) rfl)
        obtain ⟨_, _, ⟨T108, L108, k108, n108⟩, -, X108, ⟨Lc108, hQ108, l108, y108, z108⟩, st108⟩ := X101.virtualBack hx (y := (⟨"com/example/witgen/witgen/regex/Partition", "mark", "(I)V"⟩ : MethodName)) (z := (⟨"com/example/witgen/witgen/regex/Partition", "mark", "(I)V"⟩ : MethodName)) hown (mvT hZ (hw _ (List.mem_of_getElem? (i := 58) rfl))) (mvT hZ (hw _ (List.mem_of_getElem? (i := 59) rfl))) (notFace_of_selects (args := #[]) (mvT hZ (hw _ (List.mem_of_getElem? (i := 61) rfl)))) (mvT hZ (hw _ (List.mem_of_getElem? (i := 61) rfl))) (mvT hZ (hw _ (List.mem_of_getElem? (i := 60) rfl))) (by decide) (backOf (W := 0) (rm7 l Z a0 hw [] b84 ((oP pn).getD 2 0) _ _ _ _ _ _ _ _ _ _ _ _ _ _ _ T101.heap n0 _ RF101 (hM2)) hZ (hw _ (List.mem_of_getElem? (i := 62) rfl)) (hw _ (List.mem_of_getElem? (i := 11) rfl)) (by decide) (by decide)) q108a q108c (g := (mkF m 249 #[.val (.int xa), .val (.int xb), .val (.int xc), .val (.int (Int32.ofNat bn)), .val (.ref b4), .val (.ref b19), .val (.int (Int32.ofNat pn)), .val (.int (Int32.ofNat mn)), .val (.ref b49), .val (.ref b68), .val (.ref b84), .val (.int (gM2 pn)), .unset, .unset, .unset, .unset, .unset] [(.int (Int32.ofNat ((oP pn).getD 2 0))), (.ref b84)])) rfl (by rw [hml]; rfl) (Steps.refl _) (argsL := [(.int (Int32.ofNat ((oP pn).getD 2 0)))]) (rest := []) (lenOf pd__28I_29V rfl) rfl (by show 2 * 0 + _ ≤ _; exact Nat.le_of_eq rfl) (hb hby at_249) (fun _ _ => ⟨rfl, rfl, (by decide : 13 + 0 ≤ _), (by decide : 78 + 0 ≤ _)⟩)
        dsimp only [Pt.U, Pt.locs, Pt.cells, Pt.slots] at X108 l108 y108 z108 st108 hQ108
        subst y108 z108
        obtain ⟨rfl, N108q, R108⟩ := hQ108
        have N108 : Fr n0 L108 := by rw [l108]; exact Fr.app N101 N108q
        replace R108 : Rep Z n0 T108.heap ((b84, Obj "com/example/witgen/witgen/regex/Partition" [("elements", "[I", (.ref b187)), ("location", "[I", (.ref b287)), ("blockOf", "[I", (.ref b387)), ("start", "[I", (.ref b487)), ("end", "[I", (.ref b587)), ("marked", "[I", (.ref b687)), ("touched", "[I", (.ref b787)), ("blocks", "I", (.int (Int32.ofNat 2))), ("touchedCount", "I", (.int (Int32.ofNat (mTc (bl bn) (kM2 bn pn) (cM2 bn pn) ((oP pn).getD 2 0)))))]) :: (b187, Ar .int (nl (mEl (bl bn) (pSt (bl bn) 2) (eM2 bn pn) (lM2 bn pn) (kM2 bn pn) ((oP pn).getD 2 0)))) :: (b287, Ar .int (nl (mLo (bl bn) (pSt (bl bn) 2) (eM2 bn pn) (lM2 bn pn) (kM2 bn pn) ((oP pn).getD 2 0)))) :: (b387, Ar .int (nl (bl bn))) :: (b487, Ar .int (nl (pSt (bl bn) 2))) :: (b687, Ar .int (nl (mMk (bl bn) (kM2 bn pn) ((oP pn).getD 2 0)))) :: (b787, Ar .int (nl (mTo (bl bn) (kM2 bn pn) (tM2 bn pn) (cM2 bn pn) ((oP pn).getD 2 0)))) :: (b587, Ar .int (nl (pEn (bl bn) 2))) :: (b4, Ar .int (nl (bl bn))) :: (b68, Ar .long (ll [0, 1, 2, 3])) :: (b49, Ar .int (nl [0, 1, 2, 3, 4])) :: (b19, Ar .int (nl (oP pn))) :: []) := R108
        have pre109 : ∀ t, Steps p.tables e below (T108.setTop (mkF m 252 #[.val (.int xa), .val (.int xb), .val (.int xc), .val (.int (Int32.ofNat bn)), .val (.ref b4), .val (.ref b19), .val (.int (Int32.ofNat pn)), .val (.int (Int32.ofNat mn)), .val (.ref b49), .val (.ref b68), .val (.ref b84), .val (.int (gM2 pn)), .unset, .unset, .unset, .unset, .unset] [])) t → Steps p.tables e below (s₁.setTop (entryFrame m #[(.int xa), (.int xb), (.int xc)] maxLocals)) t := fun t k => pre107 t (st108.trans k)
        have RF108 : Rep Z n0 T108.heap ((b84, Obj "com/example/witgen/witgen/regex/Partition" [("elements", "[I", (.ref b187)), ("location", "[I", (.ref b287)), ("blockOf", "[I", (.ref b387)), ("start", "[I", (.ref b487)), ("end", "[I", (.ref b587)), ("marked", "[I", (.ref b687)), ("touched", "[I", (.ref b787)), ("blocks", "I", (.int (Int32.ofNat 2))), ("touchedCount", "I", (.int (Int32.ofNat (cM3 bn pn))))]) :: (b187, Ar .int (nl (eM3 bn pn))) :: (b287, Ar .int (nl (lM3 bn pn))) :: (b387, Ar .int (nl (bl bn))) :: (b487, Ar .int (nl (pSt (bl bn) 2))) :: (b687, Ar .int (nl (kM3 bn pn))) :: (b787, Ar .int (nl (tM3 bn pn))) :: (b587, Ar .int (nl (pEn (bl bn) 2))) :: (b4, Ar .int (nl (bl bn))) :: (b68, Ar .long (ll [0, 1, 2, 3])) :: (b49, Ar .int (nl [0, 1, 2, 3, 4])) :: (b19, Ar .int (nl (oP pn))) :: []) := R108
        have pre111 : ∀ t, Steps p.tables e below (T108.setTop (mkF m 263 #[.val (.int xa), .val (.int xb), .val (.int xc), .val (.int (Int32.ofNat bn)), .val (.ref b4), .val (.ref b19), .val (.int (Int32.ofNat pn)), .val (.int (Int32.ofNat mn)), .val (.ref b49), .val (.ref b68), .val (.ref b84), .val (.int ((gM2 pn) ||| (ishl (1 : Int32) (Int32.ofNat ((oP pn).getD 2 0))))), .unset, .unset, .unset, .unset, .unset] [])) t → Steps p.tables e below (s₁.setTop (entryFrame m #[(.int xa), (.int xb), (.int xc)] maxLocals)) t := fun t k => pre109 t (by
          show Steps p.tables e below (T108.setTop (mkF m 252 #[.val (.int xa), .val (.int xb), .val (.int xc), .val (.int (Int32.ofNat bn)), .val (.ref b4), .val (.ref b19), .val (.int (Int32.ofNat pn)), .val (.int (Int32.ofNat mn)), .val (.ref b49), .val (.ref b68), .val (.ref b84), .val (.int (gM2 pn)), .unset, .unset, .unset, .unset, .unset] [])) _
          refine XS.iload X108.here hx rfl (hb hby at_252) rfl ?_
          refine XS.iconst X108.here hx rfl (hb hby at_254) ?_
          refine XS.aload X108.here hx rfl (hb hby at_255) rfl rfl ?_
          refine XS.iconst X108.here hx rfl (hb hby at_257) ?_
          refine gIald X108 hx hZ rfl RF108 11 rfl (j := (Int32.ofNat 2)) (v := (.int (Int32.ofNat ((oP pn).getD 2 0)))) (n_nn (by decide)) (nl_at (by rw [oP_len]; decide) (by decide)) (g := (mkF m 258 #[.val (.int xa), .val (.int xb), .val (.int xc), .val (.int (Int32.ofNat bn)), .val (.ref b4), .val (.ref b19), .val (.int (Int32.ofNat pn)), .val (.int (Int32.ofNat mn)), .val (.ref b49), .val (.ref b68), .val (.ref b84), .val (.int (gM2 pn)), .unset, .unset, .unset, .unset, .unset] [(.int (2 : Int32)), (.ref b19), (.int (1 : Int32)), (.int (gM2 pn))])) rfl rfl (hb hby at_258) _ ?_
          refine XS.ishl X108.here hx rfl (hb hby at_259) rfl ?_
          refine XS.ior X108.here hx rfl (hb hby at_260) rfl ?_
          show Steps p.tables e below (T108.setTop (mkF m 261 #[.val (.int xa), .val (.int xb), .val (.int xc), .val (.int (Int32.ofNat bn)), .val (.ref b4), .val (.ref b19), .val (.int (Int32.ofNat pn)), .val (.int (Int32.ofNat mn)), .val (.ref b49), .val (.ref b68), .val (.ref b84), .val (.int (gM2 pn)), .unset, .unset, .unset, .unset, .unset] [(.int ((gM2 pn) ||| (ishl (1 : Int32) (Int32.ofNat ((oP pn).getD 2 0)))))])) _
          refine XS.istore X108.here hx rfl (hb hby at_261) rfl (l' := #[.val (.int xa), .val (.int xb), .val (.int xc), .val (.int (Int32.ofNat bn)), .val (.ref b4), .val (.ref b19), .val (.int (Int32.ofNat pn)), .val (.int (Int32.ofNat mn)), .val (.ref b49), .val (.ref b68), .val (.ref b84), .val (.int ((gM2 pn) ||| (ishl (1 : Int32) (Int32.ofNat ((oP pn).getD 2 0))))), .unset, .unset, .unset, .unset, .unset]) rfl ?_
          exact k)
        obtain ⟨v110, hv110⟩ : ∃ z : Int32, z = ((gM2 pn) ||| (ishl (1 : Int32) (Int32.ofNat ((oP pn).getD 2 0)))) := ⟨_, rfl⟩
        rw [← hv110] at pre111
        rw [show v110 = gM3 pn from hv110] at pre111
        have pre112 : ∀ t, Steps p.tables e below (T108.setTop (mkF m 266 #[.val (.int xa), .val (.int xb), .val (.int xc), .val (.int (Int32.ofNat bn)), .val (.ref b4), .val (.ref b19), .val (.int (Int32.ofNat pn)), .val (.int (Int32.ofNat mn)), .val (.ref b49), .val (.ref b68), .val (.ref b84), .val (.int (gM3 pn)), .unset, .unset, .unset, .unset, .unset] [(.int (3 : Int32)), (.int (Int32.ofNat mn))])) t → Steps p.tables e below (s₁.setTop (entryFrame m #[(.int xa), (.int xb), (.int xc)] maxLocals)) t := fun t k => pre111 t (by
          show Steps p.tables e below (T108.setTop (mkF m 263 #[.val (.int xa), .val (.int xb), .val (.int xc), .val (.int (Int32.ofNat bn)), .val (.ref b4), .val (.ref b19), .val (.int (Int32.ofNat pn)), .val (.int (Int32.ofNat mn)), .val (.ref b49), .val (.ref b68), .val (.ref b84), .val (.int (gM3 pn)), .unset, .unset, .unset, .unset, .unset] [])) _
          refine XS.iload X108.here hx rfl (hb hby at_263) rfl ?_
          refine XS.iconst X108.here hx rfl (hb hby at_265) ?_
          exact k)
        by_cases hgt3 : (3 : Int32) < (Int32.ofNat mn)
        · have pre113 : ∀ t, Steps p.tables e below (T108.setTop (mkF m 269 #[.val (.int xa), .val (.int xb), .val (.int xc), .val (.int (Int32.ofNat bn)), .val (.ref b4), .val (.ref b19), .val (.int (Int32.ofNat pn)), .val (.int (Int32.ofNat mn)), .val (.ref b49), .val (.ref b68), .val (.ref b84), .val (.int (gM3 pn)), .unset, .unset, .unset, .unset, .unset] [])) t → Steps p.tables e below (s₁.setTop (entryFrame m #[(.int xa), (.int xb), (.int xc)] maxLocals)) t := fun t k => pre112 t (by show Steps p.tables e below (T108.setTop (mkF m 266 #[.val (.int xa), .val (.int xb), .val (.int xc), .val (.int (Int32.ofNat bn)), .val (.ref b4), .val (.ref b19), .val (.int (Int32.ofNat pn)), .val (.int (Int32.ofNat mn)), .val (.ref b49), .val (.ref b68), .val (.ref b84), .val (.int (gM3 pn)), .unset, .unset, .unset, .unset, .unset] [(.int (3 : Int32)), (.int (Int32.ofNat mn))])) _; refine XS.icmpNo X108.here hx rfl (hb hby at_266) rfl (tlt hgt3).2.2.2 ?_; exact k)
          have pre114 : ∀ t, Steps p.tables e below (T108.setTop (mkF m 275 #[.val (.int xa), .val (.int xb), .val (.int xc), .val (.int (Int32.ofNat bn)), .val (.ref b4), .val (.ref b19), .val (.int (Int32.ofNat pn)), .val (.int (Int32.ofNat mn)), .val (.ref b49), .val (.ref b68), .val (.ref b84), .val (.int (gM3 pn)), .unset, .unset, .unset, .unset, .unset] [(.int (Int32.ofNat ((oP pn).getD 3 0))), (.ref b84)])) t → Steps p.tables e below (s₁.setTop (entryFrame m #[(.int xa), (.int xb), (.int xc)] maxLocals)) t := fun t k => pre113 t (by
            show Steps p.tables e below (T108.setTop (mkF m 269 #[.val (.int xa), .val (.int xb), .val (.int xc), .val (.int (Int32.ofNat bn)), .val (.ref b4), .val (.ref b19), .val (.int (Int32.ofNat pn)), .val (.int (Int32.ofNat mn)), .val (.ref b49), .val (.ref b68), .val (.ref b84), .val (.int (gM3 pn)), .unset, .unset, .unset, .unset, .unset] [])) _
            refine XS.aload X108.here hx rfl (hb hby at_269) rfl rfl ?_
            refine XS.aload X108.here hx rfl (hb hby at_271) rfl rfl ?_
            refine XS.iconst X108.here hx rfl (hb hby at_273) ?_
            refine gIald X108 hx hZ rfl RF108 11 rfl (j := (Int32.ofNat 3)) (v := (.int (Int32.ofNat ((oP pn).getD 3 0)))) (n_nn (by decide)) (nl_at (by rw [oP_len]; decide) (by decide)) (g := (mkF m 274 #[.val (.int xa), .val (.int xb), .val (.int xc), .val (.int (Int32.ofNat bn)), .val (.ref b4), .val (.ref b19), .val (.int (Int32.ofNat pn)), .val (.int (Int32.ofNat mn)), .val (.ref b49), .val (.ref b68), .val (.ref b84), .val (.int (gM3 pn)), .unset, .unset, .unset, .unset, .unset] [(.int (3 : Int32)), (.ref b19), (.ref b84)])) rfl rfl (hb hby at_274) _ ?_
            exact k)
          obtain ⟨cq115, kq115, q115a, q115b, q115c⟩ := isOf hZ rfl (RF108.exa (i := 0) rfl)
          obtain ⟨_, _, ⟨T115, L115, k115, n115⟩, -, X115, ⟨Lc115, hQ115, l115, y115, z115⟩, st115⟩ := X108.virtualBack hx (y := (⟨"com/example/witgen/witgen/regex/Partition", "mark", "(I)V"⟩ : MethodName)) (z := (⟨"com/example/witgen/witgen/regex/Partition", "mark", "(I)V"⟩ : MethodName)) hown (mvT hZ (hw _ (List.mem_of_getElem? (i := 58) rfl))) (mvT hZ (hw _ (List.mem_of_getElem? (i := 59) rfl))) (notFace_of_selects (args := #[]) (mvT hZ (hw _ (List.mem_of_getElem? (i := 61) rfl)))) (mvT hZ (hw _ (List.mem_of_getElem? (i := 61) rfl))) (mvT hZ (hw _ (List.mem_of_getElem? (i := 60) rfl))) (by decide) (backOf (W := 0) (rm7 l Z a0 hw [] b84 ((oP pn).getD 3 0) _ _ _ _ _ _ _ _ _ _ _ _ _ _ _ T108.heap n0 _ RF108 (hM3)) hZ (hw _ (List.mem_of_getElem? (i := 62) rfl)) (hw _ (List.mem_of_getElem? (i := 11) rfl)) (by decide) (by decide)) q115a q115c (g := (mkF m 275 #[.val (.int xa), .val (.int xb), .val (.int xc), .val (.int (Int32.ofNat bn)), .val (.ref b4), .val (.ref b19), .val (.int (Int32.ofNat pn)), .val (.int (Int32.ofNat mn)), .val (.ref b49), .val (.ref b68), .val (.ref b84), .val (.int (gM3 pn)), .unset, .unset, .unset, .unset, .unset] [(.int (Int32.ofNat ((oP pn).getD 3 0))), (.ref b84)])) rfl (by rw [hml]; rfl) (Steps.refl _) (argsL := [(.int (Int32.ofNat ((oP pn).getD 3 0)))]) (rest := []) (lenOf pd__28I_29V rfl) rfl (by show 2 * 0 + _ ≤ _; exact Nat.le_of_eq rfl) (hb hby at_275) (fun _ _ => ⟨rfl, rfl, (by decide : 13 + 0 ≤ _), (by decide : 78 + 0 ≤ _)⟩)
          dsimp only [Pt.U, Pt.locs, Pt.cells, Pt.slots] at X115 l115 y115 z115 st115 hQ115
          subst y115 z115
          obtain ⟨rfl, N115q, R115⟩ := hQ115
          have N115 : Fr n0 L115 := by rw [l115]; exact Fr.app N108 N115q
          replace R115 : Rep Z n0 T115.heap ((b84, Obj "com/example/witgen/witgen/regex/Partition" [("elements", "[I", (.ref b187)), ("location", "[I", (.ref b287)), ("blockOf", "[I", (.ref b387)), ("start", "[I", (.ref b487)), ("end", "[I", (.ref b587)), ("marked", "[I", (.ref b687)), ("touched", "[I", (.ref b787)), ("blocks", "I", (.int (Int32.ofNat 2))), ("touchedCount", "I", (.int (Int32.ofNat (mTc (bl bn) (kM3 bn pn) (cM3 bn pn) ((oP pn).getD 3 0)))))]) :: (b187, Ar .int (nl (mEl (bl bn) (pSt (bl bn) 2) (eM3 bn pn) (lM3 bn pn) (kM3 bn pn) ((oP pn).getD 3 0)))) :: (b287, Ar .int (nl (mLo (bl bn) (pSt (bl bn) 2) (eM3 bn pn) (lM3 bn pn) (kM3 bn pn) ((oP pn).getD 3 0)))) :: (b387, Ar .int (nl (bl bn))) :: (b487, Ar .int (nl (pSt (bl bn) 2))) :: (b687, Ar .int (nl (mMk (bl bn) (kM3 bn pn) ((oP pn).getD 3 0)))) :: (b787, Ar .int (nl (mTo (bl bn) (kM3 bn pn) (tM3 bn pn) (cM3 bn pn) ((oP pn).getD 3 0)))) :: (b587, Ar .int (nl (pEn (bl bn) 2))) :: (b4, Ar .int (nl (bl bn))) :: (b68, Ar .long (ll [0, 1, 2, 3])) :: (b49, Ar .int (nl [0, 1, 2, 3, 4])) :: (b19, Ar .int (nl (oP pn))) :: []) := R115
          have pre116 : ∀ t, Steps p.tables e below (T115.setTop (mkF m 278 #[.val (.int xa), .val (.int xb), .val (.int xc), .val (.int (Int32.ofNat bn)), .val (.ref b4), .val (.ref b19), .val (.int (Int32.ofNat pn)), .val (.int (Int32.ofNat mn)), .val (.ref b49), .val (.ref b68), .val (.ref b84), .val (.int (gM3 pn)), .unset, .unset, .unset, .unset, .unset] [])) t → Steps p.tables e below (s₁.setTop (entryFrame m #[(.int xa), (.int xb), (.int xc)] maxLocals)) t := fun t k => pre114 t (st115.trans k)
          have RF115 : Rep Z n0 T115.heap ((b84, Obj "com/example/witgen/witgen/regex/Partition" [("elements", "[I", (.ref b187)), ("location", "[I", (.ref b287)), ("blockOf", "[I", (.ref b387)), ("start", "[I", (.ref b487)), ("end", "[I", (.ref b587)), ("marked", "[I", (.ref b687)), ("touched", "[I", (.ref b787)), ("blocks", "I", (.int (Int32.ofNat 2))), ("touchedCount", "I", (.int (Int32.ofNat (cM4 bn pn))))]) :: (b187, Ar .int (nl (eM4 bn pn))) :: (b287, Ar .int (nl (lM4 bn pn))) :: (b387, Ar .int (nl (bl bn))) :: (b487, Ar .int (nl (pSt (bl bn) 2))) :: (b687, Ar .int (nl (kM4 bn pn))) :: (b787, Ar .int (nl (tM4 bn pn))) :: (b587, Ar .int (nl (pEn (bl bn) 2))) :: (b4, Ar .int (nl (bl bn))) :: (b68, Ar .long (ll [0, 1, 2, 3])) :: (b49, Ar .int (nl [0, 1, 2, 3, 4])) :: (b19, Ar .int (nl (oP pn))) :: []) := R115
          have pre118 : ∀ t, Steps p.tables e below (T115.setTop (mkF m 289 #[.val (.int xa), .val (.int xb), .val (.int xc), .val (.int (Int32.ofNat bn)), .val (.ref b4), .val (.ref b19), .val (.int (Int32.ofNat pn)), .val (.int (Int32.ofNat mn)), .val (.ref b49), .val (.ref b68), .val (.ref b84), .val (.int ((gM3 pn) ||| (ishl (1 : Int32) (Int32.ofNat ((oP pn).getD 3 0))))), .unset, .unset, .unset, .unset, .unset] [])) t → Steps p.tables e below (s₁.setTop (entryFrame m #[(.int xa), (.int xb), (.int xc)] maxLocals)) t := fun t k => pre116 t (by
            show Steps p.tables e below (T115.setTop (mkF m 278 #[.val (.int xa), .val (.int xb), .val (.int xc), .val (.int (Int32.ofNat bn)), .val (.ref b4), .val (.ref b19), .val (.int (Int32.ofNat pn)), .val (.int (Int32.ofNat mn)), .val (.ref b49), .val (.ref b68), .val (.ref b84), .val (.int (gM3 pn)), .unset, .unset, .unset, .unset, .unset] [])) _
            refine XS.iload X115.here hx rfl (hb hby at_278) rfl ?_
            refine XS.iconst X115.here hx rfl (hb hby at_280) ?_
            refine XS.aload X115.here hx rfl (hb hby at_281) rfl rfl ?_
            refine XS.iconst X115.here hx rfl (hb hby at_283) ?_
            refine gIald X115 hx hZ rfl RF115 11 rfl (j := (Int32.ofNat 3)) (v := (.int (Int32.ofNat ((oP pn).getD 3 0)))) (n_nn (by decide)) (nl_at (by rw [oP_len]; decide) (by decide)) (g := (mkF m 284 #[.val (.int xa), .val (.int xb), .val (.int xc), .val (.int (Int32.ofNat bn)), .val (.ref b4), .val (.ref b19), .val (.int (Int32.ofNat pn)), .val (.int (Int32.ofNat mn)), .val (.ref b49), .val (.ref b68), .val (.ref b84), .val (.int (gM3 pn)), .unset, .unset, .unset, .unset, .unset] [(.int (3 : Int32)), (.ref b19), (.int (1 : Int32)), (.int (gM3 pn))])) rfl rfl (hb hby at_284) _ ?_
            refine XS.ishl X115.here hx rfl (hb hby at_285) rfl ?_
            refine XS.ior X115.here hx rfl (hb hby at_286) rfl ?_
            show Steps p.tables e below (T115.setTop (mkF m 287 #[.val (.int xa), .val (.int xb), .val (.int xc), .val (.int (Int32.ofNat bn)), .val (.ref b4), .val (.ref b19), .val (.int (Int32.ofNat pn)), .val (.int (Int32.ofNat mn)), .val (.ref b49), .val (.ref b68), .val (.ref b84), .val (.int (gM3 pn)), .unset, .unset, .unset, .unset, .unset] [(.int ((gM3 pn) ||| (ishl (1 : Int32) (Int32.ofNat ((oP pn).getD 3 0)))))])) _
            refine XS.istore X115.here hx rfl (hb hby at_287) rfl (l' := #[.val (.int xa), .val (.int xb), .val (.int xc), .val (.int (Int32.ofNat bn)), .val (.ref b4), .val (.ref b19), .val (.int (Int32.ofNat pn)), .val (.int (Int32.ofNat mn)), .val (.ref b49), .val (.ref b68), .val (.ref b84), .val (.int ((gM3 pn) ||| (ishl (1 : Int32) (Int32.ofNat ((oP pn).getD 3 0))))), .unset, .unset, .unset, .unset, .unset]) rfl ?_
            exact k)
          obtain ⟨v117, hv117⟩ : ∃ z : Int32, z = ((gM3 pn) ||| (ishl (1 : Int32) (Int32.ofNat ((oP pn).getD 3 0)))) := ⟨_, rfl⟩
          rw [← hv117] at pre118
          rw [show v117 = gM4 pn from hv117] at pre118
          have R119 : Rep Z n0 T115.heap ((b84, Obj "com/example/witgen/witgen/regex/Partition" [("elements", "[I", (.ref b187)), ("location", "[I", (.ref b287)), ("blockOf", "[I", (.ref b387)), ("start", "[I", (.ref b487)), ("end", "[I", (.ref b587)), ("marked", "[I", (.ref b687)), ("touched", "[I", (.ref b787)), ("blocks", "I", (.int (Int32.ofNat 2))), ("touchedCount", "I", (.int (Int32.ofNat (cM4 bn pn))))]) :: (b187, Ar .int (nl (eM4 bn pn))) :: (b287, Ar .int (nl (lM4 bn pn))) :: (b387, Ar .int (nl (bl bn))) :: (b487, Ar .int (nl (pSt (bl bn) 2))) :: (b587, Ar .int (nl (pEn (bl bn) 2))) :: (b4, Ar .int (nl (bl bn))) :: (b49, Ar .int (nl [0, 1, 2, 3, 4])) :: (b68, Ar .long (ll [0, 1, 2, 3])) :: (b687, Ar .int (nl (kM4 bn pn))) :: (b787, Ar .int (nl (tM4 bn pn))) :: (b19, Ar .int (nl (oP pn))) :: []) := RF115.pick [9, 10, 10, 10, 8, 8, 8, 8, 8] rfl
          obtain ⟨u1, u2, u3, u4, u5⟩ := tlk.parts (bl_lt bn) hT4
          obtain ⟨w1, w2, -, -, -⟩ := eL4 bn pn
          have wS : (pSt (bl bn) 2).length = 4 := pSt_len (bl bn) 2
          have wg0 : (gat (eM4 bn pn) (pSt (bl bn) 2) (pEn (bl bn) 2) 0).length < 1000 := by rw [gat_len]; have := (okG.parts u1).2.2.2.2.1; omega
          have wg1 : (gat (eM4 bn pn) (pSt (bl bn) 2) (pEn (bl bn) 2) 1).length < 1000 := by rw [gat_len]; have := (okG.parts u2).2.2.2.2.1; omega
          obtain ⟨g0120, g1120, T120, h120, ls120, X120, e120, N120, R120, st120⟩ := tl_1 xa xb xc bn pn mn b4 b19 b49 b68 b84 b187 b287 b387 b487 b587 b687 b787 2 (cM4 bn pn) (eM4 bn pn) (lM4 bn pn) (bl bn) (pSt (bl bn) 2) (pEn (bl bn) 2) (gM4 pn) X115 hx hZ hw hby hml hown rfl N115 R119  u1 u2 wg0 wg1 u3 u4
          have pre121 : ∀ t, Steps p.tables e below (T120.setTop (mkF m 355 #[.val (.int xa), .val (.int xb), .val (.int xc), .val (.int (Int32.ofNat bn)), .val (.ref b4), .val (.ref b19), .val (.int (Int32.ofNat pn)), .val (.int (Int32.ofNat mn)), .val (.ref b49), .val (.ref b68), .val (.ref b84), .val (.int (gM4 pn)), .val (.ref g0120), .val (.ref g1120), .val (.int (Int32.ofNat bn)), .val (.int (((Int32.ofNat bn) ^^^ (-1 : Int32)) &&& (15 : Int32))), .val (.int (1 : Int32))] [])) t → Steps p.tables e below (s₁.setTop (entryFrame m #[(.int xa), (.int xb), (.int xc)] maxLocals)) t := fun t k => pre118 t (st120 t k)
          have R122 : Rep Z n0 h120 ((b84, Obj "com/example/witgen/witgen/regex/Partition" [("elements", "[I", (.ref b187)), ("location", "[I", (.ref b287)), ("blockOf", "[I", (.ref b387)), ("start", "[I", (.ref b487)), ("end", "[I", (.ref b587)), ("marked", "[I", (.ref b687)), ("touched", "[I", (.ref b787)), ("blocks", "I", (.int (Int32.ofNat 2))), ("touchedCount", "I", (.int (Int32.ofNat (cM4 bn pn))))]) :: (b287, Ar .int (nl (lM4 bn pn))) :: (b387, Ar .int (nl (bl bn))) :: (b487, Ar .int (nl (pSt (bl bn) 2))) :: (b4, Ar .int (nl (bl bn))) :: (g0120, Ar .long (ll (gat (eM4 bn pn) (pSt (bl bn) 2) (pEn (bl bn) 2) 0))) :: (g1120, Ar .long (ll (gat (eM4 bn pn) (pSt (bl bn) 2) (pEn (bl bn) 2) 1))) :: (b187, Ar .int (nl (eM4 bn pn))) :: (b587, Ar .int (nl (pEn (bl bn) 2))) :: (b49, Ar .int (nl [0, 1, 2, 3, 4])) :: (b68, Ar .long (ll [0, 1, 2, 3])) :: (b687, Ar .int (nl (kM4 bn pn))) :: (b787, Ar .int (nl (tM4 bn pn))) :: (b19, Ar .int (nl (oP pn))) :: []) := R120.pick [10, 10, 8, 7, 7, 7, 6] rfl
          obtain ⟨T123, h123, ls123, X123, e123, N123, R123, st123⟩ := tf_0 xa xb xc bn pn mn b4 b19 b49 b68 b84 b187 b287 b387 b487 b587 b687 b787 2 (cM4 bn pn) (lM4 bn pn) (bl bn) (pSt (bl bn) 2) (gM4 pn) g0120 g1120 _ _ X120 hx hZ hw hby hml hown e120 N120 R122 (u5 0 (by decide)).1 (u5 0 (by decide)).2 (by rw [w2]; decide) (show (0 : Nat) < 4 by decide) (by rw [wS]; have := bl_lt bn 0; omega) (by have := bl_lt bn 0; omega) wg0 wg1
          have pre124 : ∀ t, Steps p.tables e below (T123.setTop (mkF m 390 #[.val (.int xa), .val (.int xb), .val (.int xc), .val (.int (Int32.ofNat bn)), .val (.ref b4), .val (.ref b19), .val (.int (Int32.ofNat pn)), .val (.int (Int32.ofNat mn)), .val (.ref b49), .val (.ref b68), .val (.ref b84), .val (.int (gM4 pn)), .val (.ref g0120), .val (.ref g1120), .val (.int (Int32.ofNat bn)), .val (.int (((Int32.ofNat bn) ^^^ (-1 : Int32)) &&& (15 : Int32))), .val (.int (1 : Int32))] [])) t → Steps p.tables e below (s₁.setTop (entryFrame m #[(.int xa), (.int xb), (.int xc)] maxLocals)) t := fun t k => pre121 t (st123 t k)
          obtain ⟨T125, h125, ls125, X125, e125, N125, R125, st125⟩ := tf_1 xa xb xc bn pn mn b4 b19 b49 b68 b84 b187 b287 b387 b487 b587 b687 b787 2 (cM4 bn pn) (lM4 bn pn) (bl bn) (pSt (bl bn) 2) (gM4 pn) g0120 g1120 _ _ X123 hx hZ hw hby hml hown e123 N123 R123 (u5 1 (by decide)).1 (u5 1 (by decide)).2 (by rw [w2]; decide) (show (1 : Nat) < 4 by decide) (by rw [wS]; have := bl_lt bn 1; omega) (by have := bl_lt bn 1; omega) wg0 wg1
          have pre126 : ∀ t, Steps p.tables e below (T125.setTop (mkF m 425 #[.val (.int xa), .val (.int xb), .val (.int xc), .val (.int (Int32.ofNat bn)), .val (.ref b4), .val (.ref b19), .val (.int (Int32.ofNat pn)), .val (.int (Int32.ofNat mn)), .val (.ref b49), .val (.ref b68), .val (.ref b84), .val (.int (gM4 pn)), .val (.ref g0120), .val (.ref g1120), .val (.int (Int32.ofNat bn)), .val (.int (((Int32.ofNat bn) ^^^ (-1 : Int32)) &&& (15 : Int32))), .val (.int (1 : Int32))] [])) t → Steps p.tables e below (s₁.setTop (entryFrame m #[(.int xa), (.int xb), (.int xc)] maxLocals)) t := fun t k => pre124 t (st125 t k)
          obtain ⟨T127, h127, ls127, X127, e127, N127, R127, st127⟩ := tf_2 xa xb xc bn pn mn b4 b19 b49 b68 b84 b187 b287 b387 b487 b587 b687 b787 2 (cM4 bn pn) (lM4 bn pn) (bl bn) (pSt (bl bn) 2) (gM4 pn) g0120 g1120 _ _ X125 hx hZ hw hby hml hown e125 N125 R125 (u5 2 (by decide)).1 (u5 2 (by decide)).2 (by rw [w2]; decide) (show (2 : Nat) < 4 by decide) (by rw [wS]; have := bl_lt bn 2; omega) (by have := bl_lt bn 2; omega) wg0 wg1
          have pre128 : ∀ t, Steps p.tables e below (T127.setTop (mkF m 460 #[.val (.int xa), .val (.int xb), .val (.int xc), .val (.int (Int32.ofNat bn)), .val (.ref b4), .val (.ref b19), .val (.int (Int32.ofNat pn)), .val (.int (Int32.ofNat mn)), .val (.ref b49), .val (.ref b68), .val (.ref b84), .val (.int (gM4 pn)), .val (.ref g0120), .val (.ref g1120), .val (.int (Int32.ofNat bn)), .val (.int (((Int32.ofNat bn) ^^^ (-1 : Int32)) &&& (15 : Int32))), .val (.int (1 : Int32))] [])) t → Steps p.tables e below (s₁.setTop (entryFrame m #[(.int xa), (.int xb), (.int xc)] maxLocals)) t := fun t k => pre126 t (st127 t k)
          obtain ⟨T129, h129, ls129, X129, e129, N129, R129, st129⟩ := tf_3 xa xb xc bn pn mn b4 b19 b49 b68 b84 b187 b287 b387 b487 b587 b687 b787 2 (cM4 bn pn) (lM4 bn pn) (bl bn) (pSt (bl bn) 2) (gM4 pn) g0120 g1120 _ _ X127 hx hZ hw hby hml hown e127 N127 R127 (u5 3 (by decide)).1 (u5 3 (by decide)).2 (by rw [w2]; decide) (show (3 : Nat) < 4 by decide) (by rw [wS]; have := bl_lt bn 3; omega) (by have := bl_lt bn 3; omega) wg0 wg1
          have pre130 : ∀ t, Steps p.tables e below (T129.setTop (mkF m 495 #[.val (.int xa), .val (.int xb), .val (.int xc), .val (.int (Int32.ofNat bn)), .val (.ref b4), .val (.ref b19), .val (.int (Int32.ofNat pn)), .val (.int (Int32.ofNat mn)), .val (.ref b49), .val (.ref b68), .val (.ref b84), .val (.int (gM4 pn)), .val (.ref g0120), .val (.ref g1120), .val (.int (Int32.ofNat bn)), .val (.int (((Int32.ofNat bn) ^^^ (-1 : Int32)) &&& (15 : Int32))), .val (.int (1 : Int32))] [])) t → Steps p.tables e below (s₁.setTop (entryFrame m #[(.int xa), (.int xb), (.int xc)] maxLocals)) t := fun t k => pre128 t (st129 t k)
          have pre131 : ∀ t, Steps p.tables e below (T129.setTop (mkF m 497 #[.val (.int xa), .val (.int xb), .val (.int xc), .val (.int (Int32.ofNat bn)), .val (.ref b4), .val (.ref b19), .val (.int (Int32.ofNat pn)), .val (.int (Int32.ofNat mn)), .val (.ref b49), .val (.ref b68), .val (.ref b84), .val (.int (gM4 pn)), .val (.ref g0120), .val (.ref g1120), .val (.int (Int32.ofNat bn)), .val (.int (((Int32.ofNat bn) ^^^ (-1 : Int32)) &&& (15 : Int32))), .val (.int (1 : Int32))] [(.int (1 : Int32))])) t → Steps p.tables e below (s₁.setTop (entryFrame m #[(.int xa), (.int xb), (.int xc)] maxLocals)) t := fun t k => pre130 t (by
            show Steps p.tables e below (T129.setTop (mkF m 495 #[.val (.int xa), .val (.int xb), .val (.int xc), .val (.int (Int32.ofNat bn)), .val (.ref b4), .val (.ref b19), .val (.int (Int32.ofNat pn)), .val (.int (Int32.ofNat mn)), .val (.ref b49), .val (.ref b68), .val (.ref b84), .val (.int (gM4 pn)), .val (.ref g0120), .val (.ref g1120), .val (.int (Int32.ofNat bn)), .val (.int (((Int32.ofNat bn) ^^^ (-1 : Int32)) &&& (15 : Int32))), .val (.int (1 : Int32))] [])) _
            refine XS.iload X129.here hx rfl (hb hby at_495) rfl ?_
            exact k)
          obtain ⟨fs, hr, hrun, hended, hW, hsame⟩ := X129.leave (v := some (.int (nar .boolean (1 : Int32)))) (fun h => by rw [Bd.returns] at h; cases h) (BodyLoose.notSynchronized Bd)
          refine ⟨_, _, pre131 _ ?_, hrun, hended, _, _, rfl, ?_, ⟨_, rfl⟩, hW, hsame.mono (by decide) (by decide)⟩
          · show Steps p.tables e below (T129.setTop (mkF m 497 #[.val (.int xa), .val (.int xb), .val (.int xc), .val (.int (Int32.ofNat bn)), .val (.ref b4), .val (.ref b19), .val (.int (Int32.ofNat pn)), .val (.int (Int32.ofNat mn)), .val (.ref b49), .val (.ref b68), .val (.ref b84), .val (.int (gM4 pn)), .val (.ref g0120), .val (.ref g1120), .val (.int (Int32.ofNat bn)), .val (.int (((Int32.ofNat bn) ^^^ (-1 : Int32)) &&& (15 : Int32))), .val (.int (1 : Int32))] [(.int (1 : Int32))])) _
            exact retN X129 hx (t := .boolean) Bd.returns (by simp) (hb hby at_497) hr
          · show Q0 Z xa xb xc n0 [] _ T129.heap _
            rw [e129]
            have R132 : Rep Z n0 h129 ([]) := R129.cut 0 14 rfl
            exact ⟨(by rfl), N129, R132⟩
        · have pre133 : ∀ t, Steps p.tables e below (T108.setTop (mkF m 289 #[.val (.int xa), .val (.int xb), .val (.int xc), .val (.int (Int32.ofNat bn)), .val (.ref b4), .val (.ref b19), .val (.int (Int32.ofNat pn)), .val (.int (Int32.ofNat mn)), .val (.ref b49), .val (.ref b68), .val (.ref b84), .val (.int (gM3 pn)), .unset, .unset, .unset, .unset, .unset] [])) t → Steps p.tables e below (s₁.setTop (entryFrame m #[(.int xa), (.int xb), (.int xc)] maxLocals)) t := fun t k => pre112 t (by show Steps p.tables e below (T108.setTop (mkF m 266 #[.val (.int xa), .val (.int xb), .val (.int xc), .val (.int (Int32.ofNat bn)), .val (.ref b4), .val (.ref b19), .val (.int (Int32.ofNat pn)), .val (.int (Int32.ofNat mn)), .val (.ref b49), .val (.ref b68), .val (.ref b84), .val (.int (gM3 pn)), .unset, .unset, .unset, .unset, .unset] [(.int (3 : Int32)), (.int (Int32.ofNat mn))])) _; refine XS.icmpYes X108.here hx rfl (pc0 := 266) (pc' := 289) rfl (hb hby at_266) rfl (flt hgt3).2.2.2 (by decide) (by decide) ?_; exact k)
          have R134 : Rep Z n0 T108.heap ((b84, Obj "com/example/witgen/witgen/regex/Partition" [("elements", "[I", (.ref b187)), ("location", "[I", (.ref b287)), ("blockOf", "[I", (.ref b387)), ("start", "[I", (.ref b487)), ("end", "[I", (.ref b587)), ("marked", "[I", (.ref b687)), ("touched", "[I", (.ref b787)), ("blocks", "I", (.int (Int32.ofNat 2))), ("touchedCount", "I", (.int (Int32.ofNat (cM3 bn pn))))]) :: (b187, Ar .int (nl (eM3 bn pn))) :: (b287, Ar .int (nl (lM3 bn pn))) :: (b387, Ar .int (nl (bl bn))) :: (b487, Ar .int (nl (pSt (bl bn) 2))) :: (b587, Ar .int (nl (pEn (bl bn) 2))) :: (b4, Ar .int (nl (bl bn))) :: (b49, Ar .int (nl [0, 1, 2, 3, 4])) :: (b68, Ar .long (ll [0, 1, 2, 3])) :: (b687, Ar .int (nl (kM3 bn pn))) :: (b787, Ar .int (nl (tM3 bn pn))) :: (b19, Ar .int (nl (oP pn))) :: []) := RF108.pick [9, 10, 10, 10, 8, 8, 8, 8, 8] rfl
          obtain ⟨u1, u2, u3, u4, u5⟩ := tlk.parts (bl_lt bn) hT3
          obtain ⟨w1, w2, -, -, -⟩ := eL3 bn pn
          have wS : (pSt (bl bn) 2).length = 4 := pSt_len (bl bn) 2
          have wg0 : (gat (eM3 bn pn) (pSt (bl bn) 2) (pEn (bl bn) 2) 0).length < 1000 := by rw [gat_len]; have := (okG.parts u1).2.2.2.2.1; omega
          have wg1 : (gat (eM3 bn pn) (pSt (bl bn) 2) (pEn (bl bn) 2) 1).length < 1000 := by rw [gat_len]; have := (okG.parts u2).2.2.2.2.1; omega
          obtain ⟨g0135, g1135, T135, h135, ls135, X135, e135, N135, R135, st135⟩ := tl_1 xa xb xc bn pn mn b4 b19 b49 b68 b84 b187 b287 b387 b487 b587 b687 b787 2 (cM3 bn pn) (eM3 bn pn) (lM3 bn pn) (bl bn) (pSt (bl bn) 2) (pEn (bl bn) 2) (gM3 pn) X108 hx hZ hw hby hml hown rfl N108 R134  u1 u2 wg0 wg1 u3 u4
          have pre136 : ∀ t, Steps p.tables e below (T135.setTop (mkF m 355 #[.val (.int xa), .val (.int xb), .val (.int xc), .val (.int (Int32.ofNat bn)), .val (.ref b4), .val (.ref b19), .val (.int (Int32.ofNat pn)), .val (.int (Int32.ofNat mn)), .val (.ref b49), .val (.ref b68), .val (.ref b84), .val (.int (gM3 pn)), .val (.ref g0135), .val (.ref g1135), .val (.int (Int32.ofNat bn)), .val (.int (((Int32.ofNat bn) ^^^ (-1 : Int32)) &&& (15 : Int32))), .val (.int (1 : Int32))] [])) t → Steps p.tables e below (s₁.setTop (entryFrame m #[(.int xa), (.int xb), (.int xc)] maxLocals)) t := fun t k => pre133 t (st135 t k)
          have R137 : Rep Z n0 h135 ((b84, Obj "com/example/witgen/witgen/regex/Partition" [("elements", "[I", (.ref b187)), ("location", "[I", (.ref b287)), ("blockOf", "[I", (.ref b387)), ("start", "[I", (.ref b487)), ("end", "[I", (.ref b587)), ("marked", "[I", (.ref b687)), ("touched", "[I", (.ref b787)), ("blocks", "I", (.int (Int32.ofNat 2))), ("touchedCount", "I", (.int (Int32.ofNat (cM3 bn pn))))]) :: (b287, Ar .int (nl (lM3 bn pn))) :: (b387, Ar .int (nl (bl bn))) :: (b487, Ar .int (nl (pSt (bl bn) 2))) :: (b4, Ar .int (nl (bl bn))) :: (g0135, Ar .long (ll (gat (eM3 bn pn) (pSt (bl bn) 2) (pEn (bl bn) 2) 0))) :: (g1135, Ar .long (ll (gat (eM3 bn pn) (pSt (bl bn) 2) (pEn (bl bn) 2) 1))) :: (b187, Ar .int (nl (eM3 bn pn))) :: (b587, Ar .int (nl (pEn (bl bn) 2))) :: (b49, Ar .int (nl [0, 1, 2, 3, 4])) :: (b68, Ar .long (ll [0, 1, 2, 3])) :: (b687, Ar .int (nl (kM3 bn pn))) :: (b787, Ar .int (nl (tM3 bn pn))) :: (b19, Ar .int (nl (oP pn))) :: []) := R135.pick [10, 10, 8, 7, 7, 7, 6] rfl
          obtain ⟨T138, h138, ls138, X138, e138, N138, R138, st138⟩ := tf_0 xa xb xc bn pn mn b4 b19 b49 b68 b84 b187 b287 b387 b487 b587 b687 b787 2 (cM3 bn pn) (lM3 bn pn) (bl bn) (pSt (bl bn) 2) (gM3 pn) g0135 g1135 _ _ X135 hx hZ hw hby hml hown e135 N135 R137 (u5 0 (by decide)).1 (u5 0 (by decide)).2 (by rw [w2]; decide) (show (0 : Nat) < 4 by decide) (by rw [wS]; have := bl_lt bn 0; omega) (by have := bl_lt bn 0; omega) wg0 wg1
          have pre139 : ∀ t, Steps p.tables e below (T138.setTop (mkF m 390 #[.val (.int xa), .val (.int xb), .val (.int xc), .val (.int (Int32.ofNat bn)), .val (.ref b4), .val (.ref b19), .val (.int (Int32.ofNat pn)), .val (.int (Int32.ofNat mn)), .val (.ref b49), .val (.ref b68), .val (.ref b84), .val (.int (gM3 pn)), .val (.ref g0135), .val (.ref g1135), .val (.int (Int32.ofNat bn)), .val (.int (((Int32.ofNat bn) ^^^ (-1 : Int32)) &&& (15 : Int32))), .val (.int (1 : Int32))] [])) t → Steps p.tables e below (s₁.setTop (entryFrame m #[(.int xa), (.int xb), (.int xc)] maxLocals)) t := fun t k => pre136 t (st138 t k)
          obtain ⟨T140, h140, ls140, X140, e140, N140, R140, st140⟩ := tf_1 xa xb xc bn pn mn b4 b19 b49 b68 b84 b187 b287 b387 b487 b587 b687 b787 2 (cM3 bn pn) (lM3 bn pn) (bl bn) (pSt (bl bn) 2) (gM3 pn) g0135 g1135 _ _ X138 hx hZ hw hby hml hown e138 N138 R138 (u5 1 (by decide)).1 (u5 1 (by decide)).2 (by rw [w2]; decide) (show (1 : Nat) < 4 by decide) (by rw [wS]; have := bl_lt bn 1; omega) (by have := bl_lt bn 1; omega) wg0 wg1
          have pre141 : ∀ t, Steps p.tables e below (T140.setTop (mkF m 425 #[.val (.int xa), .val (.int xb), .val (.int xc), .val (.int (Int32.ofNat bn)), .val (.ref b4), .val (.ref b19), .val (.int (Int32.ofNat pn)), .val (.int (Int32.ofNat mn)), .val (.ref b49), .val (.ref b68), .val (.ref b84), .val (.int (gM3 pn)), .val (.ref g0135), .val (.ref g1135), .val (.int (Int32.ofNat bn)), .val (.int (((Int32.ofNat bn) ^^^ (-1 : Int32)) &&& (15 : Int32))), .val (.int (1 : Int32))] [])) t → Steps p.tables e below (s₁.setTop (entryFrame m #[(.int xa), (.int xb), (.int xc)] maxLocals)) t := fun t k => pre139 t (st140 t k)
          obtain ⟨T142, h142, ls142, X142, e142, N142, R142, st142⟩ := tf_2 xa xb xc bn pn mn b4 b19 b49 b68 b84 b187 b287 b387 b487 b587 b687 b787 2 (cM3 bn pn) (lM3 bn pn) (bl bn) (pSt (bl bn) 2) (gM3 pn) g0135 g1135 _ _ X140 hx hZ hw hby hml hown e140 N140 R140 (u5 2 (by decide)).1 (u5 2 (by decide)).2 (by rw [w2]; decide) (show (2 : Nat) < 4 by decide) (by rw [wS]; have := bl_lt bn 2; omega) (by have := bl_lt bn 2; omega) wg0 wg1
          have pre143 : ∀ t, Steps p.tables e below (T142.setTop (mkF m 460 #[.val (.int xa), .val (.int xb), .val (.int xc), .val (.int (Int32.ofNat bn)), .val (.ref b4), .val (.ref b19), .val (.int (Int32.ofNat pn)), .val (.int (Int32.ofNat mn)), .val (.ref b49), .val (.ref b68), .val (.ref b84), .val (.int (gM3 pn)), .val (.ref g0135), .val (.ref g1135), .val (.int (Int32.ofNat bn)), .val (.int (((Int32.ofNat bn) ^^^ (-1 : Int32)) &&& (15 : Int32))), .val (.int (1 : Int32))] [])) t → Steps p.tables e below (s₁.setTop (entryFrame m #[(.int xa), (.int xb), (.int xc)] maxLocals)) t := fun t k => pre141 t (st142 t k)
          obtain ⟨T144, h144, ls144, X144, e144, N144, R144, st144⟩ := tf_3 xa xb xc bn pn mn b4 b19 b49 b68 b84 b187 b287 b387 b487 b587 b687 b787 2 (cM3 bn pn) (lM3 bn pn) (bl bn) (pSt (bl bn) 2) (gM3 pn) g0135 g1135 _ _ X142 hx hZ hw hby hml hown e142 N142 R142 (u5 3 (by decide)).1 (u5 3 (by decide)).2 (by rw [w2]; decide) (show (3 : Nat) < 4 by decide) (by rw [wS]; have := bl_lt bn 3; omega) (by have := bl_lt bn 3; omega) wg0 wg1
          have pre145 : ∀ t, Steps p.tables e below (T144.setTop (mkF m 495 #[.val (.int xa), .val (.int xb), .val (.int xc), .val (.int (Int32.ofNat bn)), .val (.ref b4), .val (.ref b19), .val (.int (Int32.ofNat pn)), .val (.int (Int32.ofNat mn)), .val (.ref b49), .val (.ref b68), .val (.ref b84), .val (.int (gM3 pn)), .val (.ref g0135), .val (.ref g1135), .val (.int (Int32.ofNat bn)), .val (.int (((Int32.ofNat bn) ^^^ (-1 : Int32)) &&& (15 : Int32))), .val (.int (1 : Int32))] [])) t → Steps p.tables e below (s₁.setTop (entryFrame m #[(.int xa), (.int xb), (.int xc)] maxLocals)) t := fun t k => pre143 t (st144 t k)
          have pre146 : ∀ t, Steps p.tables e below (T144.setTop (mkF m 497 #[.val (.int xa), .val (.int xb), .val (.int xc), .val (.int (Int32.ofNat bn)), .val (.ref b4), .val (.ref b19), .val (.int (Int32.ofNat pn)), .val (.int (Int32.ofNat mn)), .val (.ref b49), .val (.ref b68), .val (.ref b84), .val (.int (gM3 pn)), .val (.ref g0135), .val (.ref g1135), .val (.int (Int32.ofNat bn)), .val (.int (((Int32.ofNat bn) ^^^ (-1 : Int32)) &&& (15 : Int32))), .val (.int (1 : Int32))] [(.int (1 : Int32))])) t → Steps p.tables e below (s₁.setTop (entryFrame m #[(.int xa), (.int xb), (.int xc)] maxLocals)) t := fun t k => pre145 t (by
            show Steps p.tables e below (T144.setTop (mkF m 495 #[.val (.int xa), .val (.int xb), .val (.int xc), .val (.int (Int32.ofNat bn)), .val (.ref b4), .val (.ref b19), .val (.int (Int32.ofNat pn)), .val (.int (Int32.ofNat mn)), .val (.ref b49), .val (.ref b68), .val (.ref b84), .val (.int (gM3 pn)), .val (.ref g0135), .val (.ref g1135), .val (.int (Int32.ofNat bn)), .val (.int (((Int32.ofNat bn) ^^^ (-1 : Int32)) &&& (15 : Int32))), .val (.int (1 : Int32))] [])) _
            refine XS.iload X144.here hx rfl (hb hby at_495) rfl ?_
            exact k)
          obtain ⟨fs, hr, hrun, hended, hW, hsame⟩ := X144.leave (v := some (.int (nar .boolean (1 : Int32)))) (fun h => by rw [Bd.returns] at h; cases h) (BodyLoose.notSynchronized Bd)
          refine ⟨_, _, pre146 _ ?_, hrun, hended, _, _, rfl, ?_, ⟨_, rfl⟩, hW, hsame.mono (by decide) (by decide)⟩
          · show Steps p.tables e below (T144.setTop (mkF m 497 #[.val (.int xa), .val (.int xb), .val (.int xc), .val (.int (Int32.ofNat bn)), .val (.ref b4), .val (.ref b19), .val (.int (Int32.ofNat pn)), .val (.int (Int32.ofNat mn)), .val (.ref b49), .val (.ref b68), .val (.ref b84), .val (.int (gM3 pn)), .val (.ref g0135), .val (.ref g1135), .val (.int (Int32.ofNat bn)), .val (.int (((Int32.ofNat bn) ^^^ (-1 : Int32)) &&& (15 : Int32))), .val (.int (1 : Int32))] [(.int (1 : Int32))])) _
            exact retN X144 hx (t := .boolean) Bd.returns (by simp) (hb hby at_497) hr
          · show Q0 Z xa xb xc n0 [] _ T144.heap _
            rw [e144]
            have R147 : Rep Z n0 h144 ([]) := R144.cut 0 14 rfl
            exact ⟨(by rfl), N144, R147⟩
      · have pre148 : ∀ t, Steps p.tables e below (T101.setTop (mkF m 263 #[.val (.int xa), .val (.int xb), .val (.int xc), .val (.int (Int32.ofNat bn)), .val (.ref b4), .val (.ref b19), .val (.int (Int32.ofNat pn)), .val (.int (Int32.ofNat mn)), .val (.ref b49), .val (.ref b68), .val (.ref b84), .val (.int (gM2 pn)), .unset, .unset, .unset, .unset, .unset] [])) t → Steps p.tables e below (s₁.setTop (entryFrame m #[(.int xa), (.int xb), (.int xc)] maxLocals)) t := fun t k => pre105 t (by show Steps p.tables e below (T101.setTop (mkF m 240 #[.val (.int xa), .val (.int xb), .val (.int xc), .val (.int (Int32.ofNat bn)), .val (.ref b4), .val (.ref b19), .val (.int (Int32.ofNat pn)), .val (.int (Int32.ofNat mn)), .val (.ref b49), .val (.ref b68), .val (.ref b84), .val (.int (gM2 pn)), .unset, .unset, .unset, .unset, .unset] [(.int (2 : Int32)), (.int (Int32.ofNat mn))])) _; refine XS.icmpYes X101.here hx rfl (pc0 := 240) (pc' := 263) rfl (hb hby at_240) rfl (flt hgt2).2.2.2 (by decide) (by decide) ?_; exact k)
        have pre150 : ∀ t, Steps p.tables e below (T101.setTop (mkF m 266 #[.val (.int xa), .val (.int xb), .val (.int xc), .val (.int (Int32.ofNat bn)), .val (.ref b4), .val (.ref b19), .val (.int (Int32.ofNat pn)), .val (.int (Int32.ofNat mn)), .val (.ref b49), .val (.ref b68), .val (.ref b84), .val (.int (gM2 pn)), .unset, .unset, .unset, .unset, .unset] [(.int (3 : Int32)), (.int (Int32.ofNat mn))])) t → Steps p.tables e below (s₁.setTop (entryFrame m #[(.int xa), (.int xb), (.int xc)] maxLocals)) t := fun t k => pre148 t (by
          show Steps p.tables e below (T101.setTop (mkF m 263 #[.val (.int xa), .val (.int xb), .val (.int xc), .val (.int (Int32.ofNat bn)), .val (.ref b4), .val (.ref b19), .val (.int (Int32.ofNat pn)), .val (.int (Int32.ofNat mn)), .val (.ref b49), .val (.ref b68), .val (.ref b84), .val (.int (gM2 pn)), .unset, .unset, .unset, .unset, .unset] [])) _
          refine XS.iload X101.here hx rfl (hb hby at_263) rfl ?_
          refine XS.iconst X101.here hx rfl (hb hby at_265) ?_
          exact k)
        have hb149 : ¬ ((3 : Int32) < (Int32.ofNat mn)) := fun q => hgt2 (Int32.lt_trans (by decide) q)
        have pre151 : ∀ t, Steps p.tables e below (T101.setTop (mkF m 289 #[.val (.int xa), .val (.int xb), .val (.int xc), .val (.int (Int32.ofNat bn)), .val (.ref b4), .val (.ref b19), .val (.int (Int32.ofNat pn)), .val (.int (Int32.ofNat mn)), .val (.ref b49), .val (.ref b68), .val (.ref b84), .val (.int (gM2 pn)), .unset, .unset, .unset, .unset, .unset] [])) t → Steps p.tables e below (s₁.setTop (entryFrame m #[(.int xa), (.int xb), (.int xc)] maxLocals)) t := fun t k => pre150 t (by
          show Steps p.tables e below (T101.setTop (mkF m 266 #[.val (.int xa), .val (.int xb), .val (.int xc), .val (.int (Int32.ofNat bn)), .val (.ref b4), .val (.ref b19), .val (.int (Int32.ofNat pn)), .val (.int (Int32.ofNat mn)), .val (.ref b49), .val (.ref b68), .val (.ref b84), .val (.int (gM2 pn)), .unset, .unset, .unset, .unset, .unset] [(.int (3 : Int32)), (.int (Int32.ofNat mn))])) _
          refine XS.icmpYes X101.here hx rfl (pc0 := 266) (pc' := 289) rfl (hb hby at_266) rfl (flt hb149).2.2.2 (by decide) (by decide) ?_
          exact k)
        have R152 : Rep Z n0 T101.heap ((b84, Obj "com/example/witgen/witgen/regex/Partition" [("elements", "[I", (.ref b187)), ("location", "[I", (.ref b287)), ("blockOf", "[I", (.ref b387)), ("start", "[I", (.ref b487)), ("end", "[I", (.ref b587)), ("marked", "[I", (.ref b687)), ("touched", "[I", (.ref b787)), ("blocks", "I", (.int (Int32.ofNat 2))), ("touchedCount", "I", (.int (Int32.ofNat (cM2 bn pn))))]) :: (b187, Ar .int (nl (eM2 bn pn))) :: (b287, Ar .int (nl (lM2 bn pn))) :: (b387, Ar .int (nl (bl bn))) :: (b487, Ar .int (nl (pSt (bl bn) 2))) :: (b587, Ar .int (nl (pEn (bl bn) 2))) :: (b4, Ar .int (nl (bl bn))) :: (b49, Ar .int (nl [0, 1, 2, 3, 4])) :: (b68, Ar .long (ll [0, 1, 2, 3])) :: (b687, Ar .int (nl (kM2 bn pn))) :: (b787, Ar .int (nl (tM2 bn pn))) :: (b19, Ar .int (nl (oP pn))) :: []) := RF101.pick [9, 10, 10, 10, 8, 8, 8, 8, 8] rfl
        obtain ⟨u1, u2, u3, u4, u5⟩ := tlk.parts (bl_lt bn) hT2
        obtain ⟨w1, w2, -, -, -⟩ := eL2 bn pn
        have wS : (pSt (bl bn) 2).length = 4 := pSt_len (bl bn) 2
        have wg0 : (gat (eM2 bn pn) (pSt (bl bn) 2) (pEn (bl bn) 2) 0).length < 1000 := by rw [gat_len]; have := (okG.parts u1).2.2.2.2.1; omega
        have wg1 : (gat (eM2 bn pn) (pSt (bl bn) 2) (pEn (bl bn) 2) 1).length < 1000 := by rw [gat_len]; have := (okG.parts u2).2.2.2.2.1; omega
        obtain ⟨g0153, g1153, T153, h153, ls153, X153, e153, N153, R153, st153⟩ := tl_1 xa xb xc bn pn mn b4 b19 b49 b68 b84 b187 b287 b387 b487 b587 b687 b787 2 (cM2 bn pn) (eM2 bn pn) (lM2 bn pn) (bl bn) (pSt (bl bn) 2) (pEn (bl bn) 2) (gM2 pn) X101 hx hZ hw hby hml hown rfl N101 R152  u1 u2 wg0 wg1 u3 u4
        have pre154 : ∀ t, Steps p.tables e below (T153.setTop (mkF m 355 #[.val (.int xa), .val (.int xb), .val (.int xc), .val (.int (Int32.ofNat bn)), .val (.ref b4), .val (.ref b19), .val (.int (Int32.ofNat pn)), .val (.int (Int32.ofNat mn)), .val (.ref b49), .val (.ref b68), .val (.ref b84), .val (.int (gM2 pn)), .val (.ref g0153), .val (.ref g1153), .val (.int (Int32.ofNat bn)), .val (.int (((Int32.ofNat bn) ^^^ (-1 : Int32)) &&& (15 : Int32))), .val (.int (1 : Int32))] [])) t → Steps p.tables e below (s₁.setTop (entryFrame m #[(.int xa), (.int xb), (.int xc)] maxLocals)) t := fun t k => pre151 t (st153 t k)
        have R155 : Rep Z n0 h153 ((b84, Obj "com/example/witgen/witgen/regex/Partition" [("elements", "[I", (.ref b187)), ("location", "[I", (.ref b287)), ("blockOf", "[I", (.ref b387)), ("start", "[I", (.ref b487)), ("end", "[I", (.ref b587)), ("marked", "[I", (.ref b687)), ("touched", "[I", (.ref b787)), ("blocks", "I", (.int (Int32.ofNat 2))), ("touchedCount", "I", (.int (Int32.ofNat (cM2 bn pn))))]) :: (b287, Ar .int (nl (lM2 bn pn))) :: (b387, Ar .int (nl (bl bn))) :: (b487, Ar .int (nl (pSt (bl bn) 2))) :: (b4, Ar .int (nl (bl bn))) :: (g0153, Ar .long (ll (gat (eM2 bn pn) (pSt (bl bn) 2) (pEn (bl bn) 2) 0))) :: (g1153, Ar .long (ll (gat (eM2 bn pn) (pSt (bl bn) 2) (pEn (bl bn) 2) 1))) :: (b187, Ar .int (nl (eM2 bn pn))) :: (b587, Ar .int (nl (pEn (bl bn) 2))) :: (b49, Ar .int (nl [0, 1, 2, 3, 4])) :: (b68, Ar .long (ll [0, 1, 2, 3])) :: (b687, Ar .int (nl (kM2 bn pn))) :: (b787, Ar .int (nl (tM2 bn pn))) :: (b19, Ar .int (nl (oP pn))) :: []) := R153.pick [10, 10, 8, 7, 7, 7, 6] rfl
        obtain ⟨T156, h156, ls156, X156, e156, N156, R156, st156⟩ := tf_0 xa xb xc bn pn mn b4 b19 b49 b68 b84 b187 b287 b387 b487 b587 b687 b787 2 (cM2 bn pn) (lM2 bn pn) (bl bn) (pSt (bl bn) 2) (gM2 pn) g0153 g1153 _ _ X153 hx hZ hw hby hml hown e153 N153 R155 (u5 0 (by decide)).1 (u5 0 (by decide)).2 (by rw [w2]; decide) (show (0 : Nat) < 4 by decide) (by rw [wS]; have := bl_lt bn 0; omega) (by have := bl_lt bn 0; omega) wg0 wg1
        have pre157 : ∀ t, Steps p.tables e below (T156.setTop (mkF m 390 #[.val (.int xa), .val (.int xb), .val (.int xc), .val (.int (Int32.ofNat bn)), .val (.ref b4), .val (.ref b19), .val (.int (Int32.ofNat pn)), .val (.int (Int32.ofNat mn)), .val (.ref b49), .val (.ref b68), .val (.ref b84), .val (.int (gM2 pn)), .val (.ref g0153), .val (.ref g1153), .val (.int (Int32.ofNat bn)), .val (.int (((Int32.ofNat bn) ^^^ (-1 : Int32)) &&& (15 : Int32))), .val (.int (1 : Int32))] [])) t → Steps p.tables e below (s₁.setTop (entryFrame m #[(.int xa), (.int xb), (.int xc)] maxLocals)) t := fun t k => pre154 t (st156 t k)
        obtain ⟨T158, h158, ls158, X158, e158, N158, R158, st158⟩ := tf_1 xa xb xc bn pn mn b4 b19 b49 b68 b84 b187 b287 b387 b487 b587 b687 b787 2 (cM2 bn pn) (lM2 bn pn) (bl bn) (pSt (bl bn) 2) (gM2 pn) g0153 g1153 _ _ X156 hx hZ hw hby hml hown e156 N156 R156 (u5 1 (by decide)).1 (u5 1 (by decide)).2 (by rw [w2]; decide) (show (1 : Nat) < 4 by decide) (by rw [wS]; have := bl_lt bn 1; omega) (by have := bl_lt bn 1; omega) wg0 wg1
        have pre159 : ∀ t, Steps p.tables e below (T158.setTop (mkF m 425 #[.val (.int xa), .val (.int xb), .val (.int xc), .val (.int (Int32.ofNat bn)), .val (.ref b4), .val (.ref b19), .val (.int (Int32.ofNat pn)), .val (.int (Int32.ofNat mn)), .val (.ref b49), .val (.ref b68), .val (.ref b84), .val (.int (gM2 pn)), .val (.ref g0153), .val (.ref g1153), .val (.int (Int32.ofNat bn)), .val (.int (((Int32.ofNat bn) ^^^ (-1 : Int32)) &&& (15 : Int32))), .val (.int (1 : Int32))] [])) t → Steps p.tables e below (s₁.setTop (entryFrame m #[(.int xa), (.int xb), (.int xc)] maxLocals)) t := fun t k => pre157 t (st158 t k)
        obtain ⟨T160, h160, ls160, X160, e160, N160, R160, st160⟩ := tf_2 xa xb xc bn pn mn b4 b19 b49 b68 b84 b187 b287 b387 b487 b587 b687 b787 2 (cM2 bn pn) (lM2 bn pn) (bl bn) (pSt (bl bn) 2) (gM2 pn) g0153 g1153 _ _ X158 hx hZ hw hby hml hown e158 N158 R158 (u5 2 (by decide)).1 (u5 2 (by decide)).2 (by rw [w2]; decide) (show (2 : Nat) < 4 by decide) (by rw [wS]; have := bl_lt bn 2; omega) (by have := bl_lt bn 2; omega) wg0 wg1
        have pre161 : ∀ t, Steps p.tables e below (T160.setTop (mkF m 460 #[.val (.int xa), .val (.int xb), .val (.int xc), .val (.int (Int32.ofNat bn)), .val (.ref b4), .val (.ref b19), .val (.int (Int32.ofNat pn)), .val (.int (Int32.ofNat mn)), .val (.ref b49), .val (.ref b68), .val (.ref b84), .val (.int (gM2 pn)), .val (.ref g0153), .val (.ref g1153), .val (.int (Int32.ofNat bn)), .val (.int (((Int32.ofNat bn) ^^^ (-1 : Int32)) &&& (15 : Int32))), .val (.int (1 : Int32))] [])) t → Steps p.tables e below (s₁.setTop (entryFrame m #[(.int xa), (.int xb), (.int xc)] maxLocals)) t := fun t k => pre159 t (st160 t k)
        obtain ⟨T162, h162, ls162, X162, e162, N162, R162, st162⟩ := tf_3 xa xb xc bn pn mn b4 b19 b49 b68 b84 b187 b287 b387 b487 b587 b687 b787 2 (cM2 bn pn) (lM2 bn pn) (bl bn) (pSt (bl bn) 2) (gM2 pn) g0153 g1153 _ _ X160 hx hZ hw hby hml hown e160 N160 R160 (u5 3 (by decide)).1 (u5 3 (by decide)).2 (by rw [w2]; decide) (show (3 : Nat) < 4 by decide) (by rw [wS]; have := bl_lt bn 3; omega) (by have := bl_lt bn 3; omega) wg0 wg1
        have pre163 : ∀ t, Steps p.tables e below (T162.setTop (mkF m 495 #[.val (.int xa), .val (.int xb), .val (.int xc), .val (.int (Int32.ofNat bn)), .val (.ref b4), .val (.ref b19), .val (.int (Int32.ofNat pn)), .val (.int (Int32.ofNat mn)), .val (.ref b49), .val (.ref b68), .val (.ref b84), .val (.int (gM2 pn)), .val (.ref g0153), .val (.ref g1153), .val (.int (Int32.ofNat bn)), .val (.int (((Int32.ofNat bn) ^^^ (-1 : Int32)) &&& (15 : Int32))), .val (.int (1 : Int32))] [])) t → Steps p.tables e below (s₁.setTop (entryFrame m #[(.int xa), (.int xb), (.int xc)] maxLocals)) t := fun t k => pre161 t (st162 t k)
        have pre164 : ∀ t, Steps p.tables e below (T162.setTop (mkF m 497 #[.val (.int xa), .val (.int xb), .val (.int xc), .val (.int (Int32.ofNat bn)), .val (.ref b4), .val (.ref b19), .val (.int (Int32.ofNat pn)), .val (.int (Int32.ofNat mn)), .val (.ref b49), .val (.ref b68), .val (.ref b84), .val (.int (gM2 pn)), .val (.ref g0153), .val (.ref g1153), .val (.int (Int32.ofNat bn)), .val (.int (((Int32.ofNat bn) ^^^ (-1 : Int32)) &&& (15 : Int32))), .val (.int (1 : Int32))] [(.int (1 : Int32))])) t → Steps p.tables e below (s₁.setTop (entryFrame m #[(.int xa), (.int xb), (.int xc)] maxLocals)) t := fun t k => pre163 t (by
          show Steps p.tables e below (T162.setTop (mkF m 495 #[.val (.int xa), .val (.int xb), .val (.int xc), .val (.int (Int32.ofNat bn)), .val (.ref b4), .val (.ref b19), .val (.int (Int32.ofNat pn)), .val (.int (Int32.ofNat mn)), .val (.ref b49), .val (.ref b68), .val (.ref b84), .val (.int (gM2 pn)), .val (.ref g0153), .val (.ref g1153), .val (.int (Int32.ofNat bn)), .val (.int (((Int32.ofNat bn) ^^^ (-1 : Int32)) &&& (15 : Int32))), .val (.int (1 : Int32))] [])) _
          refine XS.iload X162.here hx rfl (hb hby at_495) rfl ?_
          exact k)
        obtain ⟨fs, hr, hrun, hended, hW, hsame⟩ := X162.leave (v := some (.int (nar .boolean (1 : Int32)))) (fun h => by rw [Bd.returns] at h; cases h) (BodyLoose.notSynchronized Bd)
        refine ⟨_, _, pre164 _ ?_, hrun, hended, _, _, rfl, ?_, ⟨_, rfl⟩, hW, hsame.mono (by decide) (by decide)⟩
        · show Steps p.tables e below (T162.setTop (mkF m 497 #[.val (.int xa), .val (.int xb), .val (.int xc), .val (.int (Int32.ofNat bn)), .val (.ref b4), .val (.ref b19), .val (.int (Int32.ofNat pn)), .val (.int (Int32.ofNat mn)), .val (.ref b49), .val (.ref b68), .val (.ref b84), .val (.int (gM2 pn)), .val (.ref g0153), .val (.ref g1153), .val (.int (Int32.ofNat bn)), .val (.int (((Int32.ofNat bn) ^^^ (-1 : Int32)) &&& (15 : Int32))), .val (.int (1 : Int32))] [(.int (1 : Int32))])) _
          exact retN X162 hx (t := .boolean) Bd.returns (by simp) (hb hby at_497) hr
        · show Q0 Z xa xb xc n0 [] _ T162.heap _
          rw [e162]
          have R165 : Rep Z n0 h162 ([]) := R162.cut 0 14 rfl
          exact ⟨(by rfl), N162, R165⟩
    · have pre166 : ∀ t, Steps p.tables e below (T93.setTop (mkF m 237 #[.val (.int xa), .val (.int xb), .val (.int xc), .val (.int (Int32.ofNat bn)), .val (.ref b4), .val (.ref b19), .val (.int (Int32.ofNat pn)), .val (.int (Int32.ofNat mn)), .val (.ref b49), .val (.ref b68), .val (.ref b84), .val (.int (gM1 pn)), .unset, .unset, .unset, .unset, .unset] [])) t → Steps p.tables e below (s₁.setTop (entryFrame m #[(.int xa), (.int xb), (.int xc)] maxLocals)) t := fun t k => pre98 t (by show Steps p.tables e below (T93.setTop (mkF m 214 #[.val (.int xa), .val (.int xb), .val (.int xc), .val (.int (Int32.ofNat bn)), .val (.ref b4), .val (.ref b19), .val (.int (Int32.ofNat pn)), .val (.int (Int32.ofNat mn)), .val (.ref b49), .val (.ref b68), .val (.ref b84), .val (.int (gM1 pn)), .unset, .unset, .unset, .unset, .unset] [(.int (1 : Int32)), (.int (Int32.ofNat mn))])) _; refine XS.icmpYes X93.here hx rfl (pc0 := 214) (pc' := 237) rfl (hb hby at_214) rfl (flt hgt1).2.2.2 (by decide) (by decide) ?_; exact k)
      have pre168 : ∀ t, Steps p.tables e below (T93.setTop (mkF m 240 #[.val (.int xa), .val (.int xb), .val (.int xc), .val (.int (Int32.ofNat bn)), .val (.ref b4), .val (.ref b19), .val (.int (Int32.ofNat pn)), .val (.int (Int32.ofNat mn)), .val (.ref b49), .val (.ref b68), .val (.ref b84), .val (.int (gM1 pn)), .unset, .unset, .unset, .unset, .unset] [(.int (2 : Int32)), (.int (Int32.ofNat mn))])) t → Steps p.tables e below (s₁.setTop (entryFrame m #[(.int xa), (.int xb), (.int xc)] maxLocals)) t := fun t k => pre166 t (by
        show Steps p.tables e below (T93.setTop (mkF m 237 #[.val (.int xa), .val (.int xb), .val (.int xc), .val (.int (Int32.ofNat bn)), .val (.ref b4), .val (.ref b19), .val (.int (Int32.ofNat pn)), .val (.int (Int32.ofNat mn)), .val (.ref b49), .val (.ref b68), .val (.ref b84), .val (.int (gM1 pn)), .unset, .unset, .unset, .unset, .unset] [])) _
        refine XS.iload X93.here hx rfl (hb hby at_237) rfl ?_
        refine XS.iconst X93.here hx rfl (hb hby at_239) ?_
        exact k)
      have hb167 : ¬ ((2 : Int32) < (Int32.ofNat mn)) := fun q => hgt1 (Int32.lt_trans (by decide) q)
      have pre170 : ∀ t, Steps p.tables e below (T93.setTop (mkF m 266 #[.val (.int xa), .val (.int xb), .val (.int xc), .val (.int (Int32.ofNat bn)), .val (.ref b4), .val (.ref b19), .val (.int (Int32.ofNat pn)), .val (.int (Int32.ofNat mn)), .val (.ref b49), .val (.ref b68), .val (.ref b84), .val (.int (gM1 pn)), .unset, .unset, .unset, .unset, .unset] [(.int (3 : Int32)), (.int (Int32.ofNat mn))])) t → Steps p.tables e below (s₁.setTop (entryFrame m #[(.int xa), (.int xb), (.int xc)] maxLocals)) t := fun t k => pre168 t (by
        show Steps p.tables e below (T93.setTop (mkF m 240 #[.val (.int xa), .val (.int xb), .val (.int xc), .val (.int (Int32.ofNat bn)), .val (.ref b4), .val (.ref b19), .val (.int (Int32.ofNat pn)), .val (.int (Int32.ofNat mn)), .val (.ref b49), .val (.ref b68), .val (.ref b84), .val (.int (gM1 pn)), .unset, .unset, .unset, .unset, .unset] [(.int (2 : Int32)), (.int (Int32.ofNat mn))])) _
        refine XS.icmpYes X93.here hx rfl (pc0 := 240) (pc' := 263) rfl (hb hby at_240) rfl (flt hb167).2.2.2 (by decide) (by decide) ?_
        refine XS.iload X93.here hx rfl (hb hby at_263) rfl ?_
        refine XS.iconst X93.here hx rfl (hb hby at_265) ?_
        exact k)
      have hb169 : ¬ ((3 : Int32) < (Int32.ofNat mn)) := fun q => hgt1 (Int32.lt_trans (by decide) q)
      have pre171 : ∀ t, Steps p.tables e below (T93.setTop (mkF m 289 #[.val (.int xa), .val (.int xb), .val (.int xc), .val (.int (Int32.ofNat bn)), .val (.ref b4), .val (.ref b19), .val (.int (Int32.ofNat pn)), .val (.int (Int32.ofNat mn)), .val (.ref b49), .val (.ref b68), .val (.ref b84), .val (.int (gM1 pn)), .unset, .unset, .unset, .unset, .unset] [])) t → Steps p.tables e below (s₁.setTop (entryFrame m #[(.int xa), (.int xb), (.int xc)] maxLocals)) t := fun t k => pre170 t (by
        show Steps p.tables e below (T93.setTop (mkF m 266 #[.val (.int xa), .val (.int xb), .val (.int xc), .val (.int (Int32.ofNat bn)), .val (.ref b4), .val (.ref b19), .val (.int (Int32.ofNat pn)), .val (.int (Int32.ofNat mn)), .val (.ref b49), .val (.ref b68), .val (.ref b84), .val (.int (gM1 pn)), .unset, .unset, .unset, .unset, .unset] [(.int (3 : Int32)), (.int (Int32.ofNat mn))])) _
        refine XS.icmpYes X93.here hx rfl (pc0 := 266) (pc' := 289) rfl (hb hby at_266) rfl (flt hb169).2.2.2 (by decide) (by decide) ?_
        exact k)
      have R172 : Rep Z n0 T93.heap ((b84, Obj "com/example/witgen/witgen/regex/Partition" [("elements", "[I", (.ref b187)), ("location", "[I", (.ref b287)), ("blockOf", "[I", (.ref b387)), ("start", "[I", (.ref b487)), ("end", "[I", (.ref b587)), ("marked", "[I", (.ref b687)), ("touched", "[I", (.ref b787)), ("blocks", "I", (.int (Int32.ofNat 2))), ("touchedCount", "I", (.int (Int32.ofNat (cM1 bn pn))))]) :: (b187, Ar .int (nl (eM1 bn pn))) :: (b287, Ar .int (nl (lM1 bn pn))) :: (b387, Ar .int (nl (bl bn))) :: (b487, Ar .int (nl (pSt (bl bn) 2))) :: (b587, Ar .int (nl (pEn (bl bn) 2))) :: (b4, Ar .int (nl (bl bn))) :: (b49, Ar .int (nl [0, 1, 2, 3, 4])) :: (b68, Ar .long (ll [0, 1, 2, 3])) :: (b687, Ar .int (nl (kM1 bn pn))) :: (b787, Ar .int (nl (tM1 bn pn))) :: (b19, Ar .int (nl (oP pn))) :: []) := RF93.pick [9, 10, 10, 10, 8, 8, 8, 8, 8] rfl
      obtain ⟨u1, u2, u3, u4, u5⟩ := tlk.parts (bl_lt bn) hT1
      obtain ⟨w1, w2, -, -, -⟩ := eL1 bn pn
      have wS : (pSt (bl bn) 2).length = 4 := pSt_len (bl bn) 2
      have wg0 : (gat (eM1 bn pn) (pSt (bl bn) 2) (pEn (bl bn) 2) 0).length < 1000 := by rw [gat_len]; have := (okG.parts u1).2.2.2.2.1; omega
      have wg1 : (gat (eM1 bn pn) (pSt (bl bn) 2) (pEn (bl bn) 2) 1).length < 1000 := by rw [gat_len]; have := (okG.parts u2).2.2.2.2.1; omega
      obtain ⟨g0173, g1173, T173, h173, ls173, X173, e173, N173, R173, st173⟩ := tl_1 xa xb xc bn pn mn b4 b19 b49 b68 b84 b187 b287 b387 b487 b587 b687 b787 2 (cM1 bn pn) (eM1 bn pn) (lM1 bn pn) (bl bn) (pSt (bl bn) 2) (pEn (bl bn) 2) (gM1 pn) X93 hx hZ hw hby hml hown rfl N93 R172  u1 u2 wg0 wg1 u3 u4
      have pre174 : ∀ t, Steps p.tables e below (T173.setTop (mkF m 355 #[.val (.int xa), .val (.int xb), .val (.int xc), .val (.int (Int32.ofNat bn)), .val (.ref b4), .val (.ref b19), .val (.int (Int32.ofNat pn)), .val (.int (Int32.ofNat mn)), .val (.ref b49), .val (.ref b68), .val (.ref b84), .val (.int (gM1 pn)), .val (.ref g0173), .val (.ref g1173), .val (.int (Int32.ofNat bn)), .val (.int (((Int32.ofNat bn) ^^^ (-1 : Int32)) &&& (15 : Int32))), .val (.int (1 : Int32))] [])) t → Steps p.tables e below (s₁.setTop (entryFrame m #[(.int xa), (.int xb), (.int xc)] maxLocals)) t := fun t k => pre171 t (st173 t k)
      have R175 : Rep Z n0 h173 ((b84, Obj "com/example/witgen/witgen/regex/Partition" [("elements", "[I", (.ref b187)), ("location", "[I", (.ref b287)), ("blockOf", "[I", (.ref b387)), ("start", "[I", (.ref b487)), ("end", "[I", (.ref b587)), ("marked", "[I", (.ref b687)), ("touched", "[I", (.ref b787)), ("blocks", "I", (.int (Int32.ofNat 2))), ("touchedCount", "I", (.int (Int32.ofNat (cM1 bn pn))))]) :: (b287, Ar .int (nl (lM1 bn pn))) :: (b387, Ar .int (nl (bl bn))) :: (b487, Ar .int (nl (pSt (bl bn) 2))) :: (b4, Ar .int (nl (bl bn))) :: (g0173, Ar .long (ll (gat (eM1 bn pn) (pSt (bl bn) 2) (pEn (bl bn) 2) 0))) :: (g1173, Ar .long (ll (gat (eM1 bn pn) (pSt (bl bn) 2) (pEn (bl bn) 2) 1))) :: (b187, Ar .int (nl (eM1 bn pn))) :: (b587, Ar .int (nl (pEn (bl bn) 2))) :: (b49, Ar .int (nl [0, 1, 2, 3, 4])) :: (b68, Ar .long (ll [0, 1, 2, 3])) :: (b687, Ar .int (nl (kM1 bn pn))) :: (b787, Ar .int (nl (tM1 bn pn))) :: (b19, Ar .int (nl (oP pn))) :: []) := R173.pick [10, 10, 8, 7, 7, 7, 6] rfl
      obtain ⟨T176, h176, ls176, X176, e176, N176, R176, st176⟩ := tf_0 xa xb xc bn pn mn b4 b19 b49 b68 b84 b187 b287 b387 b487 b587 b687 b787 2 (cM1 bn pn) (lM1 bn pn) (bl bn) (pSt (bl bn) 2) (gM1 pn) g0173 g1173 _ _ X173 hx hZ hw hby hml hown e173 N173 R175 (u5 0 (by decide)).1 (u5 0 (by decide)).2 (by rw [w2]; decide) (show (0 : Nat) < 4 by decide) (by rw [wS]; have := bl_lt bn 0; omega) (by have := bl_lt bn 0; omega) wg0 wg1
      have pre177 : ∀ t, Steps p.tables e below (T176.setTop (mkF m 390 #[.val (.int xa), .val (.int xb), .val (.int xc), .val (.int (Int32.ofNat bn)), .val (.ref b4), .val (.ref b19), .val (.int (Int32.ofNat pn)), .val (.int (Int32.ofNat mn)), .val (.ref b49), .val (.ref b68), .val (.ref b84), .val (.int (gM1 pn)), .val (.ref g0173), .val (.ref g1173), .val (.int (Int32.ofNat bn)), .val (.int (((Int32.ofNat bn) ^^^ (-1 : Int32)) &&& (15 : Int32))), .val (.int (1 : Int32))] [])) t → Steps p.tables e below (s₁.setTop (entryFrame m #[(.int xa), (.int xb), (.int xc)] maxLocals)) t := fun t k => pre174 t (st176 t k)
      obtain ⟨T178, h178, ls178, X178, e178, N178, R178, st178⟩ := tf_1 xa xb xc bn pn mn b4 b19 b49 b68 b84 b187 b287 b387 b487 b587 b687 b787 2 (cM1 bn pn) (lM1 bn pn) (bl bn) (pSt (bl bn) 2) (gM1 pn) g0173 g1173 _ _ X176 hx hZ hw hby hml hown e176 N176 R176 (u5 1 (by decide)).1 (u5 1 (by decide)).2 (by rw [w2]; decide) (show (1 : Nat) < 4 by decide) (by rw [wS]; have := bl_lt bn 1; omega) (by have := bl_lt bn 1; omega) wg0 wg1
      have pre179 : ∀ t, Steps p.tables e below (T178.setTop (mkF m 425 #[.val (.int xa), .val (.int xb), .val (.int xc), .val (.int (Int32.ofNat bn)), .val (.ref b4), .val (.ref b19), .val (.int (Int32.ofNat pn)), .val (.int (Int32.ofNat mn)), .val (.ref b49), .val (.ref b68), .val (.ref b84), .val (.int (gM1 pn)), .val (.ref g0173), .val (.ref g1173), .val (.int (Int32.ofNat bn)), .val (.int (((Int32.ofNat bn) ^^^ (-1 : Int32)) &&& (15 : Int32))), .val (.int (1 : Int32))] [])) t → Steps p.tables e below (s₁.setTop (entryFrame m #[(.int xa), (.int xb), (.int xc)] maxLocals)) t := fun t k => pre177 t (st178 t k)
      obtain ⟨T180, h180, ls180, X180, e180, N180, R180, st180⟩ := tf_2 xa xb xc bn pn mn b4 b19 b49 b68 b84 b187 b287 b387 b487 b587 b687 b787 2 (cM1 bn pn) (lM1 bn pn) (bl bn) (pSt (bl bn) 2) (gM1 pn) g0173 g1173 _ _ X178 hx hZ hw hby hml hown e178 N178 R178 (u5 2 (by decide)).1 (u5 2 (by decide)).2 (by rw [w2]; decide) (show (2 : Nat) < 4 by decide) (by rw [wS]; have := bl_lt bn 2; omega) (by have := bl_lt bn 2; omega) wg0 wg1
      have pre181 : ∀ t, Steps p.tables e below (T180.setTop (mkF m 460 #[.val (.int xa), .val (.int xb), .val (.int xc), .val (.int (Int32.ofNat bn)), .val (.ref b4), .val (.ref b19), .val (.int (Int32.ofNat pn)), .val (.int (Int32.ofNat mn)), .val (.ref b49), .val (.ref b68), .val (.ref b84), .val (.int (gM1 pn)), .val (.ref g0173), .val (.ref g1173), .val (.int (Int32.ofNat bn)), .val (.int (((Int32.ofNat bn) ^^^ (-1 : Int32)) &&& (15 : Int32))), .val (.int (1 : Int32))] [])) t → Steps p.tables e below (s₁.setTop (entryFrame m #[(.int xa), (.int xb), (.int xc)] maxLocals)) t := fun t k => pre179 t (st180 t k)
      obtain ⟨T182, h182, ls182, X182, e182, N182, R182, st182⟩ := tf_3 xa xb xc bn pn mn b4 b19 b49 b68 b84 b187 b287 b387 b487 b587 b687 b787 2 (cM1 bn pn) (lM1 bn pn) (bl bn) (pSt (bl bn) 2) (gM1 pn) g0173 g1173 _ _ X180 hx hZ hw hby hml hown e180 N180 R180 (u5 3 (by decide)).1 (u5 3 (by decide)).2 (by rw [w2]; decide) (show (3 : Nat) < 4 by decide) (by rw [wS]; have := bl_lt bn 3; omega) (by have := bl_lt bn 3; omega) wg0 wg1
      have pre183 : ∀ t, Steps p.tables e below (T182.setTop (mkF m 495 #[.val (.int xa), .val (.int xb), .val (.int xc), .val (.int (Int32.ofNat bn)), .val (.ref b4), .val (.ref b19), .val (.int (Int32.ofNat pn)), .val (.int (Int32.ofNat mn)), .val (.ref b49), .val (.ref b68), .val (.ref b84), .val (.int (gM1 pn)), .val (.ref g0173), .val (.ref g1173), .val (.int (Int32.ofNat bn)), .val (.int (((Int32.ofNat bn) ^^^ (-1 : Int32)) &&& (15 : Int32))), .val (.int (1 : Int32))] [])) t → Steps p.tables e below (s₁.setTop (entryFrame m #[(.int xa), (.int xb), (.int xc)] maxLocals)) t := fun t k => pre181 t (st182 t k)
      have pre184 : ∀ t, Steps p.tables e below (T182.setTop (mkF m 497 #[.val (.int xa), .val (.int xb), .val (.int xc), .val (.int (Int32.ofNat bn)), .val (.ref b4), .val (.ref b19), .val (.int (Int32.ofNat pn)), .val (.int (Int32.ofNat mn)), .val (.ref b49), .val (.ref b68), .val (.ref b84), .val (.int (gM1 pn)), .val (.ref g0173), .val (.ref g1173), .val (.int (Int32.ofNat bn)), .val (.int (((Int32.ofNat bn) ^^^ (-1 : Int32)) &&& (15 : Int32))), .val (.int (1 : Int32))] [(.int (1 : Int32))])) t → Steps p.tables e below (s₁.setTop (entryFrame m #[(.int xa), (.int xb), (.int xc)] maxLocals)) t := fun t k => pre183 t (by
        show Steps p.tables e below (T182.setTop (mkF m 495 #[.val (.int xa), .val (.int xb), .val (.int xc), .val (.int (Int32.ofNat bn)), .val (.ref b4), .val (.ref b19), .val (.int (Int32.ofNat pn)), .val (.int (Int32.ofNat mn)), .val (.ref b49), .val (.ref b68), .val (.ref b84), .val (.int (gM1 pn)), .val (.ref g0173), .val (.ref g1173), .val (.int (Int32.ofNat bn)), .val (.int (((Int32.ofNat bn) ^^^ (-1 : Int32)) &&& (15 : Int32))), .val (.int (1 : Int32))] [])) _
        refine XS.iload X182.here hx rfl (hb hby at_495) rfl ?_
        exact k)
      obtain ⟨fs, hr, hrun, hended, hW, hsame⟩ := X182.leave (v := some (.int (nar .boolean (1 : Int32)))) (fun h => by rw [Bd.returns] at h; cases h) (BodyLoose.notSynchronized Bd)
      refine ⟨_, _, pre184 _ ?_, hrun, hended, _, _, rfl, ?_, ⟨_, rfl⟩, hW, hsame.mono (by decide) (by decide)⟩
      · show Steps p.tables e below (T182.setTop (mkF m 497 #[.val (.int xa), .val (.int xb), .val (.int xc), .val (.int (Int32.ofNat bn)), .val (.ref b4), .val (.ref b19), .val (.int (Int32.ofNat pn)), .val (.int (Int32.ofNat mn)), .val (.ref b49), .val (.ref b68), .val (.ref b84), .val (.int (gM1 pn)), .val (.ref g0173), .val (.ref g1173), .val (.int (Int32.ofNat bn)), .val (.int (((Int32.ofNat bn) ^^^ (-1 : Int32)) &&& (15 : Int32))), .val (.int (1 : Int32))] [(.int (1 : Int32))])) _
        exact retN X182 hx (t := .boolean) Bd.returns (by simp) (hb hby at_497) hr
      · show Q0 Z xa xb xc n0 [] _ T182.heap _
        rw [e182]
        have R185 : Rep Z n0 h182 ([]) := R182.cut 0 14 rfl
        exact ⟨(by rfl), N182, R185⟩
  · have pre186 : ∀ t, Steps p.tables e below (T87.setTop (mkF m 211 #[.val (.int xa), .val (.int xb), .val (.int xc), .val (.int (Int32.ofNat bn)), .val (.ref b4), .val (.ref b19), .val (.int (Int32.ofNat pn)), .val (.int (Int32.ofNat mn)), .val (.ref b49), .val (.ref b68), .val (.ref b84), .val (.int (0 : Int32)), .unset, .unset, .unset, .unset, .unset] [])) t → Steps p.tables e below (s₁.setTop (entryFrame m #[(.int xa), (.int xb), (.int xc)] maxLocals)) t := fun t k => pre90 t (by show Steps p.tables e below (T87.setTop (mkF m 188 #[.val (.int xa), .val (.int xb), .val (.int xc), .val (.int (Int32.ofNat bn)), .val (.ref b4), .val (.ref b19), .val (.int (Int32.ofNat pn)), .val (.int (Int32.ofNat mn)), .val (.ref b49), .val (.ref b68), .val (.ref b84), .val (.int (0 : Int32)), .unset, .unset, .unset, .unset, .unset] [(.int (Int32.ofNat mn))])) _; refine XS.ifYes X87.here hx rfl (pc0 := 188) (pc' := 211) rfl (hb hby at_188) rfl ((if0 _ _).trans (flt hgt0).2.2.2) (by decide) (by decide) ?_; exact k)
    have pre188 : ∀ t, Steps p.tables e below (T87.setTop (mkF m 214 #[.val (.int xa), .val (.int xb), .val (.int xc), .val (.int (Int32.ofNat bn)), .val (.ref b4), .val (.ref b19), .val (.int (Int32.ofNat pn)), .val (.int (Int32.ofNat mn)), .val (.ref b49), .val (.ref b68), .val (.ref b84), .val (.int (0 : Int32)), .unset, .unset, .unset, .unset, .unset] [(.int (1 : Int32)), (.int (Int32.ofNat mn))])) t → Steps p.tables e below (s₁.setTop (entryFrame m #[(.int xa), (.int xb), (.int xc)] maxLocals)) t := fun t k => pre186 t (by
      show Steps p.tables e below (T87.setTop (mkF m 211 #[.val (.int xa), .val (.int xb), .val (.int xc), .val (.int (Int32.ofNat bn)), .val (.ref b4), .val (.ref b19), .val (.int (Int32.ofNat pn)), .val (.int (Int32.ofNat mn)), .val (.ref b49), .val (.ref b68), .val (.ref b84), .val (.int (0 : Int32)), .unset, .unset, .unset, .unset, .unset] [])) _
      refine XS.iload X87.here hx rfl (hb hby at_211) rfl ?_
      refine XS.iconst X87.here hx rfl (hb hby at_213) ?_
      exact k)
    have hb187 : ¬ ((1 : Int32) < (Int32.ofNat mn)) := fun q => hgt0 (Int32.lt_trans (by decide) q)
    have pre190 : ∀ t, Steps p.tables e below (T87.setTop (mkF m 240 #[.val (.int xa), .val (.int xb), .val (.int xc), .val (.int (Int32.ofNat bn)), .val (.ref b4), .val (.ref b19), .val (.int (Int32.ofNat pn)), .val (.int (Int32.ofNat mn)), .val (.ref b49), .val (.ref b68), .val (.ref b84), .val (.int (0 : Int32)), .unset, .unset, .unset, .unset, .unset] [(.int (2 : Int32)), (.int (Int32.ofNat mn))])) t → Steps p.tables e below (s₁.setTop (entryFrame m #[(.int xa), (.int xb), (.int xc)] maxLocals)) t := fun t k => pre188 t (by
      show Steps p.tables e below (T87.setTop (mkF m 214 #[.val (.int xa), .val (.int xb), .val (.int xc), .val (.int (Int32.ofNat bn)), .val (.ref b4), .val (.ref b19), .val (.int (Int32.ofNat pn)), .val (.int (Int32.ofNat mn)), .val (.ref b49), .val (.ref b68), .val (.ref b84), .val (.int (0 : Int32)), .unset, .unset, .unset, .unset, .unset] [(.int (1 : Int32)), (.int (Int32.ofNat mn))])) _
      refine XS.icmpYes X87.here hx rfl (pc0 := 214) (pc' := 237) rfl (hb hby at_214) rfl (flt hb187).2.2.2 (by decide) (by decide) ?_
      refine XS.iload X87.here hx rfl (hb hby at_237) rfl ?_
      refine XS.iconst X87.here hx rfl (hb hby at_239) ?_
      exact k)
    have hb189 : ¬ ((2 : Int32) < (Int32.ofNat mn)) := fun q => hgt0 (Int32.lt_trans (by decide) q)
    have pre192 : ∀ t, Steps p.tables e below (T87.setTop (mkF m 266 #[.val (.int xa), .val (.int xb), .val (.int xc), .val (.int (Int32.ofNat bn)), .val (.ref b4), .val (.ref b19), .val (.int (Int32.ofNat pn)), .val (.int (Int32.ofNat mn)), .val (.ref b49), .val (.ref b68), .val (.ref b84), .val (.int (0 : Int32)), .unset, .unset, .unset, .unset, .unset] [(.int (3 : Int32)), (.int (Int32.ofNat mn))])) t → Steps p.tables e below (s₁.setTop (entryFrame m #[(.int xa), (.int xb), (.int xc)] maxLocals)) t := fun t k => pre190 t (by
      show Steps p.tables e below (T87.setTop (mkF m 240 #[.val (.int xa), .val (.int xb), .val (.int xc), .val (.int (Int32.ofNat bn)), .val (.ref b4), .val (.ref b19), .val (.int (Int32.ofNat pn)), .val (.int (Int32.ofNat mn)), .val (.ref b49), .val (.ref b68), .val (.ref b84), .val (.int (0 : Int32)), .unset, .unset, .unset, .unset, .unset] [(.int (2 : Int32)), (.int (Int32.ofNat mn))])) _
      refine XS.icmpYes X87.here hx rfl (pc0 := 240) (pc' := 263) rfl (hb hby at_240) rfl (flt hb189).2.2.2 (by decide) (by decide) ?_
      refine XS.iload X87.here hx rfl (hb hby at_263) rfl ?_
      refine XS.iconst X87.here hx rfl (hb hby at_265) ?_
      exact k)
    have hb191 : ¬ ((3 : Int32) < (Int32.ofNat mn)) := fun q => hgt0 (Int32.lt_trans (by decide) q)
    have pre193 : ∀ t, Steps p.tables e below (T87.setTop (mkF m 289 #[.val (.int xa), .val (.int xb), .val (.int xc), .val (.int (Int32.ofNat bn)), .val (.ref b4), .val (.ref b19), .val (.int (Int32.ofNat pn)), .val (.int (Int32.ofNat mn)), .val (.ref b49), .val (.ref b68), .val (.ref b84), .val (.int (0 : Int32)), .unset, .unset, .unset, .unset, .unset] [])) t → Steps p.tables e below (s₁.setTop (entryFrame m #[(.int xa), (.int xb), (.int xc)] maxLocals)) t := fun t k => pre192 t (by
      show Steps p.tables e below (T87.setTop (mkF m 266 #[.val (.int xa), .val (.int xb), .val (.int xc), .val (.int (Int32.ofNat bn)), .val (.ref b4), .val (.ref b19), .val (.int (Int32.ofNat pn)), .val (.int (Int32.ofNat mn)), .val (.ref b49), .val (.ref b68), .val (.ref b84), .val (.int (0 : Int32)), .unset, .unset, .unset, .unset, .unset] [(.int (3 : Int32)), (.int (Int32.ofNat mn))])) _
      refine XS.icmpYes X87.here hx rfl (pc0 := 266) (pc' := 289) rfl (hb hby at_266) rfl (flt hb191).2.2.2 (by decide) (by decide) ?_
      exact k)
    have R194 : Rep Z n0 T87.heap ((b84, Obj "com/example/witgen/witgen/regex/Partition" [("elements", "[I", (.ref b187)), ("location", "[I", (.ref b287)), ("blockOf", "[I", (.ref b387)), ("start", "[I", (.ref b487)), ("end", "[I", (.ref b587)), ("marked", "[I", (.ref b687)), ("touched", "[I", (.ref b787)), ("blocks", "I", (.int (Int32.ofNat 2))), ("touchedCount", "I", (.int (Int32.ofNat (cM0 bn pn))))]) :: (b187, Ar .int (nl (eM0 bn pn))) :: (b287, Ar .int (nl (lM0 bn pn))) :: (b387, Ar .int (nl (bl bn))) :: (b487, Ar .int (nl (pSt (bl bn) 2))) :: (b587, Ar .int (nl (pEn (bl bn) 2))) :: (b4, Ar .int (nl (bl bn))) :: (b49, Ar .int (nl [0, 1, 2, 3, 4])) :: (b68, Ar .long (ll [0, 1, 2, 3])) :: (b687, Ar .int (nl (kM0 bn pn))) :: (b787, Ar .int (nl (tM0 bn pn))) :: (b19, Ar .int (nl (oP pn))) :: []) := RF87.pick [9, 10, 10, 8, 8, 8, 8, 8, 8] rfl
    obtain ⟨u1, u2, u3, u4, u5⟩ := tlk.parts (bl_lt bn) hT0
    obtain ⟨w1, w2, -, -, -⟩ := eL0 bn pn
    have wS : (pSt (bl bn) 2).length = 4 := pSt_len (bl bn) 2
    have wg0 : (gat (eM0 bn pn) (pSt (bl bn) 2) (pEn (bl bn) 2) 0).length < 1000 := by rw [gat_len]; have := (okG.parts u1).2.2.2.2.1; omega
    have wg1 : (gat (eM0 bn pn) (pSt (bl bn) 2) (pEn (bl bn) 2) 1).length < 1000 := by rw [gat_len]; have := (okG.parts u2).2.2.2.2.1; omega
    obtain ⟨g0195, g1195, T195, h195, ls195, X195, e195, N195, R195, st195⟩ := tl_1 xa xb xc bn pn mn b4 b19 b49 b68 b84 b187 b287 b387 b487 b587 b687 b787 2 (cM0 bn pn) (eM0 bn pn) (lM0 bn pn) (bl bn) (pSt (bl bn) 2) (pEn (bl bn) 2) (0 : Int32) X87 hx hZ hw hby hml hown rfl N87 R194  u1 u2 wg0 wg1 u3 u4
    have pre196 : ∀ t, Steps p.tables e below (T195.setTop (mkF m 355 #[.val (.int xa), .val (.int xb), .val (.int xc), .val (.int (Int32.ofNat bn)), .val (.ref b4), .val (.ref b19), .val (.int (Int32.ofNat pn)), .val (.int (Int32.ofNat mn)), .val (.ref b49), .val (.ref b68), .val (.ref b84), .val (.int (0 : Int32)), .val (.ref g0195), .val (.ref g1195), .val (.int (Int32.ofNat bn)), .val (.int (((Int32.ofNat bn) ^^^ (-1 : Int32)) &&& (15 : Int32))), .val (.int (1 : Int32))] [])) t → Steps p.tables e below (s₁.setTop (entryFrame m #[(.int xa), (.int xb), (.int xc)] maxLocals)) t := fun t k => pre193 t (st195 t k)
    have R197 : Rep Z n0 h195 ((b84, Obj "com/example/witgen/witgen/regex/Partition" [("elements", "[I", (.ref b187)), ("location", "[I", (.ref b287)), ("blockOf", "[I", (.ref b387)), ("start", "[I", (.ref b487)), ("end", "[I", (.ref b587)), ("marked", "[I", (.ref b687)), ("touched", "[I", (.ref b787)), ("blocks", "I", (.int (Int32.ofNat 2))), ("touchedCount", "I", (.int (Int32.ofNat (cM0 bn pn))))]) :: (b287, Ar .int (nl (lM0 bn pn))) :: (b387, Ar .int (nl (bl bn))) :: (b487, Ar .int (nl (pSt (bl bn) 2))) :: (b4, Ar .int (nl (bl bn))) :: (g0195, Ar .long (ll (gat (eM0 bn pn) (pSt (bl bn) 2) (pEn (bl bn) 2) 0))) :: (g1195, Ar .long (ll (gat (eM0 bn pn) (pSt (bl bn) 2) (pEn (bl bn) 2) 1))) :: (b187, Ar .int (nl (eM0 bn pn))) :: (b587, Ar .int (nl (pEn (bl bn) 2))) :: (b49, Ar .int (nl [0, 1, 2, 3, 4])) :: (b68, Ar .long (ll [0, 1, 2, 3])) :: (b687, Ar .int (nl (kM0 bn pn))) :: (b787, Ar .int (nl (tM0 bn pn))) :: (b19, Ar .int (nl (oP pn))) :: []) := R195.pick [10, 10, 8, 7, 7, 7, 6] rfl
    obtain ⟨T198, h198, ls198, X198, e198, N198, R198, st198⟩ := tf_0 xa xb xc bn pn mn b4 b19 b49 b68 b84 b187 b287 b387 b487 b587 b687 b787 2 (cM0 bn pn) (lM0 bn pn) (bl bn) (pSt (bl bn) 2) (0 : Int32) g0195 g1195 _ _ X195 hx hZ hw hby hml hown e195 N195 R197 (u5 0 (by decide)).1 (u5 0 (by decide)).2 (by rw [w2]; decide) (show (0 : Nat) < 4 by decide) (by rw [wS]; have := bl_lt bn 0; omega) (by have := bl_lt bn 0; omega) wg0 wg1
    have pre199 : ∀ t, Steps p.tables e below (T198.setTop (mkF m 390 #[.val (.int xa), .val (.int xb), .val (.int xc), .val (.int (Int32.ofNat bn)), .val (.ref b4), .val (.ref b19), .val (.int (Int32.ofNat pn)), .val (.int (Int32.ofNat mn)), .val (.ref b49), .val (.ref b68), .val (.ref b84), .val (.int (0 : Int32)), .val (.ref g0195), .val (.ref g1195), .val (.int (Int32.ofNat bn)), .val (.int (((Int32.ofNat bn) ^^^ (-1 : Int32)) &&& (15 : Int32))), .val (.int (1 : Int32))] [])) t → Steps p.tables e below (s₁.setTop (entryFrame m #[(.int xa), (.int xb), (.int xc)] maxLocals)) t := fun t k => pre196 t (st198 t k)
    obtain ⟨T200, h200, ls200, X200, e200, N200, R200, st200⟩ := tf_1 xa xb xc bn pn mn b4 b19 b49 b68 b84 b187 b287 b387 b487 b587 b687 b787 2 (cM0 bn pn) (lM0 bn pn) (bl bn) (pSt (bl bn) 2) (0 : Int32) g0195 g1195 _ _ X198 hx hZ hw hby hml hown e198 N198 R198 (u5 1 (by decide)).1 (u5 1 (by decide)).2 (by rw [w2]; decide) (show (1 : Nat) < 4 by decide) (by rw [wS]; have := bl_lt bn 1; omega) (by have := bl_lt bn 1; omega) wg0 wg1
    have pre201 : ∀ t, Steps p.tables e below (T200.setTop (mkF m 425 #[.val (.int xa), .val (.int xb), .val (.int xc), .val (.int (Int32.ofNat bn)), .val (.ref b4), .val (.ref b19), .val (.int (Int32.ofNat pn)), .val (.int (Int32.ofNat mn)), .val (.ref b49), .val (.ref b68), .val (.ref b84), .val (.int (0 : Int32)), .val (.ref g0195), .val (.ref g1195), .val (.int (Int32.ofNat bn)), .val (.int (((Int32.ofNat bn) ^^^ (-1 : Int32)) &&& (15 : Int32))), .val (.int (1 : Int32))] [])) t → Steps p.tables e below (s₁.setTop (entryFrame m #[(.int xa), (.int xb), (.int xc)] maxLocals)) t := fun t k => pre199 t (st200 t k)
    obtain ⟨T202, h202, ls202, X202, e202, N202, R202, st202⟩ := tf_2 xa xb xc bn pn mn b4 b19 b49 b68 b84 b187 b287 b387 b487 b587 b687 b787 2 (cM0 bn pn) (lM0 bn pn) (bl bn) (pSt (bl bn) 2) (0 : Int32) g0195 g1195 _ _ X200 hx hZ hw hby hml hown e200 N200 R200 (u5 2 (by decide)).1 (u5 2 (by decide)).2 (by rw [w2]; decide) (show (2 : Nat) < 4 by decide) (by rw [wS]; have := bl_lt bn 2; omega) (by have := bl_lt bn 2; omega) wg0 wg1
    have pre203 : ∀ t, Steps p.tables e below (T202.setTop (mkF m 460 #[.val (.int xa), .val (.int xb), .val (.int xc), .val (.int (Int32.ofNat bn)), .val (.ref b4), .val (.ref b19), .val (.int (Int32.ofNat pn)), .val (.int (Int32.ofNat mn)), .val (.ref b49), .val (.ref b68), .val (.ref b84), .val (.int (0 : Int32)), .val (.ref g0195), .val (.ref g1195), .val (.int (Int32.ofNat bn)), .val (.int (((Int32.ofNat bn) ^^^ (-1 : Int32)) &&& (15 : Int32))), .val (.int (1 : Int32))] [])) t → Steps p.tables e below (s₁.setTop (entryFrame m #[(.int xa), (.int xb), (.int xc)] maxLocals)) t := fun t k => pre201 t (st202 t k)
    obtain ⟨T204, h204, ls204, X204, e204, N204, R204, st204⟩ := tf_3 xa xb xc bn pn mn b4 b19 b49 b68 b84 b187 b287 b387 b487 b587 b687 b787 2 (cM0 bn pn) (lM0 bn pn) (bl bn) (pSt (bl bn) 2) (0 : Int32) g0195 g1195 _ _ X202 hx hZ hw hby hml hown e202 N202 R202 (u5 3 (by decide)).1 (u5 3 (by decide)).2 (by rw [w2]; decide) (show (3 : Nat) < 4 by decide) (by rw [wS]; have := bl_lt bn 3; omega) (by have := bl_lt bn 3; omega) wg0 wg1
    have pre205 : ∀ t, Steps p.tables e below (T204.setTop (mkF m 495 #[.val (.int xa), .val (.int xb), .val (.int xc), .val (.int (Int32.ofNat bn)), .val (.ref b4), .val (.ref b19), .val (.int (Int32.ofNat pn)), .val (.int (Int32.ofNat mn)), .val (.ref b49), .val (.ref b68), .val (.ref b84), .val (.int (0 : Int32)), .val (.ref g0195), .val (.ref g1195), .val (.int (Int32.ofNat bn)), .val (.int (((Int32.ofNat bn) ^^^ (-1 : Int32)) &&& (15 : Int32))), .val (.int (1 : Int32))] [])) t → Steps p.tables e below (s₁.setTop (entryFrame m #[(.int xa), (.int xb), (.int xc)] maxLocals)) t := fun t k => pre203 t (st204 t k)
    have pre206 : ∀ t, Steps p.tables e below (T204.setTop (mkF m 497 #[.val (.int xa), .val (.int xb), .val (.int xc), .val (.int (Int32.ofNat bn)), .val (.ref b4), .val (.ref b19), .val (.int (Int32.ofNat pn)), .val (.int (Int32.ofNat mn)), .val (.ref b49), .val (.ref b68), .val (.ref b84), .val (.int (0 : Int32)), .val (.ref g0195), .val (.ref g1195), .val (.int (Int32.ofNat bn)), .val (.int (((Int32.ofNat bn) ^^^ (-1 : Int32)) &&& (15 : Int32))), .val (.int (1 : Int32))] [(.int (1 : Int32))])) t → Steps p.tables e below (s₁.setTop (entryFrame m #[(.int xa), (.int xb), (.int xc)] maxLocals)) t := fun t k => pre205 t (by
      show Steps p.tables e below (T204.setTop (mkF m 495 #[.val (.int xa), .val (.int xb), .val (.int xc), .val (.int (Int32.ofNat bn)), .val (.ref b4), .val (.ref b19), .val (.int (Int32.ofNat pn)), .val (.int (Int32.ofNat mn)), .val (.ref b49), .val (.ref b68), .val (.ref b84), .val (.int (0 : Int32)), .val (.ref g0195), .val (.ref g1195), .val (.int (Int32.ofNat bn)), .val (.int (((Int32.ofNat bn) ^^^ (-1 : Int32)) &&& (15 : Int32))), .val (.int (1 : Int32))] [])) _
      refine XS.iload X204.here hx rfl (hb hby at_495) rfl ?_
      exact k)
    obtain ⟨fs, hr, hrun, hended, hW, hsame⟩ := X204.leave (v := some (.int (nar .boolean (1 : Int32)))) (fun h => by rw [Bd.returns] at h; cases h) (BodyLoose.notSynchronized Bd)
    refine ⟨_, _, pre206 _ ?_, hrun, hended, _, _, rfl, ?_, ⟨_, rfl⟩, hW, hsame.mono (by decide) (by decide)⟩
    · show Steps p.tables e below (T204.setTop (mkF m 497 #[.val (.int xa), .val (.int xb), .val (.int xc), .val (.int (Int32.ofNat bn)), .val (.ref b4), .val (.ref b19), .val (.int (Int32.ofNat pn)), .val (.int (Int32.ofNat mn)), .val (.ref b49), .val (.ref b68), .val (.ref b84), .val (.int (0 : Int32)), .val (.ref g0195), .val (.ref g1195), .val (.int (Int32.ofNat bn)), .val (.int (((Int32.ofNat bn) ^^^ (-1 : Int32)) &&& (15 : Int32))), .val (.int (1 : Int32))] [(.int (1 : Int32))])) _
      exact retN X204 hx (t := .boolean) Bd.returns (by simp) (hb hby at_497) hr
    · show Q0 Z xa xb xc n0 [] _ T204.heap _
      rw [e204]
      have R207 : Rep Z n0 h204 ([]) := R204.cut 0 14 rfl
      exact ⟨(by rfl), N204, R207⟩
set_option maxRecDepth 65536 in
set_option maxHeartbeats 40000000 in
theorem comes_1 {Post : Tables → Env → Array Value → State → Outcome → State → Prop} (hpost : ∀ tb e args s v u, (limb_1_1.after args s (.returned v) u = true ∧ limb_1_2.after args s (.returned v) u = true ∧ True) → FrameEnd s (.returned v) u (Jvm.fieldLocs frame_1_writes args s ++ Jvm.arrayLocs frame_1_arrays args s ++ Jvm.staticLocs frame_1_statics s) 40 192 → Post tb e args s (.returned v) u) :
    ArmFor flags0 classFile x code maxLocals ret World_1 tables_1 room_1 Calls_1 rest_1 Pre_1 Post := by
  intro l hfl _ _ p e ha hc hk s m args below hf hA hF happ hP
  obtain ⟨hcalls, hrest, hpre⟩ := hP
  obtain ⟨-, -, -, hnamed, -, -, -, hat⟩ := (Spec.applies_iff hf).mp happ
  obtain ⟨hg, hn⟩ := and_e (Cond.before_iff.mp (show (Jvm.Cond.and given_1 narrow_1).before args s = true from hpre))
  obtain ⟨hct, hg⟩ := and_e hg
  obtain ⟨hg0, hg⟩ := and_e hg
  obtain ⟨hg1, hg⟩ := and_e hg
  have hg2 := hg
  obtain ⟨w0, w1, w2, rfl⟩ : ∃ w0 w1 w2 : Value, args = #[w0, w1, w2] := by
    have hs : args.size = 3 := by simpa [Cond.value, given_1] using hct
    obtain ⟨L⟩ := args
    match L, hs with
    | [w0, w1, w2], _ => exact ⟨w0, w1, w2, rfl⟩
  have hw := fun d (hd : d ∈ tables_1) => atoms_spec (ws := Jvm.Cond.code x code maxLocals ret :: tables_1) hat d (List.mem_cons_of_mem _ hd)
  obtain ⟨i0, ei0⟩ := is_v hg0
  obtain rfl : w0 = (.int i0) := Option.some.inj ei0
  obtain ⟨i1, ei1⟩ := is_v hg1
  obtain rfl : w1 = (.int i1) := Option.some.inj ei1
  obtain ⟨i2, ei2⟩ := is_v hg2
  obtain rfl : w2 = (.int i2) := Option.some.inj ei2
  obtain ⟨n, o, h1, h2, h3, _, L, rfl, ⟨rfl, N, -⟩, hq⟩ := rm0 l s _ hw tables_1 i0 i1 i2 s.heap s.heap.size (Rep.nil _) p e ha hc hk s m _ below hf ((Spec.applies_iff_loose hf).mp happ).1 ⟨rfl, State.Warmed39.refl s, rfl⟩ trivial
  refine ⟨n, _, h1, h2, h3, hpost _ _ _ _ _ _ ⟨Cond.after_iff.mpr rfl, Cond.after_iff.mpr (eq_i res_at (Term.int_eval (1)) rfl), trivial⟩ ⟨hq.1, hq.2.1, (hq.2.2.sift fun y hy => Or.inr (N y hy)).mono (by decide) (by decide)⟩⟩
theorem main_1_1 : Claimed_1_1 := comes_1 fun _ _ _ _ _ _ h hF => ⟨h.1, hF⟩
theorem main_1_2 : Claimed_1_2 := comes_1 fun _ _ _ _ _ _ h hF => ⟨h.2.1, hF⟩
end Jvm.Pilot.@@N@@
namespace Jvm.Pilot.@@N@@
open Jvm Jvm.ClassFile Sem Op Lib Jvm.Free Jvm.Stand Jvm.Pilot.@@N@@.Jvm.D
/-! MADE BY PROGRAM (witnessworld.py) out of the Statement's table words and the real class files: 14 classes; the members and pool entries that the words name. The judged class is class 1, her method 1. -/
namespace start1
open Jvm.ClassFile
def u (s : String) : CpInfo := .utf8 (stringToUtf16 s)
/-- a pool by its gaps: so many unusable entries, then the entry; so many at the end -/
def gap : Nat → List CpInfo → List CpInfo
  | 0, r => r
  | n + 1, r => .unusable :: gap n r
def poolList (es : List (Nat × CpInfo)) (last : Nat) : List CpInfo := es.foldr (fun e r => gap e.1 (e.2 :: r)) (gap last [])
def pool (es : List (Nat × CpInfo)) (last : Nat) : Array CpInfo := ⟨poolList es last⟩
def fileOf (pool : Array CpInfo) (this : Nat) (attrs : Array Attribute := #[]) (ms : Array MethodInfo := #[]) (fl : Nat := 33) (sup : Nat := 0) (ifs : Array Nat := #[]) (fds : Array FieldInfo := #[]) : ClassFile where
  minorVersion := 0
  majorVersion := 65
  constantPool := pool
  accessFlags := fl
  thisClass := this
  superClass := sup
  interfaces := ifs
  fields := fds
  methods := ms
  attributes := attrs
def plain (name : String) (sup : Option ClassId) : Class where
  name := name
  kind := .ordinary
  loader := none
  accessFlags := 33
  super := sup
  interfaces := #[]
  cf := none
  fields := #[]
  methods := #[]
  instanceTypes := #[]
  staticTypes := #[]
  resolved := #[]
  callSites := []
  init := .initialized
  statics := none
  mirror := none

def pool0 : Array CpInfo := pool [(5, u "<init>"), (0, u "()V"), (1, .class_ 10), (1, u "java/lang/Object"), (85, u "clone"), (0, u "()Ljava/lang/Object;")] 26

def k0c0 : Code := { maxStack := 0, maxLocals := 1, code := object_method_1_code, exceptionTable := #[], attributes := #[] }
def k0m0 : Method := { name := "<init>", desc := "()V", sig := { parameters := [], returnType := none }, accessFlags := 1, code := some k0c0 }
def k0m1 : Method := { name := "clone", desc := "()Ljava/lang/Object;", sig := { parameters := [], returnType := some (.object "java/lang/Object") }, accessFlags := 260, code := none }
/-- java/lang/Object -/
def k0 : Class := { plain "java/lang/Object" none with
  accessFlags := 33
  interfaces := #[]
  cf := some (fileOf pool0 8 #[] #[{ accessFlags := 1, nameIndex := 5, descriptorIndex := 6, attributes := #[] }, { accessFlags := 260, nameIndex := 96, descriptorIndex := 97, attributes := #[] }] 33 0 #[] #[])
  fields := #[]
  methods := #[k0m0, k0m1]
  instanceTypes := #[]
  staticTypes := #[]
  resolved := Array.replicate 124 none
  statics := none }

def pool1 : Array CpInfo := pool [(2, .class_ 4), (1, u "java/lang/Object"), (0, u "<init>"), (0, u "()V"), (0, .integer 2147483647), (0, .methodref 9 10), (0, .class_ 11), (0, .nameAndType 12 13), (0, u "com/example/witgen/witgen/regex/PartitionMarkPinLaw"), (0, u "swap"), (0, u "([III)V"), (0, .long 2), (1, .long 3), (1, .class_ 19), (0, u "com/example/witgen/witgen/regex/Partition"), (0, .methodref 18 21), (0, .nameAndType 5 22), (0, u "([II)V"), (0, .methodref 18 24), (0, .nameAndType 25 26), (0, u "mark"), (0, u "(I)V"), (0, .methodref 18 28), (0, .nameAndType 29 30), (0, u "gather"), (0, u "(I[I[J)[J"), (0, .methodref 9 32), (0, .nameAndType 33 34), (0, u "blockOk"), (0, u "([JII)Z"), (0, .methodref 9 36), (0, .nameAndType 37 38), (0, u "firstOk"), (0, u "(Lcom/example/witgen/witgen/regex/Partition;I[J)Z"), (0, .methodref 9 40), (0, .nameAndType 41 42), (0, u "pop4"), (0, u "(I)I"), (0, .methodref 9 44), (0, .nameAndType 45 46), (0, u "at"), (0, u "([JIII)I"), (0, .methodref 18 48), (0, .nameAndType 49 50), (0, u "isFirstOfBlock"), (0, u "(I)Z"), (2, u "law"), (0, u "(III)Z")] 7

def k1m0 : Method := { name := "<init>", desc := "()V", sig := { parameters := [], returnType := none }, accessFlags := 1, code := none }
def k1c1 : Code := { maxStack := 5, maxLocals := 17, code := code, exceptionTable := #[], attributes := #[] }
def k1m1 : Method := { name := "law", desc := "(III)Z", sig := { parameters := [.int, .int, .int], returnType := some .boolean }, accessFlags := 9, code := some k1c1 }
def k1c2 : Code := { maxStack := 4, maxLocals := 4, code := method_3_code, exceptionTable := #[], attributes := #[] }
def k1m2 : Method := { name := "swap", desc := "([III)V", sig := { parameters := [(.array .int), .int, .int], returnType := none }, accessFlags := 10, code := some k1c2 }
def k1c3 : Code := { maxStack := 3, maxLocals := 1, code := method_4_code, exceptionTable := #[], attributes := #[] }
def k1m3 : Method := { name := "pop4", desc := "(I)I", sig := { parameters := [.int], returnType := some .int }, accessFlags := 10, code := some k1c3 }
def k1c4 : Code := { maxStack := 4, maxLocals := 8, code := method_5_code, exceptionTable := #[], attributes := #[] }
def k1m4 : Method := { name := "at", desc := "([JIII)I", sig := { parameters := [(.array .long), .int, .int, .int], returnType := some .int }, accessFlags := 10, code := some k1c4 }
def k1c5 : Code := { maxStack := 5, maxLocals := 6, code := method_6_code, exceptionTable := #[], attributes := #[] }
def k1m5 : Method := { name := "blockOk", desc := "([JII)Z", sig := { parameters := [(.array .long), .int, .int], returnType := some .boolean }, accessFlags := 10, code := some k1c5 }
def k1c6 : Code := { maxStack := 4, maxLocals := 4, code := method_7_code, exceptionTable := #[], attributes := #[] }
def k1m6 : Method := { name := "firstOk", desc := "(Lcom/example/witgen/witgen/regex/Partition;I[J)Z", sig := { parameters := [(.object "com/example/witgen/witgen/regex/Partition"), .int, (.array .long)], returnType := some .boolean }, accessFlags := 10, code := some k1c6 }
/-- com/example/witgen/witgen/regex/PartitionMarkPinLaw -/
def k1 : Class := { plain "com/example/witgen/witgen/regex/PartitionMarkPinLaw" (some 0) with
  accessFlags := 49
  interfaces := #[]
  cf := some (fileOf pool1 9 #[] #[{ accessFlags := 1, nameIndex := 5, descriptorIndex := 6, attributes := #[] }, { accessFlags := 9, nameIndex := 53, descriptorIndex := 54, attributes := #[] }, { accessFlags := 10, nameIndex := 12, descriptorIndex := 13, attributes := #[] }, { accessFlags := 10, nameIndex := 41, descriptorIndex := 42, attributes := #[] }, { accessFlags := 10, nameIndex := 45, descriptorIndex := 46, attributes := #[] }, { accessFlags := 10, nameIndex := 33, descriptorIndex := 34, attributes := #[] }, { accessFlags := 10, nameIndex := 37, descriptorIndex := 38, attributes := #[] }] 49 2 #[] #[])
  fields := #[]
  methods := #[k1m0, k1m1, k1m2, k1m3, k1m4, k1m5, k1m6]
  instanceTypes := #[]
  staticTypes := #[]
  resolved := Array.replicate 62 none
  statics := none }

def pool2 : Array CpInfo := pool [(1, .methodref 2 3), (0, .class_ 4), (0, .nameAndType 5 6), (0, u "java/lang/Object"), (0, u "<init>"), (0, u "()V"), (0, .methodref 8 9), (0, .class_ 10), (0, .nameAndType 11 12), (0, u "java/lang/Math"), (0, u "max"), (0, u "(II)I"), (0, .fieldref 14 15), (0, .class_ 16), (0, .nameAndType 17 18), (0, u "com/example/witgen/witgen/regex/Partition"), (0, u "elements"), (0, u "[I"), (0, .fieldref 14 20), (0, .nameAndType 21 18), (0, u "location"), (0, .methodref 23 24), (0, .class_ 18), (0, .nameAndType 25 26), (0, u "clone"), (0, u "()Ljava/lang/Object;"), (0, .fieldref 14 28), (0, .nameAndType 29 18), (0, u "blockOf"), (0, .fieldref 14 31), (0, .nameAndType 32 18), (0, u "start"), (0, .fieldref 14 34), (0, .nameAndType 35 18), (0, u "end"), (0, .fieldref 14 37), (0, .nameAndType 38 18), (0, u "marked"), (0, .fieldref 14 40), (0, .nameAndType 41 18), (0, u "touched"), (0, .fieldref 14 43), (0, .nameAndType 44 45), (0, u "blocks"), (0, u "I"), (0, .methodref 47 48), (0, .class_ 49), (0, .nameAndType 50 51), (0, u "java/util/Arrays"), (0, u "copyOf"), (0, u "([II)[I"), (0, .fieldref 14 53), (0, .nameAndType 54 45), (0, u "touchedCount"), (5, .class_ 62), (1, u "com/example/witgen/witgen/regex/Partition$Split"), (2, .methodref 66 67), (0, .class_ 68), (0, .nameAndType 69 70), (0, u "java/lang/System"), (0, u "arraycopy"), (0, u "(Ljava/lang/Object;ILjava/lang/Object;II)V"), (0, u "([II)V"), (4, u "isFirstOfBlock"), (0, u "(I)Z"), (0, u "mark"), (0, u "(I)V"), (2, u "gather"), (0, u "(I[I[J)[J")] 7

def k2c0 : Code := { maxStack := 7, maxLocals := 9, code := prog_15_method_1_code, exceptionTable := #[], attributes := #[] }
def k2m0 : Method := { name := "<init>", desc := "([II)V", sig := { parameters := [(.array .int), .int], returnType := none }, accessFlags := 0, code := some k2c0 }
def k2c1 : Code := { maxStack := 4, maxLocals := 2, code := prog_15_method_5_code, exceptionTable := #[], attributes := #[] }
def k2m1 : Method := { name := "isFirstOfBlock", desc := "(I)Z", sig := { parameters := [.int], returnType := some .boolean }, accessFlags := 0, code := some k2c1 }
def k2c2 : Code := { maxStack := 5, maxLocals := 6, code := prog_15_method_6_code, exceptionTable := #[], attributes := #[] }
def k2m2 : Method := { name := "mark", desc := "(I)V", sig := { parameters := [.int], returnType := none }, accessFlags := 0, code := some k2c2 }
def k2c3 : Code := { maxStack := 5, maxLocals := 10, code := prog_15_method_8_code, exceptionTable := #[], attributes := #[] }
def k2m3 : Method := { name := "gather", desc := "(I[I[J)[J", sig := { parameters := [.int, (.array .int), (.array .long)], returnType := some (.array .long) }, accessFlags := 0, code := some k2c3 }
/-- com/example/witgen/witgen/regex/Partition -/
def k2 : Class := { plain "com/example/witgen/witgen/regex/Partition" (some 0) with
  accessFlags := 48
  interfaces := #[]
  cf := some (fileOf pool2 14 #[.nestMembers #[60]] #[{ accessFlags := 0, nameIndex := 5, descriptorIndex := 71, attributes := #[] }, { accessFlags := 0, nameIndex := 76, descriptorIndex := 77, attributes := #[] }, { accessFlags := 0, nameIndex := 78, descriptorIndex := 79, attributes := #[] }, { accessFlags := 0, nameIndex := 82, descriptorIndex := 83, attributes := #[] }] 48 2 #[] #[{ accessFlags := 18, nameIndex := 17, descriptorIndex := 18, attributes := #[] }, { accessFlags := 18, nameIndex := 21, descriptorIndex := 18, attributes := #[] }, { accessFlags := 18, nameIndex := 29, descriptorIndex := 18, attributes := #[] }, { accessFlags := 18, nameIndex := 32, descriptorIndex := 18, attributes := #[] }, { accessFlags := 18, nameIndex := 35, descriptorIndex := 18, attributes := #[] }, { accessFlags := 18, nameIndex := 38, descriptorIndex := 18, attributes := #[] }, { accessFlags := 18, nameIndex := 41, descriptorIndex := 18, attributes := #[] }, { accessFlags := 2, nameIndex := 54, descriptorIndex := 45, attributes := #[] }, { accessFlags := 2, nameIndex := 44, descriptorIndex := 45, attributes := #[] }])
  fields := #[{ name := "elements", type := (.array .int), accessFlags := 18, slot := 0, constantValue := 0 }, { name := "location", type := (.array .int), accessFlags := 18, slot := 1, constantValue := 0 }, { name := "blockOf", type := (.array .int), accessFlags := 18, slot := 2, constantValue := 0 }, { name := "start", type := (.array .int), accessFlags := 18, slot := 3, constantValue := 0 }, { name := "end", type := (.array .int), accessFlags := 18, slot := 4, constantValue := 0 }, { name := "marked", type := (.array .int), accessFlags := 18, slot := 5, constantValue := 0 }, { name := "touched", type := (.array .int), accessFlags := 18, slot := 6, constantValue := 0 }, { name := "touchedCount", type := .int, accessFlags := 2, slot := 7, constantValue := 0 }, { name := "blocks", type := .int, accessFlags := 2, slot := 8, constantValue := 0 }]
  methods := #[k2m0, k2m1, k2m2, k2m3]
  instanceTypes := #[(.array .int), (.array .int), (.array .int), (.array .int), (.array .int), (.array .int), (.array .int), .int, .int]
  staticTypes := #[]
  resolved := Array.replicate 91 none
  statics := none }

def pool3 : Array CpInfo := pool [(1, .class_ 2), (0, u "java/lang/Math"), (1, .class_ 6), (1, u "java/lang/Object"), (0, u "<init>"), (0, u "()V"), (89, .class_ 100), (1, u "java/lang/Math$RandomNumberGeneratorHolder"), (71, u "negativeZeroFloatBits"), (0, u "J"), (2, u "negativeZeroDoubleBits"), (21, u "max"), (2, u "min"), (43, u "$assertionsDisabled"), (0, u "Z"), (88, u "(II)I"), (2, u "twoToTheDoubleScaleDown"), (0, u "D"), (4, u "twoToTheDoubleScaleUp"), (9, u "E"), (3, u "PI"), (2, u "TAU"), (2, u "DEGREES_TO_RADIANS"), (0, u "RADIANS_TO_DEGREES")] 94

def k3m0 : Method := { name := "<init>", desc := "()V", sig := { parameters := [], returnType := none }, accessFlags := 2, code := none }
def k3c1 : Code := { maxStack := 2, maxLocals := 2, code := jdk_29_method_65_code, exceptionTable := #[], attributes := #[] }
def k3m1 : Method := { name := "max", desc := "(II)I", sig := { parameters := [.int, .int], returnType := some .int }, accessFlags := 9, code := some k3c1 }
def k3c2 : Code := { maxStack := 2, maxLocals := 2, code := jdk_29_method_69_code, exceptionTable := #[], attributes := #[] }
def k3m2 : Method := { name := "min", desc := "(II)I", sig := { parameters := [.int, .int], returnType := some .int }, accessFlags := 9, code := some k3c2 }
/-- java/lang/Math -/
def k3 : Class := { plain "java/lang/Math" (some 0) with
  accessFlags := 49
  interfaces := #[]
  cf := some (fileOf pool3 1 #[.nestMembers #[98]] #[{ accessFlags := 2, nameIndex := 7, descriptorIndex := 8, attributes := #[] }, { accessFlags := 9, nameIndex := 198, descriptorIndex := 335, attributes := #[] }, { accessFlags := 9, nameIndex := 201, descriptorIndex := 335, attributes := #[] }] 49 4 #[] #[{ accessFlags := 25, nameIndex := 354, descriptorIndex := 339, attributes := #[] }, { accessFlags := 25, nameIndex := 358, descriptorIndex := 339, attributes := #[] }, { accessFlags := 25, nameIndex := 361, descriptorIndex := 339, attributes := #[] }, { accessFlags := 26, nameIndex := 364, descriptorIndex := 339, attributes := #[] }, { accessFlags := 26, nameIndex := 365, descriptorIndex := 339, attributes := #[] }, { accessFlags := 26, nameIndex := 172, descriptorIndex := 173, attributes := #[] }, { accessFlags := 26, nameIndex := 176, descriptorIndex := 173, attributes := #[] }, { accessFlags := 8, nameIndex := 344, descriptorIndex := 339, attributes := #[] }, { accessFlags := 8, nameIndex := 338, descriptorIndex := 339, attributes := #[] }, { accessFlags := 4120, nameIndex := 245, descriptorIndex := 246, attributes := #[] }])
  fields := #[{ name := "E", type := .double, accessFlags := 25, slot := 0, constantValue := 0 }, { name := "PI", type := .double, accessFlags := 25, slot := 1, constantValue := 0 }, { name := "TAU", type := .double, accessFlags := 25, slot := 2, constantValue := 0 }, { name := "DEGREES_TO_RADIANS", type := .double, accessFlags := 26, slot := 3, constantValue := 0 }, { name := "RADIANS_TO_DEGREES", type := .double, accessFlags := 26, slot := 4, constantValue := 0 }, { name := "negativeZeroFloatBits", type := .long, accessFlags := 26, slot := 5, constantValue := 0 }, { name := "negativeZeroDoubleBits", type := .long, accessFlags := 26, slot := 6, constantValue := 0 }, { name := "twoToTheDoubleScaleUp", type := .double, accessFlags := 8, slot := 7, constantValue := 0 }, { name := "twoToTheDoubleScaleDown", type := .double, accessFlags := 8, slot := 8, constantValue := 0 }, { name := "$assertionsDisabled", type := .boolean, accessFlags := 4120, slot := 9, constantValue := 0 }]
  methods := #[k3m0, k3m1, k3m2]
  instanceTypes := #[]
  staticTypes := #[.double, .double, .double, .double, .double, .long, .long, .double, .double, .boolean]
  resolved := Array.replicate 460 none
  statics := none }

def pool4 : Array CpInfo := pool [(1, .class_ 2), (0, u "java/lang/Cloneable"), (0, .class_ 4), (0, u "java/lang/Object")] 2

/-- java/lang/Cloneable -/
def k4 : Class := { plain "java/lang/Cloneable" (some 0) with
  accessFlags := 1537
  interfaces := #[]
  cf := some (fileOf pool4 1 #[] #[] 1537 3 #[] #[])
  fields := #[]
  methods := #[]
  instanceTypes := #[]
  staticTypes := #[]
  resolved := Array.replicate 7 none
  statics := none }

def pool5 : Array CpInfo := pool [(2, .class_ 4), (1, u "java/lang/Object"), (0, u "<init>"), (0, u "()V"), (7, .class_ 16), (1, u "java/util/Arrays"), (57, .class_ 76), (1, u "java/util/Arrays$NaturalOrder"), (36, .class_ 115), (1, u "java/util/Arrays$LegacyMergeSort"), (1, u "Z"), (32, .methodref 151 152), (0, .class_ 153), (0, .nameAndType 154 155), (0, u "java/lang/System"), (0, u "arraycopy"), (0, u "(Ljava/lang/Object;ILjava/lang/Object;II)V"), (146, u "copyOf"), (1, .methodref 305 306), (0, .class_ 307), (0, .nameAndType 308 309), (0, u "java/lang/Math"), (0, u "min"), (0, u "(II)I"), (65, .class_ 376), (0, u "java/util/Arrays$ArrayList"), (68, u "$assertionsDisabled"), (269, u "MIN_ARRAY_SORT_GRAN"), (0, u "I"), (2, u "INSERTIONSORT_THRESHOLD"), (151, u "([II)[I"), (103, .class_ 976), (0, u "java/util/Arrays$ArrayItr")] 52

def k5m0 : Method := { name := "<init>", desc := "()V", sig := { parameters := [], returnType := none }, accessFlags := 2, code := none }
def k5c1 : Code := { maxStack := 6, maxLocals := 3, code := jdk_65_method_123_code, exceptionTable := #[], attributes := #[] }
def k5m1 : Method := { name := "copyOf", desc := "([II)[I", sig := { parameters := [(.array .int), .int], returnType := some (.array .int) }, accessFlags := 9, code := some k5c1 }
/-- java/util/Arrays -/
def k5 : Class := { plain "java/util/Arrays" (some 0) with
  accessFlags := 49
  interfaces := #[]
  cf := some (fileOf pool5 14 #[.nestMembers #[975, 375, 113, 74]] #[{ accessFlags := 2, nameIndex := 5, descriptorIndex := 6, attributes := #[] }, { accessFlags := 9, nameIndex := 302, descriptorIndex := 871, attributes := #[] }] 49 2 #[] #[{ accessFlags := 26, nameIndex := 715, descriptorIndex := 716, attributes := #[] }, { accessFlags := 26, nameIndex := 719, descriptorIndex := 716, attributes := #[] }, { accessFlags := 4120, nameIndex := 445, descriptorIndex := 117, attributes := #[] }])
  fields := #[{ name := "MIN_ARRAY_SORT_GRAN", type := .int, accessFlags := 26, slot := 0, constantValue := 0 }, { name := "INSERTIONSORT_THRESHOLD", type := .int, accessFlags := 26, slot := 1, constantValue := 0 }, { name := "$assertionsDisabled", type := .boolean, accessFlags := 4120, slot := 2, constantValue := 0 }]
  methods := #[k5m0, k5m1]
  instanceTypes := #[]
  staticTypes := #[.int, .int, .boolean]
  resolved := Array.replicate 1029 none
  statics := none }

def pool6 : Array CpInfo := pool [(2, .class_ 4), (1, u "java/lang/Object"), (0, u "<init>"), (0, u "()V"), (1, .class_ 10), (1, u "java/lang/System"), (0, u "allowSecurityManager"), (0, u "I"), (16, u "cons"), (0, u "Ljava/io/Console;"), (77, .class_ 110), (1, u "java/lang/System$CallersHolder"), (43, u "initialErrStream"), (0, u "Ljava/io/PrintStream;"), (19, u "security"), (0, u "Ljava/lang/SecurityManager;"), (31, .class_ 209), (0, u "java/lang/System$1"), (7, u "props"), (0, u "Ljava/util/Properties;"), (2, u "lineSeparator"), (0, u "Ljava/lang/String;"), (96, .class_ 321), (1, u "java/lang/System$LoggerFinder"), (5, .class_ 328), (0, u "java/lang/System$Logger"), (67, u "err"), (2, u "out"), (91, u "notSupportedJnuEncoding"), (15, u "in"), (17, u "initialIn"), (0, u "Ljava/io/InputStream;"), (35, u "bootLayer"), (0, u "Ljava/lang/ModuleLayer;"), (99, .class_ 664), (0, u "java/lang/System$2"), (9, u "NEVER"), (2, u "MAYBE"), (49, u "arraycopy"), (0, u "(Ljava/lang/Object;ILjava/lang/Object;II)V"), (72, .class_ 802), (0, u "java/lang/System$Logger$Level")] 31

def k6m0 : Method := { name := "<init>", desc := "()V", sig := { parameters := [], returnType := none }, accessFlags := 2, code := none }
def k6m1 : Method := { name := "arraycopy", desc := "(Ljava/lang/Object;ILjava/lang/Object;II)V", sig := { parameters := [(.object "java/lang/Object"), .int, (.object "java/lang/Object"), .int, .int], returnType := none }, accessFlags := 265, code := none }
/-- java/lang/System -/
def k6 : Class := { plain "java/lang/System" (some 0) with
  accessFlags := 49
  interfaces := #[]
  cf := some (fileOf pool6 8 #[.nestMembers #[319, 327, 801, 108, 663, 208]] #[{ accessFlags := 2, nameIndex := 5, descriptorIndex := 6, attributes := #[] }, { accessFlags := 265, nameIndex := 727, descriptorIndex := 728, attributes := #[] }] 49 2 #[] #[{ accessFlags := 25, nameIndex := 507, descriptorIndex := 526, attributes := #[] }, { accessFlags := 25, nameIndex := 399, descriptorIndex := 155, attributes := #[] }, { accessFlags := 25, nameIndex := 396, descriptorIndex := 155, attributes := #[] }, { accessFlags := 10, nameIndex := 525, descriptorIndex := 526, attributes := #[] }, { accessFlags := 26, nameIndex := 674, descriptorIndex := 12, attributes := #[] }, { accessFlags := 26, nameIndex := 677, descriptorIndex := 12, attributes := #[] }, { accessFlags := 10, nameIndex := 11, descriptorIndex := 12, attributes := #[] }, { accessFlags := 74, nameIndex := 175, descriptorIndex := 176, attributes := #[] }, { accessFlags := 10, nameIndex := 491, descriptorIndex := 222, attributes := #[] }, { accessFlags := 74, nameIndex := 29, descriptorIndex := 30, attributes := #[] }, { accessFlags := 74, nameIndex := 154, descriptorIndex := 155, attributes := #[] }, { accessFlags := 10, nameIndex := 217, descriptorIndex := 218, attributes := #[] }, { accessFlags := 10, nameIndex := 221, descriptorIndex := 222, attributes := #[] }, { accessFlags := 8, nameIndex := 562, descriptorIndex := 563, attributes := #[] }])
  fields := #[{ name := "in", type := (.object "java/io/InputStream"), accessFlags := 25, slot := 0, constantValue := 0 }, { name := "out", type := (.object "java/io/PrintStream"), accessFlags := 25, slot := 1, constantValue := 0 }, { name := "err", type := (.object "java/io/PrintStream"), accessFlags := 25, slot := 2, constantValue := 0 }, { name := "initialIn", type := (.object "java/io/InputStream"), accessFlags := 10, slot := 3, constantValue := 0 }, { name := "NEVER", type := .int, accessFlags := 26, slot := 4, constantValue := 0 }, { name := "MAYBE", type := .int, accessFlags := 26, slot := 5, constantValue := 0 }, { name := "allowSecurityManager", type := .int, accessFlags := 10, slot := 6, constantValue := 0 }, { name := "security", type := (.object "java/lang/SecurityManager"), accessFlags := 74, slot := 7, constantValue := 0 }, { name := "notSupportedJnuEncoding", type := (.object "java/lang/String"), accessFlags := 10, slot := 8, constantValue := 0 }, { name := "cons", type := (.object "java/io/Console"), accessFlags := 74, slot := 9, constantValue := 0 }, { name := "initialErrStream", type := (.object "java/io/PrintStream"), accessFlags := 74, slot := 10, constantValue := 0 }, { name := "props", type := (.object "java/util/Properties"), accessFlags := 10, slot := 11, constantValue := 0 }, { name := "lineSeparator", type := (.object "java/lang/String"), accessFlags := 10, slot := 12, constantValue := 0 }, { name := "bootLayer", type := (.object "java/lang/ModuleLayer"), accessFlags := 8, slot := 13, constantValue := 0 }]
  methods := #[k6m0, k6m1]
  instanceTypes := #[]
  staticTypes := #[(.object "java/io/InputStream"), (.object "java/io/PrintStream"), (.object "java/io/PrintStream"), (.object "java/io/InputStream"), .int, .int, .int, (.object "java/lang/SecurityManager"), (.object "java/lang/String"), (.object "java/io/Console"), (.object "java/io/PrintStream"), (.object "java/util/Properties"), (.object "java/lang/String"), (.object "java/lang/ModuleLayer")]
  resolved := Array.replicate 834 none
  statics := none }

def pool7 : Array CpInfo := pool [(1, u "java/io/Serializable"), (0, .class_ 1), (0, u "java/lang/Object"), (0, .class_ 3)] 3

/-- java/io/Serializable -/
def k7 : Class := { plain "java/io/Serializable" (some 0) with
  accessFlags := 1537
  interfaces := #[]
  cf := some (fileOf pool7 2 #[] #[] 1537 4 #[] #[])
  fields := #[]
  methods := #[]
  instanceTypes := #[]
  staticTypes := #[]
  resolved := Array.replicate 8 none
  statics := none }

/-- the primitive byte -/
def k8 : Class := { plain "byte" none with kind := .primitive 'B', accessFlags := 0x411 }
/-- [B -/
def k9 : Class := { plain "[B" (some 0) with kind := .array 8 .byte, interfaces := #[4, 7], accessFlags := 1041 }

/-- the primitive int -/
def k10 : Class := { plain "int" none with kind := .primitive 'I', accessFlags := 0x411 }
/-- [I -/
def k11 : Class := { plain "[I" (some 0) with kind := .array 10 .int, interfaces := #[4, 7], accessFlags := 1041 }

/-- the primitive long -/
def k12 : Class := { plain "long" none with kind := .primitive 'J', accessFlags := 0x411 }
/-- [J -/
def k13 : Class := { plain "[J" (some 0) with kind := .array 12 .long, interfaces := #[4, 7], accessFlags := 1041 }

def heap : Heap := #[]
def classes : Array Class := #[k0, k1, k2, k3, k4, k5, k6, k7, k8, k9, k10, k11, k12, k13]
def interned : List (Array UInt16 × Addr) := []
def slotsUsed : Nat := 0
def theMethod : MethodId := ⟨1, 1⟩
def args0 : Array Value := #[.int 5, .int 6, .int 7]
def aboutOver (below : List Frame) : State where
  vm := { classes := classes, interned := interned.toArray }
  heap := heap
  slotsUsed := slotsUsed
  threads := #[{ frames := .invoking theMethod args0 :: below }]
def below0 : List Frame := [.native { method := ⟨0, 0⟩, args := #[] }]
def about1 : State := aboutOver below0
def p0 : Program := .bare "" "" ""
def e0 : Env := launch0.env 0 0 0
theorem w_frames : about1.frames = Frame.invoking theMethod args0 :: below0 := rfl
set_option maxRecDepth 65536 in
theorem w_args : argsFit about1.vm theMethod args0 = true := by decide +kernel
set_option maxRecDepth 65536 in
theorem w_heap : heapFits about1 = true := by decide +kernel
set_option maxRecDepth 65536 in
theorem w_runnable : about1.curStatus? = some .runnable := by decide +kernel
set_option maxRecDepth 65536 in
theorem w_alone : about1.alone = true := by decide +kernel
set_option maxRecDepth 65536 in
theorem w_named : about1.methodNamed? x = some theMethod := by decide +kernel
set_option maxRecDepth 65536 in
theorem w_hears : about1.hears theMethod below0 = true := by decide +kernel
set_option maxRecDepth 65536 in
theorem w_ripe : about1.ripe theMethod args0 below0 = true := by decide +kernel
theorem w_running : about1.status = .running := rfl
set_option maxRecDepth 65536 in
theorem w_room : about1.hasRoom e0.platform room_1 = true :=
  launch0.hasRoom_least _ room_1 (by decide +kernel) (by decide +kernel) (by decide +kernel) (by decide +kernel) (by decide +kernel) (by decide +kernel)
theorem allAtoms_all (ts : List Jvm.Cond) (a : Array Jvm.Value) (st : Jvm.State) : (allAtoms ts).before a st = ts.all (fun c => c.before a st) := by
  induction ts with
  | nil => rfl
  | cons c t ih =>
    show (Jvm.Cond.and c (allAtoms t)).before a st = _
    rw [Jvm.Cond.before_and, ih, List.all_cons]
def words1 : List Jvm.Cond := Jvm.Cond.code x code maxLocals ret :: tables_1
/-- a 'code' word, met by the world's own term for the bytes: nothing is compared byte by byte -/
theorem code_word {y : MethodName} {bytes : ByteArray} {mx : Nat} {rt : Option FieldType} {a : Array Value} {s : State} {m : MethodId} {meth : Method} {c : Code} (h1 : s.methodNamed? y = some m) (h2 : s.vm.method? m = some meth) (h3 : meth.code = some c) (h4 : c.code = bytes)
    (h5 : (c.maxLocals == mx && c.exceptionTable.isEmpty && decide (c.maxStack ≤ mostOperands) && decide (meth.sig.returnType = rt) && !meth.locks && decide (parseMethodDescriptor y.desc = some meth.sig)) = true) : (Jvm.Cond.code y bytes mx rt).before a s = true := by
  simp only [Bool.and_eq_true, beq_iff_eq, Bool.not_eq_true', decide_eq_true_eq] at h5
  obtain ⟨⟨⟨⟨⟨g1, g2⟩, g3⟩, g4⟩, g5⟩, g6⟩ := h5
  simp [Cond.before, Cond.holds, Cond.value, h1, h2, h3, h4, g1, g2, g3, g4, g5, g6]
def isCode : Jvm.Cond → Bool
  | .code _ _ _ _ => true
  | _ => false
theorem all_split {L : List Jvm.Cond} {P : Jvm.Cond → Bool} (h1 : L.all (fun c => isCode c || P c) = true) (h2 : ∀ c ∈ L.filter isCode, P c = true) : L.all P = true := by
  refine List.all_eq_true.mpr fun c hc => ?_
  have h := List.all_eq_true.mp h1 c hc
  rcases Bool.eq_false_or_eq_true (isCode c) with hi | hi
  · exact h2 c (List.mem_filter.mpr ⟨hc, hi⟩)
  · simpa [hi] using h
set_option maxRecDepth 65536 in
theorem w_c0 : (Jvm.Cond.code x code maxLocals ret).before args0 about1 = true := code_word (m := ⟨1, 1⟩) (meth := k1m1) (c := k1c1) (by decide +kernel) rfl rfl rfl (by decide +kernel)
set_option maxRecDepth 65536 in
theorem w_c1 : (Jvm.Cond.code ({ cls := "com/example/witgen/witgen/regex/PartitionMarkPinLaw", name := "swap", desc := "([III)V" } : Jvm.MethodName) method_3_code (4 : Nat) (Option.none : Option Jvm.ClassFile.FieldType)).before args0 about1 = true := code_word (m := ⟨1, 2⟩) (meth := k1m2) (c := k1c2) (by decide +kernel) rfl rfl rfl (by decide +kernel)
set_option maxRecDepth 65536 in
theorem w_c2 : (Jvm.Cond.code ({ cls := "com/example/witgen/witgen/regex/Partition", name := "<init>", desc := "([II)V" } : Jvm.MethodName) prog_15_method_1_code (9 : Nat) (Option.none : Option Jvm.ClassFile.FieldType)).before args0 about1 = true := code_word (m := ⟨2, 0⟩) (meth := k2m0) (c := k2c0) (by decide +kernel) rfl rfl rfl (by decide +kernel)
set_option maxRecDepth 65536 in
theorem w_c3 : (Jvm.Cond.code ({ cls := "java/lang/Object", name := "<init>", desc := "()V" } : Jvm.MethodName) object_method_1_code (1 : Nat) (Option.none : Option Jvm.ClassFile.FieldType)).before args0 about1 = true := code_word (m := ⟨0, 0⟩) (meth := k0m0) (c := k0c0) (by decide +kernel) rfl rfl rfl (by decide +kernel)
set_option maxRecDepth 65536 in
theorem w_c4 : (Jvm.Cond.code ({ cls := "java/lang/Math", name := "max", desc := "(II)I" } : Jvm.MethodName) jdk_29_method_65_code (2 : Nat) (Option.some Jvm.ClassFile.FieldType.int)).before args0 about1 = true := code_word (m := ⟨3, 1⟩) (meth := k3m1) (c := k3c1) (by decide +kernel) rfl rfl rfl (by decide +kernel)
set_option maxRecDepth 65536 in
theorem w_c5 : (Jvm.Cond.code ({ cls := "java/util/Arrays", name := "copyOf", desc := "([II)[I" } : Jvm.MethodName) jdk_65_method_123_code (3 : Nat) (Option.some (Jvm.ClassFile.FieldType.array Jvm.ClassFile.FieldType.int))).before args0 about1 = true := code_word (m := ⟨5, 1⟩) (meth := k5m1) (c := k5c1) (by decide +kernel) rfl rfl rfl (by decide +kernel)
set_option maxRecDepth 65536 in
theorem w_c6 : (Jvm.Cond.code ({ cls := "java/lang/Math", name := "min", desc := "(II)I" } : Jvm.MethodName) jdk_29_method_69_code (2 : Nat) (Option.some Jvm.ClassFile.FieldType.int)).before args0 about1 = true := code_word (m := ⟨3, 2⟩) (meth := k3m2) (c := k3c2) (by decide +kernel) rfl rfl rfl (by decide +kernel)
set_option maxRecDepth 65536 in
theorem w_c7 : (Jvm.Cond.code ({ cls := "com/example/witgen/witgen/regex/Partition", name := "mark", desc := "(I)V" } : Jvm.MethodName) prog_15_method_6_code (6 : Nat) (Option.none : Option Jvm.ClassFile.FieldType)).before args0 about1 = true := code_word (m := ⟨2, 2⟩) (meth := k2m2) (c := k2c2) (by decide +kernel) rfl rfl rfl (by decide +kernel)
set_option maxRecDepth 65536 in
theorem w_c8 : (Jvm.Cond.code ({ cls := "com/example/witgen/witgen/regex/Partition", name := "gather", desc := "(I[I[J)[J" } : Jvm.MethodName) prog_15_method_8_code (10 : Nat) (Option.some (Jvm.ClassFile.FieldType.array Jvm.ClassFile.FieldType.long))).before args0 about1 = true := code_word (m := ⟨2, 3⟩) (meth := k2m3) (c := k2c3) (by decide +kernel) rfl rfl rfl (by decide +kernel)
set_option maxRecDepth 65536 in
theorem w_c9 : (Jvm.Cond.code ({ cls := "com/example/witgen/witgen/regex/PartitionMarkPinLaw", name := "blockOk", desc := "([JII)Z" } : Jvm.MethodName) method_6_code (6 : Nat) (Option.some Jvm.ClassFile.FieldType.boolean)).before args0 about1 = true := code_word (m := ⟨1, 5⟩) (meth := k1m5) (c := k1c5) (by decide +kernel) rfl rfl rfl (by decide +kernel)
set_option maxRecDepth 65536 in
theorem w_c10 : (Jvm.Cond.code ({ cls := "com/example/witgen/witgen/regex/PartitionMarkPinLaw", name := "pop4", desc := "(I)I" } : Jvm.MethodName) method_4_code (1 : Nat) (Option.some Jvm.ClassFile.FieldType.int)).before args0 about1 = true := code_word (m := ⟨1, 3⟩) (meth := k1m3) (c := k1c3) (by decide +kernel) rfl rfl rfl (by decide +kernel)
set_option maxRecDepth 65536 in
theorem w_c11 : (Jvm.Cond.code ({ cls := "com/example/witgen/witgen/regex/PartitionMarkPinLaw", name := "at", desc := "([JIII)I" } : Jvm.MethodName) method_5_code (8 : Nat) (Option.some Jvm.ClassFile.FieldType.int)).before args0 about1 = true := code_word (m := ⟨1, 4⟩) (meth := k1m4) (c := k1c4) (by decide +kernel) rfl rfl rfl (by decide +kernel)
set_option maxRecDepth 65536 in
theorem w_c12 : (Jvm.Cond.code ({ cls := "com/example/witgen/witgen/regex/PartitionMarkPinLaw", name := "firstOk", desc := "(Lcom/example/witgen/witgen/regex/Partition;I[J)Z" } : Jvm.MethodName) method_7_code (4 : Nat) (Option.some Jvm.ClassFile.FieldType.boolean)).before args0 about1 = true := code_word (m := ⟨1, 6⟩) (meth := k1m6) (c := k1c6) (by decide +kernel) rfl rfl rfl (by decide +kernel)
set_option maxRecDepth 65536 in
theorem w_c13 : (Jvm.Cond.code ({ cls := "com/example/witgen/witgen/regex/Partition", name := "isFirstOfBlock", desc := "(I)Z" } : Jvm.MethodName) prog_15_method_5_code (2 : Nat) (Option.some Jvm.ClassFile.FieldType.boolean)).before args0 about1 = true := code_word (m := ⟨2, 1⟩) (meth := k2m1) (c := k2c1) (by decide +kernel) rfl rfl rfl (by decide +kernel)
def codes1 : List Jvm.Cond := [Jvm.Cond.code x code maxLocals ret, Jvm.Cond.code ({ cls := "com/example/witgen/witgen/regex/PartitionMarkPinLaw", name := "swap", desc := "([III)V" } : Jvm.MethodName) method_3_code (4 : Nat) (Option.none : Option Jvm.ClassFile.FieldType), Jvm.Cond.code ({ cls := "com/example/witgen/witgen/regex/Partition", name := "<init>", desc := "([II)V" } : Jvm.MethodName) prog_15_method_1_code (9 : Nat) (Option.none : Option Jvm.ClassFile.FieldType), Jvm.Cond.code ({ cls := "java/lang/Object", name := "<init>", desc := "()V" } : Jvm.MethodName) object_method_1_code (1 : Nat) (Option.none : Option Jvm.ClassFile.FieldType), Jvm.Cond.code ({ cls := "java/lang/Math", name := "max", desc := "(II)I" } : Jvm.MethodName) jdk_29_method_65_code (2 : Nat) (Option.some Jvm.ClassFile.FieldType.int), Jvm.Cond.code ({ cls := "java/util/Arrays", name := "copyOf", desc := "([II)[I" } : Jvm.MethodName) jdk_65_method_123_code (3 : Nat) (Option.some (Jvm.ClassFile.FieldType.array Jvm.ClassFile.FieldType.int)), Jvm.Cond.code ({ cls := "java/lang/Math", name := "min", desc := "(II)I" } : Jvm.MethodName) jdk_29_method_69_code (2 : Nat) (Option.some Jvm.ClassFile.FieldType.int), Jvm.Cond.code ({ cls := "com/example/witgen/witgen/regex/Partition", name := "mark", desc := "(I)V" } : Jvm.MethodName) prog_15_method_6_code (6 : Nat) (Option.none : Option Jvm.ClassFile.FieldType), Jvm.Cond.code ({ cls := "com/example/witgen/witgen/regex/Partition", name := "gather", desc := "(I[I[J)[J" } : Jvm.MethodName) prog_15_method_8_code (10 : Nat) (Option.some (Jvm.ClassFile.FieldType.array Jvm.ClassFile.FieldType.long)), Jvm.Cond.code ({ cls := "com/example/witgen/witgen/regex/PartitionMarkPinLaw", name := "blockOk", desc := "([JII)Z" } : Jvm.MethodName) method_6_code (6 : Nat) (Option.some Jvm.ClassFile.FieldType.boolean), Jvm.Cond.code ({ cls := "com/example/witgen/witgen/regex/PartitionMarkPinLaw", name := "pop4", desc := "(I)I" } : Jvm.MethodName) method_4_code (1 : Nat) (Option.some Jvm.ClassFile.FieldType.int), Jvm.Cond.code ({ cls := "com/example/witgen/witgen/regex/PartitionMarkPinLaw", name := "at", desc := "([JIII)I" } : Jvm.MethodName) method_5_code (8 : Nat) (Option.some Jvm.ClassFile.FieldType.int), Jvm.Cond.code ({ cls := "com/example/witgen/witgen/regex/PartitionMarkPinLaw", name := "firstOk", desc := "(Lcom/example/witgen/witgen/regex/Partition;I[J)Z" } : Jvm.MethodName) method_7_code (4 : Nat) (Option.some Jvm.ClassFile.FieldType.boolean), Jvm.Cond.code ({ cls := "com/example/witgen/witgen/regex/Partition", name := "isFirstOfBlock", desc := "(I)Z" } : Jvm.MethodName) prog_15_method_5_code (2 : Nat) (Option.some Jvm.ClassFile.FieldType.boolean)]
set_option maxRecDepth 65536 in
theorem codes_eq : words1.filter isCode = codes1 := rfl
theorem w_codes : ∀ c ∈ words1.filter isCode, c.before args0 about1 = true := by
  rw [codes_eq]
  intro c hc
  simp only [codes1, List.mem_cons, List.not_mem_nil, or_false] at hc
  rcases hc with rfl | rfl | rfl | rfl | rfl | rfl | rfl | rfl | rfl | rfl | rfl | rfl | rfl | rfl
  · exact w_c0
  · exact w_c1
  · exact w_c2
  · exact w_c3
  · exact w_c4
  · exact w_c5
  · exact w_c6
  · exact w_c7
  · exact w_c8
  · exact w_c9
  · exact w_c10
  · exact w_c11
  · exact w_c12
  · exact w_c13
set_option maxRecDepth 65536 in
theorem w_t1 : (words1.take 24).all (fun c => isCode c || c.before args0 about1) = true := by decide +kernel
set_option maxRecDepth 65536 in
theorem w_t2 : ((words1.drop 24).take 24).all (fun c => isCode c || c.before args0 about1) = true := by decide +kernel
set_option maxRecDepth 65536 in
theorem w_t3 : (((words1.drop 24).drop 24).take 24).all (fun c => isCode c || c.before args0 about1) = true := by decide +kernel
set_option maxRecDepth 65536 in
theorem w_t4 : (((words1.drop 24).drop 24).drop 24).all (fun c => isCode c || c.before args0 about1) = true := by decide +kernel
theorem w_tables : (allAtoms (Jvm.Cond.code x code maxLocals ret :: tables_1)).before args0 about1 = true := by
  rw [allAtoms_all]
  show words1.all (fun c => c.before args0 about1) = true
  refine all_split ?_ w_codes
  rw [← List.take_append_drop 24 words1, List.all_append, w_t1, ← List.take_append_drop 24 (words1.drop 24), List.all_append, w_t2, ← List.take_append_drop 24 ((words1.drop 24).drop 24), List.all_append, w_t3, w_t4]
  rfl
set_option maxRecDepth 65536 in
theorem w_case : (Jvm.Cond.and given_1 narrow_1).before args0 about1 = true := by decide +kernel
theorem w_applies : (headSpec (Jvm.Cond.code x code maxLocals ret :: tables_1) room_1).applies x e0.platform about1 = true :=
  (Spec.applies_iff w_frames).mpr ⟨w_running, w_runnable, w_alone, w_named, w_hears, w_ripe, w_room, w_tables⟩
theorem atStart : AtStart classFile x code maxLocals ret World_1 tables_1 room_1 Calls_1 rest_1 Pre_1 launch0 p0 e0 about1 theMethod args0 below0 :=
  ⟨lists_1, trivial, launch0.admits_env _ _ _, launch0.least_env, fairChoices_fair.cas, fairChoices_fair.clock, w_frames, w_args, w_heap, w_applies, trivial, trivial, w_case⟩
end start1
theorem witness_1 : WitnessClaimed_1 := ⟨start1.p0, start1.e0, start1.about1, start1.theMethod, start1.args0, start1.below0, start1.atStart⟩
end Jvm.Pilot.@@N@@
