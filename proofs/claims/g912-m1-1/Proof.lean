import JvmDerived
import JvmDerived.Pilot.@@N@@Statement
import JvmDerived.Pilot.@@N@@Code
set_option linter.unusedVariables false
set_option linter.unusedSimpArgs false
namespace Jvm.Pilot.@@N@@
open Jvm Jvm.ClassFile Sem Op Lib Jvm.Free Jvm.Stand Jvm.LawKit Jvm.RoadKit Bundle Jvm.Pilot.@@N@@.Jvm.D
abbrev Cx : Type := Program × Launch × Env × Room × State × MethodId × Array Value × List Frame × Method × Code
abbrev Cx.p (K : Cx) : Program := K.1
abbrev Cx.l (K : Cx) : Launch := K.2.1
abbrev Cx.e (K : Cx) : Env := K.2.2.1
abbrev Cx.R (K : Cx) : Room := K.2.2.2.1
abbrev Cx.s (K : Cx) : State := K.2.2.2.2.1
abbrev Cx.m (K : Cx) : MethodId := K.2.2.2.2.2.1
abbrev Cx.args (K : Cx) : Array Value := K.2.2.2.2.2.2.1
abbrev Cx.below (K : Cx) : List Frame := K.2.2.2.2.2.2.2.1
abbrev Cx.meth (K : Cx) : Method := K.2.2.2.2.2.2.2.2.1
abbrev Cx.c (K : Cx) : Code := K.2.2.2.2.2.2.2.2.2
/-- from T at this frame the body ends within the room, and what it leaves is Q's -/
def Go (K : Cx) (n0 kc kj : Nat) (Q : Option Value → Heap → Prop) (T : State) (pc : Nat) (Ls : Array Slot) (st : List Value) : Prop :=
  ∃ t o, Steps K.p.tables K.e K.below (T.setTop (mkF K.m pc Ls st)) t ∧ t.status = .running ∧ Ended t K.below o ∧ ∃ v L, o = .returned v ∧ (Q v t.heap ∧ Fr n0 L) ∧ FrameEnd K.s o t L kc kj
/-- where the walk stands: the body's own facts, the heap, how many cells and slots have been made -/
def St (K : Cx) (Z : State) (own : String) (b : ByteArray) (mx : Nat) (ret : Option FieldType) (rm : Room) (n0 k j : Nat) (T : State) (h : Heap) : Prop :=
  K.p.tables.exec = Jvm.exec ∧ Z.Warmed39 K.s.vm ∧ K.s.vm.findClass own = some K.m.cls ∧ K.c.code = b ∧ K.c.maxLocals = mx ∧ K.meth.sig.returnType = ret ∧ K.meth.locks = false ∧ K.R = rm ∧ T.heap = h ∧
    ∃ locs, Stand K.p K.l K.e K.R K.s K.m K.args K.below K.meth K.c T locs k j ∧ Fr n0 locs
def Isn (b : ByteArray) (pc : Nat) (i : Instr) (n pc' : Nat) : Prop := decode b pc = .ok (i, n) ∧ pc + n = pc'
def Brn (b : ByteArray) (pc : Nat) (i : Instr) (o : Int) (pc' tg : Nat) : Prop := decode b pc = .ok (i, 3) ∧ pc + 3 = pc' ∧ 0 ≤ (pc : Int) + o ∧ ((pc : Int) + o).toNat = tg
/-- a body's contract, at its arguments and heap -/
def CtrW (l : Launch) (Z : State) (y : MethodName) (b : ByteArray) (mx : Nat) (ret : Option FieldType) (ws : List Jvm.Cond) (rm : Room) (kc kj : Nat) (as' : List Value) (h : Heap) (n0 : Nat) (Q : Option Value → Heap → Prop) : Prop :=
  MetFree l y (head1 (Jvm.Cond.code y b mx ret :: ws) rm) (fun a U => a = as'.toArray ∧ Z.Warmed39 U.vm ∧ U.heap = h) (fun _ _ _ _ _ => True) (fun _ U o U' => ∃ v L, o = .returned v ∧ (Q v U'.heap ∧ Fr n0 L) ∧ FrameEnd U o U' L kc kj)
abbrev Ctr (l : Launch) (Z : State) (y : MethodName) (b : ByteArray) (mx : Nat) (ret : Option FieldType) (rm : Room) (as' : List Value) (h : Heap) (n0 : Nat) (Q : Option Value → Heap → Prop) : Prop :=
  CtrW l Z y b mx ret [] rm rm.cells rm.slots as' h n0 Q
section OwnKit
variable {K : Cx} {Z : State} {own : String} {b : ByteArray} {mx : Nat} {ret : Option FieldType} {rm : Room} {n0 k j kc kj : Nat} {T : State} {h : Heap} {Q : Option Value → Heap → Prop} {pc pc' tg : Nat} {Ls Ls' : Array Slot} {st rest : List Value} {a0 : Array Value}
theorem St.ex (X : St K Z own b mx ret rm n0 k j T h) : K.p.tables.exec = Jvm.exec := X.1
theorem St.wZ (X : St K Z own b mx ret rm n0 k j T h) : Z.Warmed39 K.s.vm := X.2.1
theorem St.ow (X : St K Z own b mx ret rm n0 k j T h) : K.s.vm.findClass own = some K.m.cls := X.2.2.1
theorem St.dec (X : St K Z own b mx ret rm n0 k j T h) {r : Except DecodeError (Instr × Nat)} (d : decode b pc = r) : decode K.c.code pc = r := hb X.2.2.2.1 d
theorem St.ml (X : St K Z own b mx ret rm n0 k j T h) : K.c.maxLocals = mx := X.2.2.2.2.1
theorem St.rt (X : St K Z own b mx ret rm n0 k j T h) : K.meth.sig.returnType = ret := X.2.2.2.2.2.1
theorem St.nl (X : St K Z own b mx ret rm n0 k j T h) : K.meth.locks = false := X.2.2.2.2.2.2.1
theorem St.rmE (X : St K Z own b mx ret rm n0 k j T h) : K.R = rm := X.2.2.2.2.2.2.2.1
theorem St.hp (X : St K Z own b mx ret rm n0 k j T h) : T.heap = h := X.2.2.2.2.2.2.2.2.1
theorem St.sd (X : St K Z own b mx ret rm n0 k j T h) : ∃ locs, Stand K.p K.l K.e K.R K.s K.m K.args K.below K.meth K.c T locs k j ∧ Fr n0 locs := X.2.2.2.2.2.2.2.2.2
theorem St.here (X : St K Z own b mx ret rm n0 k j T h) : At T K.m K.c K.below := by obtain ⟨_, S, _⟩ := X.sd; exact S.here
theorem St.mk' (X : St K Z own b mx ret rm n0 k j T h) {T' : State} {h' : Heap} {k' j' : Nat} {locs : List Loc} (S : Stand K.p K.l K.e K.R K.s K.m K.args K.below K.meth K.c T' locs k' j') (N : Fr n0 locs) (q : T'.heap = h') : St K Z own b mx ret rm n0 k' j' T' h' :=
  ⟨X.1, X.2.1, X.2.2.1, X.2.2.2.1, X.2.2.2.2.1, X.2.2.2.2.2.1, X.2.2.2.2.2.2.1, X.2.2.2.2.2.2.2.1, q, _, S, N⟩
theorem St.more (X : St K Z own b mx ret rm n0 k j T h) {k' j' : Nat} (hk : k ≤ k') (hj : j ≤ j') : St K Z own b mx ret rm n0 k' j' T h := by
  obtain ⟨_, S, N⟩ := X.sd; exact X.mk' (S.more hk hj) N X.hp
theorem St.eqh (X : St K Z own b mx ret rm n0 k j T h) {h' : Heap} (q : h = h') : St K Z own b mx ret rm n0 k j T h' := q ▸ X
theorem o_go {T' : State} {st' : List Value} (f : ∀ t, Steps K.p.tables K.e K.below (T'.setTop (mkF K.m pc' Ls' st')) t → Steps K.p.tables K.e K.below (T.setTop (mkF K.m pc Ls st)) t) (g : Go K n0 kc kj Q T' pc' Ls' st') : Go K n0 kc kj Q T pc Ls st := by
  obtain ⟨t, o, h1, h2⟩ := g; exact ⟨t, o, f t h1, h2⟩
theorem Go.imp {Q' : Option Value → Heap → Prop} (g : Go K n0 kc kj Q T pc Ls st) (f : ∀ v h, Q v h → Q' v h) : Go K n0 kc kj Q' T pc Ls st := by
  obtain ⟨t, o, h1, h2, h3, v, L, h4, ⟨h5, h6⟩, h7⟩ := g; exact ⟨t, o, h1, h2, h3, v, L, h4, ⟨f _ _ h5, h6⟩, h7⟩
theorem o_v1 {v : Value} (g : Go K n0 kc kj Q T pc Ls (v :: rest)) : Go K n0 kc kj Q T pc Ls ((some v).toList ++ rest) := g
theorem o_v0 (g : Go K n0 kc kj Q T pc Ls rest) : Go K n0 kc kj Q T pc Ls ((none : Option Value).toList ++ rest) := g
theorem o_st {st' : List Value} (q : st = st') (g : Go K n0 kc kj Q T pc Ls st') : Go K n0 kc kj Q T pc Ls st := q ▸ g
theorem o_gen {x : Int32} (g : ∀ z, z = x → Go K n0 kc kj Q T pc Ls (.int z :: rest)) : Go K n0 kc kj Q T pc Ls (.int x :: rest) := g x rfl
theorem o_genL {x : Int64} (g : ∀ z, z = x → Go K n0 kc kj Q T pc Ls (.long z :: rest)) : Go K n0 kc kj Q T pc Ls (.long x :: rest) := g x rfl
theorem o_cutL (pj : Nat) (z : Int64) {x : Int32} (B : Go K n0 kc kj Q T pj Ls (.long z :: rest) → Go K n0 kc kj Q T pc Ls (.int x :: rest)) (J : Go K n0 kc kj Q T pj Ls (.long z :: rest)) : Go K n0 kc kj Q T pc Ls (.int x :: rest) := B J
theorem o_cutI (pj : Nat) (z : Int32) {x : Int32} (B : Go K n0 kc kj Q T pj Ls (.int z :: rest) → Go K n0 kc kj Q T pc Ls (.int x :: rest)) (J : Go K n0 kc kj Q T pj Ls (.int z :: rest)) : Go K n0 kc kj Q T pc Ls (.int x :: rest) := B J
theorem o_cutI2 (pj : Nat) (z : Int32) {x y : Int32} (B : Go K n0 kc kj Q T pj Ls (.int z :: rest) → Go K n0 kc kj Q T pc Ls (.int y :: .int x :: rest)) (J : Go K n0 kc kj Q T pj Ls (.int z :: rest)) : Go K n0 kc kj Q T pc Ls (.int y :: .int x :: rest) := B J
theorem o_cutS (pj : Nat) {x : Int32} (X : St K Z own b mx ret rm n0 k j T h) (B : (∀ T' z, St K Z own b mx ret rm n0 k j T' h → Go K n0 kc kj Q T' pj Ls (.int z :: rest)) → Go K n0 kc kj Q T pc Ls (.int x :: rest)) (J : ∀ T' z, St K Z own b mx ret rm n0 k j T' h → Go K n0 kc kj Q T' pj Ls (.int z :: rest)) : Go K n0 kc kj Q T pc Ls (.int x :: rest) := B J
theorem o_cutI2L (pj : Nat) (z : Int64) {x y : Int32} (B : Go K n0 kc kj Q T pj Ls (.long z :: rest) → Go K n0 kc kj Q T pc Ls (.int y :: .int x :: rest)) (J : Go K n0 kc kj Q T pj Ls (.long z :: rest)) : Go K n0 kc kj Q T pc Ls (.int y :: .int x :: rest) := B J
theorem o_ls (q : Ls = Ls') (g : Go K n0 kc kj Q T pc Ls' st) : Go K n0 kc kj Q T pc Ls st := q ▸ g
theorem o_iadd (X : St K Z own b mx ret rm n0 k j T h) {x y : Int32} (d : Isn b pc (.iadd) 1 pc') (g : Go K n0 kc kj Q T pc' Ls (.int (x + y) :: rest)) : Go K n0 kc kj Q T pc Ls (.int y :: .int x :: rest) := by
  obtain ⟨d, rfl⟩ := d; exact o_go (fun t k => XS.iadd X.here X.ex rfl (X.dec d) rfl k) g
theorem o_isub (X : St K Z own b mx ret rm n0 k j T h) {x y : Int32} (d : Isn b pc (.isub) 1 pc') (g : Go K n0 kc kj Q T pc' Ls (.int (x - y) :: rest)) : Go K n0 kc kj Q T pc Ls (.int y :: .int x :: rest) := by
  obtain ⟨d, rfl⟩ := d; exact o_go (fun t k => XS.isub X.here X.ex rfl (X.dec d) rfl k) g
theorem o_imul (X : St K Z own b mx ret rm n0 k j T h) {x y : Int32} (d : Isn b pc (.imul) 1 pc') (g : Go K n0 kc kj Q T pc' Ls (.int (x * y) :: rest)) : Go K n0 kc kj Q T pc Ls (.int y :: .int x :: rest) := by
  obtain ⟨d, rfl⟩ := d; exact o_go (fun t k => XS.imul X.here X.ex rfl (X.dec d) rfl k) g
theorem o_iand (X : St K Z own b mx ret rm n0 k j T h) {x y : Int32} (d : Isn b pc (.iand) 1 pc') (g : Go K n0 kc kj Q T pc' Ls (.int (x &&& y) :: rest)) : Go K n0 kc kj Q T pc Ls (.int y :: .int x :: rest) := by
  obtain ⟨d, rfl⟩ := d; exact o_go (fun t k => XS.iand X.here X.ex rfl (X.dec d) rfl k) g
theorem o_ixor (X : St K Z own b mx ret rm n0 k j T h) {x y : Int32} (d : Isn b pc (.ixor) 1 pc') (g : Go K n0 kc kj Q T pc' Ls (.int (x ^^^ y) :: rest)) : Go K n0 kc kj Q T pc Ls (.int y :: .int x :: rest) := by
  obtain ⟨d, rfl⟩ := d; exact o_go (fun t k => XT.ixor X.here X.ex rfl (X.dec d) rfl k) g
theorem o_ior (X : St K Z own b mx ret rm n0 k j T h) {x y : Int32} (d : Isn b pc (.ior) 1 pc') (g : Go K n0 kc kj Q T pc' Ls (.int (x ||| y) :: rest)) : Go K n0 kc kj Q T pc Ls (.int y :: .int x :: rest) := by
  obtain ⟨d, rfl⟩ := d; exact o_go (fun t k => XT.ior X.here X.ex rfl (X.dec d) rfl k) g
theorem o_ishl (X : St K Z own b mx ret rm n0 k j T h) {x y : Int32} (d : Isn b pc (.ishl) 1 pc') (g : Go K n0 kc kj Q T pc' Ls (.int (x <<< (y &&& 31)) :: rest)) : Go K n0 kc kj Q T pc Ls (.int y :: .int x :: rest) := by
  obtain ⟨d, rfl⟩ := d; exact o_go (fun t k => XT.ishl X.here X.ex rfl (X.dec d) rfl k) g
theorem o_ishr (X : St K Z own b mx ret rm n0 k j T h) {x y : Int32} (d : Isn b pc (.ishr) 1 pc') (g : Go K n0 kc kj Q T pc' Ls (.int (x >>> (y &&& 31)) :: rest)) : Go K n0 kc kj Q T pc Ls (.int y :: .int x :: rest) := by
  obtain ⟨d, rfl⟩ := d; exact o_go (fun t k => XT.ishr X.here X.ex rfl (X.dec d) rfl k) g
theorem o_iushr (X : St K Z own b mx ret rm n0 k j T h) {x y : Int32} (d : Isn b pc (.iushr) 1 pc') (g : Go K n0 kc kj Q T pc' Ls (.int (XT.ushr x y) :: rest)) : Go K n0 kc kj Q T pc Ls (.int y :: .int x :: rest) := by
  obtain ⟨d, rfl⟩ := d; exact o_go (fun t k => XT.iushr X.here X.ex rfl (X.dec d) rfl k) g
theorem o_ladd (X : St K Z own b mx ret rm n0 k j T h) {x y : Int64} (d : Isn b pc (.ladd) 1 pc') (g : Go K n0 kc kj Q T pc' Ls (.long (x + y) :: rest)) : Go K n0 kc kj Q T pc Ls (.long y :: .long x :: rest) := by
  obtain ⟨d, rfl⟩ := d; exact o_go (fun t k => XT.ladd X.here X.ex rfl (X.dec d) rfl k) g
theorem o_lsub (X : St K Z own b mx ret rm n0 k j T h) {x y : Int64} (d : Isn b pc (.lsub) 1 pc') (g : Go K n0 kc kj Q T pc' Ls (.long (x - y) :: rest)) : Go K n0 kc kj Q T pc Ls (.long y :: .long x :: rest) := by
  obtain ⟨d, rfl⟩ := d; exact o_go (fun t k => XT.lsub X.here X.ex rfl (X.dec d) rfl k) g
theorem o_lmul (X : St K Z own b mx ret rm n0 k j T h) {x y : Int64} (d : Isn b pc (.lmul) 1 pc') (g : Go K n0 kc kj Q T pc' Ls (.long (x * y) :: rest)) : Go K n0 kc kj Q T pc Ls (.long y :: .long x :: rest) := by
  obtain ⟨d, rfl⟩ := d; exact o_go (fun t k => XT.lmul X.here X.ex rfl (X.dec d) rfl k) g
theorem o_land (X : St K Z own b mx ret rm n0 k j T h) {x y : Int64} (d : Isn b pc (.land) 1 pc') (g : Go K n0 kc kj Q T pc' Ls (.long (x &&& y) :: rest)) : Go K n0 kc kj Q T pc Ls (.long y :: .long x :: rest) := by
  obtain ⟨d, rfl⟩ := d; exact o_go (fun t k => XT.land X.here X.ex rfl (X.dec d) rfl k) g
theorem o_lor (X : St K Z own b mx ret rm n0 k j T h) {x y : Int64} (d : Isn b pc (.lor) 1 pc') (g : Go K n0 kc kj Q T pc' Ls (.long (x ||| y) :: rest)) : Go K n0 kc kj Q T pc Ls (.long y :: .long x :: rest) := by
  obtain ⟨d, rfl⟩ := d; exact o_go (fun t k => XT.lor X.here X.ex rfl (X.dec d) rfl k) g
theorem o_lxor (X : St K Z own b mx ret rm n0 k j T h) {x y : Int64} (d : Isn b pc (.lxor) 1 pc') (g : Go K n0 kc kj Q T pc' Ls (.long (x ^^^ y) :: rest)) : Go K n0 kc kj Q T pc Ls (.long y :: .long x :: rest) := by
  obtain ⟨d, rfl⟩ := d; exact o_go (fun t k => XT.lxor X.here X.ex rfl (X.dec d) rfl k) g
theorem o_lshl (X : St K Z own b mx ret rm n0 k j T h) {x : Int64} {y : Int32} (d : Isn b pc (.lshl) 1 pc') (g : Go K n0 kc kj Q T pc' Ls (.long (x <<< (y.toInt64 &&& 63)) :: rest)) : Go K n0 kc kj Q T pc Ls (.int y :: .long x :: rest) := by
  obtain ⟨d, rfl⟩ := d; exact o_go (fun t k => XT.lshl X.here X.ex rfl (X.dec d) rfl k) g
theorem o_lshr (X : St K Z own b mx ret rm n0 k j T h) {x : Int64} {y : Int32} (d : Isn b pc (.lshr) 1 pc') (g : Go K n0 kc kj Q T pc' Ls (.long (x >>> (y.toInt64 &&& 63)) :: rest)) : Go K n0 kc kj Q T pc Ls (.int y :: .long x :: rest) := by
  obtain ⟨d, rfl⟩ := d; exact o_go (fun t k => XT.lshr X.here X.ex rfl (X.dec d) rfl k) g
theorem o_lushr (X : St K Z own b mx ret rm n0 k j T h) {x : Int64} {y : Int32} (d : Isn b pc (.lushr) 1 pc') (g : Go K n0 kc kj Q T pc' Ls (.long (XT.ushrL x y) :: rest)) : Go K n0 kc kj Q T pc Ls (.int y :: .long x :: rest) := by
  obtain ⟨d, rfl⟩ := d; exact o_go (fun t k => XT.lushr X.here X.ex rfl (X.dec d) rfl k) g
theorem o_lcmp (X : St K Z own b mx ret rm n0 k j T h) {x y : Int64} (d : Isn b pc (.lcmp) 1 pc') (g : Go K n0 kc kj Q T pc' Ls (.int (XT.cmpL x y) :: rest)) : Go K n0 kc kj Q T pc Ls (.long y :: .long x :: rest) := by
  obtain ⟨d, rfl⟩ := d; exact o_go (fun t k => XT.lcmp X.here X.ex rfl (X.dec d) rfl k) g
theorem o_idiv (X : St K Z own b mx ret rm n0 k j T h) {x y : Int32} (d : Isn b pc (.idiv) 1 pc') (hy : y ≠ 0) (g : Go K n0 kc kj Q T pc' Ls (.int (x / y) :: rest)) : Go K n0 kc kj Q T pc Ls (.int y :: .int x :: rest) := by
  obtain ⟨d, rfl⟩ := d; exact o_go (fun t k => XS.idiv X.here X.ex rfl (X.dec d) rfl hy k) g
theorem o_ldiv (X : St K Z own b mx ret rm n0 k j T h) {x y : Int64} (d : Isn b pc (.ldiv) 1 pc') (hy : y ≠ 0) (g : Go K n0 kc kj Q T pc' Ls (.long (x / y) :: rest)) : Go K n0 kc kj Q T pc Ls (.long y :: .long x :: rest) := by
  obtain ⟨d, rfl⟩ := d; exact o_go (fun t k => XT.ldiv X.here X.ex rfl (X.dec d) rfl hy k) g
theorem o_irem (X : St K Z own b mx ret rm n0 k j T h) {x y : Int32} (d : Isn b pc .irem 1 pc') (hy : y ≠ 0) (g : Go K n0 kc kj Q T pc' Ls (.int (x % y) :: rest)) : Go K n0 kc kj Q T pc Ls (.int y :: .int x :: rest) := by
  obtain ⟨d, rfl⟩ := d; obtain ⟨_, S, _⟩ := X.sd; exact o_go (fun t k => iremM S X.ex rfl (X.dec d) rfl hy k) g
theorem o_lrem (X : St K Z own b mx ret rm n0 k j T h) {x y : Int64} (d : Isn b pc .lrem 1 pc') (hy : y ≠ 0) (g : Go K n0 kc kj Q T pc' Ls (.long (x % y) :: rest)) : Go K n0 kc kj Q T pc Ls (.long y :: .long x :: rest) := by
  obtain ⟨d, rfl⟩ := d; rw [← lrem_mod] at g; exact o_go (fun t k => XT.lrem X.here X.ex rfl (X.dec d) rfl hy k) g
theorem o_i2l (X : St K Z own b mx ret rm n0 k j T h) {x : Int32} (d : Isn b pc (.i2l) 1 pc') (g : Go K n0 kc kj Q T pc' Ls (.long (x.toInt64) :: rest)) : Go K n0 kc kj Q T pc Ls (.int x :: rest) := by
  obtain ⟨d, rfl⟩ := d; exact o_go (fun t k => XT.i2l X.here X.ex rfl (X.dec d) rfl k) g
theorem o_l2i (X : St K Z own b mx ret rm n0 k j T h) {x : Int64} (d : Isn b pc (.l2i) 1 pc') (g : Go K n0 kc kj Q T pc' Ls (.int (x.toInt32) :: rest)) : Go K n0 kc kj Q T pc Ls (.long x :: rest) := by
  obtain ⟨d, rfl⟩ := d; exact o_go (fun t k => XT.l2i X.here X.ex rfl (X.dec d) rfl k) g
theorem o_i2b (X : St K Z own b mx ret rm n0 k j T h) {x : Int32} (d : Isn b pc (.i2b) 1 pc') (g : Go K n0 kc kj Q T pc' Ls (.int (x.toInt8.toInt32) :: rest)) : Go K n0 kc kj Q T pc Ls (.int x :: rest) := by
  obtain ⟨d, rfl⟩ := d; exact o_go (fun t k => XT.i2b X.here X.ex rfl (X.dec d) rfl k) g
theorem o_i2c (X : St K Z own b mx ret rm n0 k j T h) {x : Int32} (d : Isn b pc (.i2c) 1 pc') (g : Go K n0 kc kj Q T pc' Ls (.int (x.toUInt32.toUInt16.toUInt32.toInt32) :: rest)) : Go K n0 kc kj Q T pc Ls (.int x :: rest) := by
  obtain ⟨d, rfl⟩ := d; exact o_go (fun t k => XT.i2c X.here X.ex rfl (X.dec d) rfl k) g
theorem o_i2s (X : St K Z own b mx ret rm n0 k j T h) {x : Int32} (d : Isn b pc (.i2s) 1 pc') (g : Go K n0 kc kj Q T pc' Ls (.int (x.toInt16.toInt32) :: rest)) : Go K n0 kc kj Q T pc Ls (.int x :: rest) := by
  obtain ⟨d, rfl⟩ := d; exact o_go (fun t k => XT.i2s X.here X.ex rfl (X.dec d) rfl k) g
theorem o_ineg (X : St K Z own b mx ret rm n0 k j T h) {x : Int32} (d : Isn b pc (.ineg) 1 pc') (g : Go K n0 kc kj Q T pc' Ls (.int (-x) :: rest)) : Go K n0 kc kj Q T pc Ls (.int x :: rest) := by
  obtain ⟨d, rfl⟩ := d; exact o_go (fun t k => XS.ineg X.here X.ex rfl (X.dec d) rfl k) g
theorem o_lneg (X : St K Z own b mx ret rm n0 k j T h) {x : Int64} (d : Isn b pc (.lneg) 1 pc') (g : Go K n0 kc kj Q T pc' Ls (.long (-x) :: rest)) : Go K n0 kc kj Q T pc Ls (.long x :: rest) := by
  obtain ⟨d, rfl⟩ := d; exact o_go (fun t k => XT.lneg X.here X.ex rfl (X.dec d) rfl k) g
theorem o_iload_n (X : St K Z own b mx ret rm n0 k j T h) {i : Fin 4} {v : Int32} (d : Isn b pc (.iload_n i) 1 pc') (hl : Ls[i.val]? = some (.val (.int v))) (g : Go K n0 kc kj Q T pc' Ls (.int v :: st)) : Go K n0 kc kj Q T pc Ls (st) := by
  obtain ⟨d, rfl⟩ := d; exact o_go (fun t k => XS.iloadN X.here X.ex rfl (X.dec d) hl k) g
theorem o_iload (X : St K Z own b mx ret rm n0 k j T h) {i : Nat} {v : Int32} (d : Isn b pc (.iload i) 2 pc') (hl : Ls[i]? = some (.val (.int v))) (g : Go K n0 kc kj Q T pc' Ls (.int v :: st)) : Go K n0 kc kj Q T pc Ls (st) := by
  obtain ⟨d, rfl⟩ := d; exact o_go (fun t k => XS.iload X.here X.ex rfl (X.dec d) hl k) g
theorem o_lload_n (X : St K Z own b mx ret rm n0 k j T h) {i : Fin 4} {v : Int64} (d : Isn b pc (.lload_n i) 1 pc') (hl : Ls[i.val]? = some (.val (.long v))) (g : Go K n0 kc kj Q T pc' Ls (.long v :: st)) : Go K n0 kc kj Q T pc Ls (st) := by
  obtain ⟨d, rfl⟩ := d; exact o_go (fun t k => XT.lloadN X.here X.ex rfl (X.dec d) hl k) g
theorem o_lload (X : St K Z own b mx ret rm n0 k j T h) {i : Nat} {v : Int64} (d : Isn b pc (.lload i) 2 pc') (hl : Ls[i]? = some (.val (.long v))) (g : Go K n0 kc kj Q T pc' Ls (.long v :: st)) : Go K n0 kc kj Q T pc Ls (st) := by
  obtain ⟨d, rfl⟩ := d; exact o_go (fun t k => XT.lload X.here X.ex rfl (X.dec d) hl k) g
theorem o_aload_n (X : St K Z own b mx ret rm n0 k j T h) {i : Fin 4} {v : Value} (d : Isn b pc (.aload_n i) 1 pc') (hl : Ls[i.val]? = some (.val v)) (hv : v.isRef = true) (g : Go K n0 kc kj Q T pc' Ls (v :: st)) : Go K n0 kc kj Q T pc Ls (st) := by
  obtain ⟨d, rfl⟩ := d; exact o_go (fun t k => XS.aloadN X.here X.ex rfl (X.dec d) hl hv k) g
theorem o_aload (X : St K Z own b mx ret rm n0 k j T h) {i : Nat} {v : Value} (d : Isn b pc (.aload i) 2 pc') (hl : Ls[i]? = some (.val v)) (hv : v.isRef = true) (g : Go K n0 kc kj Q T pc' Ls (v :: st)) : Go K n0 kc kj Q T pc Ls (st) := by
  obtain ⟨d, rfl⟩ := d; exact o_go (fun t k => XS.aload X.here X.ex rfl (X.dec d) hl hv k) g
theorem o_istore_n (X : St K Z own b mx ret rm n0 k j T h) {i : Fin 4} {x : Int32} (d : Isn b pc (.istore_n i) 1 pc') (hl : storeLocals Ls i.val (.int x) = some Ls') (g : Go K n0 kc kj Q T pc' Ls' (rest)) : Go K n0 kc kj Q T pc Ls (.int x :: rest) := by
  obtain ⟨d, rfl⟩ := d; exact o_go (fun t k => XS.istoreN X.here X.ex rfl (X.dec d) rfl hl k) g
theorem o_istore (X : St K Z own b mx ret rm n0 k j T h) {i : Nat} {x : Int32} (d : Isn b pc (.istore i) 2 pc') (hl : storeLocals Ls i (.int x) = some Ls') (g : Go K n0 kc kj Q T pc' Ls' (rest)) : Go K n0 kc kj Q T pc Ls (.int x :: rest) := by
  obtain ⟨d, rfl⟩ := d; exact o_go (fun t k => XS.istore X.here X.ex rfl (X.dec d) rfl hl k) g
theorem o_lstore_n (X : St K Z own b mx ret rm n0 k j T h) {i : Fin 4} {x : Int64} (d : Isn b pc (.lstore_n i) 1 pc') (hl : storeLocals Ls i.val (.long x) = some Ls') (g : Go K n0 kc kj Q T pc' Ls' (rest)) : Go K n0 kc kj Q T pc Ls (.long x :: rest) := by
  obtain ⟨d, rfl⟩ := d; exact o_go (fun t k => XT.lstoreN X.here X.ex rfl (X.dec d) rfl hl k) g
theorem o_lstore (X : St K Z own b mx ret rm n0 k j T h) {i : Nat} {x : Int64} (d : Isn b pc (.lstore i) 2 pc') (hl : storeLocals Ls i (.long x) = some Ls') (g : Go K n0 kc kj Q T pc' Ls' (rest)) : Go K n0 kc kj Q T pc Ls (.long x :: rest) := by
  obtain ⟨d, rfl⟩ := d; exact o_go (fun t k => XT.lstore X.here X.ex rfl (X.dec d) rfl hl k) g
theorem o_astore_n (X : St K Z own b mx ret rm n0 k j T h) {i : Fin 4} {x : Value} (d : Isn b pc (.astore_n i) 1 pc') (hv : x.isRef = true) (hl : storeLocals Ls i.val x = some Ls') (g : Go K n0 kc kj Q T pc' Ls' (rest)) : Go K n0 kc kj Q T pc Ls (x :: rest) := by
  obtain ⟨d, rfl⟩ := d; exact o_go (fun t k => XS.astoreN X.here X.ex rfl (X.dec d) rfl hv hl k) g
theorem o_astore (X : St K Z own b mx ret rm n0 k j T h) {i : Nat} {x : Value} (d : Isn b pc (.astore i) 2 pc') (hv : x.isRef = true) (hl : storeLocals Ls i x = some Ls') (g : Go K n0 kc kj Q T pc' Ls' (rest)) : Go K n0 kc kj Q T pc Ls (x :: rest) := by
  obtain ⟨d, rfl⟩ := d; exact o_go (fun t k => XS.astore X.here X.ex rfl (X.dec d) rfl hv hl k) g
theorem o_iconst (v : Int32) (X : St K Z own b mx ret rm n0 k j T h) {i : Int} (d : Isn b pc (.iconst i) 1 pc') (hv : Int32.ofInt i = v) (g : Go K n0 kc kj Q T pc' Ls (.int v :: st)) : Go K n0 kc kj Q T pc Ls (st) := by
  obtain ⟨d, rfl⟩ := d; exact o_go (fun t k => XT.iconstV X.here X.ex rfl v (X.dec d) hv k) g
theorem o_bipush (v : Int32) (X : St K Z own b mx ret rm n0 k j T h) {i : Int} (d : Isn b pc (.bipush i) 2 pc') (hv : (Int8.ofInt i).toInt32 = v) (g : Go K n0 kc kj Q T pc' Ls (.int v :: st)) : Go K n0 kc kj Q T pc Ls (st) := by
  obtain ⟨d, rfl⟩ := d; exact o_go (fun t k => XT.bipushV X.here X.ex rfl v (X.dec d) hv k) g
theorem o_sipush (v : Int32) (X : St K Z own b mx ret rm n0 k j T h) {i : Int} (d : Isn b pc (.sipush i) 3 pc') (hv : (Int16.ofInt i).toInt32 = v) (g : Go K n0 kc kj Q T pc' Ls (.int v :: st)) : Go K n0 kc kj Q T pc Ls (st) := by
  obtain ⟨d, rfl⟩ := d; exact o_go (fun t k => XT.sipushV X.here X.ex rfl v (X.dec d) hv k) g
theorem o_lconst (v : Int64) (X : St K Z own b mx ret rm n0 k j T h) {i : Fin 2} (d : Isn b pc (.lconst i) 1 pc') (hv : Int64.ofNat i = v) (g : Go K n0 kc kj Q T pc' Ls (.long v :: st)) : Go K n0 kc kj Q T pc Ls (st) := by
  obtain ⟨d, rfl⟩ := d; exact o_go (fun t k => XT.lconstV X.here X.ex rfl v (X.dec d) hv k) g
theorem o_aconst_null (X : St K Z own b mx ret rm n0 k j T h)  (d : Isn b pc (.aconst_null) 1 pc') (g : Go K n0 kc kj Q T pc' Ls (.null :: st)) : Go K n0 kc kj Q T pc Ls (st) := by
  obtain ⟨d, rfl⟩ := d; exact o_go (fun t k => XS.aconstNull X.here X.ex rfl (X.dec d)  k) g
theorem o_iinc (v : Int32) (X : St K Z own b mx ret rm n0 k j T h) {i : Nat} {cst : Int} {x : Int32} (d : Isn b pc (.iinc i cst) 3 pc') (hv : Int32.ofInt cst = v) (hl : Ls[i]? = some (.val (.int x))) (hl' : storeLocals Ls i (.int (x + v)) = some Ls') (g : Go K n0 kc kj Q T pc' Ls' (st)) : Go K n0 kc kj Q T pc Ls (st) := by
  obtain ⟨d, rfl⟩ := d; exact o_go (fun t k => XT.iincV X.here X.ex rfl v (X.dec d) hv hl hl' k) g
theorem o_ldc (X : St K Z own b mx ret rm n0 k j T h) {i : Nat} {v : Int32} (d : Isn b pc (.ldc i) 2 pc') (wd : (Jvm.Cond.constant own i v).before a0 Z = true) (g : Go K n0 kc kj Q T pc' Ls (.int v :: st)) : Go K n0 kc kj Q T pc Ls (st) := by
  obtain ⟨d, rfl⟩ := d; obtain ⟨_, S, _⟩ := X.sd; exact o_go (fun t k => S.ldcI X.ex X.ow (mvT X.wZ wd) rfl (X.dec d) k) g
theorem o_ldc2 (X : St K Z own b mx ret rm n0 k j T h) {i : Nat} {v : Int64} (d : Isn b pc (.ldc2_w i) 3 pc') (wd : (Jvm.Cond.constantLong own i v).before a0 Z = true) (g : Go K n0 kc kj Q T pc' Ls (.long v :: st)) : Go K n0 kc kj Q T pc Ls (st) := by
  obtain ⟨d, rfl⟩ := d; obtain ⟨_, S, _⟩ := X.sd; exact o_go (fun t k => S.ldc2J X.ex X.ow (mvT X.wZ wd) rfl (X.dec d) k) g
theorem o_dup (X : St K Z own b mx ret rm n0 k j T h) {x : Value} (d : Isn b pc (.dup) 1 pc') (hc : x.category = 1) (g : Go K n0 kc kj Q T pc' Ls (x :: x :: rest)) : Go K n0 kc kj Q T pc Ls (x :: rest) := by
  obtain ⟨d, rfl⟩ := d; exact o_go (fun t k => XS.dup X.here X.ex rfl (X.dec d) rfl hc k) g
theorem o_pop (X : St K Z own b mx ret rm n0 k j T h) {x : Value} (d : Isn b pc (.pop) 1 pc') (hc : x.category = 1) (g : Go K n0 kc kj Q T pc' Ls (rest)) : Go K n0 kc kj Q T pc Ls (x :: rest) := by
  obtain ⟨d, rfl⟩ := d; exact o_go (fun t k => XT.pop X.here X.ex rfl (X.dec d) rfl hc k) g
theorem o_dup2 (X : St K Z own b mx ret rm n0 k j T h) {x y : Value} (d : Isn b pc (.dup2) 1 pc') (hc : x.category = 1) (hc' : y.category = 1) (g : Go K n0 kc kj Q T pc' Ls (x :: y :: x :: y :: rest)) : Go K n0 kc kj Q T pc Ls (x :: y :: rest) := by
  obtain ⟨d, rfl⟩ := d; exact o_go (fun t k => XT.dup2 X.here X.ex rfl (X.dec d) rfl hc hc' k) g
theorem o_dup_x1 (X : St K Z own b mx ret rm n0 k j T h) {x y : Value} (d : Isn b pc (.dup_x1) 1 pc') (hc : x.category = 1) (hc' : y.category = 1) (g : Go K n0 kc kj Q T pc' Ls (x :: y :: x :: rest)) : Go K n0 kc kj Q T pc Ls (x :: y :: rest) := by
  obtain ⟨d, rfl⟩ := d; exact o_go (fun t k => XT.dupX1 X.here X.ex rfl (X.dec d) rfl hc hc' k) g
theorem o_dup2L (X : St K Z own b mx ret rm n0 k j T h) {x : Int64} (d : Isn b pc (.dup2) 1 pc') (g : Go K n0 kc kj Q T pc' Ls (.long x :: .long x :: rest)) : Go K n0 kc kj Q T pc Ls (.long x :: rest) := by
  obtain ⟨d, rfl⟩ := d; exact o_go (fun t k => XT.dup2L X.here X.ex rfl (X.dec d) rfl k) g
theorem o_goto (X : St K Z own b mx ret rm n0 k j T h) {o : Int} (d : Brn b pc (.goto o) o pc' tg) (g : Go K n0 kc kj Q T tg Ls (st)) : Go K n0 kc kj Q T pc Ls (st) := by
  obtain ⟨d, rfl, h1, h2⟩ := d; exact o_go (fun t k => XS.goto X.here X.ex rfl rfl (X.dec d) h1 h2 k) g
theorem o_icmp_eq_t (X : St K Z own b mx ret rm n0 k j T h) {x y : Int32} {o : Int} (d : Brn b pc (.if_icmp .eq o) o pc' tg) (q : x = y) (g : Go K n0 kc kj Q T tg Ls (rest)) : Go K n0 kc kj Q T pc Ls (.int y :: .int x :: rest) := by
  obtain ⟨d, rfl, h1, h2⟩ := d; exact o_go (fun t k => XS.icmpYes X.here X.ex rfl rfl (X.dec d) rfl (XT.ii_eq_t q) h1 h2 k) g
theorem o_icmp_eq_f (X : St K Z own b mx ret rm n0 k j T h) {x y : Int32} {o : Int} (d : Brn b pc (.if_icmp .eq o) o pc' tg) (q : ¬ x = y) (g : Go K n0 kc kj Q T pc' Ls (rest)) : Go K n0 kc kj Q T pc Ls (.int y :: .int x :: rest) := by
  obtain ⟨d, rfl, h1, h2⟩ := d; exact o_go (fun t k => XS.icmpNo X.here X.ex rfl (X.dec d) rfl (XT.ii_eq_f q) k) g
theorem o_icmp_eq (X : St K Z own b mx ret rm n0 k j T h) {x y : Int32} {o : Int} (d : Brn b pc (.if_icmp .eq o) o pc' tg) (gt : x = y → Go K n0 kc kj Q T tg Ls (rest)) (gf : ¬ x = y → Go K n0 kc kj Q T pc' Ls (rest)) : Go K n0 kc kj Q T pc Ls (.int y :: .int x :: rest) := by
  by_cases q : x = y
  · exact o_icmp_eq_t X d q (gt q)
  · exact o_icmp_eq_f X d q (gf q)
theorem o_if_eq_t (X : St K Z own b mx ret rm n0 k j T h) {x : Int32} {o : Int} (d : Brn b pc (.ifCond .eq o) o pc' tg) (q : x = 0) (g : Go K n0 kc kj Q T tg Ls (rest)) : Go K n0 kc kj Q T pc Ls (.int x :: rest) := by
  obtain ⟨d, rfl, h1, h2⟩ := d; exact o_go (fun t k => XS.ifYes X.here X.ex rfl rfl (X.dec d) rfl (XT.i0_eq_t q) h1 h2 k) g
theorem o_if_eq_f (X : St K Z own b mx ret rm n0 k j T h) {x : Int32} {o : Int} (d : Brn b pc (.ifCond .eq o) o pc' tg) (q : ¬ x = 0) (g : Go K n0 kc kj Q T pc' Ls (rest)) : Go K n0 kc kj Q T pc Ls (.int x :: rest) := by
  obtain ⟨d, rfl, h1, h2⟩ := d; exact o_go (fun t k => XS.ifNo X.here X.ex rfl (X.dec d) rfl (XT.i0_eq_f q) k) g
theorem o_if_eq (X : St K Z own b mx ret rm n0 k j T h) {x : Int32} {o : Int} (d : Brn b pc (.ifCond .eq o) o pc' tg) (gt : x = 0 → Go K n0 kc kj Q T tg Ls (rest)) (gf : ¬ x = 0 → Go K n0 kc kj Q T pc' Ls (rest)) : Go K n0 kc kj Q T pc Ls (.int x :: rest) := by
  by_cases q : x = 0
  · exact o_if_eq_t X d q (gt q)
  · exact o_if_eq_f X d q (gf q)
theorem o_lif_eq_t (X : St K Z own b mx ret rm n0 k j T h) {x y : Int64} {o : Int} (d : Brn b pc (.ifCond .eq o) o pc' tg) (q : x = y) (g : Go K n0 kc kj Q T tg Ls (rest)) : Go K n0 kc kj Q T pc Ls (.int (XT.cmpL x y) :: rest) := by
  obtain ⟨d, rfl, h1, h2⟩ := d; exact o_go (fun t k => XS.ifYes X.here X.ex rfl rfl (X.dec d) rfl (XT.ll_eq_t q) h1 h2 k) g
theorem o_lif_eq_f (X : St K Z own b mx ret rm n0 k j T h) {x y : Int64} {o : Int} (d : Brn b pc (.ifCond .eq o) o pc' tg) (q : ¬ x = y) (g : Go K n0 kc kj Q T pc' Ls (rest)) : Go K n0 kc kj Q T pc Ls (.int (XT.cmpL x y) :: rest) := by
  obtain ⟨d, rfl, h1, h2⟩ := d; exact o_go (fun t k => XS.ifNo X.here X.ex rfl (X.dec d) rfl (XT.ll_eq_f q) k) g
theorem o_lif_eq (X : St K Z own b mx ret rm n0 k j T h) {x y : Int64} {o : Int} (d : Brn b pc (.ifCond .eq o) o pc' tg) (gt : x = y → Go K n0 kc kj Q T tg Ls (rest)) (gf : ¬ x = y → Go K n0 kc kj Q T pc' Ls (rest)) : Go K n0 kc kj Q T pc Ls (.int (XT.cmpL x y) :: rest) := by
  by_cases q : x = y
  · exact o_lif_eq_t X d q (gt q)
  · exact o_lif_eq_f X d q (gf q)
theorem o_icmp_ne_t (X : St K Z own b mx ret rm n0 k j T h) {x y : Int32} {o : Int} (d : Brn b pc (.if_icmp .ne o) o pc' tg) (q : ¬ x = y) (g : Go K n0 kc kj Q T tg Ls (rest)) : Go K n0 kc kj Q T pc Ls (.int y :: .int x :: rest) := by
  obtain ⟨d, rfl, h1, h2⟩ := d; exact o_go (fun t k => XS.icmpYes X.here X.ex rfl rfl (X.dec d) rfl (XT.ii_ne_t q) h1 h2 k) g
theorem o_icmp_ne_f (X : St K Z own b mx ret rm n0 k j T h) {x y : Int32} {o : Int} (d : Brn b pc (.if_icmp .ne o) o pc' tg) (q : x = y) (g : Go K n0 kc kj Q T pc' Ls (rest)) : Go K n0 kc kj Q T pc Ls (.int y :: .int x :: rest) := by
  obtain ⟨d, rfl, h1, h2⟩ := d; exact o_go (fun t k => XS.icmpNo X.here X.ex rfl (X.dec d) rfl (XT.ii_ne_f q) k) g
theorem o_icmp_ne (X : St K Z own b mx ret rm n0 k j T h) {x y : Int32} {o : Int} (d : Brn b pc (.if_icmp .ne o) o pc' tg) (gt : ¬ x = y → Go K n0 kc kj Q T tg Ls (rest)) (gf : x = y → Go K n0 kc kj Q T pc' Ls (rest)) : Go K n0 kc kj Q T pc Ls (.int y :: .int x :: rest) := by
  by_cases q : x = y
  · exact o_icmp_ne_f X d q (gf q)
  · exact o_icmp_ne_t X d q (gt q)
theorem o_if_ne_t (X : St K Z own b mx ret rm n0 k j T h) {x : Int32} {o : Int} (d : Brn b pc (.ifCond .ne o) o pc' tg) (q : ¬ x = 0) (g : Go K n0 kc kj Q T tg Ls (rest)) : Go K n0 kc kj Q T pc Ls (.int x :: rest) := by
  obtain ⟨d, rfl, h1, h2⟩ := d; exact o_go (fun t k => XS.ifYes X.here X.ex rfl rfl (X.dec d) rfl (XT.i0_ne_t q) h1 h2 k) g
theorem o_if_ne_f (X : St K Z own b mx ret rm n0 k j T h) {x : Int32} {o : Int} (d : Brn b pc (.ifCond .ne o) o pc' tg) (q : x = 0) (g : Go K n0 kc kj Q T pc' Ls (rest)) : Go K n0 kc kj Q T pc Ls (.int x :: rest) := by
  obtain ⟨d, rfl, h1, h2⟩ := d; exact o_go (fun t k => XS.ifNo X.here X.ex rfl (X.dec d) rfl (XT.i0_ne_f q) k) g
theorem o_if_ne (X : St K Z own b mx ret rm n0 k j T h) {x : Int32} {o : Int} (d : Brn b pc (.ifCond .ne o) o pc' tg) (gt : ¬ x = 0 → Go K n0 kc kj Q T tg Ls (rest)) (gf : x = 0 → Go K n0 kc kj Q T pc' Ls (rest)) : Go K n0 kc kj Q T pc Ls (.int x :: rest) := by
  by_cases q : x = 0
  · exact o_if_ne_f X d q (gf q)
  · exact o_if_ne_t X d q (gt q)
theorem o_lif_ne_t (X : St K Z own b mx ret rm n0 k j T h) {x y : Int64} {o : Int} (d : Brn b pc (.ifCond .ne o) o pc' tg) (q : ¬ x = y) (g : Go K n0 kc kj Q T tg Ls (rest)) : Go K n0 kc kj Q T pc Ls (.int (XT.cmpL x y) :: rest) := by
  obtain ⟨d, rfl, h1, h2⟩ := d; exact o_go (fun t k => XS.ifYes X.here X.ex rfl rfl (X.dec d) rfl (XT.ll_ne_t q) h1 h2 k) g
theorem o_lif_ne_f (X : St K Z own b mx ret rm n0 k j T h) {x y : Int64} {o : Int} (d : Brn b pc (.ifCond .ne o) o pc' tg) (q : x = y) (g : Go K n0 kc kj Q T pc' Ls (rest)) : Go K n0 kc kj Q T pc Ls (.int (XT.cmpL x y) :: rest) := by
  obtain ⟨d, rfl, h1, h2⟩ := d; exact o_go (fun t k => XS.ifNo X.here X.ex rfl (X.dec d) rfl (XT.ll_ne_f q) k) g
theorem o_lif_ne (X : St K Z own b mx ret rm n0 k j T h) {x y : Int64} {o : Int} (d : Brn b pc (.ifCond .ne o) o pc' tg) (gt : ¬ x = y → Go K n0 kc kj Q T tg Ls (rest)) (gf : x = y → Go K n0 kc kj Q T pc' Ls (rest)) : Go K n0 kc kj Q T pc Ls (.int (XT.cmpL x y) :: rest) := by
  by_cases q : x = y
  · exact o_lif_ne_f X d q (gf q)
  · exact o_lif_ne_t X d q (gt q)
theorem o_icmp_lt_t (X : St K Z own b mx ret rm n0 k j T h) {x y : Int32} {o : Int} (d : Brn b pc (.if_icmp .lt o) o pc' tg) (q : x < y) (g : Go K n0 kc kj Q T tg Ls (rest)) : Go K n0 kc kj Q T pc Ls (.int y :: .int x :: rest) := by
  obtain ⟨d, rfl, h1, h2⟩ := d; exact o_go (fun t k => XS.icmpYes X.here X.ex rfl rfl (X.dec d) rfl (XT.ii_lt_t q) h1 h2 k) g
theorem o_icmp_lt_f (X : St K Z own b mx ret rm n0 k j T h) {x y : Int32} {o : Int} (d : Brn b pc (.if_icmp .lt o) o pc' tg) (q : ¬ x < y) (g : Go K n0 kc kj Q T pc' Ls (rest)) : Go K n0 kc kj Q T pc Ls (.int y :: .int x :: rest) := by
  obtain ⟨d, rfl, h1, h2⟩ := d; exact o_go (fun t k => XS.icmpNo X.here X.ex rfl (X.dec d) rfl (XT.ii_lt_f q) k) g
theorem o_icmp_lt (X : St K Z own b mx ret rm n0 k j T h) {x y : Int32} {o : Int} (d : Brn b pc (.if_icmp .lt o) o pc' tg) (gt : x < y → Go K n0 kc kj Q T tg Ls (rest)) (gf : ¬ x < y → Go K n0 kc kj Q T pc' Ls (rest)) : Go K n0 kc kj Q T pc Ls (.int y :: .int x :: rest) := by
  by_cases q : x < y
  · exact o_icmp_lt_t X d q (gt q)
  · exact o_icmp_lt_f X d q (gf q)
theorem o_if_lt_t (X : St K Z own b mx ret rm n0 k j T h) {x : Int32} {o : Int} (d : Brn b pc (.ifCond .lt o) o pc' tg) (q : x < 0) (g : Go K n0 kc kj Q T tg Ls (rest)) : Go K n0 kc kj Q T pc Ls (.int x :: rest) := by
  obtain ⟨d, rfl, h1, h2⟩ := d; exact o_go (fun t k => XS.ifYes X.here X.ex rfl rfl (X.dec d) rfl (XT.i0_lt_t q) h1 h2 k) g
theorem o_if_lt_f (X : St K Z own b mx ret rm n0 k j T h) {x : Int32} {o : Int} (d : Brn b pc (.ifCond .lt o) o pc' tg) (q : ¬ x < 0) (g : Go K n0 kc kj Q T pc' Ls (rest)) : Go K n0 kc kj Q T pc Ls (.int x :: rest) := by
  obtain ⟨d, rfl, h1, h2⟩ := d; exact o_go (fun t k => XS.ifNo X.here X.ex rfl (X.dec d) rfl (XT.i0_lt_f q) k) g
theorem o_if_lt (X : St K Z own b mx ret rm n0 k j T h) {x : Int32} {o : Int} (d : Brn b pc (.ifCond .lt o) o pc' tg) (gt : x < 0 → Go K n0 kc kj Q T tg Ls (rest)) (gf : ¬ x < 0 → Go K n0 kc kj Q T pc' Ls (rest)) : Go K n0 kc kj Q T pc Ls (.int x :: rest) := by
  by_cases q : x < 0
  · exact o_if_lt_t X d q (gt q)
  · exact o_if_lt_f X d q (gf q)
theorem o_lif_lt_t (X : St K Z own b mx ret rm n0 k j T h) {x y : Int64} {o : Int} (d : Brn b pc (.ifCond .lt o) o pc' tg) (q : x < y) (g : Go K n0 kc kj Q T tg Ls (rest)) : Go K n0 kc kj Q T pc Ls (.int (XT.cmpL x y) :: rest) := by
  obtain ⟨d, rfl, h1, h2⟩ := d; exact o_go (fun t k => XS.ifYes X.here X.ex rfl rfl (X.dec d) rfl (XT.ll_lt_t q) h1 h2 k) g
theorem o_lif_lt_f (X : St K Z own b mx ret rm n0 k j T h) {x y : Int64} {o : Int} (d : Brn b pc (.ifCond .lt o) o pc' tg) (q : ¬ x < y) (g : Go K n0 kc kj Q T pc' Ls (rest)) : Go K n0 kc kj Q T pc Ls (.int (XT.cmpL x y) :: rest) := by
  obtain ⟨d, rfl, h1, h2⟩ := d; exact o_go (fun t k => XS.ifNo X.here X.ex rfl (X.dec d) rfl (XT.ll_lt_f q) k) g
theorem o_lif_lt (X : St K Z own b mx ret rm n0 k j T h) {x y : Int64} {o : Int} (d : Brn b pc (.ifCond .lt o) o pc' tg) (gt : x < y → Go K n0 kc kj Q T tg Ls (rest)) (gf : ¬ x < y → Go K n0 kc kj Q T pc' Ls (rest)) : Go K n0 kc kj Q T pc Ls (.int (XT.cmpL x y) :: rest) := by
  by_cases q : x < y
  · exact o_lif_lt_t X d q (gt q)
  · exact o_lif_lt_f X d q (gf q)
theorem o_icmp_ge_t (X : St K Z own b mx ret rm n0 k j T h) {x y : Int32} {o : Int} (d : Brn b pc (.if_icmp .ge o) o pc' tg) (q : ¬ x < y) (g : Go K n0 kc kj Q T tg Ls (rest)) : Go K n0 kc kj Q T pc Ls (.int y :: .int x :: rest) := by
  obtain ⟨d, rfl, h1, h2⟩ := d; exact o_go (fun t k => XS.icmpYes X.here X.ex rfl rfl (X.dec d) rfl (XT.ii_ge_t q) h1 h2 k) g
theorem o_icmp_ge_f (X : St K Z own b mx ret rm n0 k j T h) {x y : Int32} {o : Int} (d : Brn b pc (.if_icmp .ge o) o pc' tg) (q : x < y) (g : Go K n0 kc kj Q T pc' Ls (rest)) : Go K n0 kc kj Q T pc Ls (.int y :: .int x :: rest) := by
  obtain ⟨d, rfl, h1, h2⟩ := d; exact o_go (fun t k => XS.icmpNo X.here X.ex rfl (X.dec d) rfl (XT.ii_ge_f q) k) g
theorem o_icmp_ge (X : St K Z own b mx ret rm n0 k j T h) {x y : Int32} {o : Int} (d : Brn b pc (.if_icmp .ge o) o pc' tg) (gt : ¬ x < y → Go K n0 kc kj Q T tg Ls (rest)) (gf : x < y → Go K n0 kc kj Q T pc' Ls (rest)) : Go K n0 kc kj Q T pc Ls (.int y :: .int x :: rest) := by
  by_cases q : x < y
  · exact o_icmp_ge_f X d q (gf q)
  · exact o_icmp_ge_t X d q (gt q)
theorem o_if_ge_t (X : St K Z own b mx ret rm n0 k j T h) {x : Int32} {o : Int} (d : Brn b pc (.ifCond .ge o) o pc' tg) (q : ¬ x < 0) (g : Go K n0 kc kj Q T tg Ls (rest)) : Go K n0 kc kj Q T pc Ls (.int x :: rest) := by
  obtain ⟨d, rfl, h1, h2⟩ := d; exact o_go (fun t k => XS.ifYes X.here X.ex rfl rfl (X.dec d) rfl (XT.i0_ge_t q) h1 h2 k) g
theorem o_if_ge_f (X : St K Z own b mx ret rm n0 k j T h) {x : Int32} {o : Int} (d : Brn b pc (.ifCond .ge o) o pc' tg) (q : x < 0) (g : Go K n0 kc kj Q T pc' Ls (rest)) : Go K n0 kc kj Q T pc Ls (.int x :: rest) := by
  obtain ⟨d, rfl, h1, h2⟩ := d; exact o_go (fun t k => XS.ifNo X.here X.ex rfl (X.dec d) rfl (XT.i0_ge_f q) k) g
theorem o_if_ge (X : St K Z own b mx ret rm n0 k j T h) {x : Int32} {o : Int} (d : Brn b pc (.ifCond .ge o) o pc' tg) (gt : ¬ x < 0 → Go K n0 kc kj Q T tg Ls (rest)) (gf : x < 0 → Go K n0 kc kj Q T pc' Ls (rest)) : Go K n0 kc kj Q T pc Ls (.int x :: rest) := by
  by_cases q : x < 0
  · exact o_if_ge_f X d q (gf q)
  · exact o_if_ge_t X d q (gt q)
theorem o_lif_ge_t (X : St K Z own b mx ret rm n0 k j T h) {x y : Int64} {o : Int} (d : Brn b pc (.ifCond .ge o) o pc' tg) (q : ¬ x < y) (g : Go K n0 kc kj Q T tg Ls (rest)) : Go K n0 kc kj Q T pc Ls (.int (XT.cmpL x y) :: rest) := by
  obtain ⟨d, rfl, h1, h2⟩ := d; exact o_go (fun t k => XS.ifYes X.here X.ex rfl rfl (X.dec d) rfl (XT.ll_ge_t q) h1 h2 k) g
theorem o_lif_ge_f (X : St K Z own b mx ret rm n0 k j T h) {x y : Int64} {o : Int} (d : Brn b pc (.ifCond .ge o) o pc' tg) (q : x < y) (g : Go K n0 kc kj Q T pc' Ls (rest)) : Go K n0 kc kj Q T pc Ls (.int (XT.cmpL x y) :: rest) := by
  obtain ⟨d, rfl, h1, h2⟩ := d; exact o_go (fun t k => XS.ifNo X.here X.ex rfl (X.dec d) rfl (XT.ll_ge_f q) k) g
theorem o_lif_ge (X : St K Z own b mx ret rm n0 k j T h) {x y : Int64} {o : Int} (d : Brn b pc (.ifCond .ge o) o pc' tg) (gt : ¬ x < y → Go K n0 kc kj Q T tg Ls (rest)) (gf : x < y → Go K n0 kc kj Q T pc' Ls (rest)) : Go K n0 kc kj Q T pc Ls (.int (XT.cmpL x y) :: rest) := by
  by_cases q : x < y
  · exact o_lif_ge_f X d q (gf q)
  · exact o_lif_ge_t X d q (gt q)
theorem o_icmp_gt_t (X : St K Z own b mx ret rm n0 k j T h) {x y : Int32} {o : Int} (d : Brn b pc (.if_icmp .gt o) o pc' tg) (q : y < x) (g : Go K n0 kc kj Q T tg Ls (rest)) : Go K n0 kc kj Q T pc Ls (.int y :: .int x :: rest) := by
  obtain ⟨d, rfl, h1, h2⟩ := d; exact o_go (fun t k => XS.icmpYes X.here X.ex rfl rfl (X.dec d) rfl (XT.ii_gt_t q) h1 h2 k) g
theorem o_icmp_gt_f (X : St K Z own b mx ret rm n0 k j T h) {x y : Int32} {o : Int} (d : Brn b pc (.if_icmp .gt o) o pc' tg) (q : ¬ y < x) (g : Go K n0 kc kj Q T pc' Ls (rest)) : Go K n0 kc kj Q T pc Ls (.int y :: .int x :: rest) := by
  obtain ⟨d, rfl, h1, h2⟩ := d; exact o_go (fun t k => XS.icmpNo X.here X.ex rfl (X.dec d) rfl (XT.ii_gt_f q) k) g
theorem o_icmp_gt (X : St K Z own b mx ret rm n0 k j T h) {x y : Int32} {o : Int} (d : Brn b pc (.if_icmp .gt o) o pc' tg) (gt : y < x → Go K n0 kc kj Q T tg Ls (rest)) (gf : ¬ y < x → Go K n0 kc kj Q T pc' Ls (rest)) : Go K n0 kc kj Q T pc Ls (.int y :: .int x :: rest) := by
  by_cases q : y < x
  · exact o_icmp_gt_t X d q (gt q)
  · exact o_icmp_gt_f X d q (gf q)
theorem o_if_gt_t (X : St K Z own b mx ret rm n0 k j T h) {x : Int32} {o : Int} (d : Brn b pc (.ifCond .gt o) o pc' tg) (q : 0 < x) (g : Go K n0 kc kj Q T tg Ls (rest)) : Go K n0 kc kj Q T pc Ls (.int x :: rest) := by
  obtain ⟨d, rfl, h1, h2⟩ := d; exact o_go (fun t k => XS.ifYes X.here X.ex rfl rfl (X.dec d) rfl (XT.i0_gt_t q) h1 h2 k) g
theorem o_if_gt_f (X : St K Z own b mx ret rm n0 k j T h) {x : Int32} {o : Int} (d : Brn b pc (.ifCond .gt o) o pc' tg) (q : ¬ 0 < x) (g : Go K n0 kc kj Q T pc' Ls (rest)) : Go K n0 kc kj Q T pc Ls (.int x :: rest) := by
  obtain ⟨d, rfl, h1, h2⟩ := d; exact o_go (fun t k => XS.ifNo X.here X.ex rfl (X.dec d) rfl (XT.i0_gt_f q) k) g
theorem o_if_gt (X : St K Z own b mx ret rm n0 k j T h) {x : Int32} {o : Int} (d : Brn b pc (.ifCond .gt o) o pc' tg) (gt : 0 < x → Go K n0 kc kj Q T tg Ls (rest)) (gf : ¬ 0 < x → Go K n0 kc kj Q T pc' Ls (rest)) : Go K n0 kc kj Q T pc Ls (.int x :: rest) := by
  by_cases q : 0 < x
  · exact o_if_gt_t X d q (gt q)
  · exact o_if_gt_f X d q (gf q)
theorem o_lif_gt_t (X : St K Z own b mx ret rm n0 k j T h) {x y : Int64} {o : Int} (d : Brn b pc (.ifCond .gt o) o pc' tg) (q : y < x) (g : Go K n0 kc kj Q T tg Ls (rest)) : Go K n0 kc kj Q T pc Ls (.int (XT.cmpL x y) :: rest) := by
  obtain ⟨d, rfl, h1, h2⟩ := d; exact o_go (fun t k => XS.ifYes X.here X.ex rfl rfl (X.dec d) rfl (XT.ll_gt_t q) h1 h2 k) g
theorem o_lif_gt_f (X : St K Z own b mx ret rm n0 k j T h) {x y : Int64} {o : Int} (d : Brn b pc (.ifCond .gt o) o pc' tg) (q : ¬ y < x) (g : Go K n0 kc kj Q T pc' Ls (rest)) : Go K n0 kc kj Q T pc Ls (.int (XT.cmpL x y) :: rest) := by
  obtain ⟨d, rfl, h1, h2⟩ := d; exact o_go (fun t k => XS.ifNo X.here X.ex rfl (X.dec d) rfl (XT.ll_gt_f q) k) g
theorem o_lif_gt (X : St K Z own b mx ret rm n0 k j T h) {x y : Int64} {o : Int} (d : Brn b pc (.ifCond .gt o) o pc' tg) (gt : y < x → Go K n0 kc kj Q T tg Ls (rest)) (gf : ¬ y < x → Go K n0 kc kj Q T pc' Ls (rest)) : Go K n0 kc kj Q T pc Ls (.int (XT.cmpL x y) :: rest) := by
  by_cases q : y < x
  · exact o_lif_gt_t X d q (gt q)
  · exact o_lif_gt_f X d q (gf q)
theorem o_icmp_le_t (X : St K Z own b mx ret rm n0 k j T h) {x y : Int32} {o : Int} (d : Brn b pc (.if_icmp .le o) o pc' tg) (q : ¬ y < x) (g : Go K n0 kc kj Q T tg Ls (rest)) : Go K n0 kc kj Q T pc Ls (.int y :: .int x :: rest) := by
  obtain ⟨d, rfl, h1, h2⟩ := d; exact o_go (fun t k => XS.icmpYes X.here X.ex rfl rfl (X.dec d) rfl (XT.ii_le_t q) h1 h2 k) g
theorem o_icmp_le_f (X : St K Z own b mx ret rm n0 k j T h) {x y : Int32} {o : Int} (d : Brn b pc (.if_icmp .le o) o pc' tg) (q : y < x) (g : Go K n0 kc kj Q T pc' Ls (rest)) : Go K n0 kc kj Q T pc Ls (.int y :: .int x :: rest) := by
  obtain ⟨d, rfl, h1, h2⟩ := d; exact o_go (fun t k => XS.icmpNo X.here X.ex rfl (X.dec d) rfl (XT.ii_le_f q) k) g
theorem o_icmp_le (X : St K Z own b mx ret rm n0 k j T h) {x y : Int32} {o : Int} (d : Brn b pc (.if_icmp .le o) o pc' tg) (gt : ¬ y < x → Go K n0 kc kj Q T tg Ls (rest)) (gf : y < x → Go K n0 kc kj Q T pc' Ls (rest)) : Go K n0 kc kj Q T pc Ls (.int y :: .int x :: rest) := by
  by_cases q : y < x
  · exact o_icmp_le_f X d q (gf q)
  · exact o_icmp_le_t X d q (gt q)
theorem o_if_le_t (X : St K Z own b mx ret rm n0 k j T h) {x : Int32} {o : Int} (d : Brn b pc (.ifCond .le o) o pc' tg) (q : ¬ 0 < x) (g : Go K n0 kc kj Q T tg Ls (rest)) : Go K n0 kc kj Q T pc Ls (.int x :: rest) := by
  obtain ⟨d, rfl, h1, h2⟩ := d; exact o_go (fun t k => XS.ifYes X.here X.ex rfl rfl (X.dec d) rfl (XT.i0_le_t q) h1 h2 k) g
theorem o_if_le_f (X : St K Z own b mx ret rm n0 k j T h) {x : Int32} {o : Int} (d : Brn b pc (.ifCond .le o) o pc' tg) (q : 0 < x) (g : Go K n0 kc kj Q T pc' Ls (rest)) : Go K n0 kc kj Q T pc Ls (.int x :: rest) := by
  obtain ⟨d, rfl, h1, h2⟩ := d; exact o_go (fun t k => XS.ifNo X.here X.ex rfl (X.dec d) rfl (XT.i0_le_f q) k) g
theorem o_if_le (X : St K Z own b mx ret rm n0 k j T h) {x : Int32} {o : Int} (d : Brn b pc (.ifCond .le o) o pc' tg) (gt : ¬ 0 < x → Go K n0 kc kj Q T tg Ls (rest)) (gf : 0 < x → Go K n0 kc kj Q T pc' Ls (rest)) : Go K n0 kc kj Q T pc Ls (.int x :: rest) := by
  by_cases q : 0 < x
  · exact o_if_le_f X d q (gf q)
  · exact o_if_le_t X d q (gt q)
theorem o_lif_le_t (X : St K Z own b mx ret rm n0 k j T h) {x y : Int64} {o : Int} (d : Brn b pc (.ifCond .le o) o pc' tg) (q : ¬ y < x) (g : Go K n0 kc kj Q T tg Ls (rest)) : Go K n0 kc kj Q T pc Ls (.int (XT.cmpL x y) :: rest) := by
  obtain ⟨d, rfl, h1, h2⟩ := d; exact o_go (fun t k => XS.ifYes X.here X.ex rfl rfl (X.dec d) rfl (XT.ll_le_t q) h1 h2 k) g
theorem o_lif_le_f (X : St K Z own b mx ret rm n0 k j T h) {x y : Int64} {o : Int} (d : Brn b pc (.ifCond .le o) o pc' tg) (q : y < x) (g : Go K n0 kc kj Q T pc' Ls (rest)) : Go K n0 kc kj Q T pc Ls (.int (XT.cmpL x y) :: rest) := by
  obtain ⟨d, rfl, h1, h2⟩ := d; exact o_go (fun t k => XS.ifNo X.here X.ex rfl (X.dec d) rfl (XT.ll_le_f q) k) g
theorem o_lif_le (X : St K Z own b mx ret rm n0 k j T h) {x y : Int64} {o : Int} (d : Brn b pc (.ifCond .le o) o pc' tg) (gt : ¬ y < x → Go K n0 kc kj Q T tg Ls (rest)) (gf : y < x → Go K n0 kc kj Q T pc' Ls (rest)) : Go K n0 kc kj Q T pc Ls (.int (XT.cmpL x y) :: rest) := by
  by_cases q : y < x
  · exact o_lif_le_f X d q (gf q)
  · exact o_lif_le_t X d q (gt q)
theorem o_bool_icmp_eq (X : St K Z own b mx ret rm n0 k j T h) {x y : Int32} {o o2 : Int} {pc2 pc3 pj : Nat} (d : Brn b pc (.if_icmp .eq o) o pc' tg) (d1 : Isn b pc' (.iconst 1) 1 pc2) (d2 : Brn b pc2 (.goto o2) o2 pc3 pj) (d3 : Isn b tg (.iconst 0) 1 pj) (g : Go K n0 kc kj Q T pj Ls (.int (if x = y then 0 else 1) :: rest)) : Go K n0 kc kj Q T pc Ls (.int y :: .int x :: rest) := by
  refine o_icmp_eq X d (fun q => o_iconst 0 X d3 rfl ?_) (fun q => o_iconst 1 X d1 rfl (o_goto X d2 ?_))
  · simpa only [q, if_true, if_false] using g
  · simpa only [q, if_true, if_false] using g
theorem o_bool_if_eq (X : St K Z own b mx ret rm n0 k j T h) {x : Int32} {o o2 : Int} {pc2 pc3 pj : Nat} (d : Brn b pc (.ifCond .eq o) o pc' tg) (d1 : Isn b pc' (.iconst 1) 1 pc2) (d2 : Brn b pc2 (.goto o2) o2 pc3 pj) (d3 : Isn b tg (.iconst 0) 1 pj) (g : Go K n0 kc kj Q T pj Ls (.int (if x = 0 then 0 else 1) :: rest)) : Go K n0 kc kj Q T pc Ls (.int x :: rest) := by
  refine o_if_eq X d (fun q => o_iconst 0 X d3 rfl ?_) (fun q => o_iconst 1 X d1 rfl (o_goto X d2 ?_))
  · simpa only [q, if_true, if_false] using g
  · simpa only [q, if_true, if_false] using g
theorem o_bool_lif_eq (X : St K Z own b mx ret rm n0 k j T h) {x y : Int64} {o o2 : Int} {pc2 pc3 pj : Nat} (d : Brn b pc (.ifCond .eq o) o pc' tg) (d1 : Isn b pc' (.iconst 1) 1 pc2) (d2 : Brn b pc2 (.goto o2) o2 pc3 pj) (d3 : Isn b tg (.iconst 0) 1 pj) (g : Go K n0 kc kj Q T pj Ls (.int (if x = y then 0 else 1) :: rest)) : Go K n0 kc kj Q T pc Ls (.int (XT.cmpL x y) :: rest) := by
  refine o_lif_eq X d (fun q => o_iconst 0 X d3 rfl ?_) (fun q => o_iconst 1 X d1 rfl (o_goto X d2 ?_))
  · simpa only [q, if_true, if_false] using g
  · simpa only [q, if_true, if_false] using g
theorem o_bool_icmp_ne (X : St K Z own b mx ret rm n0 k j T h) {x y : Int32} {o o2 : Int} {pc2 pc3 pj : Nat} (d : Brn b pc (.if_icmp .ne o) o pc' tg) (d1 : Isn b pc' (.iconst 1) 1 pc2) (d2 : Brn b pc2 (.goto o2) o2 pc3 pj) (d3 : Isn b tg (.iconst 0) 1 pj) (g : Go K n0 kc kj Q T pj Ls (.int (if x = y then 1 else 0) :: rest)) : Go K n0 kc kj Q T pc Ls (.int y :: .int x :: rest) := by
  refine o_icmp_ne X d (fun q => o_iconst 0 X d3 rfl ?_) (fun q => o_iconst 1 X d1 rfl (o_goto X d2 ?_))
  · simpa only [q, if_true, if_false] using g
  · simpa only [q, if_true, if_false] using g
theorem o_bool_if_ne (X : St K Z own b mx ret rm n0 k j T h) {x : Int32} {o o2 : Int} {pc2 pc3 pj : Nat} (d : Brn b pc (.ifCond .ne o) o pc' tg) (d1 : Isn b pc' (.iconst 1) 1 pc2) (d2 : Brn b pc2 (.goto o2) o2 pc3 pj) (d3 : Isn b tg (.iconst 0) 1 pj) (g : Go K n0 kc kj Q T pj Ls (.int (if x = 0 then 1 else 0) :: rest)) : Go K n0 kc kj Q T pc Ls (.int x :: rest) := by
  refine o_if_ne X d (fun q => o_iconst 0 X d3 rfl ?_) (fun q => o_iconst 1 X d1 rfl (o_goto X d2 ?_))
  · simpa only [q, if_true, if_false] using g
  · simpa only [q, if_true, if_false] using g
theorem o_bool_lif_ne (X : St K Z own b mx ret rm n0 k j T h) {x y : Int64} {o o2 : Int} {pc2 pc3 pj : Nat} (d : Brn b pc (.ifCond .ne o) o pc' tg) (d1 : Isn b pc' (.iconst 1) 1 pc2) (d2 : Brn b pc2 (.goto o2) o2 pc3 pj) (d3 : Isn b tg (.iconst 0) 1 pj) (g : Go K n0 kc kj Q T pj Ls (.int (if x = y then 1 else 0) :: rest)) : Go K n0 kc kj Q T pc Ls (.int (XT.cmpL x y) :: rest) := by
  refine o_lif_ne X d (fun q => o_iconst 0 X d3 rfl ?_) (fun q => o_iconst 1 X d1 rfl (o_goto X d2 ?_))
  · simpa only [q, if_true, if_false] using g
  · simpa only [q, if_true, if_false] using g
theorem o_bool_icmp_lt (X : St K Z own b mx ret rm n0 k j T h) {x y : Int32} {o o2 : Int} {pc2 pc3 pj : Nat} (d : Brn b pc (.if_icmp .lt o) o pc' tg) (d1 : Isn b pc' (.iconst 1) 1 pc2) (d2 : Brn b pc2 (.goto o2) o2 pc3 pj) (d3 : Isn b tg (.iconst 0) 1 pj) (g : Go K n0 kc kj Q T pj Ls (.int (if x < y then 0 else 1) :: rest)) : Go K n0 kc kj Q T pc Ls (.int y :: .int x :: rest) := by
  refine o_icmp_lt X d (fun q => o_iconst 0 X d3 rfl ?_) (fun q => o_iconst 1 X d1 rfl (o_goto X d2 ?_))
  · simpa only [q, if_true, if_false] using g
  · simpa only [q, if_true, if_false] using g
theorem o_bool_if_lt (X : St K Z own b mx ret rm n0 k j T h) {x : Int32} {o o2 : Int} {pc2 pc3 pj : Nat} (d : Brn b pc (.ifCond .lt o) o pc' tg) (d1 : Isn b pc' (.iconst 1) 1 pc2) (d2 : Brn b pc2 (.goto o2) o2 pc3 pj) (d3 : Isn b tg (.iconst 0) 1 pj) (g : Go K n0 kc kj Q T pj Ls (.int (if x < 0 then 0 else 1) :: rest)) : Go K n0 kc kj Q T pc Ls (.int x :: rest) := by
  refine o_if_lt X d (fun q => o_iconst 0 X d3 rfl ?_) (fun q => o_iconst 1 X d1 rfl (o_goto X d2 ?_))
  · simpa only [q, if_true, if_false] using g
  · simpa only [q, if_true, if_false] using g
theorem o_bool_lif_lt (X : St K Z own b mx ret rm n0 k j T h) {x y : Int64} {o o2 : Int} {pc2 pc3 pj : Nat} (d : Brn b pc (.ifCond .lt o) o pc' tg) (d1 : Isn b pc' (.iconst 1) 1 pc2) (d2 : Brn b pc2 (.goto o2) o2 pc3 pj) (d3 : Isn b tg (.iconst 0) 1 pj) (g : Go K n0 kc kj Q T pj Ls (.int (if x < y then 0 else 1) :: rest)) : Go K n0 kc kj Q T pc Ls (.int (XT.cmpL x y) :: rest) := by
  refine o_lif_lt X d (fun q => o_iconst 0 X d3 rfl ?_) (fun q => o_iconst 1 X d1 rfl (o_goto X d2 ?_))
  · simpa only [q, if_true, if_false] using g
  · simpa only [q, if_true, if_false] using g
theorem o_bool_icmp_ge (X : St K Z own b mx ret rm n0 k j T h) {x y : Int32} {o o2 : Int} {pc2 pc3 pj : Nat} (d : Brn b pc (.if_icmp .ge o) o pc' tg) (d1 : Isn b pc' (.iconst 1) 1 pc2) (d2 : Brn b pc2 (.goto o2) o2 pc3 pj) (d3 : Isn b tg (.iconst 0) 1 pj) (g : Go K n0 kc kj Q T pj Ls (.int (if x < y then 1 else 0) :: rest)) : Go K n0 kc kj Q T pc Ls (.int y :: .int x :: rest) := by
  refine o_icmp_ge X d (fun q => o_iconst 0 X d3 rfl ?_) (fun q => o_iconst 1 X d1 rfl (o_goto X d2 ?_))
  · simpa only [q, if_true, if_false] using g
  · simpa only [q, if_true, if_false] using g
theorem o_bool_if_ge (X : St K Z own b mx ret rm n0 k j T h) {x : Int32} {o o2 : Int} {pc2 pc3 pj : Nat} (d : Brn b pc (.ifCond .ge o) o pc' tg) (d1 : Isn b pc' (.iconst 1) 1 pc2) (d2 : Brn b pc2 (.goto o2) o2 pc3 pj) (d3 : Isn b tg (.iconst 0) 1 pj) (g : Go K n0 kc kj Q T pj Ls (.int (if x < 0 then 1 else 0) :: rest)) : Go K n0 kc kj Q T pc Ls (.int x :: rest) := by
  refine o_if_ge X d (fun q => o_iconst 0 X d3 rfl ?_) (fun q => o_iconst 1 X d1 rfl (o_goto X d2 ?_))
  · simpa only [q, if_true, if_false] using g
  · simpa only [q, if_true, if_false] using g
theorem o_bool_lif_ge (X : St K Z own b mx ret rm n0 k j T h) {x y : Int64} {o o2 : Int} {pc2 pc3 pj : Nat} (d : Brn b pc (.ifCond .ge o) o pc' tg) (d1 : Isn b pc' (.iconst 1) 1 pc2) (d2 : Brn b pc2 (.goto o2) o2 pc3 pj) (d3 : Isn b tg (.iconst 0) 1 pj) (g : Go K n0 kc kj Q T pj Ls (.int (if x < y then 1 else 0) :: rest)) : Go K n0 kc kj Q T pc Ls (.int (XT.cmpL x y) :: rest) := by
  refine o_lif_ge X d (fun q => o_iconst 0 X d3 rfl ?_) (fun q => o_iconst 1 X d1 rfl (o_goto X d2 ?_))
  · simpa only [q, if_true, if_false] using g
  · simpa only [q, if_true, if_false] using g
theorem o_bool_icmp_gt (X : St K Z own b mx ret rm n0 k j T h) {x y : Int32} {o o2 : Int} {pc2 pc3 pj : Nat} (d : Brn b pc (.if_icmp .gt o) o pc' tg) (d1 : Isn b pc' (.iconst 1) 1 pc2) (d2 : Brn b pc2 (.goto o2) o2 pc3 pj) (d3 : Isn b tg (.iconst 0) 1 pj) (g : Go K n0 kc kj Q T pj Ls (.int (if y < x then 0 else 1) :: rest)) : Go K n0 kc kj Q T pc Ls (.int y :: .int x :: rest) := by
  refine o_icmp_gt X d (fun q => o_iconst 0 X d3 rfl ?_) (fun q => o_iconst 1 X d1 rfl (o_goto X d2 ?_))
  · simpa only [q, if_true, if_false] using g
  · simpa only [q, if_true, if_false] using g
theorem o_bool_if_gt (X : St K Z own b mx ret rm n0 k j T h) {x : Int32} {o o2 : Int} {pc2 pc3 pj : Nat} (d : Brn b pc (.ifCond .gt o) o pc' tg) (d1 : Isn b pc' (.iconst 1) 1 pc2) (d2 : Brn b pc2 (.goto o2) o2 pc3 pj) (d3 : Isn b tg (.iconst 0) 1 pj) (g : Go K n0 kc kj Q T pj Ls (.int (if 0 < x then 0 else 1) :: rest)) : Go K n0 kc kj Q T pc Ls (.int x :: rest) := by
  refine o_if_gt X d (fun q => o_iconst 0 X d3 rfl ?_) (fun q => o_iconst 1 X d1 rfl (o_goto X d2 ?_))
  · simpa only [q, if_true, if_false] using g
  · simpa only [q, if_true, if_false] using g
theorem o_bool_lif_gt (X : St K Z own b mx ret rm n0 k j T h) {x y : Int64} {o o2 : Int} {pc2 pc3 pj : Nat} (d : Brn b pc (.ifCond .gt o) o pc' tg) (d1 : Isn b pc' (.iconst 1) 1 pc2) (d2 : Brn b pc2 (.goto o2) o2 pc3 pj) (d3 : Isn b tg (.iconst 0) 1 pj) (g : Go K n0 kc kj Q T pj Ls (.int (if y < x then 0 else 1) :: rest)) : Go K n0 kc kj Q T pc Ls (.int (XT.cmpL x y) :: rest) := by
  refine o_lif_gt X d (fun q => o_iconst 0 X d3 rfl ?_) (fun q => o_iconst 1 X d1 rfl (o_goto X d2 ?_))
  · simpa only [q, if_true, if_false] using g
  · simpa only [q, if_true, if_false] using g
theorem o_bool_icmp_le (X : St K Z own b mx ret rm n0 k j T h) {x y : Int32} {o o2 : Int} {pc2 pc3 pj : Nat} (d : Brn b pc (.if_icmp .le o) o pc' tg) (d1 : Isn b pc' (.iconst 1) 1 pc2) (d2 : Brn b pc2 (.goto o2) o2 pc3 pj) (d3 : Isn b tg (.iconst 0) 1 pj) (g : Go K n0 kc kj Q T pj Ls (.int (if y < x then 1 else 0) :: rest)) : Go K n0 kc kj Q T pc Ls (.int y :: .int x :: rest) := by
  refine o_icmp_le X d (fun q => o_iconst 0 X d3 rfl ?_) (fun q => o_iconst 1 X d1 rfl (o_goto X d2 ?_))
  · simpa only [q, if_true, if_false] using g
  · simpa only [q, if_true, if_false] using g
theorem o_bool_if_le (X : St K Z own b mx ret rm n0 k j T h) {x : Int32} {o o2 : Int} {pc2 pc3 pj : Nat} (d : Brn b pc (.ifCond .le o) o pc' tg) (d1 : Isn b pc' (.iconst 1) 1 pc2) (d2 : Brn b pc2 (.goto o2) o2 pc3 pj) (d3 : Isn b tg (.iconst 0) 1 pj) (g : Go K n0 kc kj Q T pj Ls (.int (if 0 < x then 1 else 0) :: rest)) : Go K n0 kc kj Q T pc Ls (.int x :: rest) := by
  refine o_if_le X d (fun q => o_iconst 0 X d3 rfl ?_) (fun q => o_iconst 1 X d1 rfl (o_goto X d2 ?_))
  · simpa only [q, if_true, if_false] using g
  · simpa only [q, if_true, if_false] using g
theorem o_bool_lif_le (X : St K Z own b mx ret rm n0 k j T h) {x y : Int64} {o o2 : Int} {pc2 pc3 pj : Nat} (d : Brn b pc (.ifCond .le o) o pc' tg) (d1 : Isn b pc' (.iconst 1) 1 pc2) (d2 : Brn b pc2 (.goto o2) o2 pc3 pj) (d3 : Isn b tg (.iconst 0) 1 pj) (g : Go K n0 kc kj Q T pj Ls (.int (if y < x then 1 else 0) :: rest)) : Go K n0 kc kj Q T pc Ls (.int (XT.cmpL x y) :: rest) := by
  refine o_lif_le X d (fun q => o_iconst 0 X d3 rfl ?_) (fun q => o_iconst 1 X d1 rfl (o_goto X d2 ?_))
  · simpa only [q, if_true, if_false] using g
  · simpa only [q, if_true, if_false] using g
theorem o_ifnonnull_r (X : St K Z own b mx ret rm n0 k j T h) {a : Addr} {o : Int} (d : Brn b pc (.ifnonnull o) o pc' tg) (g : Go K n0 kc kj Q T tg Ls (rest)) : Go K n0 kc kj Q T pc Ls (.ref a :: rest) := by
  obtain ⟨d, rfl, h1, h2⟩ := d; exact o_go (fun t k => XT.ifnonnullYes X.here X.ex rfl rfl (X.dec d) rfl h1 h2 k) g
theorem o_ifnonnull_0 (X : St K Z own b mx ret rm n0 k j T h) {o : Int} (d : Brn b pc (.ifnonnull o) o pc' tg) (g : Go K n0 kc kj Q T pc' Ls (rest)) : Go K n0 kc kj Q T pc Ls (.null :: rest) := by
  obtain ⟨d, rfl, h1, h2⟩ := d; exact o_go (fun t k => XT.ifnonnullNo X.here X.ex rfl (X.dec d) rfl k) g
theorem o_ifnull_r (X : St K Z own b mx ret rm n0 k j T h) {a : Addr} {o : Int} (d : Brn b pc (.ifnull o) o pc' tg) (g : Go K n0 kc kj Q T pc' Ls (rest)) : Go K n0 kc kj Q T pc Ls (.ref a :: rest) := by
  obtain ⟨d, rfl, h1, h2⟩ := d; exact o_go (fun t k => XS.ifnullNo X.here X.ex rfl (X.dec d) rfl k) g
theorem o_ifnull_0 (X : St K Z own b mx ret rm n0 k j T h) {o : Int} (d : Brn b pc (.ifnull o) o pc' tg) (g : Go K n0 kc kj Q T tg Ls (rest)) : Go K n0 kc kj Q T pc Ls (.null :: rest) := by
  obtain ⟨d, rfl, h1, h2⟩ := d; exact o_go (fun t k => XS.ifnullYes X.here X.ex rfl rfl (X.dec d) rfl h1 h2 k) g
theorem o_leave (X : St K Z own b mx ret rm n0 k j T h) {v : Option Value} (hv : ret = none → v = none) (hk : k ≤ kc) (hj : j ≤ kj) (q : Q v h)
    (f : ∀ fs, (∀ (f : JFrame) (acts : List Action), f.method = K.m → f.locked = none → f.entered = [] → (doReturn K.e (T.setTop f) acts v).1 = T.setFrames fs) → Steps K.p.tables K.e K.below (T.setTop (mkF K.m pc Ls st)) (T.setFrames fs)) : Go K n0 kc kj Q T pc Ls (st) := by
  obtain ⟨locs, S, N⟩ := X.sd
  obtain ⟨fs, hr, hrun, hended, hW, hsame⟩ := S.leave (v := v) (fun q => hv (X.rt.symm.trans q)) X.nl
  have e : (T.setFrames fs).heap = h := X.hp
  exact ⟨_, _, f fs hr, hrun, hended, v, locs, rfl, ⟨e ▸ q, N⟩, ⟨v, rfl⟩, hW, hsame.mono hk hj⟩
theorem o_retI (X : St K Z own b mx (some .int) rm n0 k j T h) {z : Int32} (d : Isn b pc .ireturn 1 pc') (hk : k ≤ kc) (hj : j ≤ kj) (q : Q (some (.int z)) h) : Go K n0 kc kj Q T pc Ls (.int z :: rest) := by
  obtain ⟨_, S, _⟩ := X.sd
  exact o_leave X (fun q => nomatch q) hk hj q fun fs hr => retOut S X.ex X.rt rfl (Or.inl ⟨rfl, Or.inl rfl, z, rfl⟩) (X.dec d.1) hr
theorem o_retL (X : St K Z own b mx (some .long) rm n0 k j T h) {z : Int64} (d : Isn b pc .lreturn 1 pc') (hk : k ≤ kc) (hj : j ≤ kj) (q : Q (some (.long z)) h) : Go K n0 kc kj Q T pc Ls (.long z :: rest) := by
  obtain ⟨_, S, _⟩ := X.sd
  exact o_leave X (fun q => nomatch q) hk hj q fun fs hr => retOut S X.ex X.rt rfl (Or.inr (Or.inl ⟨rfl, rfl, z, rfl⟩)) (X.dec d.1) hr
theorem o_retA {t : FieldType} (X : St K Z own b mx (some t) rm n0 k j T h) {z : Value} (ht : t.isReference = true) (hn : narrow t z = z) (hz : z.isRef = true) (d : Isn b pc .areturn 1 pc') (hk : k ≤ kc) (hj : j ≤ kj) (q : Q (some z) h) : Go K n0 kc kj Q T pc Ls (z :: rest) := by
  obtain ⟨_, S, _⟩ := X.sd
  exact o_leave X (fun q => nomatch q) hk hj q fun fs hr => retOut S X.ex X.rt hn (Or.inr (Or.inr (Or.inr (Or.inr ⟨rfl, ht, hz⟩)))) (X.dec d.1) hr
theorem o_retN {t : FieldType} (X : St K Z own b mx (some t) rm n0 k j T h) {z : Int32} (ht : t = .boolean ∨ t = .byte ∨ t = .char ∨ t = .short) (d : Isn b pc .ireturn 1 pc') (hk : k ≤ kc) (hj : j ≤ kj) (q : Q (some (.int (nar t z))) h) : Go K n0 kc kj Q T pc Ls (.int z :: rest) := by
  obtain ⟨_, S, _⟩ := X.sd
  exact o_leave X (fun q => nomatch q) hk hj q fun fs hr => retN S X.ex X.rt ht (X.dec d.1) hr
theorem o_retZ (X : St K Z own b mx (some .boolean) rm n0 k j T h) {z : Int32} (d : Isn b pc .ireturn 1 pc') (hk : k ≤ kc) (hj : j ≤ kj) (q : Q (some (.int (z &&& 1))) h) : Go K n0 kc kj Q T pc Ls (.int z :: rest) := o_retN X (Or.inl rfl) d hk hj q
theorem o_ret0 (X : St K Z own b mx none rm n0 k j T h) (d : Isn b pc .return_ 1 pc') (hk : k ≤ kc) (hj : j ≤ kj) (q : Q none h) : Go K n0 kc kj Q T pc Ls ([]) := by
  obtain ⟨_, S, _⟩ := X.sd
  exact o_leave X (fun _ => rfl) hk hj q fun fs hr => S.returnOut X.ex X.rt (X.dec d.1) hr
theorem CtrW.intro {l : Launch} {y : MethodName} {ws : List Jvm.Cond} {as' : List Value} (pn : plainFor y = true) (ho : y.cls = own) (Ls : Array Slot) (hE : Jvm.Sym.laidSlots as' ++ List.replicate (mx - (Jvm.Sym.laidSlots as').length) .unset = Ls.toList)
    (body : ∀ (K : Cx) (T : State), K.meth.name = y.name → K.l = l → St K Z own b mx ret rm n0 0 0 T h → Go K n0 kc kj Q T 0 Ls []) : CtrW l Z y b mx ret ws rm kc kj as' h n0 Q := by
  refine MetFree.of_bodySF pn hisR ?_
  intro p e s m args below meth c s₁ Bd hml0 hP hK
  obtain ⟨rfl, hZ, hh⟩ := hP
  subst ho
  have X0 : Stand p l e rm s m as'.toArray below meth c s₁ [] 0 0 := Stand.of_body Bd
  have e0 : s₁.heap = h := by rw [← hh, Bd.state]; rfl
  obtain ⟨t, o, h1, h2, h3, h4⟩ := body (p, l, e, rm, s, m, as'.toArray, below, meth, c) s₁ (name_of_methodNamed Bd.named Bd.method).1 rfl ⟨Bd.exec, hZ, findClass_of_methodNamed Bd.named, Bd.bytes, hml0, Bd.returns, Bd.notSynchronized, rfl, e0, [], X0, Fr.nil n0⟩
  exact ⟨t, o, (XT.entry hE).trans h1, h2, h3, h4⟩
theorem o_callS (X : St K Z own b mx ret rm n0 k j T h) (W : Nat) {i : Nat} {y : MethodName} {by' : ByteArray} {my : Nat} {ry : Option FieldType} {rmy : Room} {as' : List Value} {Qy : Option Value → Heap → Prop} (d : Isn b pc (.invokestatic i) 3 pc')
    (w1 : (Jvm.Cond.methodLink own i y).before a0 Z = true) (w2 : (Jvm.Cond.static y).before a0 Z = true) (w3 : (Jvm.Cond.initialized y.cls).before a0 Z = true) (w4 : (Jvm.Cond.code y by' my ry).before a0 Z = true)
    (hy : y.cls ≠ "java/lang/invoke/MethodHandle" ∧ y.cls ≠ "java/lang/invoke/VarHandle") (C : Ctr K.l Z y by' my ry rmy as' h n0 Qy) (hn : ∀ sig, parseMethodDescriptor y.desc = some sig → as'.length = sig.parameters.length)
    (hs : st = as'.reverse ++ rest) (hsz : Ls.size = mx) (hW : (rest.map fun v => v.category).sum ≤ W) (hr : rmy.frames + 1 ≤ rm.frames ∧ W + (my + 11) + rmy.locals ≤ rm.locals ∧ k + rmy.cells ≤ rm.cells ∧ j + rmy.slots ≤ rm.slots)
    (g : ∀ T' h' v, Qy v h' → St K Z own b mx ret rm n0 (k + rmy.cells) (j + rmy.slots) T' h' → Go K n0 kc kj Q T' pc' Ls (v.toList ++ rest)) : Go K n0 kc kj Q T pc Ls (st) := by
  obtain ⟨d, rfl⟩ := d; obtain ⟨locs, S, N⟩ := X.sd; have hR := X.rmE
  obtain ⟨v, _, ⟨T', L', k', j'⟩, -, S', ⟨Lc, ⟨hQ, NL⟩, l1, l2, l3⟩, st'⟩ := Jvm.LawKit.callS S X.ex (y := y) X.ow (mvT X.wZ w1) (mvT X.wZ w2) (mvT X.wZ w3) (mvT X.wZ w4) hy (backOf (W := W) (Q := fun v h L => Qy v h ∧ Fr n0 L) C X.wZ w4 w3 (by rw [hR]; exact hr.1) (by rw [hR]; exact hr.2.1)) (g := mkF K.m pc Ls st) rfl (hsz.trans X.ml.symm) (argsL := as') (rest := rest) hn hs (by show 2 * 0 + _ ≤ _; omega) (X.dec d) (fun _ _ => ⟨rfl, X.hp, by rw [hR]; exact hr.2.2.1, by rw [hR]; exact hr.2.2.2⟩)
  dsimp only [Pt.U, Pt.locs, Pt.cells, Pt.slots] at S' l1 l2 l3 st' hQ
  subst l1 l2 l3
  exact o_go (fun t k => st' t k) (g T' T'.heap v hQ (X.mk' S' (Fr.app N NL) rfl))
theorem o_callV (X : St K Z own b mx ret rm n0 k j T h) (W : Nat) {i : Nat} {y z : MethodName} {C' : String} {by' : ByteArray} {my : Nat} {ry : Option FieldType} {rmy : Room} {a : Addr} {as' : List Value} {Qy : Option Value → Heap → Prop} (d : Isn b pc (.invokevirtual i) 3 pc')
    (w1 : (Jvm.Cond.methodLink own i y).before a0 Z = true) (w2 : (Jvm.Cond.declares y).before a0 Z = true) (w3 : (Jvm.Cond.selects y.cls y y).before a0 Z = true) (w5 : (Jvm.Cond.selects C' y z).before a0 Z = true) (w6 : (Jvm.Cond.instanceMethod z).before a0 Z = true)
    (hy : y.cls ≠ "java/lang/invoke/MethodHandle" ∧ y.cls ≠ "java/lang/invoke/VarHandle") (w4 : (Jvm.Cond.code z by' my ry).before a0 Z = true) (w7 : (Jvm.Cond.initialized z.cls).before a0 Z = true) (C : Ctr K.l Z z by' my ry rmy (.ref a :: as') h n0 Qy) (E : Exa Z h a C') (hn : ∀ sig, parseMethodDescriptor y.desc = some sig → as'.length = sig.parameters.length)
    (hs : st = as'.reverse ++ .ref a :: rest) (hsz : Ls.size = mx) (hW : (rest.map fun v => v.category).sum ≤ W) (hr : rmy.frames + 1 ≤ rm.frames ∧ W + (my + 11) + rmy.locals ≤ rm.locals ∧ k + rmy.cells ≤ rm.cells ∧ j + rmy.slots ≤ rm.slots)
    (g : ∀ T' h' v, Qy v h' → St K Z own b mx ret rm n0 (k + rmy.cells) (j + rmy.slots) T' h' → Go K n0 kc kj Q T' pc' Ls (v.toList ++ rest)) : Go K n0 kc kj Q T pc Ls (st) := by
  obtain ⟨d, rfl⟩ := d; obtain ⟨locs, S, N⟩ := X.sd; have hR := X.rmE
  obtain ⟨cq, kq, q1, q2, q3⟩ := isOf (s := K.s) X.wZ X.hp E
  obtain ⟨v, _, ⟨T', L', k', j'⟩, -, S', ⟨Lc, ⟨hQ, NL⟩, l1, l2, l3⟩, st'⟩ := S.virtualBack X.ex (y := y) (z := z) X.ow (mvT X.wZ w1) (mvT X.wZ w2) (notFace_of_selects (args := #[]) (mvT X.wZ w3)) (mvT X.wZ w5) (mvT X.wZ w6) hy (backOf (W := W) (Q := fun v h L => Qy v h ∧ Fr n0 L) C X.wZ w4 w7 (by rw [hR]; exact hr.1) (by rw [hR]; exact hr.2.1)) q1 q3 (g := mkF K.m pc Ls st) rfl (hsz.trans X.ml.symm) (Steps.refl _) (argsL := as') (rest := rest) hn hs (by show 2 * 0 + _ ≤ _; omega) (X.dec d) (fun _ _ => ⟨rfl, X.hp, by rw [hR]; exact hr.2.2.1, by rw [hR]; exact hr.2.2.2⟩)
  dsimp only [Pt.U, Pt.locs, Pt.cells, Pt.slots] at S' l1 l2 l3 st' hQ
  subst l1 l2 l3
  exact o_go (fun t k => st'.trans k) (g T' T'.heap v hQ (X.mk' S' (Fr.app N NL) rfl))
theorem o_callN (X : St K Z own b mx ret rm n0 k j T h) (W : Nat) {i : Nat} {y : MethodName} {by' : ByteArray} {my : Nat} {rmy : Room} {a : Addr} {as' : List Value} {Qy : Option Value → Heap → Prop} (d : Isn b pc (.invokespecial i) 3 pc') (hy1 : y.name = "<init>")
    (w1 : (Jvm.Cond.methodLink own i y).before a0 Z = true) (w2 : (Jvm.Cond.instanceMethod y).before a0 Z = true) (w4 : (Jvm.Cond.code y by' my none).before a0 Z = true) (w3 : (Jvm.Cond.initialized y.cls).before a0 Z = true)
    (hy : y.cls ≠ "java/lang/invoke/MethodHandle" ∧ y.cls ≠ "java/lang/invoke/VarHandle") (C : Ctr K.l Z y by' my none rmy (.ref a :: as') h n0 Qy) (hn : ∀ sig, parseMethodDescriptor y.desc = some sig → as'.length = sig.parameters.length)
    (hs : st = as'.reverse ++ .ref a :: rest) (hsz : Ls.size = mx) (hW : (rest.map fun v => v.category).sum ≤ W) (hr : rmy.frames + 1 ≤ rm.frames ∧ W + (my + 11) + rmy.locals ≤ rm.locals ∧ k + rmy.cells ≤ rm.cells ∧ j + rmy.slots ≤ rm.slots)
    (g : ∀ T' h' v, Qy v h' → St K Z own b mx ret rm n0 (k + rmy.cells) (j + rmy.slots) T' h' → Go K n0 kc kj Q T' pc' Ls (v.toList ++ rest)) : Go K n0 kc kj Q T pc Ls (st) := by
  obtain ⟨d, rfl⟩ := d; obtain ⟨locs, S, N⟩ := X.sd; have hR := X.rmE
  obtain ⟨v, _, ⟨T', L', k', j'⟩, -, S', ⟨Lc, ⟨hQ, NL⟩, l1, l2, l3⟩, st'⟩ := S.specialBack X.ex (y := y) hy1 X.ow (mvT X.wZ w1) (mvT X.wZ w2) (mvT X.wZ w4) hy (backOf (W := W) (Q := fun v h L => Qy v h ∧ Fr n0 L) C X.wZ w4 w3 (by rw [hR]; exact hr.1) (by rw [hR]; exact hr.2.1)) (g := mkF K.m pc Ls st) rfl (hsz.trans X.ml.symm) (Steps.refl _) (a := a) (argsL := as') (rest := rest) hn hs (by show 2 * 0 + _ ≤ _; omega) (X.dec d) (fun _ _ => ⟨rfl, X.hp, by rw [hR]; exact hr.2.2.1, by rw [hR]; exact hr.2.2.2⟩)
  dsimp only [Pt.U, Pt.locs, Pt.cells, Pt.slots] at S' l1 l2 l3 st' hQ
  subst l1 l2 l3
  exact o_go (fun t k => st'.trans k) (g T' T'.heap v hQ (X.mk' S' (Fr.app N NL) rfl))
theorem o_initO (X : St K Z own b mx ret rm n0 k j T h) (W : Nat) {i : Nat} {a : Addr} (d : Isn b pc (.invokespecial i) 3 pc') (w1 : (Jvm.Cond.methodLink own i Lib.objectInit).before a0 Z = true) (w2 : (Jvm.Cond.instanceMethod Lib.objectInit).before a0 Z = true) (w3 : (Jvm.Cond.code Lib.objectInit ⟨#[0xb1]⟩ 1 none).before a0 Z = true)
    (hsz : Ls.size = mx) (hW : (rest.map fun v => v.category).sum ≤ W) (hr : 1 ≤ rm.frames ∧ W + 12 ≤ rm.locals) (g : ∀ T', St K Z own b mx ret rm n0 k j T' h → Go K n0 kc kj Q T' pc' Ls (rest)) : Go K n0 kc kj Q T pc Ls (.ref a :: rest) := by
  obtain ⟨d, rfl⟩ := d; obtain ⟨locs, S, N⟩ := X.sd; have hR := X.rmE
  obtain ⟨T', S', e', st'⟩ := initO S X.ex X.wZ X.ow w1 w2 w3 X.hp (g := mkF K.m pc Ls (.ref a :: rest)) rfl (hsz.trans X.ml.symm) rfl (X.dec d) (by rw [hR]; exact hr.1) (W := W) (by show 2 * 0 + _ ≤ _; omega) (by rw [hR]; exact hr.2)
  exact o_go (fun t k => st' t k) (g T' (X.mk' S' N e'))
theorem o_getF (X : St K Z own b mx ret rm n0 k j T h) {i : Nat} {O n dd : String} {a : Addr} {v : Value} (d : Isn b pc (.getfield i) 3 pc') (wd : (Jvm.Cond.fieldLink own i O n dd).before a0 Z = true) (F : Fld Z h a O n dd v)
    (g : ∀ T', St K Z own b mx ret rm n0 k j T' h → Go K n0 kc kj Q T' pc' Ls (v :: rest)) : Go K n0 kc kj Q T pc Ls (.ref a :: rest) := by
  obtain ⟨d, rfl⟩ := d; obtain ⟨locs, S, N⟩ := X.sd
  obtain ⟨T', S', e', st'⟩ := getF S X.ex X.wZ X.ow (host := "") (Or.inl wd) Via.refl X.hp F (g := mkF K.m pc Ls (.ref a :: rest)) rfl rfl (X.dec d)
  exact o_go (fun t k => st' t k) (g T' (X.mk' S' N e'))
theorem o_putF (X : St K Z own b mx ret rm n0 k j T h) {i kk : Nat} {O n dd C' : String} {ty : FieldType} {a : Addr} {v ov : Value} (d : Isn b pc (.putfield i) 3 pc') (wd : (Jvm.Cond.fieldLink own i O n dd).before a0 Z = true) (F : Fld Z h a O n dd ov) (E : Exa Z h a C')
    (Lf : (Jvm.Cond.lays C' O n dd).before a0 Z = true ∨ ((Jvm.Cond.laysFinal C' O n dd).before a0 Z = true ∧ own = O ∧ K.meth.name = "<init>")) (wi : (Jvm.Cond.instantiable C' kk).before a0 Z = true) (hty : parseFieldDescriptor dd = some ty) (hn : narrow ty v = v) (hf : fits ty v = true) (ha : n0 ≤ a)
    (g : ∀ T' h', St K Z own b mx ret rm n0 k j T' h' → Wr h h' a (Jvm.RoadKit.slotOf Z O n dd) v → Go K n0 kc kj Q T' pc' Ls (rest)) : Go K n0 kc kj Q T pc Ls (v :: .ref a :: rest) := by
  obtain ⟨d, rfl⟩ := d; obtain ⟨locs, S, N⟩ := X.sd
  obtain ⟨T', h', S', e', W', st'⟩ := putF S X.ex X.wZ X.ow (host := "") (Or.inl wd) Via.refl X.hp F E Lf wi hty hn hf (g := mkF K.m pc Ls (v :: .ref a :: rest)) rfl rfl (X.dec d)
  exact o_go (fun t k => st' t k) (g T' h' (X.mk' S' (Fr.snoc S' N ha) e') W')
theorem o_new (X : St K Z own b mx ret rm n0 k j T h) {i nn : Nat} {C' : String} (d : Isn b pc (.new i) 3 pc') (w1 : (Jvm.Cond.classLink own i C').before a0 Z = true) (w2 : (Jvm.Cond.instantiable C' nn).before a0 Z = true) (w3 : (Jvm.Cond.initialized C').before a0 Z = true) (hr : k + 1 ≤ rm.cells ∧ j + nn ≤ rm.slots)
    (g : ∀ T' h' a, a = h.size → St K Z own b mx ret rm n0 (k + 1) (j + nn) T' h' → Ext h h' → Exa Z h' a C' → (∀ {O nm dd : String} {ty : FieldType}, Laid Z a0 C' O nm dd → parseFieldDescriptor dd = some ty → Fld Z h' a O nm dd (defaultValue ty)) → Go K n0 kc kj Q T' pc' Ls (.ref a :: st)) : Go K n0 kc kj Q T pc Ls (st) := by
  obtain ⟨d, rfl⟩ := d; obtain ⟨locs, S, N⟩ := X.sd; have hR := X.rmE
  obtain ⟨T', h', S', e', E', A', D', -, st'⟩ := newO S X.ex X.wZ X.ow w1 w2 w3 X.hp (g := mkF K.m pc Ls st) rfl (X.dec d) (by rw [hR]; exact hr.1) (by rw [hR]; exact hr.2)
  exact o_go (fun t k => st' t k) (g T' h' h.size rfl (X.mk' S' N e') E' A' D')
/-- an array, by all its values -/
def AL (Z : State) (h : Heap) (a : Addr) (ty : FieldType) (vs : List Value) : Prop := ∃ c : Cell, Arr Z h a c ty ∧ c.slots = vs.toArray ∧ vs.length < 2 ^ 31
theorem AL.lt {a : Addr} {ty : FieldType} {vs : List Value} (A : AL Z h a ty vs) : a < h.size := by obtain ⟨c, q, -⟩ := A; exact q.lt
theorem AL.ext {h' : Heap} {a : Addr} {ty : FieldType} {vs : List Value} (A : AL Z h a ty vs) (E : Ext h h') : AL Z h' a ty vs := by obtain ⟨c, q, r⟩ := A; exact ⟨c, q.ext E, r⟩
theorem AL.other {h' : Heap} {a a' : Addr} {sl : Nat} {v : Value} {ty : FieldType} {vs : List Value} (A : AL Z h a ty vs) (W : Wr h h' a' sl v) (ne : a ≠ a') : AL Z h' a ty vs := by obtain ⟨c, q, r⟩ := A; exact ⟨c, q.other W ne, r⟩
theorem AL.keep {h' : Heap} {a : Addr} {ws : List Addr} {ty : FieldType} {vs : List Value} (A : AL Z h a ty vs) (Kp : Keep h h' ws) (q : a ∉ ws) : AL Z h' a ty vs := by obtain ⟨c, A1, r⟩ := A; exact ⟨c, ⟨Kp.2.1 a c A1.1 q, A1.2⟩, r⟩
theorem AL.set {h' : Heap} {a : Addr} {sl : Nat} {v : Value} {ty : FieldType} {vs : List Value} (A : AL Z h a ty vs) (W : Wr h h' a sl v) : AL Z h' a ty (vs.set sl v) := by
  obtain ⟨c, q, r, s⟩ := A
  exact ⟨_, q.same W, by simp [Cell.setSlot, r], by simpa using s⟩
theorem AL.inb {a : Addr} {ty : FieldType} {vs : List Value} {i : Int32} {c : Cell} (r : c.slots = vs.toArray) (hi : ¬ i < 0) (hl : i.toNatClampNeg < vs.length) : ¬ (i < 0 ∨ c.slots.size ≤ i.toNatClampNeg) := by
  rw [r]; rintro (q | q)
  · exact hi q
  · simp at q; omega
theorem o_arraylength (X : St K Z own b mx ret rm n0 k j T h) {a : Addr} {ty : FieldType} {vs : List Value} (n : Int32) (d : Isn b pc .arraylength 1 pc') (A : AL Z h a ty vs) (hn : vs.length.toInt32 = n) (g : Go K n0 kc kj Q T pc' Ls (.int n :: rest)) : Go K n0 kc kj Q T pc Ls (.ref a :: rest) := by
  obtain ⟨d, rfl⟩ := d; obtain ⟨locs, S, N⟩ := X.sd; obtain ⟨c, q, r, s⟩ := A
  have e : c.slots.size.toInt32 = n := by rw [r, ← hn]; simp
  exact o_go (fun t k => S.arraylength X.ex (cell := c) (by rw [X.hp]; exact q.1) (State.isArrayOf_alike X.wZ.alike q.2.1) (g := mkF K.m pc Ls (.ref a :: rest)) rfl (rest := rest) rfl (X.dec d) t (by rw [e]; exact k)) g
theorem o_iaload (X : St K Z own b mx ret rm n0 k j T h) {a : Addr} {vs : List Value} {i : Int32} {v : Int32} (d : Isn b pc .iaload 1 pc') (A : AL Z h a .int vs) (hi : ¬ i < 0) (hv : vs[i.toNatClampNeg]? = some (.int v)) (g : Go K n0 kc kj Q T pc' Ls (.int v :: rest)) : Go K n0 kc kj Q T pc Ls (.int i :: .ref a :: rest) := by
  obtain ⟨d, rfl⟩ := d; obtain ⟨locs, S, N⟩ := X.sd; obtain ⟨c, q, r, s⟩ := A
  have hl : i.toNatClampNeg < vs.length := (List.getElem?_eq_some_iff.mp hv).1
  exact o_go (fun t k => S.iaload X.ex (j := i) (v := .int v) (by rw [X.hp]; exact q.1) (State.isArrayOf_alike X.wZ.alike q.2.1) q.2.2 (AL.inb (a := a) (ty := .int) r hi hl) (by rw [r]; simpa using hv) (g := mkF K.m pc Ls (.int i :: .ref a :: rest)) rfl rfl (X.dec d) t k) g
theorem o_laload (X : St K Z own b mx ret rm n0 k j T h) {a : Addr} {vs : List Value} {i : Int32} {v : Int64} (d : Isn b pc .laload 1 pc') (A : AL Z h a .long vs) (hi : ¬ i < 0) (hv : vs[i.toNatClampNeg]? = some (.long v)) (g : Go K n0 kc kj Q T pc' Ls (.long v :: rest)) : Go K n0 kc kj Q T pc Ls (.int i :: .ref a :: rest) := by
  obtain ⟨d, rfl⟩ := d; obtain ⟨locs, S, N⟩ := X.sd; obtain ⟨c, q, r, s⟩ := A
  have hl : i.toNatClampNeg < vs.length := (List.getElem?_eq_some_iff.mp hv).1
  exact o_go (fun t k => S.laload X.ex (j := i) (v := .long v) (by rw [X.hp]; exact q.1) (State.isArrayOf_alike X.wZ.alike q.2.1) q.2.2 (AL.inb (a := a) (ty := .long) r hi hl) (by rw [r]; simpa using hv) (g := mkF K.m pc Ls (.int i :: .ref a :: rest)) rfl rfl (X.dec d) t k) g
theorem o_caload (X : St K Z own b mx ret rm n0 k j T h) {a : Addr} {vs : List Value} {i : Int32} {v : Int32} (d : Isn b pc .caload 1 pc') (A : AL Z h a .char vs) (hi : ¬ i < 0) (hv : vs[i.toNatClampNeg]? = some (.int v)) (g : Go K n0 kc kj Q T pc' Ls (.int v :: rest)) : Go K n0 kc kj Q T pc Ls (.int i :: .ref a :: rest) := by
  obtain ⟨d, rfl⟩ := d; obtain ⟨locs, S, N⟩ := X.sd; obtain ⟨c, q, r, s⟩ := A
  have hl : i.toNatClampNeg < vs.length := (List.getElem?_eq_some_iff.mp hv).1
  exact o_go (fun t k => S.caload X.ex (j := i) (v := .int v) (by rw [X.hp]; exact q.1) (State.isArrayOf_alike X.wZ.alike q.2.1) q.2.2 (AL.inb (a := a) (ty := .char) r hi hl) (by rw [r]; simpa using hv) (g := mkF K.m pc Ls (.int i :: .ref a :: rest)) rfl rfl (X.dec d) t k) g
theorem o_baload (X : St K Z own b mx ret rm n0 k j T h) {a : Addr} {vs : List Value} {i : Int32} {v : Int32} (d : Isn b pc .baload 1 pc') (A : AL Z h a .byte vs) (hi : ¬ i < 0) (hv : vs[i.toNatClampNeg]? = some (.int v)) (g : Go K n0 kc kj Q T pc' Ls (.int v :: rest)) : Go K n0 kc kj Q T pc Ls (.int i :: .ref a :: rest) := by
  obtain ⟨d, rfl⟩ := d; obtain ⟨locs, S, N⟩ := X.sd; obtain ⟨c, q, r, s⟩ := A
  have hl : i.toNatClampNeg < vs.length := (List.getElem?_eq_some_iff.mp hv).1
  exact o_go (fun t k => S.baloadBytes X.ex (j := i) (v := .int v) (by rw [X.hp]; exact q.1) (State.isArrayOf_alike X.wZ.alike q.2.1) q.2.2 (AL.inb (a := a) (ty := .byte) r hi hl) (by rw [r]; simpa using hv) (g := mkF K.m pc Ls (.int i :: .ref a :: rest)) rfl rfl (X.dec d) t k) g
theorem o_iastore (X : St K Z own b mx ret rm n0 k j T h) {a : Addr} {vs vs' : List Value} {i : Int32} {v : Int32} (d : Isn b pc .iastore 1 pc') (A : AL Z h a .int vs) (hi : ¬ i < 0) (hl : i.toNatClampNeg < vs.length) (ha : n0 ≤ a) (hv : vs.set i.toNatClampNeg (.int v) = vs')
    (g : ∀ T' h', St K Z own b mx ret rm n0 k j T' h' → Wr h h' a i.toNatClampNeg (.int v) → AL Z h' a .int vs' → Go K n0 kc kj Q T' pc' Ls (rest)) : Go K n0 kc kj Q T pc Ls (.int v :: .int i :: .ref a :: rest) := by
  obtain ⟨d, rfl⟩ := d; obtain ⟨locs, S, N⟩ := X.sd; obtain ⟨c, q, r, s⟩ := A
  obtain ⟨T', h', S', e', W', st'⟩ := stI S X.ex X.wZ X.hp q (j := i) (x := v) (AL.inb (a := a) (ty := .int) r hi hl) (g := mkF K.m pc Ls (.int v :: .int i :: .ref a :: rest)) rfl rfl (X.dec d)
  exact o_go (fun t k => st' t k) (g T' h' (X.mk' S' (Fr.snoc S' N ha) e') W' (hv ▸ AL.set ⟨c, q, r, s⟩ W'))
theorem o_lastore (X : St K Z own b mx ret rm n0 k j T h) {a : Addr} {vs vs' : List Value} {i : Int32} {v : Int64} (d : Isn b pc .lastore 1 pc') (A : AL Z h a .long vs) (hi : ¬ i < 0) (hl : i.toNatClampNeg < vs.length) (ha : n0 ≤ a) (hv : vs.set i.toNatClampNeg (.long v) = vs')
    (g : ∀ T' h', St K Z own b mx ret rm n0 k j T' h' → Wr h h' a i.toNatClampNeg (.long v) → AL Z h' a .long vs' → Go K n0 kc kj Q T' pc' Ls (rest)) : Go K n0 kc kj Q T pc Ls (.long v :: .int i :: .ref a :: rest) := by
  obtain ⟨d, rfl⟩ := d; obtain ⟨locs, S, N⟩ := X.sd; obtain ⟨c, q, r, s⟩ := A
  obtain ⟨T', h', S', e', W', st'⟩ := stJ S X.ex X.wZ X.hp q (j := i) (x := v) (AL.inb (a := a) (ty := .long) r hi hl) (g := mkF K.m pc Ls (.long v :: .int i :: .ref a :: rest)) rfl rfl (X.dec d)
  exact o_go (fun t k => st' t k) (g T' h' (X.mk' S' (Fr.snoc S' N ha) e') W' (hv ▸ AL.set ⟨c, q, r, s⟩ W'))
theorem o_castore (X : St K Z own b mx ret rm n0 k j T h) {a : Addr} {vs vs' : List Value} {i : Int32} {v : Int32} (d : Isn b pc .castore 1 pc') (A : AL Z h a .char vs) (hi : ¬ i < 0) (hl : i.toNatClampNeg < vs.length) (ha : n0 ≤ a) (hv : vs.set i.toNatClampNeg (.int (nar .char v)) = vs')
    (g : ∀ T' h', St K Z own b mx ret rm n0 k j T' h' → Wr h h' a i.toNatClampNeg (.int (nar .char v)) → AL Z h' a .char vs' → Go K n0 kc kj Q T' pc' Ls (rest)) : Go K n0 kc kj Q T pc Ls (.int v :: .int i :: .ref a :: rest) := by
  obtain ⟨d, rfl⟩ := d; obtain ⟨locs, S, N⟩ := X.sd; obtain ⟨c, q, r, s⟩ := A
  obtain ⟨T', h', S', e', W', st'⟩ := stC S X.ex X.wZ X.hp q (j := i) (x := v) (AL.inb (a := a) (ty := .char) r hi hl) (g := mkF K.m pc Ls (.int v :: .int i :: .ref a :: rest)) rfl rfl (X.dec d)
  exact o_go (fun t k => st' t k) (g T' h' (X.mk' S' (Fr.snoc S' N ha) e') W' (hv ▸ AL.set ⟨c, q, r, s⟩ W'))
theorem o_bastore (X : St K Z own b mx ret rm n0 k j T h) {a : Addr} {vs vs' : List Value} {i : Int32} {v : Int32} (d : Isn b pc .bastore 1 pc') (A : AL Z h a .byte vs) (hi : ¬ i < 0) (hl : i.toNatClampNeg < vs.length) (ha : n0 ≤ a) (hv : vs.set i.toNatClampNeg (.int (nar .byte v)) = vs')
    (g : ∀ T' h', St K Z own b mx ret rm n0 k j T' h' → Wr h h' a i.toNatClampNeg (.int (nar .byte v)) → AL Z h' a .byte vs' → Go K n0 kc kj Q T' pc' Ls (rest)) : Go K n0 kc kj Q T pc Ls (.int v :: .int i :: .ref a :: rest) := by
  obtain ⟨d, rfl⟩ := d; obtain ⟨locs, S, N⟩ := X.sd; obtain ⟨c, q, r, s⟩ := A
  obtain ⟨T', h', S', e', W', st'⟩ := stB S X.ex X.wZ X.hp q (j := i) (x := v) (AL.inb (a := a) (ty := .byte) r hi hl) (g := mkF K.m pc Ls (.int v :: .int i :: .ref a :: rest)) rfl rfl (X.dec d)
  exact o_go (fun t k => st' t k) (g T' h' (X.mk' S' (Fr.snoc S' N ha) e') W' (hv ▸ AL.set ⟨c, q, r, s⟩ W'))
theorem o_newarray (X : St K Z own b mx ret rm n0 k j T h) (cap : Nat) {aty : ArrayType} {n : Int32} {vs : List Value} (d : Isn b pc (.newarray aty) 2 pc') (wd : (Jvm.Cond.arrayClass (newarray.typeOf aty)).before a0 Z = true) (hn : ¬ n < 0) (hcap : n.toNatClampNeg ≤ cap) (hvs : List.replicate n.toNatClampNeg (defaultValue (newarray.typeOf aty)) = vs) (hr : cap * 8 ≤ 536870912 ∧ k + 1 ≤ rm.cells ∧ j + cap ≤ rm.slots)
    (g : ∀ T' h' a, a = h.size → St K Z own b mx ret rm n0 (k + 1) (j + cap) T' h' → Ext h h' → AL Z h' a (newarray.typeOf aty) vs → Go K n0 kc kj Q T' pc' Ls (.ref a :: rest)) : Go K n0 kc kj Q T pc Ls (.int n :: rest) := by
  obtain ⟨d, rfl⟩ := d; obtain ⟨locs, S, N⟩ := X.sd; have hR := X.rmE
  obtain ⟨T', h', cA, S', e', E', A', st'⟩ := newP S X.ex X.wZ wd X.hp (g := mkF K.m pc Ls (.int n :: rest)) rfl (X.dec d) rfl hn hcap hr.1 (by rw [hR]; exact hr.2.1) (by rw [hR]; exact hr.2.2)
  refine o_go (fun t k => st' t k) (g T' h' h.size rfl (X.mk' S' N e') E' ⟨_, A', ?_, ?_⟩)
  · rw [← hvs]; simp [newA]
  · rw [← hvs]; simp; have := (back32 hn).2; omega
/-- the array at a takes objects of class C -/
def AO (Z : State) (h : Heap) (a : Addr) (C : String) : Prop := ∃ c : Cell, h[a]? = some c ∧ Ovr Z c.cls C
theorem AO.ext {h' : Heap} {a : Addr} {C : String} (A : AO Z h a C) (E : Ext h h') : AO Z h' a C := by obtain ⟨c, q, r⟩ := A; exact ⟨c, E.2 _ _ q, r⟩
theorem AO.wr {h' : Heap} {a a' : Addr} {C : String} {sl : Nat} {v : Value} (A : AO Z h a C) (W : Wr h h' a' sl v) : AO Z h' a C := by
  obtain ⟨c, q, r⟩ := A; obtain ⟨c', q1, q2, -⟩ := wr_at W q; exact ⟨c', q1, by rw [q2]; exact r⟩
theorem o_anewarray (X : St K Z own b mx ret rm n0 k j T h) (cap : Nat) {i : Nat} {C' : String} {n : Int32} {vs : List Value} (d : Isn b pc (.anewarray i) 3 pc') (w1 : (Jvm.Cond.classLink own i C').before a0 Z = true) (w2 : (Jvm.Cond.arrayOver (.object C')).before a0 Z = true) (hn : ¬ n < 0) (hcap : n.toNatClampNeg ≤ cap) (hvs : List.replicate n.toNatClampNeg Value.null = vs) (hr : cap * 8 ≤ 536870912 ∧ k + 1 ≤ rm.cells ∧ j + cap ≤ rm.slots)
    (g : ∀ T' h' a, a = h.size → St K Z own b mx ret rm n0 (k + 1) (j + cap) T' h' → Ext h h' → AL Z h' a (.object C') vs → AO Z h' a C' → Go K n0 kc kj Q T' pc' Ls (.ref a :: rest)) : Go K n0 kc kj Q T pc Ls (.int n :: rest) := by
  obtain ⟨d, rfl⟩ := d; obtain ⟨locs, S, N⟩ := X.sd; have hR := X.rmE
  obtain ⟨T', h', cA, S', e', E', A', O', st'⟩ := newR S X.ex X.wZ X.ow w1 w2 X.hp (g := mkF K.m pc Ls (.int n :: rest)) rfl (X.dec d) rfl hn hcap hr.1 (by rw [hR]; exact hr.2.1) (by rw [hR]; exact hr.2.2)
  refine o_go (fun t k => st' t k) (g T' h' h.size rfl (X.mk' S' N e') E' ⟨_, A', ?_, ?_⟩ ⟨_, A'.1, O'⟩)
  · rw [← hvs]; simp [newA, defaultValue]
  · rw [← hvs]; simp; have := (back32 hn).2; omega
theorem o_aaload (X : St K Z own b mx ret rm n0 k j T h) {a : Addr} {ty : FieldType} {vs : List Value} {i : Int32} {v : Value} (hty : ty.isReference = true) (d : Isn b pc .aaload 1 pc') (A : AL Z h a ty vs) (hi : ¬ i < 0) (hv : vs[i.toNatClampNeg]? = some v) (g : Go K n0 kc kj Q T pc' Ls (v :: rest)) : Go K n0 kc kj Q T pc Ls (.int i :: .ref a :: rest) := by
  obtain ⟨d, rfl⟩ := d; obtain ⟨locs, S, N⟩ := X.sd; obtain ⟨c, q, r, s⟩ := A
  have hl : i.toNatClampNeg < vs.length := (List.getElem?_eq_some_iff.mp hv).1
  exact o_go (fun t k => S.aaload X.ex (j := i) (v := v) (by rw [X.hp]; exact q.1) (State.isArrayOf_alike X.wZ.alike q.2.1) hty q.2.2 (AL.inb (a := a) (ty := ty) r hi hl) (by rw [r]; simpa using hv) (g := mkF K.m pc Ls (.int i :: .ref a :: rest)) rfl rfl (X.dec d) t k) g
theorem o_aastore (X : St K Z own b mx ret rm n0 k j T h) {a y : Addr} {C' : String} {vs vs' : List Value} {i : Int32} (d : Isn b pc .aastore 1 pc') (A : AL Z h a (.object C') vs) (O : AO Z h a C') (I : Jvm.RoadKit.Ins Z h y C' true) (hi : ¬ i < 0) (hl : i.toNatClampNeg < vs.length) (ha : n0 ≤ a) (hv : vs.set i.toNatClampNeg (.ref y) = vs')
    (g : ∀ T' h', St K Z own b mx ret rm n0 k j T' h' → Wr h h' a i.toNatClampNeg (.ref y) → AL Z h' a (.object C') vs' → Go K n0 kc kj Q T' pc' Ls (rest)) : Go K n0 kc kj Q T pc Ls (.ref y :: .int i :: .ref a :: rest) := by
  obtain ⟨d, rfl⟩ := d; obtain ⟨locs, S, N⟩ := X.sd; obtain ⟨c, q, r, s⟩ := A
  obtain ⟨c2, q2, r2⟩ := O
  have hO : Ovr Z c.cls C' := by cases q.1.symm.trans q2; exact r2
  obtain ⟨T', h', S', e', W', st'⟩ := stR S X.ex X.wZ X.hp q (j := i) (v := .ref y) (AL.inb (a := a) (ty := .object C') r hi hl) rfl (Sto.of q hO I) (g := mkF K.m pc Ls (.ref y :: .int i :: .ref a :: rest)) rfl rfl (X.dec d)
  exact o_go (fun t k => st' t k) (g T' h' (X.mk' S' (Fr.snoc S' N ha) e') W' (hv ▸ AL.set ⟨c, q, r, s⟩ W'))
/-- an array of ints, booleans, bytes or chars, by a function of the place -/
def AN (Z : State) (h : Heap) (a : Addr) (ty : FieldType) (n : Nat) (f : Nat → Int32) : Prop := ∃ c : Cell, Arr Z h a c ty ∧ c.slots.size = n ∧ n < 2 ^ 31 ∧ ∀ i, i < n → c.slots[i]? = some (.int (f i))
theorem AN.lt {a : Addr} {ty : FieldType} {n : Nat} {f : Nat → Int32} (A : AN Z h a ty n f) : a < h.size := by obtain ⟨c, q, -⟩ := A; exact q.lt
theorem AN.ext {h' : Heap} {a : Addr} {ty : FieldType} {n : Nat} {f : Nat → Int32} (A : AN Z h a ty n f) (E : Ext h h') : AN Z h' a ty n f := by obtain ⟨c, q, r⟩ := A; exact ⟨c, q.ext E, r⟩
theorem AN.other {h' : Heap} {a a' : Addr} {sl : Nat} {v : Value} {ty : FieldType} {n : Nat} {f : Nat → Int32} (A : AN Z h a ty n f) (W : Wr h h' a' sl v) (ne : a ≠ a') : AN Z h' a ty n f := by obtain ⟨c, q, r⟩ := A; exact ⟨c, q.other W ne, r⟩
theorem AN.keep {h' : Heap} {a : Addr} {ws : List Addr} {ty : FieldType} {n : Nat} {f : Nat → Int32} (A : AN Z h a ty n f) (Kp : Keep h h' ws) (q : a ∉ ws) : AN Z h' a ty n f := by obtain ⟨c, A1, r⟩ := A; exact ⟨c, ⟨Kp.2.1 a c A1.1 q, A1.2⟩, r⟩
theorem AN.set {h' : Heap} {a : Addr} {sl : Nat} {v : Int32} {ty : FieldType} {n : Nat} {f : Nat → Int32} (A : AN Z h a ty n f) (W : Wr h h' a sl (.int v)) : AN Z h' a ty n (fun i => if i = sl then v else f i) := by
  obtain ⟨c, q, r, s, t⟩ := A
  refine ⟨_, q.same W, by simpa [Cell.setSlot] using r, s, fun i hi => ?_⟩
  have e := t i hi
  by_cases p : i = sl
  · subst p; have : i < c.slots.size := r ▸ hi
    simp [Cell.setSlot, this]
  · have p' : ¬ sl = i := fun q => p q.symm
    simp [Cell.setSlot, Array.getElem?_setIfInBounds, p, p', e]
theorem AN.inb {n : Nat} {i : Int32} {c : Cell} (r : c.slots.size = n) (hi : ¬ i < 0) (hl : i.toNatClampNeg < n) : ¬ (i < 0 ∨ c.slots.size ≤ i.toNatClampNeg) := by
  rw [r]; rintro (q | q)
  · exact hi q
  · omega
theorem o_alenN (X : St K Z own b mx ret rm n0 k j T h) {a : Addr} {ty : FieldType} {n : Nat} {f : Nat → Int32} (z : Int32) (d : Isn b pc .arraylength 1 pc') (A : AN Z h a ty n f) (hn : n.toInt32 = z) (g : Go K n0 kc kj Q T pc' Ls (.int z :: rest)) : Go K n0 kc kj Q T pc Ls (.ref a :: rest) := by
  obtain ⟨d, rfl⟩ := d; obtain ⟨locs, S, N⟩ := X.sd; obtain ⟨c, q, r, s⟩ := A
  have e : c.slots.size.toInt32 = z := by rw [r, ← hn]
  exact o_go (fun t k => S.arraylength X.ex (cell := c) (by rw [X.hp]; exact q.1) (State.isArrayOf_alike X.wZ.alike q.2.1) (g := mkF K.m pc Ls (.ref a :: rest)) rfl (rest := rest) rfl (X.dec d) t (by rw [e]; exact k)) g

theorem o_ialoadN (X : St K Z own b mx ret rm n0 k j T h) {a : Addr} {n : Nat} {f : Nat → Int32} {i : Int32} (d : Isn b pc .iaload 1 pc') (A : AN Z h a .int n f) (hi : ¬ i < 0) (hl : i.toNatClampNeg < n) (g : Go K n0 kc kj Q T pc' Ls (.int (f i.toNatClampNeg) :: rest)) : Go K n0 kc kj Q T pc Ls (.int i :: .ref a :: rest) := by
  obtain ⟨d, rfl⟩ := d; obtain ⟨locs, S, N⟩ := X.sd; obtain ⟨c, q, r, s, t⟩ := A
  exact o_go (fun t' k => S.iaload X.ex (j := i) (v := .int (f i.toNatClampNeg)) (by rw [X.hp]; exact q.1) (State.isArrayOf_alike X.wZ.alike q.2.1) q.2.2 (AN.inb r hi hl) (t _ hl) (g := mkF K.m pc Ls (.int i :: .ref a :: rest)) rfl rfl (X.dec d) t' k) g
theorem o_caloadN (X : St K Z own b mx ret rm n0 k j T h) {a : Addr} {n : Nat} {f : Nat → Int32} {i : Int32} (d : Isn b pc .caload 1 pc') (A : AN Z h a .char n f) (hi : ¬ i < 0) (hl : i.toNatClampNeg < n) (g : Go K n0 kc kj Q T pc' Ls (.int (f i.toNatClampNeg) :: rest)) : Go K n0 kc kj Q T pc Ls (.int i :: .ref a :: rest) := by
  obtain ⟨d, rfl⟩ := d; obtain ⟨locs, S, N⟩ := X.sd; obtain ⟨c, q, r, s, t⟩ := A
  exact o_go (fun t' k => S.caload X.ex (j := i) (v := .int (f i.toNatClampNeg)) (by rw [X.hp]; exact q.1) (State.isArrayOf_alike X.wZ.alike q.2.1) q.2.2 (AN.inb r hi hl) (t _ hl) (g := mkF K.m pc Ls (.int i :: .ref a :: rest)) rfl rfl (X.dec d) t' k) g
theorem o_baloadN (X : St K Z own b mx ret rm n0 k j T h) {a : Addr} {n : Nat} {f : Nat → Int32} {i : Int32} (d : Isn b pc .baload 1 pc') (A : AN Z h a .byte n f) (hi : ¬ i < 0) (hl : i.toNatClampNeg < n) (g : Go K n0 kc kj Q T pc' Ls (.int (f i.toNatClampNeg) :: rest)) : Go K n0 kc kj Q T pc Ls (.int i :: .ref a :: rest) := by
  obtain ⟨d, rfl⟩ := d; obtain ⟨locs, S, N⟩ := X.sd; obtain ⟨c, q, r, s, t⟩ := A
  exact o_go (fun t' k => S.baloadBytes X.ex (j := i) (v := .int (f i.toNatClampNeg)) (by rw [X.hp]; exact q.1) (State.isArrayOf_alike X.wZ.alike q.2.1) q.2.2 (AN.inb r hi hl) (t _ hl) (g := mkF K.m pc Ls (.int i :: .ref a :: rest)) rfl rfl (X.dec d) t' k) g
theorem o_zaloadN (X : St K Z own b mx ret rm n0 k j T h) {a : Addr} {n : Nat} {f : Nat → Int32} {i : Int32} (d : Isn b pc .baload 1 pc') (A : AN Z h a .boolean n f) (hi : ¬ i < 0) (hl : i.toNatClampNeg < n) (g : Go K n0 kc kj Q T pc' Ls (.int (f i.toNatClampNeg) :: rest)) : Go K n0 kc kj Q T pc Ls (.int i :: .ref a :: rest) := by
  obtain ⟨d, rfl⟩ := d; obtain ⟨locs, S, N⟩ := X.sd; obtain ⟨c, q, r, s, t⟩ := A
  exact o_go (fun t' k => S.baloadBooleans X.ex (j := i) (v := .int (f i.toNatClampNeg)) (by rw [X.hp]; exact q.1) (State.isArrayOf_alike X.wZ.alike q.2.1) q.2.2 (AN.inb r hi hl) (t _ hl) (g := mkF K.m pc Ls (.int i :: .ref a :: rest)) rfl rfl (X.dec d) t' k) g
theorem o_iastoreN (X : St K Z own b mx ret rm n0 k j T h) {a : Addr} {n : Nat} {f : Nat → Int32} {i v : Int32} (d : Isn b pc .iastore 1 pc') (A : AN Z h a .int n f) (hi : ¬ i < 0) (hl : i.toNatClampNeg < n) (ha : n0 ≤ a)
    (g : ∀ T' h', St K Z own b mx ret rm n0 k j T' h' → Wr h h' a i.toNatClampNeg (.int (v)) → AN Z h' a .int n (fun q => if q = i.toNatClampNeg then v else f q) → Go K n0 kc kj Q T' pc' Ls (rest)) : Go K n0 kc kj Q T pc Ls (.int v :: .int i :: .ref a :: rest) := by
  obtain ⟨d, rfl⟩ := d; obtain ⟨locs, S, N⟩ := X.sd; have A0 := A; obtain ⟨c, q, r, s⟩ := A
  obtain ⟨T', h', S', e', W', st'⟩ := stI S X.ex X.wZ X.hp q (j := i) (x := v) (AN.inb r hi hl) (g := mkF K.m pc Ls (.int v :: .int i :: .ref a :: rest)) rfl rfl (X.dec d)
  exact o_go (fun t k => st' t k) (g T' h' (X.mk' S' (Fr.snoc S' N ha) e') W' (A0.set W'))
theorem o_castoreN (X : St K Z own b mx ret rm n0 k j T h) {a : Addr} {n : Nat} {f : Nat → Int32} {i v : Int32} (d : Isn b pc .castore 1 pc') (A : AN Z h a .char n f) (hi : ¬ i < 0) (hl : i.toNatClampNeg < n) (ha : n0 ≤ a)
    (g : ∀ T' h', St K Z own b mx ret rm n0 k j T' h' → Wr h h' a i.toNatClampNeg (.int (nar .char v)) → AN Z h' a .char n (fun q => if q = i.toNatClampNeg then nar .char v else f q) → Go K n0 kc kj Q T' pc' Ls (rest)) : Go K n0 kc kj Q T pc Ls (.int v :: .int i :: .ref a :: rest) := by
  obtain ⟨d, rfl⟩ := d; obtain ⟨locs, S, N⟩ := X.sd; have A0 := A; obtain ⟨c, q, r, s⟩ := A
  obtain ⟨T', h', S', e', W', st'⟩ := stC S X.ex X.wZ X.hp q (j := i) (x := v) (AN.inb r hi hl) (g := mkF K.m pc Ls (.int v :: .int i :: .ref a :: rest)) rfl rfl (X.dec d)
  exact o_go (fun t k => st' t k) (g T' h' (X.mk' S' (Fr.snoc S' N ha) e') W' (A0.set W'))
theorem o_bastoreN (X : St K Z own b mx ret rm n0 k j T h) {a : Addr} {n : Nat} {f : Nat → Int32} {i v : Int32} (d : Isn b pc .bastore 1 pc') (A : AN Z h a .byte n f) (hi : ¬ i < 0) (hl : i.toNatClampNeg < n) (ha : n0 ≤ a)
    (g : ∀ T' h', St K Z own b mx ret rm n0 k j T' h' → Wr h h' a i.toNatClampNeg (.int (nar .byte v)) → AN Z h' a .byte n (fun q => if q = i.toNatClampNeg then nar .byte v else f q) → Go K n0 kc kj Q T' pc' Ls (rest)) : Go K n0 kc kj Q T pc Ls (.int v :: .int i :: .ref a :: rest) := by
  obtain ⟨d, rfl⟩ := d; obtain ⟨locs, S, N⟩ := X.sd; have A0 := A; obtain ⟨c, q, r, s⟩ := A
  obtain ⟨T', h', S', e', W', st'⟩ := stB S X.ex X.wZ X.hp q (j := i) (x := v) (AN.inb r hi hl) (g := mkF K.m pc Ls (.int v :: .int i :: .ref a :: rest)) rfl rfl (X.dec d)
  exact o_go (fun t k => st' t k) (g T' h' (X.mk' S' (Fr.snoc S' N ha) e') W' (A0.set W'))
theorem o_zastoreN (X : St K Z own b mx ret rm n0 k j T h) {a : Addr} {n : Nat} {f : Nat → Int32} {i v : Int32} (d : Isn b pc .bastore 1 pc') (A : AN Z h a .boolean n f) (hi : ¬ i < 0) (hl : i.toNatClampNeg < n) (ha : n0 ≤ a)
    (g : ∀ T' h', St K Z own b mx ret rm n0 k j T' h' → Wr h h' a i.toNatClampNeg (.int (nar .boolean v)) → AN Z h' a .boolean n (fun q => if q = i.toNatClampNeg then nar .boolean v else f q) → Go K n0 kc kj Q T' pc' Ls (rest)) : Go K n0 kc kj Q T pc Ls (.int v :: .int i :: .ref a :: rest) := by
  obtain ⟨d, rfl⟩ := d; obtain ⟨locs, S, N⟩ := X.sd; have A0 := A; obtain ⟨c, q, r, s⟩ := A
  obtain ⟨T', h', S', e', W', st'⟩ := stZ S X.ex X.wZ X.hp q (j := i) (x := v) (AN.inb r hi hl) (g := mkF K.m pc Ls (.int v :: .int i :: .ref a :: rest)) rfl rfl (X.dec d)
  exact o_go (fun t k => st' t k) (g T' h' (X.mk' S' (Fr.snoc S' N ha) e') W' (A0.set W'))
theorem o_newarrayN (X : St K Z own b mx ret rm n0 k j T h) (cap : Nat) {aty : ArrayType} {n : Int32} (m : Nat) (d : Isn b pc (.newarray aty) 2 pc') (wd : (Jvm.Cond.arrayClass (newarray.typeOf aty)).before a0 Z = true) (hn : ¬ n < 0) (hm : n.toNatClampNeg = m) (hcap : m ≤ cap) (hdv : defaultValue (newarray.typeOf aty) = .int 0) (hr : cap * 8 ≤ 536870912 ∧ k + 1 ≤ rm.cells ∧ j + cap ≤ rm.slots)
    (g : ∀ T' h' a, a = h.size → St K Z own b mx ret rm n0 (k + 1) (j + cap) T' h' → Ext h h' → AN Z h' a (newarray.typeOf aty) m (fun _ => 0) → Go K n0 kc kj Q T' pc' Ls (.ref a :: rest)) : Go K n0 kc kj Q T pc Ls (.int n :: rest) := by
  obtain ⟨d, rfl⟩ := d; obtain ⟨locs, S, N⟩ := X.sd; have hR := X.rmE
  obtain ⟨T', h', cA, S', e', E', A', st'⟩ := newP S X.ex X.wZ wd X.hp (g := mkF K.m pc Ls (.int n :: rest)) rfl (X.dec d) rfl hn (hm ▸ hcap) hr.1 (by rw [hR]; exact hr.2.1) (by rw [hR]; exact hr.2.2)
  refine o_go (fun t k => st' t k) (g T' h' h.size rfl (X.mk' S' N e') E' ⟨_, A', ?_, ?_, fun i hi => ?_⟩)
  · simpa [newA] using hm
  · have := (back32 hn).2; omega
  · simp [newA, hm, hi, hdv]
/-- a long array, by a function of the place -/
def LN (Z : State) (h : Heap) (a : Addr) (n : Nat) (f : Nat → Int64) : Prop := ∃ c : Cell, Arr Z h a c .long ∧ c.slots.size = n ∧ n < 2 ^ 31 ∧ ∀ i, i < n → c.slots[i]? = some (.long (f i))
theorem LN.lt {a : Addr} {n : Nat} {f : Nat → Int64} (A : LN Z h a n f) : a < h.size := by obtain ⟨c, q, -⟩ := A; exact q.lt
theorem LN.ext {h' : Heap} {a : Addr} {n : Nat} {f : Nat → Int64} (A : LN Z h a n f) (E : Ext h h') : LN Z h' a n f := by obtain ⟨c, q, r⟩ := A; exact ⟨c, q.ext E, r⟩
theorem LN.other {h' : Heap} {a a' : Addr} {sl : Nat} {v : Value} {n : Nat} {f : Nat → Int64} (A : LN Z h a n f) (W : Wr h h' a' sl v) (ne : a ≠ a') : LN Z h' a n f := by obtain ⟨c, q, r⟩ := A; exact ⟨c, q.other W ne, r⟩
theorem LN.set {h' : Heap} {a : Addr} {sl : Nat} {v : Int64} {n : Nat} {f : Nat → Int64} (A : LN Z h a n f) (W : Wr h h' a sl (.long v)) : LN Z h' a n (fun i => if i = sl then v else f i) := by
  obtain ⟨c, q, r, s, t⟩ := A
  refine ⟨_, q.same W, by simpa [Cell.setSlot] using r, s, fun i hi => ?_⟩
  have e := t i hi
  by_cases p : i = sl
  · subst p; have : i < c.slots.size := r ▸ hi
    simp [Cell.setSlot, this]
  · have p' : ¬ sl = i := fun q => p q.symm
    simp [Cell.setSlot, Array.getElem?_setIfInBounds, p, p', e]
theorem o_alenL (X : St K Z own b mx ret rm n0 k j T h) {a : Addr} {n : Nat} {f : Nat → Int64} (z : Int32) (d : Isn b pc .arraylength 1 pc') (A : LN Z h a n f) (hn : n.toInt32 = z) (g : Go K n0 kc kj Q T pc' Ls (.int z :: rest)) : Go K n0 kc kj Q T pc Ls (.ref a :: rest) := by
  obtain ⟨d, rfl⟩ := d; obtain ⟨locs, S, N⟩ := X.sd; obtain ⟨c, q, r, s⟩ := A
  have e : c.slots.size.toInt32 = z := by rw [r, ← hn]
  exact o_go (fun t k => S.arraylength X.ex (cell := c) (by rw [X.hp]; exact q.1) (State.isArrayOf_alike X.wZ.alike q.2.1) (g := mkF K.m pc Ls (.ref a :: rest)) rfl (rest := rest) rfl (X.dec d) t (by rw [e]; exact k)) g
theorem o_laloadN (X : St K Z own b mx ret rm n0 k j T h) {a : Addr} {n : Nat} {f : Nat → Int64} {i : Int32} (d : Isn b pc .laload 1 pc') (A : LN Z h a n f) (hi : ¬ i < 0) (hl : i.toNatClampNeg < n) (g : Go K n0 kc kj Q T pc' Ls (.long (f i.toNatClampNeg) :: rest)) : Go K n0 kc kj Q T pc Ls (.int i :: .ref a :: rest) := by
  obtain ⟨d, rfl⟩ := d; obtain ⟨locs, S, N⟩ := X.sd; obtain ⟨c, q, r, s, t⟩ := A
  exact o_go (fun t' k => S.laload X.ex (j := i) (v := .long (f i.toNatClampNeg)) (by rw [X.hp]; exact q.1) (State.isArrayOf_alike X.wZ.alike q.2.1) q.2.2 (AN.inb r hi hl) (t _ hl) (g := mkF K.m pc Ls (.int i :: .ref a :: rest)) rfl rfl (X.dec d) t' k) g
theorem o_lastoreN (X : St K Z own b mx ret rm n0 k j T h) {a : Addr} {n : Nat} {f : Nat → Int64} {i : Int32} {v : Int64} (d : Isn b pc .lastore 1 pc') (A : LN Z h a n f) (hi : ¬ i < 0) (hl : i.toNatClampNeg < n) (ha : n0 ≤ a)
    (g : ∀ T' h', St K Z own b mx ret rm n0 k j T' h' → Wr h h' a i.toNatClampNeg (.long v) → LN Z h' a n (fun q => if q = i.toNatClampNeg then v else f q) → Go K n0 kc kj Q T' pc' Ls (rest)) : Go K n0 kc kj Q T pc Ls (.long v :: .int i :: .ref a :: rest) := by
  obtain ⟨d, rfl⟩ := d; obtain ⟨locs, S, N⟩ := X.sd; have A0 := A; obtain ⟨c, q, r, s⟩ := A
  obtain ⟨T', h', S', e', W', st'⟩ := stJ S X.ex X.wZ X.hp q (j := i) (x := v) (AN.inb r hi hl) (g := mkF K.m pc Ls (.long v :: .int i :: .ref a :: rest)) rfl rfl (X.dec d)
  exact o_go (fun t k => st' t k) (g T' h' (X.mk' S' (Fr.snoc S' N ha) e') W' (A0.set W'))
theorem o_newarrayL (X : St K Z own b mx ret rm n0 k j T h) (cap : Nat) {n : Int32} (m : Nat) (d : Isn b pc (.newarray .long) 2 pc') (wd : (Jvm.Cond.arrayClass .long).before a0 Z = true) (hn : ¬ n < 0) (hm : n.toNatClampNeg = m) (hcap : m ≤ cap) (hr : cap * 8 ≤ 536870912 ∧ k + 1 ≤ rm.cells ∧ j + cap ≤ rm.slots)
    (g : ∀ T' h' a, a = h.size → St K Z own b mx ret rm n0 (k + 1) (j + cap) T' h' → Ext h h' → LN Z h' a m (fun _ => 0) → Go K n0 kc kj Q T' pc' Ls (.ref a :: rest)) : Go K n0 kc kj Q T pc Ls (.int n :: rest) := by
  obtain ⟨d, rfl⟩ := d; obtain ⟨locs, S, N⟩ := X.sd; have hR := X.rmE
  obtain ⟨T', h', cA, S', e', E', A', st'⟩ := newP S X.ex X.wZ (aty := .long) wd X.hp (g := mkF K.m pc Ls (.int n :: rest)) rfl (X.dec d) rfl hn (hm ▸ hcap) hr.1 (by rw [hR]; exact hr.2.1) (by rw [hR]; exact hr.2.2)
  refine o_go (fun t k => st' t k) (g T' h' h.size rfl (X.mk' S' N e') E' ⟨_, A', ?_, ?_, fun i hi => ?_⟩)
  · simpa [newA] using hm
  · have := (back32 hn).2; omega
  · have e : defaultValue (newarray.typeOf .long) = .long 0 := rfl
    simp [newA, hm, hi, e]
/-- an object, by all the values of these fields of its class -/
def Obj (Z : State) (h : Heap) (a : Addr) (C : String) (ns : List (String × String)) (vs : List Value) : Prop := Exa Z h a C ∧ ns.length = vs.length ∧ ∀ (i : Nat) (n d : String) (v : Value), ns[i]? = some (n, d) → vs[i]? = some v → Fld Z h a C n d v
def LdAll (Z : State) (a0 : Array Value) (C : String) (ns : List (String × String)) : Prop := (ns.map Prod.fst).Nodup ∧ ∀ q ∈ ns, Laid Z a0 C C q.1 q.2 ∧ ∃ t, parseFieldDescriptor q.2 = some t
variable {h' : Heap} {a a' : Addr} {C : String} {ns : List (String × String)} {vs : List Value} {sl : Nat} {v : Value}
theorem Obj.lt (O : Obj Z h a C ns vs) : a < h.size := O.1.lt
theorem Obj.exa (O : Obj Z h a C ns vs) : Exa Z h a C := O.1
theorem Obj.ext (O : Obj Z h a C ns vs) (E : Ext h h') : Obj Z h' a C ns vs := ⟨O.1.ext E, O.2.1, fun i n d v q r => (O.2.2 i n d v q r).ext E⟩
theorem Obj.other (O : Obj Z h a C ns vs) (W : Wr h h' a' sl v) (ne : a ≠ a') : Obj Z h' a C ns vs := ⟨O.1.wr W, O.2.1, fun i n d v q r => (O.2.2 i n d v q r).other W (Or.inl ne)⟩
theorem Obj.keep {ws : List Addr} (O : Obj Z h a C ns vs) (Kp : Keep h h' ws) (ne : a ∉ ws) : Obj Z h' a C ns vs := ⟨O.1.keep Kp, O.2.1, fun i n d v q r => (O.2.2 i n d v q r).keep Kp ne⟩
theorem Obj.new (E : Exa Z h a C) (D : ∀ {O nm dd : String} {ty : FieldType}, Laid Z a0 C O nm dd → parseFieldDescriptor dd = some ty → Fld Z h a O nm dd (defaultValue ty)) (LA : LdAll Z a0 C ns) (ts : List FieldType) (ht : ns.map (fun q => parseFieldDescriptor q.2) = ts.map some) (hv : ts.map defaultValue = vs) : Obj Z h a C ns vs := by
  refine ⟨E, by rw [← hv]; simpa using congrArg List.length ht, fun i n d v q r => ?_⟩
  subst hv
  obtain ⟨t, ht1, rfl⟩ : ∃ t, ts[i]? = some t ∧ defaultValue t = v := by simpa using r
  have q2 := congrArg (fun L => L[i]?) ht
  simp [q, ht1] at q2
  exact D (LA.2 (n, d) (List.mem_of_getElem? q)).1 q2
theorem Obj.set (O : Obj Z h a C ns vs) (LA : LdAll Z a0 C ns) {n d : String} (W : Wr h h' a (Jvm.RoadKit.slotOf Z C n d) v) (i : Nat) (hi : ns[i]? = some (n, d)) : Obj Z h' a C ns (vs.set i v) := by
  refine ⟨O.1.wr W, by simpa using O.2.1, fun j n' d' v' q r => ?_⟩
  have hil : i < ns.length := (List.getElem?_eq_some_iff.mp hi).1
  by_cases e : i = j
  · subst e
    cases hi.symm.trans q
    have hiv : i < vs.length := O.2.1 ▸ hil
    obtain ⟨w, hw⟩ : ∃ w, vs[i]? = some w := ⟨_, List.getElem?_eq_getElem hiv⟩
    have : v = v' := by simpa [List.getElem?_set, hiv] using r
    subst this
    exact (O.2.2 i n d w hi hw).same W
  · have r' : vs[j]? = some v' := by rw [List.getElem?_set_ne e] at r; exact r
    refine (O.2.2 j n' d' v' q r').other W (Or.inr ?_)
    obtain ⟨l1, t1, p1⟩ := LA.2 _ (List.mem_of_getElem? q)
    obtain ⟨l2, t2, p2⟩ := LA.2 _ (List.mem_of_getElem? hi)
    refine slot_ne l1 l2 (fun eq => e ?_) p1 p2
    have hjl : j < ns.length := (List.getElem?_eq_some_iff.mp q).1
    have e1 : (ns.map Prod.fst)[i]? = some n := by simp [hi]
    have e2 : (ns.map Prod.fst)[j]? = some n' := by simp [q]
    have eq' : n' = n := eq
    subst eq'
    obtain ⟨x1, y1⟩ := List.getElem?_eq_some_iff.mp e1
    obtain ⟨x2, y2⟩ := List.getElem?_eq_some_iff.mp e2
    have P := List.pairwise_iff_getElem.mp LA.1
    rcases Nat.lt_trichotomy i j with z | z | z
    · exact absurd (y1.trans y2.symm) (P i j x1 x2 z)
    · exact z
    · exact absurd (y2.trans y1.symm) (P j i x2 x1 z)
theorem o_getO (X : St K Z own b mx ret rm n0 k j T h) {q : Nat} {n dd : String} (i : Nat) (d : Isn b pc (.getfield q) 3 pc') (wd : (Jvm.Cond.fieldLink own q C n dd).before a0 Z = true) (O : Obj Z h a C ns vs) (hi : ns[i]? = some (n, dd)) (hv : vs[i]? = some v)
    (g : ∀ T', St K Z own b mx ret rm n0 k j T' h → Go K n0 kc kj Q T' pc' Ls (v :: rest)) : Go K n0 kc kj Q T pc Ls (.ref a :: rest) := o_getF X d wd (O.2.2 i n dd v hi hv) g
theorem o_putO (X : St K Z own b mx ret rm n0 k j T h) {q kk : Nat} {n dd : String} {ty : FieldType} {vs' : List Value} (i : Nat) (d : Isn b pc (.putfield q) 3 pc') (wd : (Jvm.Cond.fieldLink own q C n dd).before a0 Z = true) (O : Obj Z h a C ns vs) (LA : LdAll Z a0 C ns) (hi : ns[i]? = some (n, dd))
    (Lf : (Jvm.Cond.lays C C n dd).before a0 Z = true ∨ ((Jvm.Cond.laysFinal C C n dd).before a0 Z = true ∧ own = C ∧ K.meth.name = "<init>")) (wi : (Jvm.Cond.instantiable C kk).before a0 Z = true) (hty : parseFieldDescriptor dd = some ty) (hn : narrow ty v = v) (hf : fits ty v = true) (ha : n0 ≤ a) (hv : vs.set i v = vs')
    (g : ∀ T' h', St K Z own b mx ret rm n0 k j T' h' → Wr h h' a (Jvm.RoadKit.slotOf Z C n dd) v → Obj Z h' a C ns vs' → Go K n0 kc kj Q T' pc' Ls (rest)) : Go K n0 kc kj Q T pc Ls (v :: .ref a :: rest) := by
  have hil : i < vs.length := O.2.1 ▸ (List.getElem?_eq_some_iff.mp hi).1
  exact o_putF X d wd (O.2.2 i n dd _ hi (List.getElem?_eq_getElem hil)) O.1 Lf wi hty hn hf ha fun T' h' X' W => g T' h' X' W (hv ▸ O.set LA W i hi)
end OwnKit
theorem pd0 : parseMethodDescriptor "([JJ)V" = some ⟨[(.array .long), .long], none⟩ := by decide +kernel
theorem pd1 : parseMethodDescriptor "(JI)V" = some ⟨[.long, .int], none⟩ := by decide +kernel
theorem pd2 : parseMethodDescriptor "()J" = some ⟨[], some .long⟩ := by decide +kernel
theorem pn0 : plainName "com/example/nodewell/nodewell/store/BitCursor" = true := by first | (simp [plainName, overriddenIn]; done) | decide +kernel
theorem pn1 : plainName "com/example/nodewell/nodewell/store/BitCursorPutPinLaw" = true := by first | (simp [plainName, overriddenIn]; done) | decide +kernel
theorem own_fin32 {x : Int32} {n : Nat} (h0 : 0 ≤ x.toInt) (h1 : x.toInt < n) (hn : n ≤ 1000) : ∃ i : Fin n, x = Int32.ofNat i.1 := by
  refine ⟨⟨x.toInt.toNat, by omega⟩, Int32.toInt_inj.mp ?_⟩
  rw [show Int32.ofNat x.toInt.toNat = x.toInt.toNat.toInt32 from rfl, len_toInt (by omega)]; omega
def own_ones (w : Int32) : Int64 := if w = 0 then 0 else XT.ushrL (-1) (64 - w)
def own_low (x : Int64) (w : Int32) : Int64 := if w = 64 then x else x &&& ((1 : Int64) <<< (w.toInt64 &&& 63) - 1)
def own_a (x : Int64) (w o : Int32) : Int64 := if w = 0 then 0 else own_low x w <<< (o.toInt64 &&& 63)
def own_b (x : Int64) (w o : Int32) : Int64 := if w = 0 then 0 else if 64 < o + w then XT.ushrL (own_low x w) (64 - o) else 0
def own_ps (ps : Int64) (w : Int32) : Int64 := if w = 0 then ps else ps + w.toInt64
def own_vB (x : Int64) (w o : Int32) : Int64 := if o = 0 then 0 else XT.ushrL (x &&& own_ones w) (64 - o)
theorem own_p (p : Int32) : (XT.ushrL (p &&& 127).toInt64 6).toInt32 = XT.ushr (p &&& 127) 6 ∧ ((p &&& 127).toInt64 &&& 63).toInt32 = (p &&& 127) &&& 63 ∧ (XT.ushr (p &&& 127) 6 = 0 ∨ XT.ushr (p &&& 127) 6 = 1) := by
  have e : (p &&& 127).toInt = p.toInt % (2 ^ 7 : Nat) := c_mask p 127 7 (by decide) (by decide)
  obtain ⟨i, hi⟩ := own_fin32 (x := p &&& 127) (n := 128) (by omega) (by omega) (by decide)
  rw [hi]
  have key : ∀ i : Fin 128, (XT.ushrL (Int32.ofNat i.1).toInt64 6).toInt32 = XT.ushr (Int32.ofNat i.1) 6 ∧ ((Int32.ofNat i.1).toInt64 &&& 63).toInt32 = (Int32.ofNat i.1) &&& 63 ∧ (XT.ushr (Int32.ofNat i.1) 6 = 0 ∨ XT.ushr (Int32.ofNat i.1) 6 = 1) := by decide +kernel
  exact key i
theorem own_w (x : Int32) : 0 ≤ ((x &&& 2147483647) % 65).toInt ∧ ((x &&& 2147483647) % 65).toInt < 65 := by
  have e : (x &&& 2147483647).toInt = x.toInt % (2 ^ 31 : Nat) := c_mask x 2147483647 31 (by decide) (by decide)
  have c : (65 : Int32).toInt = 65 := by decide
  have r := (c_iremV (x &&& 2147483647) 65).1 (by omega) (by omega)
  omega
theorem own_o (x : Int32) : 0 ≤ (x &&& 63).toInt ∧ (x &&& 63).toInt < 64 := by
  have e : (x &&& 63).toInt = x.toInt % (2 ^ 6 : Nat) := c_mask x 63 6 (by decide) (by decide)
  omega
theorem own_lowE (x : Int64) (w : Int32) (h0 : 0 ≤ w.toInt) (h1 : w.toInt < 65) (hw : w ≠ 0) : own_low x w = x &&& own_ones w := by
  obtain ⟨i, hi⟩ := own_fin32 h0 h1 (by decide)
  have key : ∀ i : Fin 65, i.1 ≠ 0 → (Int32.ofNat i.1 = 64 → own_ones (Int32.ofNat i.1) = -1) ∧ (Int32.ofNat i.1 ≠ 64 → ((1 : Int64) <<< ((Int32.ofNat i.1).toInt64 &&& 63) - 1) = own_ones (Int32.ofNat i.1)) := by decide +kernel
  have k := key i (fun q => hw (by rw [hi, q]; rfl))
  rw [← hi] at k
  unfold own_low
  split
  · rename_i q; rw [k.1 q]
    apply Int64.toBitVec_inj.mp; simp [Int64.toBitVec_and]
  · rename_i q; rw [k.2 q]
theorem own_ush (x : Int64) (y : Int32) (h0 : 0 ≤ y.toInt) (h1 : y.toInt < 64) : (XT.ushrL x y).toBitVec = x.toBitVec >>> y.toInt.toNat := by
  obtain ⟨i, hi⟩ := own_fin32 h0 h1 (by decide)
  have key : ∀ i : Fin 64, ((((Int32.ofNat i.1).toInt64.toUInt64 &&& Int64.toUInt64 63)).toBitVec % 64#64).toNat = (Int32.ofNat i.1).toInt.toNat := by decide +kernel
  have k := key i
  rw [← hi] at k
  rw [← k]
  rfl
theorem own_sub64 (y : Int32) (h0 : 0 ≤ y.toInt) (h1 : y.toInt ≤ 64) : (64 - y).toInt = 64 - y.toInt := by
  have c : (64 : Int32).toInt = 64 := by decide
  rw [XT.sub32 (by rw [c]; exact ⟨by omega, by omega⟩), c]
theorem own_andz (x m : Int64) (k : Int32) (h0 : 0 ≤ k.toInt) (h1 : k.toInt < 64) (hm : XT.ushrL m k = 0) : XT.ushrL (x &&& m) k = 0 := by
  apply Int64.toBitVec_inj.mp
  have hm' := congrArg Int64.toBitVec hm
  rw [own_ush m k h0 h1] at hm'
  rw [own_ush _ k h0 h1, Int64.toBitVec_and]
  apply BitVec.eq_of_getLsbD_eq; intro i hi
  have := congrArg (fun b => b.getLsbD i) hm'
  have this2 : m.toBitVec.getLsbD (k.toInt.toNat + i) = false := by simpa [BitVec.getLsbD_ushiftRight] using this
  rw [BitVec.getLsbD_ushiftRight, BitVec.getLsbD_and, this2]; simp
theorem own_onez (w o : Int32) (h0 : 0 ≤ w.toInt) (h1 : w.toInt < 65) (g0 : 1 ≤ o.toInt) (g1 : o.toInt < 64) (hs : o.toInt + w.toInt ≤ 64) : XT.ushrL (own_ones w) (64 - o) = 0 := by
  have eo := own_sub64 o (by omega) (by omega)
  have ew := own_sub64 w (by omega) (by omega)
  apply Int64.toBitVec_inj.mp
  rw [own_ush _ _ (by omega) (by omega)]
  unfold own_ones
  split
  · rename_i q; simp
  · rename_i q
    have : w.toInt ≠ 0 := fun z => q (Int32.toInt_inj.mp (by rw [z]; decide))
    rw [own_ush _ _ (by omega) (by omega), ← BitVec.shiftRight_add]
    rw [BitVec.ushiftRight_eq_zero (by omega)]; rfl
theorem own_aE (x : Int64) (w o : Int32) (h0 : 0 ≤ w.toInt) (h1 : w.toInt < 65) : own_a x w o = (x &&& own_ones w) <<< (o.toInt64 &&& 63) := by
  unfold own_a
  split
  · rename_i q; subst q
    have : x &&& own_ones 0 = 0 := by simp [own_ones]
    rw [this]; simp
  · rename_i q; rw [own_lowE x w h0 h1 q]
theorem own_bE (x : Int64) (w o : Int32) (h0 : 0 ≤ w.toInt) (h1 : w.toInt < 65) (g0 : 0 ≤ o.toInt) (g1 : o.toInt < 64) : own_b x w o = own_vB x w o := by
  have c : (64 : Int32).toInt = 64 := by decide
  have es : (o + w).toInt = o.toInt + w.toInt := XT.add32 ⟨by omega, by omega⟩
  have cs : 64 < o + w ↔ 64 < o.toInt + w.toInt := by rw [Int32.lt_iff_toInt_lt, es, c]
  have eo := own_sub64 o (by omega) (by omega)
  unfold own_b own_vB
  by_cases qo : o = 0
  · subst qo
    have : ¬ 64 < (0 : Int32) + w := by rw [cs]; have : (0 : Int32).toInt = 0 := by decide
                                        omega
    simp only [this, if_false, if_true, ite_self]
  · have o1 : o.toInt ≠ 0 := fun z => qo (Int32.toInt_inj.mp (by rw [z]; decide))
    rw [if_neg qo]
    by_cases qw : w = 0
    · subst qw
      have : x &&& own_ones 0 = 0 := by simp [own_ones]
      rw [if_pos rfl, this]
      apply Int64.toBitVec_inj.mp
      rw [own_ush _ _ (by omega) (by omega)]; simp
    · rw [if_neg qw]
      by_cases qs : 64 < o + w
      · rw [if_pos qs, own_lowE x w h0 h1 qw]
      · rw [if_neg qs, own_andz x _ _ (by omega) (by omega) (own_onez w o h0 h1 (by omega) g1 (by rw [cs] at qs; omega))]
theorem own_ps1 (p w : Int32) : own_ps p.toInt64 w = p.toInt64 + w.toInt64 := by
  unfold own_ps; split
  · rename_i q; subst q; exact (Int64.add_zero _).symm
  · rfl

def own_nsB : List (String × String) := [("words", "[J"), ("position", "J")]
theorem own_ldB (Z : State) (a0 : Array Value) (hw : ∀ d ∈ tables_1, d.before a0 Z = true) : LdAll Z a0 "com/example/nodewell/nodewell/store/BitCursor" own_nsB := by
  refine ⟨by decide, fun q hq => ?_⟩
  simp only [own_nsB, List.mem_cons, List.not_mem_nil, or_false] at hq
  rcases hq with rfl | rfl
  · exact ⟨Or.inr (hw _ (List.mem_of_getElem? (i := 13) rfl)), ⟨_, (by decide : parseFieldDescriptor "[J" = some (.array .long))⟩⟩
  · exact ⟨Or.inl (hw _ (List.mem_of_getElem? (i := 15) rfl)), ⟨_, (by decide : parseFieldDescriptor "J" = some .long)⟩⟩
theorem f1_0 : Isn prog_43_method_1_code 0 (.aload_n 0) 1 1 := ⟨by decide +kernel, rfl⟩
theorem f1_1 : Isn prog_43_method_1_code 1 (.invokespecial 1) 3 4 := ⟨by decide +kernel, rfl⟩
theorem f1_4 : Isn prog_43_method_1_code 4 (.aload_n 0) 1 5 := ⟨by decide +kernel, rfl⟩
theorem f1_5 : Isn prog_43_method_1_code 5 (.aload_n 1) 1 6 := ⟨by decide +kernel, rfl⟩
theorem f1_6 : Isn prog_43_method_1_code 6 (.putfield 7) 3 9 := ⟨by decide +kernel, rfl⟩
theorem f1_9 : Isn prog_43_method_1_code 9 (.aload_n 0) 1 10 := ⟨by decide +kernel, rfl⟩
theorem f1_10 : Isn prog_43_method_1_code 10 (.lload_n 2) 1 11 := ⟨by decide +kernel, rfl⟩
theorem f1_11 : Isn prog_43_method_1_code 11 (.putfield 13) 3 14 := ⟨by decide +kernel, rfl⟩
theorem f1_14 : Isn prog_43_method_1_code 14 (.return_) 1 15 := ⟨by decide +kernel, rfl⟩
theorem f3_0 : Isn prog_43_method_3_code 0 (.iload_n 3) 1 1 := ⟨by decide +kernel, rfl⟩
theorem f3_1 : Brn prog_43_method_3_code 1 (.ifCond .ne 4) 4 4 5 := ⟨by decide +kernel, rfl, by decide, by decide⟩
theorem f3_4 : Isn prog_43_method_3_code 4 (.return_) 1 5 := ⟨by decide +kernel, rfl⟩
theorem f3_5 : Isn prog_43_method_3_code 5 (.iload_n 3) 1 6 := ⟨by decide +kernel, rfl⟩
theorem f3_6 : Isn prog_43_method_3_code 6 (.bipush 64) 2 8 := ⟨by decide +kernel, rfl⟩
theorem f3_8 : Brn prog_43_method_3_code 8 (.if_icmp .ne 7) 7 11 15 := ⟨by decide +kernel, rfl, by decide, by decide⟩
theorem f3_11 : Isn prog_43_method_3_code 11 (.lload_n 1) 1 12 := ⟨by decide +kernel, rfl⟩
theorem f3_12 : Brn prog_43_method_3_code 12 (.goto 10) 10 15 22 := ⟨by decide +kernel, rfl, by decide, by decide⟩
theorem f3_15 : Isn prog_43_method_3_code 15 (.lload_n 1) 1 16 := ⟨by decide +kernel, rfl⟩
theorem f3_16 : Isn prog_43_method_3_code 16 (.lconst 1) 1 17 := ⟨by decide +kernel, rfl⟩
theorem f3_17 : Isn prog_43_method_3_code 17 (.iload_n 3) 1 18 := ⟨by decide +kernel, rfl⟩
theorem f3_18 : Isn prog_43_method_3_code 18 (.lshl) 1 19 := ⟨by decide +kernel, rfl⟩
theorem f3_19 : Isn prog_43_method_3_code 19 (.lconst 1) 1 20 := ⟨by decide +kernel, rfl⟩
theorem f3_20 : Isn prog_43_method_3_code 20 (.lsub) 1 21 := ⟨by decide +kernel, rfl⟩
theorem f3_21 : Isn prog_43_method_3_code 21 (.land) 1 22 := ⟨by decide +kernel, rfl⟩
theorem f3_22 : Isn prog_43_method_3_code 22 (.lstore 4) 2 24 := ⟨by decide +kernel, rfl⟩
theorem f3_24 : Isn prog_43_method_3_code 24 (.aload_n 0) 1 25 := ⟨by decide +kernel, rfl⟩
theorem f3_25 : Isn prog_43_method_3_code 25 (.getfield 13) 3 28 := ⟨by decide +kernel, rfl⟩
theorem f3_28 : Isn prog_43_method_3_code 28 (.bipush 6) 2 30 := ⟨by decide +kernel, rfl⟩
theorem f3_30 : Isn prog_43_method_3_code 30 (.lushr) 1 31 := ⟨by decide +kernel, rfl⟩
theorem f3_31 : Isn prog_43_method_3_code 31 (.l2i) 1 32 := ⟨by decide +kernel, rfl⟩
theorem f3_32 : Isn prog_43_method_3_code 32 (.istore 6) 2 34 := ⟨by decide +kernel, rfl⟩
theorem f3_34 : Isn prog_43_method_3_code 34 (.aload_n 0) 1 35 := ⟨by decide +kernel, rfl⟩
theorem f3_35 : Isn prog_43_method_3_code 35 (.getfield 13) 3 38 := ⟨by decide +kernel, rfl⟩
theorem f3_38 : Isn prog_43_method_3_code 38 (.ldc2_w 19) 3 41 := ⟨by decide +kernel, rfl⟩
theorem f3_41 : Isn prog_43_method_3_code 41 (.land) 1 42 := ⟨by decide +kernel, rfl⟩
theorem f3_42 : Isn prog_43_method_3_code 42 (.l2i) 1 43 := ⟨by decide +kernel, rfl⟩
theorem f3_43 : Isn prog_43_method_3_code 43 (.istore 7) 2 45 := ⟨by decide +kernel, rfl⟩
theorem f3_45 : Isn prog_43_method_3_code 45 (.aload_n 0) 1 46 := ⟨by decide +kernel, rfl⟩
theorem f3_46 : Isn prog_43_method_3_code 46 (.getfield 7) 3 49 := ⟨by decide +kernel, rfl⟩
theorem f3_49 : Isn prog_43_method_3_code 49 (.iload 6) 2 51 := ⟨by decide +kernel, rfl⟩
theorem f3_51 : Isn prog_43_method_3_code 51 (.dup2) 1 52 := ⟨by decide +kernel, rfl⟩
theorem f3_52 : Isn prog_43_method_3_code 52 (.laload) 1 53 := ⟨by decide +kernel, rfl⟩
theorem f3_53 : Isn prog_43_method_3_code 53 (.lload 4) 2 55 := ⟨by decide +kernel, rfl⟩
theorem f3_55 : Isn prog_43_method_3_code 55 (.iload 7) 2 57 := ⟨by decide +kernel, rfl⟩
theorem f3_57 : Isn prog_43_method_3_code 57 (.lshl) 1 58 := ⟨by decide +kernel, rfl⟩
theorem f3_58 : Isn prog_43_method_3_code 58 (.lor) 1 59 := ⟨by decide +kernel, rfl⟩
theorem f3_59 : Isn prog_43_method_3_code 59 (.lastore) 1 60 := ⟨by decide +kernel, rfl⟩
theorem f3_60 : Isn prog_43_method_3_code 60 (.iload 7) 2 62 := ⟨by decide +kernel, rfl⟩
theorem f3_62 : Isn prog_43_method_3_code 62 (.iload_n 3) 1 63 := ⟨by decide +kernel, rfl⟩
theorem f3_63 : Isn prog_43_method_3_code 63 (.iadd) 1 64 := ⟨by decide +kernel, rfl⟩
theorem f3_64 : Isn prog_43_method_3_code 64 (.bipush 64) 2 66 := ⟨by decide +kernel, rfl⟩
theorem f3_66 : Brn prog_43_method_3_code 66 (.if_icmp .le 23) 23 69 89 := ⟨by decide +kernel, rfl, by decide, by decide⟩
theorem f3_69 : Isn prog_43_method_3_code 69 (.aload_n 0) 1 70 := ⟨by decide +kernel, rfl⟩
theorem f3_70 : Isn prog_43_method_3_code 70 (.getfield 7) 3 73 := ⟨by decide +kernel, rfl⟩
theorem f3_73 : Isn prog_43_method_3_code 73 (.iload 6) 2 75 := ⟨by decide +kernel, rfl⟩
theorem f3_75 : Isn prog_43_method_3_code 75 (.iconst 1) 1 76 := ⟨by decide +kernel, rfl⟩
theorem f3_76 : Isn prog_43_method_3_code 76 (.iadd) 1 77 := ⟨by decide +kernel, rfl⟩
theorem f3_77 : Isn prog_43_method_3_code 77 (.dup2) 1 78 := ⟨by decide +kernel, rfl⟩
theorem f3_78 : Isn prog_43_method_3_code 78 (.laload) 1 79 := ⟨by decide +kernel, rfl⟩
theorem f3_79 : Isn prog_43_method_3_code 79 (.lload 4) 2 81 := ⟨by decide +kernel, rfl⟩
theorem f3_81 : Isn prog_43_method_3_code 81 (.bipush 64) 2 83 := ⟨by decide +kernel, rfl⟩
theorem f3_83 : Isn prog_43_method_3_code 83 (.iload 7) 2 85 := ⟨by decide +kernel, rfl⟩
theorem f3_85 : Isn prog_43_method_3_code 85 (.isub) 1 86 := ⟨by decide +kernel, rfl⟩
theorem f3_86 : Isn prog_43_method_3_code 86 (.lushr) 1 87 := ⟨by decide +kernel, rfl⟩
theorem f3_87 : Isn prog_43_method_3_code 87 (.lor) 1 88 := ⟨by decide +kernel, rfl⟩
theorem f3_88 : Isn prog_43_method_3_code 88 (.lastore) 1 89 := ⟨by decide +kernel, rfl⟩
theorem f3_89 : Isn prog_43_method_3_code 89 (.aload_n 0) 1 90 := ⟨by decide +kernel, rfl⟩
theorem f3_90 : Isn prog_43_method_3_code 90 (.dup) 1 91 := ⟨by decide +kernel, rfl⟩
theorem f3_91 : Isn prog_43_method_3_code 91 (.getfield 13) 3 94 := ⟨by decide +kernel, rfl⟩
theorem f3_94 : Isn prog_43_method_3_code 94 (.iload_n 3) 1 95 := ⟨by decide +kernel, rfl⟩
theorem f3_95 : Isn prog_43_method_3_code 95 (.i2l) 1 96 := ⟨by decide +kernel, rfl⟩
theorem f3_96 : Isn prog_43_method_3_code 96 (.ladd) 1 97 := ⟨by decide +kernel, rfl⟩
theorem f3_97 : Isn prog_43_method_3_code 97 (.putfield 13) 3 100 := ⟨by decide +kernel, rfl⟩
theorem f3_100 : Isn prog_43_method_3_code 100 (.return_) 1 101 := ⟨by decide +kernel, rfl⟩
theorem f4_0 : Isn prog_43_method_2_code 0 (.aload_n 0) 1 1 := ⟨by decide +kernel, rfl⟩
theorem f4_1 : Isn prog_43_method_2_code 1 (.getfield 13) 3 4 := ⟨by decide +kernel, rfl⟩
theorem f4_4 : Isn prog_43_method_2_code 4 (.lreturn) 1 5 := ⟨by decide +kernel, rfl⟩
theorem f0_0 : Isn code 0 (.iload_n 2) 1 1 := ⟨at_0, rfl⟩
theorem f0_1 : Isn code 1 (.ldc 7) 2 3 := ⟨at_1, rfl⟩
theorem f0_3 : Isn code 3 (.iand) 1 4 := ⟨at_3, rfl⟩
theorem f0_4 : Isn code 4 (.bipush 65) 2 6 := ⟨at_4, rfl⟩
theorem f0_6 : Isn code 6 (.irem) 1 7 := ⟨at_6, rfl⟩
theorem f0_7 : Isn code 7 (.istore 10) 2 9 := ⟨at_7, rfl⟩
theorem f0_9 : Isn code 9 (.iload_n 3) 1 10 := ⟨at_9, rfl⟩
theorem f0_10 : Isn code 10 (.bipush 127) 2 12 := ⟨at_10, rfl⟩
theorem f0_12 : Isn code 12 (.iand) 1 13 := ⟨at_12, rfl⟩
theorem f0_13 : Isn code 13 (.istore 11) 2 15 := ⟨at_13, rfl⟩
theorem f0_15 : Isn code 15 (.iload 11) 2 17 := ⟨at_15, rfl⟩
theorem f0_17 : Isn code 17 (.bipush 6) 2 19 := ⟨at_17, rfl⟩
theorem f0_19 : Isn code 19 (.iushr) 1 20 := ⟨at_19, rfl⟩
theorem f0_20 : Isn code 20 (.istore 12) 2 22 := ⟨at_20, rfl⟩
theorem f0_22 : Isn code 22 (.iload 11) 2 24 := ⟨at_22, rfl⟩
theorem f0_24 : Isn code 24 (.bipush 63) 2 26 := ⟨at_24, rfl⟩
theorem f0_26 : Isn code 26 (.iand) 1 27 := ⟨at_26, rfl⟩
theorem f0_27 : Isn code 27 (.istore 13) 2 29 := ⟨at_27, rfl⟩
theorem f0_29 : Isn code 29 (.iload 10) 2 31 := ⟨at_29, rfl⟩
theorem f0_31 : Brn code 31 (.ifCond .ne 7) 7 34 38 := ⟨at_31, rfl, by decide, by decide⟩
theorem f0_34 : Isn code 34 (.lconst 0) 1 35 := ⟨at_34, rfl⟩
theorem f0_35 : Brn code 35 (.goto 12) 12 38 47 := ⟨at_35, rfl, by decide, by decide⟩
theorem f0_38 : Isn code 38 (.ldc2_w 8) 3 41 := ⟨at_38, rfl⟩
theorem f0_41 : Isn code 41 (.bipush 64) 2 43 := ⟨at_41, rfl⟩
theorem f0_43 : Isn code 43 (.iload 10) 2 45 := ⟨at_43, rfl⟩
theorem f0_45 : Isn code 45 (.isub) 1 46 := ⟨at_45, rfl⟩
theorem f0_46 : Isn code 46 (.lushr) 1 47 := ⟨at_46, rfl⟩
theorem f0_47 : Isn code 47 (.lstore 14) 2 49 := ⟨at_47, rfl⟩
theorem f0_49 : Isn code 49 (.lload_n 0) 1 50 := ⟨at_49, rfl⟩
theorem f0_50 : Isn code 50 (.lload 14) 2 52 := ⟨at_50, rfl⟩
theorem f0_52 : Isn code 52 (.land) 1 53 := ⟨at_52, rfl⟩
theorem f0_53 : Isn code 53 (.lstore 16) 2 55 := ⟨at_53, rfl⟩
theorem f0_55 : Isn code 55 (.lload 14) 2 57 := ⟨at_55, rfl⟩
theorem f0_57 : Isn code 57 (.iload 13) 2 59 := ⟨at_57, rfl⟩
theorem f0_59 : Isn code 59 (.lshl) 1 60 := ⟨at_59, rfl⟩
theorem f0_60 : Isn code 60 (.lstore 18) 2 62 := ⟨at_60, rfl⟩
theorem f0_62 : Isn code 62 (.iload 13) 2 64 := ⟨at_62, rfl⟩
theorem f0_64 : Brn code 64 (.ifCond .ne 7) 7 67 71 := ⟨at_64, rfl, by decide, by decide⟩
theorem f0_67 : Isn code 67 (.lconst 0) 1 68 := ⟨at_67, rfl⟩
theorem f0_68 : Brn code 68 (.goto 11) 11 71 79 := ⟨at_68, rfl, by decide, by decide⟩
theorem f0_71 : Isn code 71 (.lload 14) 2 73 := ⟨at_71, rfl⟩
theorem f0_73 : Isn code 73 (.bipush 64) 2 75 := ⟨at_73, rfl⟩
theorem f0_75 : Isn code 75 (.iload 13) 2 77 := ⟨at_75, rfl⟩
theorem f0_77 : Isn code 77 (.isub) 1 78 := ⟨at_77, rfl⟩
theorem f0_78 : Isn code 78 (.lushr) 1 79 := ⟨at_78, rfl⟩
theorem f0_79 : Isn code 79 (.lstore 20) 2 81 := ⟨at_79, rfl⟩
theorem f0_81 : Isn code 81 (.lload 16) 2 83 := ⟨at_81, rfl⟩
theorem f0_83 : Isn code 83 (.iload 13) 2 85 := ⟨at_83, rfl⟩
theorem f0_85 : Isn code 85 (.lshl) 1 86 := ⟨at_85, rfl⟩
theorem f0_86 : Isn code 86 (.lstore 22) 2 88 := ⟨at_86, rfl⟩
theorem f0_88 : Isn code 88 (.iload 13) 2 90 := ⟨at_88, rfl⟩
theorem f0_90 : Brn code 90 (.ifCond .ne 7) 7 93 97 := ⟨at_90, rfl, by decide, by decide⟩
theorem f0_93 : Isn code 93 (.lconst 0) 1 94 := ⟨at_93, rfl⟩
theorem f0_94 : Brn code 94 (.goto 11) 11 97 105 := ⟨at_94, rfl, by decide, by decide⟩
theorem f0_97 : Isn code 97 (.lload 16) 2 99 := ⟨at_97, rfl⟩
theorem f0_99 : Isn code 99 (.bipush 64) 2 101 := ⟨at_99, rfl⟩
theorem f0_101 : Isn code 101 (.iload 13) 2 103 := ⟨at_101, rfl⟩
theorem f0_103 : Isn code 103 (.isub) 1 104 := ⟨at_103, rfl⟩
theorem f0_104 : Isn code 104 (.lushr) 1 105 := ⟨at_104, rfl⟩
theorem f0_105 : Isn code 105 (.lstore 24) 2 107 := ⟨at_105, rfl⟩
theorem f0_107 : Isn code 107 (.iconst 3) 1 108 := ⟨at_107, rfl⟩
theorem f0_108 : Isn code 108 (.newarray .long) 2 110 := ⟨at_108, rfl⟩
theorem f0_110 : Isn code 110 (.astore 26) 2 112 := ⟨at_110, rfl⟩
theorem f0_112 : Isn code 112 (.iconst 3) 1 113 := ⟨at_112, rfl⟩
theorem f0_113 : Isn code 113 (.newarray .long) 2 115 := ⟨at_113, rfl⟩
theorem f0_115 : Isn code 115 (.astore 27) 2 117 := ⟨at_115, rfl⟩
theorem f0_117 : Isn code 117 (.aload 26) 2 119 := ⟨at_117, rfl⟩
theorem f0_119 : Isn code 119 (.iload 12) 2 121 := ⟨at_119, rfl⟩
theorem f0_121 : Isn code 121 (.lload 18) 2 123 := ⟨at_121, rfl⟩
theorem f0_123 : Isn code 123 (.lastore) 1 124 := ⟨at_123, rfl⟩
theorem f0_124 : Isn code 124 (.aload 26) 2 126 := ⟨at_124, rfl⟩
theorem f0_126 : Isn code 126 (.iload 12) 2 128 := ⟨at_126, rfl⟩
theorem f0_128 : Isn code 128 (.iconst 1) 1 129 := ⟨at_128, rfl⟩
theorem f0_129 : Isn code 129 (.iadd) 1 130 := ⟨at_129, rfl⟩
theorem f0_130 : Isn code 130 (.lload 20) 2 132 := ⟨at_130, rfl⟩
theorem f0_132 : Isn code 132 (.lastore) 1 133 := ⟨at_132, rfl⟩
theorem f0_133 : Isn code 133 (.aload 27) 2 135 := ⟨at_133, rfl⟩
theorem f0_135 : Isn code 135 (.iload 12) 2 137 := ⟨at_135, rfl⟩
theorem f0_137 : Isn code 137 (.lload 22) 2 139 := ⟨at_137, rfl⟩
theorem f0_139 : Isn code 139 (.lastore) 1 140 := ⟨at_139, rfl⟩
theorem f0_140 : Isn code 140 (.aload 27) 2 142 := ⟨at_140, rfl⟩
theorem f0_142 : Isn code 142 (.iload 12) 2 144 := ⟨at_142, rfl⟩
theorem f0_144 : Isn code 144 (.iconst 1) 1 145 := ⟨at_144, rfl⟩
theorem f0_145 : Isn code 145 (.iadd) 1 146 := ⟨at_145, rfl⟩
theorem f0_146 : Isn code 146 (.lload 24) 2 148 := ⟨at_146, rfl⟩
theorem f0_148 : Isn code 148 (.lastore) 1 149 := ⟨at_148, rfl⟩
theorem f0_149 : Isn code 149 (.lload 4) 2 151 := ⟨at_149, rfl⟩
theorem f0_151 : Isn code 151 (.aload 26) 2 153 := ⟨at_151, rfl⟩
theorem f0_153 : Isn code 153 (.iconst 0) 1 154 := ⟨at_153, rfl⟩
theorem f0_154 : Isn code 154 (.laload) 1 155 := ⟨at_154, rfl⟩
theorem f0_155 : Isn code 155 (.ldc2_w 8) 3 158 := ⟨at_155, rfl⟩
theorem f0_158 : Isn code 158 (.lxor) 1 159 := ⟨at_158, rfl⟩
theorem f0_159 : Isn code 159 (.land) 1 160 := ⟨at_159, rfl⟩
theorem f0_160 : Isn code 160 (.lstore 28) 2 162 := ⟨at_160, rfl⟩
theorem f0_162 : Isn code 162 (.lload 6) 2 164 := ⟨at_162, rfl⟩
theorem f0_164 : Isn code 164 (.aload 26) 2 166 := ⟨at_164, rfl⟩
theorem f0_166 : Isn code 166 (.iconst 1) 1 167 := ⟨at_166, rfl⟩
theorem f0_167 : Isn code 167 (.laload) 1 168 := ⟨at_167, rfl⟩
theorem f0_168 : Isn code 168 (.ldc2_w 8) 3 171 := ⟨at_168, rfl⟩
theorem f0_171 : Isn code 171 (.lxor) 1 172 := ⟨at_171, rfl⟩
theorem f0_172 : Isn code 172 (.land) 1 173 := ⟨at_172, rfl⟩
theorem f0_173 : Isn code 173 (.lstore 30) 2 175 := ⟨at_173, rfl⟩
theorem f0_175 : Isn code 175 (.lload 8) 2 177 := ⟨at_175, rfl⟩
theorem f0_177 : Isn code 177 (.aload 26) 2 179 := ⟨at_177, rfl⟩
theorem f0_179 : Isn code 179 (.iconst 2) 1 180 := ⟨at_179, rfl⟩
theorem f0_180 : Isn code 180 (.laload) 1 181 := ⟨at_180, rfl⟩
theorem f0_181 : Isn code 181 (.ldc2_w 8) 3 184 := ⟨at_181, rfl⟩
theorem f0_184 : Isn code 184 (.lxor) 1 185 := ⟨at_184, rfl⟩
theorem f0_185 : Isn code 185 (.land) 1 186 := ⟨at_185, rfl⟩
theorem f0_186 : Isn code 186 (.lstore 32) 2 188 := ⟨at_186, rfl⟩
theorem f0_188 : Isn code 188 (.iconst 3) 1 189 := ⟨at_188, rfl⟩
theorem f0_189 : Isn code 189 (.newarray .long) 2 191 := ⟨at_189, rfl⟩
theorem f0_191 : Isn code 191 (.astore 34) 2 193 := ⟨at_191, rfl⟩
theorem f0_193 : Isn code 193 (.aload 34) 2 195 := ⟨at_193, rfl⟩
theorem f0_195 : Isn code 195 (.iconst 0) 1 196 := ⟨at_195, rfl⟩
theorem f0_196 : Isn code 196 (.lload 28) 2 198 := ⟨at_196, rfl⟩
theorem f0_198 : Isn code 198 (.lastore) 1 199 := ⟨at_198, rfl⟩
theorem f0_199 : Isn code 199 (.aload 34) 2 201 := ⟨at_199, rfl⟩
theorem f0_201 : Isn code 201 (.iconst 1) 1 202 := ⟨at_201, rfl⟩
theorem f0_202 : Isn code 202 (.lload 30) 2 204 := ⟨at_202, rfl⟩
theorem f0_204 : Isn code 204 (.lastore) 1 205 := ⟨at_204, rfl⟩
theorem f0_205 : Isn code 205 (.aload 34) 2 207 := ⟨at_205, rfl⟩
theorem f0_207 : Isn code 207 (.iconst 2) 1 208 := ⟨at_207, rfl⟩
theorem f0_208 : Isn code 208 (.lload 32) 2 210 := ⟨at_208, rfl⟩
theorem f0_210 : Isn code 210 (.lastore) 1 211 := ⟨at_210, rfl⟩
theorem f0_211 : Isn code 211 (.new 10) 3 214 := ⟨at_211, rfl⟩
theorem f0_214 : Isn code 214 (.dup) 1 215 := ⟨at_214, rfl⟩
theorem f0_215 : Isn code 215 (.aload 34) 2 217 := ⟨at_215, rfl⟩
theorem f0_217 : Isn code 217 (.iload 11) 2 219 := ⟨at_217, rfl⟩
theorem f0_219 : Isn code 219 (.i2l) 1 220 := ⟨at_219, rfl⟩
theorem f0_220 : Isn code 220 (.invokespecial 12) 3 223 := ⟨at_220, rfl⟩
theorem f0_223 : Isn code 223 (.astore 35) 2 225 := ⟨at_223, rfl⟩
theorem f0_225 : Isn code 225 (.aload 35) 2 227 := ⟨at_225, rfl⟩
theorem f0_227 : Isn code 227 (.lload_n 0) 1 228 := ⟨at_227, rfl⟩
theorem f0_228 : Isn code 228 (.iload 10) 2 230 := ⟨at_228, rfl⟩
theorem f0_230 : Isn code 230 (.invokevirtual 15) 3 233 := ⟨at_230, rfl⟩
theorem f0_233 : Isn code 233 (.aload 34) 2 235 := ⟨at_233, rfl⟩
theorem f0_235 : Isn code 235 (.iconst 0) 1 236 := ⟨at_235, rfl⟩
theorem f0_236 : Isn code 236 (.laload) 1 237 := ⟨at_236, rfl⟩
theorem f0_237 : Isn code 237 (.lload 28) 2 239 := ⟨at_237, rfl⟩
theorem f0_239 : Isn code 239 (.aload 27) 2 241 := ⟨at_239, rfl⟩
theorem f0_241 : Isn code 241 (.iconst 0) 1 242 := ⟨at_241, rfl⟩
theorem f0_242 : Isn code 242 (.laload) 1 243 := ⟨at_242, rfl⟩
theorem f0_243 : Isn code 243 (.lor) 1 244 := ⟨at_243, rfl⟩
theorem f0_244 : Isn code 244 (.lcmp) 1 245 := ⟨at_244, rfl⟩
theorem f0_245 : Brn code 245 (.ifCond .ne 53) 53 248 298 := ⟨at_245, rfl, by decide, by decide⟩
theorem f0_248 : Isn code 248 (.aload 34) 2 250 := ⟨at_248, rfl⟩
theorem f0_250 : Isn code 250 (.iconst 1) 1 251 := ⟨at_250, rfl⟩
theorem f0_251 : Isn code 251 (.laload) 1 252 := ⟨at_251, rfl⟩
theorem f0_252 : Isn code 252 (.lload 30) 2 254 := ⟨at_252, rfl⟩
theorem f0_254 : Isn code 254 (.aload 27) 2 256 := ⟨at_254, rfl⟩
theorem f0_256 : Isn code 256 (.iconst 1) 1 257 := ⟨at_256, rfl⟩
theorem f0_257 : Isn code 257 (.laload) 1 258 := ⟨at_257, rfl⟩
theorem f0_258 : Isn code 258 (.lor) 1 259 := ⟨at_258, rfl⟩
theorem f0_259 : Isn code 259 (.lcmp) 1 260 := ⟨at_259, rfl⟩
theorem f0_260 : Brn code 260 (.ifCond .ne 38) 38 263 298 := ⟨at_260, rfl, by decide, by decide⟩
theorem f0_263 : Isn code 263 (.aload 34) 2 265 := ⟨at_263, rfl⟩
theorem f0_265 : Isn code 265 (.iconst 2) 1 266 := ⟨at_265, rfl⟩
theorem f0_266 : Isn code 266 (.laload) 1 267 := ⟨at_266, rfl⟩
theorem f0_267 : Isn code 267 (.lload 32) 2 269 := ⟨at_267, rfl⟩
theorem f0_269 : Isn code 269 (.aload 27) 2 271 := ⟨at_269, rfl⟩
theorem f0_271 : Isn code 271 (.iconst 2) 1 272 := ⟨at_271, rfl⟩
theorem f0_272 : Isn code 272 (.laload) 1 273 := ⟨at_272, rfl⟩
theorem f0_273 : Isn code 273 (.lor) 1 274 := ⟨at_273, rfl⟩
theorem f0_274 : Isn code 274 (.lcmp) 1 275 := ⟨at_274, rfl⟩
theorem f0_275 : Brn code 275 (.ifCond .ne 23) 23 278 298 := ⟨at_275, rfl, by decide, by decide⟩
theorem f0_278 : Isn code 278 (.aload 35) 2 280 := ⟨at_278, rfl⟩
theorem f0_280 : Isn code 280 (.invokevirtual 19) 3 283 := ⟨at_280, rfl⟩
theorem f0_283 : Isn code 283 (.iload 11) 2 285 := ⟨at_283, rfl⟩
theorem f0_285 : Isn code 285 (.i2l) 1 286 := ⟨at_285, rfl⟩
theorem f0_286 : Isn code 286 (.iload 10) 2 288 := ⟨at_286, rfl⟩
theorem f0_288 : Isn code 288 (.i2l) 1 289 := ⟨at_288, rfl⟩
theorem f0_289 : Isn code 289 (.ladd) 1 290 := ⟨at_289, rfl⟩
theorem f0_290 : Isn code 290 (.lcmp) 1 291 := ⟨at_290, rfl⟩
theorem f0_291 : Brn code 291 (.ifCond .ne 7) 7 294 298 := ⟨at_291, rfl, by decide, by decide⟩
theorem f0_294 : Isn code 294 (.iconst 1) 1 295 := ⟨at_294, rfl⟩
theorem f0_295 : Brn code 295 (.goto 4) 4 298 299 := ⟨at_295, rfl, by decide, by decide⟩
theorem f0_298 : Isn code 298 (.iconst 0) 1 299 := ⟨at_298, rfl⟩
theorem f0_299 : Isn code 299 (.ireturn) 1 300 := ⟨at_299, rfl⟩
set_option maxRecDepth 65536 in
set_option maxHeartbeats 40000000 in
theorem rm1 (l : Launch) (Z : State) (a0 : Array Value) (hw : ∀ d ∈ tables_1, d.before a0 Z = true) (c : Addr) (wd : Addr) (x0 : Int64) (h : Heap) (n0 : Nat) (ha_c : n0 ≤ c) (O : Obj Z h c "com/example/nodewell/nodewell/store/BitCursor" own_nsB [.null, .long 0]) :
    Ctr l Z (⟨"com/example/nodewell/nodewell/store/BitCursor", "<init>", "([JJ)V"⟩ : MethodName) prog_43_method_1_code 4 (none) ({ frames := 1, cells := 0, slots := 0, locals := 14 } : Room) [.ref c, .ref wd, .long x0] h n0 (fun v h' => v = none ∧ Keep h h' [c] ∧ Obj Z h' c "com/example/nodewell/nodewell/store/BitCursor" own_nsB [.ref wd, .long x0]) := by
  refine CtrW.intro (plainFor_of_name pn0) rfl #[.val (.ref c), .val (.ref wd), .val (.long x0), .second] rfl ?_
  intro K T hnm hl X
  subst hl
  have Kp := Keep.refl h [c]
  refine o_aload_n X f1_0 rfl rfl ?_
  refine o_initO X 2 f1_1 (hw _ (List.mem_of_getElem? (i := 9) rfl)) (hw _ (List.mem_of_getElem? (i := 10) rfl)) (hw _ (List.mem_of_getElem? (i := 11) rfl)) rfl (by first | exact Nat.zero_le _ | simp [Value.category]) (by decide) ?_
  intro T1 X1
  refine o_aload_n X1 f1_4 rfl rfl ?_
  refine o_aload_n X1 f1_5 rfl rfl ?_
  refine o_putO X1 0 f1_6 (hw _ (List.mem_of_getElem? (i := 12) rfl)) O (own_ldB Z a0 hw) rfl (Or.inr ⟨(hw _ (List.mem_of_getElem? (i := 13) rfl)), rfl, hnm⟩) (hw _ (List.mem_of_getElem? (i := 4) rfl)) (ty := (.array .long)) (by decide) rfl rfl ha_c (vs' := [_, _]) rfl ?_
  intro T2 h2 X2 W2 cF2
  have Kp2 := Kp.wr W2 (Or.inl (by simp))
  refine o_aload_n X2 f1_9 rfl rfl ?_
  refine o_lload_n X2 f1_10 rfl ?_
  refine o_putO X2 1 f1_11 (hw _ (List.mem_of_getElem? (i := 14) rfl)) cF2 (own_ldB Z a0 hw) rfl (Or.inl (hw _ (List.mem_of_getElem? (i := 15) rfl))) (hw _ (List.mem_of_getElem? (i := 4) rfl)) (ty := .long) (by decide) rfl rfl ha_c (vs' := [_, _]) rfl ?_
  intro T3 h3 X3 W3 cF3
  have Kp3 := Kp2.wr W3 (Or.inl (by simp))
  refine o_ret0 X3 f1_14 (by decide) (by decide) ?_
  exact ⟨rfl, Kp3, cF3⟩
set_option maxRecDepth 65536 in
set_option maxHeartbeats 40000000 in
theorem rm4 (l : Launch) (Z : State) (a0 : Array Value) (hw : ∀ d ∈ tables_1, d.before a0 Z = true) (c : Addr) (h : Heap) (n0 : Nat) (wd : Addr) (ps : Int64) (O : Obj Z h c "com/example/nodewell/nodewell/store/BitCursor" own_nsB [.ref wd, .long ps]) :
    Ctr l Z (⟨"com/example/nodewell/nodewell/store/BitCursor", "position", "()J"⟩ : MethodName) prog_43_method_2_code 1 (some (.long)) ({ frames := 0, cells := 0, slots := 0, locals := 0 } : Room) [.ref c] h n0 (fun v h' => v = some (.long ps) ∧ h' = h) := by
  refine CtrW.intro (plainFor_of_name pn0) rfl #[.val (.ref c)] rfl ?_
  intro K T hnm hl X
  subst hl
  refine o_aload_n X f4_0 rfl rfl ?_
  refine o_getO X 1 f4_1 (hw _ (List.mem_of_getElem? (i := 14) rfl)) O rfl rfl ?_
  intro T1 X1
  refine o_retL X1 f4_4 (by decide) (by decide) ?_
  exact ⟨rfl, rfl⟩
set_option maxRecDepth 65536 in
set_option maxHeartbeats 40000000 in
theorem rmP0 (l : Launch) (Z : State) (a0 : Array Value) (hw : ∀ d ∈ tables_1, d.before a0 Z = true) (c : Addr) (x0 : Int64) (x1 : Int32) (h : Heap) (n0 : Nat) (wd : Addr) (ps w0 w1 w2 : Int64) (o : Int32) (ha_c : n0 ≤ c) (ha_wd : n0 ≤ wd) (n_c_wd : c ≠ wd) (hix : (XT.ushrL ps 6).toInt32 = 0) (ho : (ps &&& 63).toInt32 = o) (O : Obj Z h c "com/example/nodewell/nodewell/store/BitCursor" own_nsB [.ref wd, .long ps]) (A : AL Z h wd .long [.long w0, .long w1, .long w2]) :
    Ctr l Z (⟨"com/example/nodewell/nodewell/store/BitCursor", "put", "(JI)V"⟩ : MethodName) prog_43_method_3_code 8 (none) ({ frames := 0, cells := 0, slots := 0, locals := 0 } : Room) [.ref c, .long x0, .int x1] h n0 (fun v h' => v = none ∧ Keep h h' [c, wd] ∧ Obj Z h' c "com/example/nodewell/nodewell/store/BitCursor" own_nsB [.ref wd, .long (own_ps ps x1)] ∧ AL Z h' wd .long [.long (w0 ||| own_a x0 x1 o), .long (w1 ||| own_b x0 x1 o), .long w2]) := by
  refine CtrW.intro (plainFor_of_name pn0) rfl #[.val (.ref c), .val (.long x0), .second, .val (.int x1), .unset, .unset, .unset, .unset] rfl ?_
  intro K T hnm hl X
  subst hl
  have Kp := Keep.refl h [c, wd]
  have n_wd_c := n_c_wd.symm
  refine o_iload_n X f3_0 rfl ?_
  refine o_if_ne X f3_1 (fun q1 => ?_) (fun q1 => ?_)
  · refine o_iload_n X f3_5 rfl ?_
    refine o_bipush 64 X f3_6 rfl ?_
    refine o_icmp_ne X f3_8 (fun q8 => ?_) (fun q8 => ?_)
    · refine o_lload_n X f3_15 rfl ?_
      refine o_lconst 1 X f3_16 rfl ?_
      refine o_iload_n X f3_17 rfl ?_
      refine o_lshl X f3_18 ?_
      refine o_lconst 1 X f3_19 rfl ?_
      refine o_lsub X f3_20 ?_
      refine o_land X f3_21 ?_
      refine o_st (st' := [.long (own_low x0 x1)]) (by simp only [own_low, q8, ↓reduceIte, if_true, if_false]) ?_
      refine o_lstore X f3_22 (Ls' := #[_, _, _, _, _, _, _, _]) rfl ?_
      refine o_aload_n X f3_24 rfl rfl ?_
      refine o_getO X 1 f3_25 (hw _ (List.mem_of_getElem? (i := 14) rfl)) O rfl rfl ?_
      intro T1 X1
      refine o_bipush 6 X1 f3_28 rfl ?_
      refine o_lushr X1 f3_30 ?_
      refine o_l2i X1 f3_31 ?_
      rw [hix]
      refine o_istore X1 f3_32 (Ls' := #[_, _, _, _, _, _, _, _]) rfl ?_
      refine o_aload_n X1 f3_34 rfl rfl ?_
      refine o_getO X1 1 f3_35 (hw _ (List.mem_of_getElem? (i := 14) rfl)) O rfl rfl ?_
      intro T2 X2
      refine o_ldc2 X2 f3_38 (hw _ (List.mem_of_getElem? (i := 21) rfl)) ?_
      refine o_land X2 f3_41 ?_
      refine o_l2i X2 f3_42 ?_
      rw [ho]
      refine o_istore X2 f3_43 (Ls' := #[_, _, _, _, _, _, _, _]) rfl ?_
      refine o_aload_n X2 f3_45 rfl rfl ?_
      refine o_getO X2 0 f3_46 (hw _ (List.mem_of_getElem? (i := 12) rfl)) O rfl rfl ?_
      intro T3 X3
      refine o_iload X3 f3_49 rfl ?_
      refine o_dup2 X3 f3_51 rfl rfl ?_
      refine o_laload X3 f3_52 A (by decide) rfl ?_
      refine o_lload X3 f3_53 rfl ?_
      refine o_iload X3 f3_55 rfl ?_
      refine o_lshl X3 f3_57 ?_
      refine o_lor X3 f3_58 ?_
      refine o_lastore X3 f3_59 A (by decide) (Nat.le_of_ble_eq_true rfl) ha_wd (vs' := [_, _, _]) rfl ?_
      intro T4 h4 X4 W4 wdF4
      have cF4 := O.other W4 n_c_wd
      have Kp4 := Kp.wr W4 (Or.inl (by simp))
      refine o_iload X4 f3_60 rfl ?_
      refine o_iload_n X4 f3_62 rfl ?_
      refine o_iadd X4 f3_63 ?_
      refine o_bipush 64 X4 f3_64 rfl ?_
      refine o_icmp_le X4 f3_66 (fun q66 => ?_) (fun q66 => ?_)
      · refine o_aload_n X4 f3_89 rfl rfl ?_
        refine o_dup X4 f3_90 rfl ?_
        refine o_getO X4 1 f3_91 (hw _ (List.mem_of_getElem? (i := 14) rfl)) cF4 rfl rfl ?_
        intro T5 X5
        refine o_iload_n X5 f3_94 rfl ?_
        refine o_i2l X5 f3_95 ?_
        refine o_ladd X5 f3_96 ?_
        refine o_putO X5 1 f3_97 (hw _ (List.mem_of_getElem? (i := 14) rfl)) cF4 (own_ldB Z a0 hw) rfl (Or.inl (hw _ (List.mem_of_getElem? (i := 15) rfl))) (hw _ (List.mem_of_getElem? (i := 4) rfl)) (ty := .long) (by decide) rfl rfl ha_c (vs' := [_, _]) rfl ?_
        intro T6 h6 X6 W6 cF6
        have wdF6 := wdF4.other W6 n_wd_c
        have Kp6 := Kp4.wr W6 (Or.inl (by simp))
        refine o_ret0 X6 f3_100 (by decide) (by decide) ?_
        exact ⟨rfl, Kp6, by simpa only [own_ps, q1, if_true, if_false] using cF6, by simpa only [own_a, own_b, q1, q66, if_true, if_false, Int64.or_zero] using wdF6⟩
      · refine o_aload_n X4 f3_69 rfl rfl ?_
        refine o_getO X4 0 f3_70 (hw _ (List.mem_of_getElem? (i := 12) rfl)) cF4 rfl rfl ?_
        intro T7 X7
        refine o_iload X7 f3_73 rfl ?_
        refine o_iconst 1 X7 f3_75 rfl ?_
        refine o_iadd X7 f3_76 ?_
        refine o_dup2 X7 f3_77 rfl rfl ?_
        refine o_laload X7 f3_78 wdF4 (by decide) rfl ?_
        refine o_lload X7 f3_79 rfl ?_
        refine o_bipush 64 X7 f3_81 rfl ?_
        refine o_iload X7 f3_83 rfl ?_
        refine o_isub X7 f3_85 ?_
        refine o_lushr X7 f3_86 ?_
        refine o_lor X7 f3_87 ?_
        refine o_lastore X7 f3_88 wdF4 (by decide) (Nat.le_of_ble_eq_true rfl) ha_wd (vs' := [_, _, _]) rfl ?_
        intro T8 h8 X8 W8 wdF8
        have cF8 := cF4.other W8 n_c_wd
        have Kp8 := Kp4.wr W8 (Or.inl (by simp))
        refine o_aload_n X8 f3_89 rfl rfl ?_
        refine o_dup X8 f3_90 rfl ?_
        refine o_getO X8 1 f3_91 (hw _ (List.mem_of_getElem? (i := 14) rfl)) cF8 rfl rfl ?_
        intro T9 X9
        refine o_iload_n X9 f3_94 rfl ?_
        refine o_i2l X9 f3_95 ?_
        refine o_ladd X9 f3_96 ?_
        refine o_putO X9 1 f3_97 (hw _ (List.mem_of_getElem? (i := 14) rfl)) cF8 (own_ldB Z a0 hw) rfl (Or.inl (hw _ (List.mem_of_getElem? (i := 15) rfl))) (hw _ (List.mem_of_getElem? (i := 4) rfl)) (ty := .long) (by decide) rfl rfl ha_c (vs' := [_, _]) rfl ?_
        intro T10 h10 X10 W10 cF10
        have wdF10 := wdF8.other W10 n_wd_c
        have Kp10 := Kp8.wr W10 (Or.inl (by simp))
        refine o_ret0 X10 f3_100 (by decide) (by decide) ?_
        exact ⟨rfl, Kp10, by simpa only [own_ps, q1, if_true, if_false] using cF10, by simpa only [own_a, own_b, q1, q66, if_true, if_false, Int64.or_zero] using wdF10⟩
    · refine o_lload_n X f3_11 rfl ?_
      refine o_goto X f3_12 ?_
      refine o_st (st' := [.long (own_low x0 x1)]) (by simp only [own_low, q8, ↓reduceIte, if_true, if_false]) ?_
      refine o_lstore X f3_22 (Ls' := #[_, _, _, _, _, _, _, _]) rfl ?_
      refine o_aload_n X f3_24 rfl rfl ?_
      refine o_getO X 1 f3_25 (hw _ (List.mem_of_getElem? (i := 14) rfl)) O rfl rfl ?_
      intro T11 X11
      refine o_bipush 6 X11 f3_28 rfl ?_
      refine o_lushr X11 f3_30 ?_
      refine o_l2i X11 f3_31 ?_
      rw [hix]
      refine o_istore X11 f3_32 (Ls' := #[_, _, _, _, _, _, _, _]) rfl ?_
      refine o_aload_n X11 f3_34 rfl rfl ?_
      refine o_getO X11 1 f3_35 (hw _ (List.mem_of_getElem? (i := 14) rfl)) O rfl rfl ?_
      intro T12 X12
      refine o_ldc2 X12 f3_38 (hw _ (List.mem_of_getElem? (i := 21) rfl)) ?_
      refine o_land X12 f3_41 ?_
      refine o_l2i X12 f3_42 ?_
      rw [ho]
      refine o_istore X12 f3_43 (Ls' := #[_, _, _, _, _, _, _, _]) rfl ?_
      refine o_aload_n X12 f3_45 rfl rfl ?_
      refine o_getO X12 0 f3_46 (hw _ (List.mem_of_getElem? (i := 12) rfl)) O rfl rfl ?_
      intro T13 X13
      refine o_iload X13 f3_49 rfl ?_
      refine o_dup2 X13 f3_51 rfl rfl ?_
      refine o_laload X13 f3_52 A (by decide) rfl ?_
      refine o_lload X13 f3_53 rfl ?_
      refine o_iload X13 f3_55 rfl ?_
      refine o_lshl X13 f3_57 ?_
      refine o_lor X13 f3_58 ?_
      refine o_lastore X13 f3_59 A (by decide) (Nat.le_of_ble_eq_true rfl) ha_wd (vs' := [_, _, _]) rfl ?_
      intro T14 h14 X14 W14 wdF14
      have cF14 := O.other W14 n_c_wd
      have Kp14 := Kp.wr W14 (Or.inl (by simp))
      refine o_iload X14 f3_60 rfl ?_
      refine o_iload_n X14 f3_62 rfl ?_
      refine o_iadd X14 f3_63 ?_
      refine o_bipush 64 X14 f3_64 rfl ?_
      refine o_icmp_le X14 f3_66 (fun q66 => ?_) (fun q66 => ?_)
      · refine o_aload_n X14 f3_89 rfl rfl ?_
        refine o_dup X14 f3_90 rfl ?_
        refine o_getO X14 1 f3_91 (hw _ (List.mem_of_getElem? (i := 14) rfl)) cF14 rfl rfl ?_
        intro T15 X15
        refine o_iload_n X15 f3_94 rfl ?_
        refine o_i2l X15 f3_95 ?_
        refine o_ladd X15 f3_96 ?_
        refine o_putO X15 1 f3_97 (hw _ (List.mem_of_getElem? (i := 14) rfl)) cF14 (own_ldB Z a0 hw) rfl (Or.inl (hw _ (List.mem_of_getElem? (i := 15) rfl))) (hw _ (List.mem_of_getElem? (i := 4) rfl)) (ty := .long) (by decide) rfl rfl ha_c (vs' := [_, _]) rfl ?_
        intro T16 h16 X16 W16 cF16
        have wdF16 := wdF14.other W16 n_wd_c
        have Kp16 := Kp14.wr W16 (Or.inl (by simp))
        refine o_ret0 X16 f3_100 (by decide) (by decide) ?_
        exact ⟨rfl, Kp16, by simpa only [own_ps, q1, if_true, if_false] using cF16, by simpa only [own_a, own_b, q1, q66, if_true, if_false, Int64.or_zero] using wdF16⟩
      · refine o_aload_n X14 f3_69 rfl rfl ?_
        refine o_getO X14 0 f3_70 (hw _ (List.mem_of_getElem? (i := 12) rfl)) cF14 rfl rfl ?_
        intro T17 X17
        refine o_iload X17 f3_73 rfl ?_
        refine o_iconst 1 X17 f3_75 rfl ?_
        refine o_iadd X17 f3_76 ?_
        refine o_dup2 X17 f3_77 rfl rfl ?_
        refine o_laload X17 f3_78 wdF14 (by decide) rfl ?_
        refine o_lload X17 f3_79 rfl ?_
        refine o_bipush 64 X17 f3_81 rfl ?_
        refine o_iload X17 f3_83 rfl ?_
        refine o_isub X17 f3_85 ?_
        refine o_lushr X17 f3_86 ?_
        refine o_lor X17 f3_87 ?_
        refine o_lastore X17 f3_88 wdF14 (by decide) (Nat.le_of_ble_eq_true rfl) ha_wd (vs' := [_, _, _]) rfl ?_
        intro T18 h18 X18 W18 wdF18
        have cF18 := cF14.other W18 n_c_wd
        have Kp18 := Kp14.wr W18 (Or.inl (by simp))
        refine o_aload_n X18 f3_89 rfl rfl ?_
        refine o_dup X18 f3_90 rfl ?_
        refine o_getO X18 1 f3_91 (hw _ (List.mem_of_getElem? (i := 14) rfl)) cF18 rfl rfl ?_
        intro T19 X19
        refine o_iload_n X19 f3_94 rfl ?_
        refine o_i2l X19 f3_95 ?_
        refine o_ladd X19 f3_96 ?_
        refine o_putO X19 1 f3_97 (hw _ (List.mem_of_getElem? (i := 14) rfl)) cF18 (own_ldB Z a0 hw) rfl (Or.inl (hw _ (List.mem_of_getElem? (i := 15) rfl))) (hw _ (List.mem_of_getElem? (i := 4) rfl)) (ty := .long) (by decide) rfl rfl ha_c (vs' := [_, _]) rfl ?_
        intro T20 h20 X20 W20 cF20
        have wdF20 := wdF18.other W20 n_wd_c
        have Kp20 := Kp18.wr W20 (Or.inl (by simp))
        refine o_ret0 X20 f3_100 (by decide) (by decide) ?_
        exact ⟨rfl, Kp20, by simpa only [own_ps, q1, if_true, if_false] using cF20, by simpa only [own_a, own_b, q1, q66, if_true, if_false, Int64.or_zero] using wdF20⟩
  · refine o_ret0 X f3_4 (by decide) (by decide) ?_
    subst q1
    exact ⟨rfl, Kp, by simpa only [own_ps, if_true] using O, by simpa only [own_a, own_b, if_true, Int64.or_zero] using A⟩
set_option maxRecDepth 65536 in
set_option maxHeartbeats 40000000 in
theorem rmP1 (l : Launch) (Z : State) (a0 : Array Value) (hw : ∀ d ∈ tables_1, d.before a0 Z = true) (c : Addr) (x0 : Int64) (x1 : Int32) (h : Heap) (n0 : Nat) (wd : Addr) (ps w0 w1 w2 : Int64) (o : Int32) (ha_c : n0 ≤ c) (ha_wd : n0 ≤ wd) (n_c_wd : c ≠ wd) (hix : (XT.ushrL ps 6).toInt32 = 1) (ho : (ps &&& 63).toInt32 = o) (O : Obj Z h c "com/example/nodewell/nodewell/store/BitCursor" own_nsB [.ref wd, .long ps]) (A : AL Z h wd .long [.long w0, .long w1, .long w2]) :
    Ctr l Z (⟨"com/example/nodewell/nodewell/store/BitCursor", "put", "(JI)V"⟩ : MethodName) prog_43_method_3_code 8 (none) ({ frames := 0, cells := 0, slots := 0, locals := 0 } : Room) [.ref c, .long x0, .int x1] h n0 (fun v h' => v = none ∧ Keep h h' [c, wd] ∧ Obj Z h' c "com/example/nodewell/nodewell/store/BitCursor" own_nsB [.ref wd, .long (own_ps ps x1)] ∧ AL Z h' wd .long [.long w0, .long (w1 ||| own_a x0 x1 o), .long (w2 ||| own_b x0 x1 o)]) := by
  refine CtrW.intro (plainFor_of_name pn0) rfl #[.val (.ref c), .val (.long x0), .second, .val (.int x1), .unset, .unset, .unset, .unset] rfl ?_
  intro K T hnm hl X
  subst hl
  have Kp := Keep.refl h [c, wd]
  have n_wd_c := n_c_wd.symm
  refine o_iload_n X f3_0 rfl ?_
  refine o_if_ne X f3_1 (fun q1 => ?_) (fun q1 => ?_)
  · refine o_iload_n X f3_5 rfl ?_
    refine o_bipush 64 X f3_6 rfl ?_
    refine o_icmp_ne X f3_8 (fun q8 => ?_) (fun q8 => ?_)
    · refine o_lload_n X f3_15 rfl ?_
      refine o_lconst 1 X f3_16 rfl ?_
      refine o_iload_n X f3_17 rfl ?_
      refine o_lshl X f3_18 ?_
      refine o_lconst 1 X f3_19 rfl ?_
      refine o_lsub X f3_20 ?_
      refine o_land X f3_21 ?_
      refine o_st (st' := [.long (own_low x0 x1)]) (by simp only [own_low, q8, ↓reduceIte, if_true, if_false]) ?_
      refine o_lstore X f3_22 (Ls' := #[_, _, _, _, _, _, _, _]) rfl ?_
      refine o_aload_n X f3_24 rfl rfl ?_
      refine o_getO X 1 f3_25 (hw _ (List.mem_of_getElem? (i := 14) rfl)) O rfl rfl ?_
      intro T1 X1
      refine o_bipush 6 X1 f3_28 rfl ?_
      refine o_lushr X1 f3_30 ?_
      refine o_l2i X1 f3_31 ?_
      rw [hix]
      refine o_istore X1 f3_32 (Ls' := #[_, _, _, _, _, _, _, _]) rfl ?_
      refine o_aload_n X1 f3_34 rfl rfl ?_
      refine o_getO X1 1 f3_35 (hw _ (List.mem_of_getElem? (i := 14) rfl)) O rfl rfl ?_
      intro T2 X2
      refine o_ldc2 X2 f3_38 (hw _ (List.mem_of_getElem? (i := 21) rfl)) ?_
      refine o_land X2 f3_41 ?_
      refine o_l2i X2 f3_42 ?_
      rw [ho]
      refine o_istore X2 f3_43 (Ls' := #[_, _, _, _, _, _, _, _]) rfl ?_
      refine o_aload_n X2 f3_45 rfl rfl ?_
      refine o_getO X2 0 f3_46 (hw _ (List.mem_of_getElem? (i := 12) rfl)) O rfl rfl ?_
      intro T3 X3
      refine o_iload X3 f3_49 rfl ?_
      refine o_dup2 X3 f3_51 rfl rfl ?_
      refine o_laload X3 f3_52 A (by decide) rfl ?_
      refine o_lload X3 f3_53 rfl ?_
      refine o_iload X3 f3_55 rfl ?_
      refine o_lshl X3 f3_57 ?_
      refine o_lor X3 f3_58 ?_
      refine o_lastore X3 f3_59 A (by decide) (Nat.le_of_ble_eq_true rfl) ha_wd (vs' := [_, _, _]) rfl ?_
      intro T4 h4 X4 W4 wdF4
      have cF4 := O.other W4 n_c_wd
      have Kp4 := Kp.wr W4 (Or.inl (by simp))
      refine o_iload X4 f3_60 rfl ?_
      refine o_iload_n X4 f3_62 rfl ?_
      refine o_iadd X4 f3_63 ?_
      refine o_bipush 64 X4 f3_64 rfl ?_
      refine o_icmp_le X4 f3_66 (fun q66 => ?_) (fun q66 => ?_)
      · refine o_aload_n X4 f3_89 rfl rfl ?_
        refine o_dup X4 f3_90 rfl ?_
        refine o_getO X4 1 f3_91 (hw _ (List.mem_of_getElem? (i := 14) rfl)) cF4 rfl rfl ?_
        intro T5 X5
        refine o_iload_n X5 f3_94 rfl ?_
        refine o_i2l X5 f3_95 ?_
        refine o_ladd X5 f3_96 ?_
        refine o_putO X5 1 f3_97 (hw _ (List.mem_of_getElem? (i := 14) rfl)) cF4 (own_ldB Z a0 hw) rfl (Or.inl (hw _ (List.mem_of_getElem? (i := 15) rfl))) (hw _ (List.mem_of_getElem? (i := 4) rfl)) (ty := .long) (by decide) rfl rfl ha_c (vs' := [_, _]) rfl ?_
        intro T6 h6 X6 W6 cF6
        have wdF6 := wdF4.other W6 n_wd_c
        have Kp6 := Kp4.wr W6 (Or.inl (by simp))
        refine o_ret0 X6 f3_100 (by decide) (by decide) ?_
        exact ⟨rfl, Kp6, by simpa only [own_ps, q1, if_true, if_false] using cF6, by simpa only [own_a, own_b, q1, q66, if_true, if_false, Int64.or_zero] using wdF6⟩
      · refine o_aload_n X4 f3_69 rfl rfl ?_
        refine o_getO X4 0 f3_70 (hw _ (List.mem_of_getElem? (i := 12) rfl)) cF4 rfl rfl ?_
        intro T7 X7
        refine o_iload X7 f3_73 rfl ?_
        refine o_iconst 1 X7 f3_75 rfl ?_
        refine o_iadd X7 f3_76 ?_
        refine o_dup2 X7 f3_77 rfl rfl ?_
        refine o_laload X7 f3_78 wdF4 (by decide) rfl ?_
        refine o_lload X7 f3_79 rfl ?_
        refine o_bipush 64 X7 f3_81 rfl ?_
        refine o_iload X7 f3_83 rfl ?_
        refine o_isub X7 f3_85 ?_
        refine o_lushr X7 f3_86 ?_
        refine o_lor X7 f3_87 ?_
        refine o_lastore X7 f3_88 wdF4 (by decide) (Nat.le_of_ble_eq_true rfl) ha_wd (vs' := [_, _, _]) rfl ?_
        intro T8 h8 X8 W8 wdF8
        have cF8 := cF4.other W8 n_c_wd
        have Kp8 := Kp4.wr W8 (Or.inl (by simp))
        refine o_aload_n X8 f3_89 rfl rfl ?_
        refine o_dup X8 f3_90 rfl ?_
        refine o_getO X8 1 f3_91 (hw _ (List.mem_of_getElem? (i := 14) rfl)) cF8 rfl rfl ?_
        intro T9 X9
        refine o_iload_n X9 f3_94 rfl ?_
        refine o_i2l X9 f3_95 ?_
        refine o_ladd X9 f3_96 ?_
        refine o_putO X9 1 f3_97 (hw _ (List.mem_of_getElem? (i := 14) rfl)) cF8 (own_ldB Z a0 hw) rfl (Or.inl (hw _ (List.mem_of_getElem? (i := 15) rfl))) (hw _ (List.mem_of_getElem? (i := 4) rfl)) (ty := .long) (by decide) rfl rfl ha_c (vs' := [_, _]) rfl ?_
        intro T10 h10 X10 W10 cF10
        have wdF10 := wdF8.other W10 n_wd_c
        have Kp10 := Kp8.wr W10 (Or.inl (by simp))
        refine o_ret0 X10 f3_100 (by decide) (by decide) ?_
        exact ⟨rfl, Kp10, by simpa only [own_ps, q1, if_true, if_false] using cF10, by simpa only [own_a, own_b, q1, q66, if_true, if_false, Int64.or_zero] using wdF10⟩
    · refine o_lload_n X f3_11 rfl ?_
      refine o_goto X f3_12 ?_
      refine o_st (st' := [.long (own_low x0 x1)]) (by simp only [own_low, q8, ↓reduceIte, if_true, if_false]) ?_
      refine o_lstore X f3_22 (Ls' := #[_, _, _, _, _, _, _, _]) rfl ?_
      refine o_aload_n X f3_24 rfl rfl ?_
      refine o_getO X 1 f3_25 (hw _ (List.mem_of_getElem? (i := 14) rfl)) O rfl rfl ?_
      intro T11 X11
      refine o_bipush 6 X11 f3_28 rfl ?_
      refine o_lushr X11 f3_30 ?_
      refine o_l2i X11 f3_31 ?_
      rw [hix]
      refine o_istore X11 f3_32 (Ls' := #[_, _, _, _, _, _, _, _]) rfl ?_
      refine o_aload_n X11 f3_34 rfl rfl ?_
      refine o_getO X11 1 f3_35 (hw _ (List.mem_of_getElem? (i := 14) rfl)) O rfl rfl ?_
      intro T12 X12
      refine o_ldc2 X12 f3_38 (hw _ (List.mem_of_getElem? (i := 21) rfl)) ?_
      refine o_land X12 f3_41 ?_
      refine o_l2i X12 f3_42 ?_
      rw [ho]
      refine o_istore X12 f3_43 (Ls' := #[_, _, _, _, _, _, _, _]) rfl ?_
      refine o_aload_n X12 f3_45 rfl rfl ?_
      refine o_getO X12 0 f3_46 (hw _ (List.mem_of_getElem? (i := 12) rfl)) O rfl rfl ?_
      intro T13 X13
      refine o_iload X13 f3_49 rfl ?_
      refine o_dup2 X13 f3_51 rfl rfl ?_
      refine o_laload X13 f3_52 A (by decide) rfl ?_
      refine o_lload X13 f3_53 rfl ?_
      refine o_iload X13 f3_55 rfl ?_
      refine o_lshl X13 f3_57 ?_
      refine o_lor X13 f3_58 ?_
      refine o_lastore X13 f3_59 A (by decide) (Nat.le_of_ble_eq_true rfl) ha_wd (vs' := [_, _, _]) rfl ?_
      intro T14 h14 X14 W14 wdF14
      have cF14 := O.other W14 n_c_wd
      have Kp14 := Kp.wr W14 (Or.inl (by simp))
      refine o_iload X14 f3_60 rfl ?_
      refine o_iload_n X14 f3_62 rfl ?_
      refine o_iadd X14 f3_63 ?_
      refine o_bipush 64 X14 f3_64 rfl ?_
      refine o_icmp_le X14 f3_66 (fun q66 => ?_) (fun q66 => ?_)
      · refine o_aload_n X14 f3_89 rfl rfl ?_
        refine o_dup X14 f3_90 rfl ?_
        refine o_getO X14 1 f3_91 (hw _ (List.mem_of_getElem? (i := 14) rfl)) cF14 rfl rfl ?_
        intro T15 X15
        refine o_iload_n X15 f3_94 rfl ?_
        refine o_i2l X15 f3_95 ?_
        refine o_ladd X15 f3_96 ?_
        refine o_putO X15 1 f3_97 (hw _ (List.mem_of_getElem? (i := 14) rfl)) cF14 (own_ldB Z a0 hw) rfl (Or.inl (hw _ (List.mem_of_getElem? (i := 15) rfl))) (hw _ (List.mem_of_getElem? (i := 4) rfl)) (ty := .long) (by decide) rfl rfl ha_c (vs' := [_, _]) rfl ?_
        intro T16 h16 X16 W16 cF16
        have wdF16 := wdF14.other W16 n_wd_c
        have Kp16 := Kp14.wr W16 (Or.inl (by simp))
        refine o_ret0 X16 f3_100 (by decide) (by decide) ?_
        exact ⟨rfl, Kp16, by simpa only [own_ps, q1, if_true, if_false] using cF16, by simpa only [own_a, own_b, q1, q66, if_true, if_false, Int64.or_zero] using wdF16⟩
      · refine o_aload_n X14 f3_69 rfl rfl ?_
        refine o_getO X14 0 f3_70 (hw _ (List.mem_of_getElem? (i := 12) rfl)) cF14 rfl rfl ?_
        intro T17 X17
        refine o_iload X17 f3_73 rfl ?_
        refine o_iconst 1 X17 f3_75 rfl ?_
        refine o_iadd X17 f3_76 ?_
        refine o_dup2 X17 f3_77 rfl rfl ?_
        refine o_laload X17 f3_78 wdF14 (by decide) rfl ?_
        refine o_lload X17 f3_79 rfl ?_
        refine o_bipush 64 X17 f3_81 rfl ?_
        refine o_iload X17 f3_83 rfl ?_
        refine o_isub X17 f3_85 ?_
        refine o_lushr X17 f3_86 ?_
        refine o_lor X17 f3_87 ?_
        refine o_lastore X17 f3_88 wdF14 (by decide) (Nat.le_of_ble_eq_true rfl) ha_wd (vs' := [_, _, _]) rfl ?_
        intro T18 h18 X18 W18 wdF18
        have cF18 := cF14.other W18 n_c_wd
        have Kp18 := Kp14.wr W18 (Or.inl (by simp))
        refine o_aload_n X18 f3_89 rfl rfl ?_
        refine o_dup X18 f3_90 rfl ?_
        refine o_getO X18 1 f3_91 (hw _ (List.mem_of_getElem? (i := 14) rfl)) cF18 rfl rfl ?_
        intro T19 X19
        refine o_iload_n X19 f3_94 rfl ?_
        refine o_i2l X19 f3_95 ?_
        refine o_ladd X19 f3_96 ?_
        refine o_putO X19 1 f3_97 (hw _ (List.mem_of_getElem? (i := 14) rfl)) cF18 (own_ldB Z a0 hw) rfl (Or.inl (hw _ (List.mem_of_getElem? (i := 15) rfl))) (hw _ (List.mem_of_getElem? (i := 4) rfl)) (ty := .long) (by decide) rfl rfl ha_c (vs' := [_, _]) rfl ?_
        intro T20 h20 X20 W20 cF20
        have wdF20 := wdF18.other W20 n_wd_c
        have Kp20 := Kp18.wr W20 (Or.inl (by simp))
        refine o_ret0 X20 f3_100 (by decide) (by decide) ?_
        exact ⟨rfl, Kp20, by simpa only [own_ps, q1, if_true, if_false] using cF20, by simpa only [own_a, own_b, q1, q66, if_true, if_false, Int64.or_zero] using wdF20⟩
  · refine o_ret0 X f3_4 (by decide) (by decide) ?_
    subst q1
    exact ⟨rfl, Kp, by simpa only [own_ps, if_true] using O, by simpa only [own_a, own_b, if_true, Int64.or_zero] using A⟩
set_option maxRecDepth 65536 in
set_option maxHeartbeats 40000000 in
theorem rm0 (l : Launch) (Z : State) (a0 : Array Value) (hw : ∀ d ∈ tables_1, d.before a0 Z = true) (x0 : Int64) (x1 : Int32) (x2 : Int32) (x3 : Int64) (x4 : Int64) (x5 : Int64) (h : Heap) (n0 : Nat) (hn0 : n0 ≤ h.size) :
    CtrW l Z x code 36 (some .boolean) tables_1 room_1 16 128 [.long x0, .int x1, .int x2, .long x3, .long x4, .long x5] h n0 (fun v _ => v = some (.int 1)) := by
  refine CtrW.intro (plainFor_of_name pn1) rfl #[.val (.long x0), .second, .val (.int x1), .val (.int x2), .val (.long x3), .second, .val (.long x4), .second, .val (.long x5), .second, .unset, .unset, .unset, .unset, .unset, .unset, .unset, .unset, .unset, .unset, .unset, .unset, .unset, .unset, .unset, .unset, .unset, .unset, .unset, .unset, .unset, .unset, .unset, .unset, .unset, .unset] rfl ?_
  intro K T hnm hl X
  subst hl
  refine o_iload_n X f0_0 rfl ?_
  refine o_ldc X f0_1 (hw _ (List.mem_of_getElem? (i := 0) rfl)) ?_
  refine o_iand X f0_3 ?_
  refine o_bipush 65 X f0_4 rfl ?_
  refine o_irem X f0_6 (by decide) ?_
  refine o_gen fun w e_w => ?_
  have hw0 : 0 ≤ w.toInt := by rw [e_w]; exact (own_w x1).1
  have hw1 : w.toInt < 65 := by rw [e_w]; exact (own_w x1).2
  clear e_w
  refine o_istore X f0_7 (Ls' := #[_, _, _, _, _, _, _, _, _, _, _, _, _, _, _, _, _, _, _, _, _, _, _, _, _, _, _, _, _, _, _, _, _, _, _, _]) rfl ?_
  refine o_iload_n X f0_9 rfl ?_
  refine o_bipush 127 X f0_10 rfl ?_
  refine o_iand X f0_12 ?_
  obtain ⟨q1, q2, q3⟩ := own_p x2
  refine o_gen fun p e_p => ?_
  rw [← e_p] at q1 q2 q3
  clear e_p
  refine o_istore X f0_13 (Ls' := #[_, _, _, _, _, _, _, _, _, _, _, _, _, _, _, _, _, _, _, _, _, _, _, _, _, _, _, _, _, _, _, _, _, _, _, _]) rfl ?_
  refine o_iload X f0_15 rfl ?_
  refine o_bipush 6 X f0_17 rfl ?_
  refine o_iushr X f0_19 ?_
  generalize XT.ushr p 6 = ix at q1 q3 ⊢
  refine o_istore X f0_20 (Ls' := #[_, _, _, _, _, _, _, _, _, _, _, _, _, _, _, _, _, _, _, _, _, _, _, _, _, _, _, _, _, _, _, _, _, _, _, _]) rfl ?_
  refine o_iload X f0_22 rfl ?_
  refine o_bipush 63 X f0_24 rfl ?_
  refine o_iand X f0_26 ?_
  refine o_gen fun o e_o => ?_
  have ho0 : 0 ≤ o.toInt := by rw [e_o]; exact (own_o p).1
  have ho1 : o.toInt < 64 := by rw [e_o]; exact (own_o p).2
  have hoL : (p.toInt64 &&& 63).toInt32 = o := by rw [q2, e_o]
  clear e_o q2
  refine o_istore X f0_27 (Ls' := #[_, _, _, _, _, _, _, _, _, _, _, _, _, _, _, _, _, _, _, _, _, _, _, _, _, _, _, _, _, _, _, _, _, _, _, _]) rfl ?_
  rcases q3 with hix | hix
  · subst hix
    have hixL := q1
    refine o_iload X f0_29 rfl ?_
    refine o_cutL 47 (if w = 0 then 0 else XT.ushrL (-1) (64 - w)) (fun J => ?_) ?_
    · refine o_if_ne X f0_31 (fun q31 => ?_) (fun q31 => ?_)
      · refine o_ldc2 X f0_38 (hw _ (List.mem_of_getElem? (i := 1) rfl)) ?_
        refine o_bipush 64 X f0_41 rfl ?_
        refine o_iload X f0_43 rfl ?_
        refine o_isub X f0_45 ?_
        refine o_lushr X f0_46 ?_
        simpa only [q31, ↓reduceIte, if_true, if_false] using J
      · refine o_lconst 0 X f0_34 rfl ?_
        refine o_goto X f0_35 ?_
        simpa only [q31, ↓reduceIte, if_true, if_false] using J
    refine o_genL fun on e_on => ?_
    refine o_lstore X f0_47 (Ls' := #[_, _, _, _, _, _, _, _, _, _, _, _, _, _, _, _, _, _, _, _, _, _, _, _, _, _, _, _, _, _, _, _, _, _, _, _]) rfl ?_
    refine o_lload_n X f0_49 rfl ?_
    refine o_lload X f0_50 rfl ?_
    refine o_land X f0_52 ?_
    refine o_lstore X f0_53 (Ls' := #[_, _, _, _, _, _, _, _, _, _, _, _, _, _, _, _, _, _, _, _, _, _, _, _, _, _, _, _, _, _, _, _, _, _, _, _]) rfl ?_
    refine o_lload X f0_55 rfl ?_
    refine o_iload X f0_57 rfl ?_
    refine o_lshl X f0_59 ?_
    refine o_lstore X f0_60 (Ls' := #[_, _, _, _, _, _, _, _, _, _, _, _, _, _, _, _, _, _, _, _, _, _, _, _, _, _, _, _, _, _, _, _, _, _, _, _]) rfl ?_
    refine o_iload X f0_62 rfl ?_
    refine o_cutL 79 (if o = 0 then 0 else XT.ushrL on (64 - o)) (fun J => ?_) ?_
    · refine o_if_ne X f0_64 (fun q64 => ?_) (fun q64 => ?_)
      · refine o_lload X f0_71 rfl ?_
        refine o_bipush 64 X f0_73 rfl ?_
        refine o_iload X f0_75 rfl ?_
        refine o_isub X f0_77 ?_
        refine o_lushr X f0_78 ?_
        simpa only [q64, ↓reduceIte, if_true, if_false] using J
      · refine o_lconst 0 X f0_67 rfl ?_
        refine o_goto X f0_68 ?_
        simpa only [q64, ↓reduceIte, if_true, if_false] using J
    refine o_lstore X f0_79 (Ls' := #[_, _, _, _, _, _, _, _, _, _, _, _, _, _, _, _, _, _, _, _, _, _, _, _, _, _, _, _, _, _, _, _, _, _, _, _]) rfl ?_
    refine o_lload X f0_81 rfl ?_
    refine o_iload X f0_83 rfl ?_
    refine o_lshl X f0_85 ?_
    refine o_lstore X f0_86 (Ls' := #[_, _, _, _, _, _, _, _, _, _, _, _, _, _, _, _, _, _, _, _, _, _, _, _, _, _, _, _, _, _, _, _, _, _, _, _]) rfl ?_
    refine o_iload X f0_88 rfl ?_
    refine o_cutL 105 (if o = 0 then 0 else XT.ushrL (x0 &&& on) (64 - o)) (fun J => ?_) ?_
    · refine o_if_ne X f0_90 (fun q90 => ?_) (fun q90 => ?_)
      · refine o_lload X f0_97 rfl ?_
        refine o_bipush 64 X f0_99 rfl ?_
        refine o_iload X f0_101 rfl ?_
        refine o_isub X f0_103 ?_
        refine o_lushr X f0_104 ?_
        simpa only [q90, ↓reduceIte, if_true, if_false] using J
      · refine o_lconst 0 X f0_93 rfl ?_
        refine o_goto X f0_94 ?_
        simpa only [q90, ↓reduceIte, if_true, if_false] using J
    refine o_lstore X f0_105 (Ls' := #[_, _, _, _, _, _, _, _, _, _, _, _, _, _, _, _, _, _, _, _, _, _, _, _, _, _, _, _, _, _, _, _, _, _, _, _]) rfl ?_
    refine o_iconst 3 X f0_107 rfl ?_
    refine o_newarray X 3 f0_108 (hw _ (List.mem_of_getElem? (i := 2) rfl)) (by decide) (by decide) (vs := [.long 0, .long 0, .long 0]) rfl (by decide) ?_
    intro T1 h1 mm e1 X1 E1 mmF1
    have ha_mm : n0 ≤ mm := e1 ▸ hn0
    have z1 := Nat.le_trans hn0 E1.1
    refine o_astore X1 f0_110 rfl (Ls' := #[_, _, _, _, _, _, _, _, _, _, _, _, _, _, _, _, _, _, _, _, _, _, _, _, _, _, _, _, _, _, _, _, _, _, _, _]) rfl ?_
    refine o_iconst 3 X1 f0_112 rfl ?_
    refine o_newarray X1 3 f0_113 (hw _ (List.mem_of_getElem? (i := 2) rfl)) (by decide) (by decide) (vs := [.long 0, .long 0, .long 0]) rfl (by decide) ?_
    intro T2 h2 vv e2 X2 E2 vvF2
    have n_mm_vv : mm ≠ vv := Nat.ne_of_lt (e2 ▸ mmF1.lt)
    have n_vv_mm := n_mm_vv.symm
    have ha_vv : n0 ≤ vv := e2 ▸ z1
    have mmF2 := mmF1.ext E2
    have z2 := Nat.le_trans z1 E2.1
    refine o_astore X2 f0_115 rfl (Ls' := #[_, _, _, _, _, _, _, _, _, _, _, _, _, _, _, _, _, _, _, _, _, _, _, _, _, _, _, _, _, _, _, _, _, _, _, _]) rfl ?_
    refine o_aload X2 f0_117 rfl rfl ?_
    refine o_iload X2 f0_119 rfl ?_
    refine o_lload X2 f0_121 rfl ?_
    refine o_lastore X2 f0_123 mmF2 (by decide) (Nat.le_of_ble_eq_true rfl) ha_mm (vs' := [_, _, _]) rfl ?_
    intro T3 h3 X3 W3 mmF3
    have vvF3 := vvF2.other W3 n_vv_mm
    have z3 := Nat.le_trans z2 (Keep.of_wr W3).1
    refine o_aload X3 f0_124 rfl rfl ?_
    refine o_iload X3 f0_126 rfl ?_
    refine o_iconst 1 X3 f0_128 rfl ?_
    refine o_iadd X3 f0_129 ?_
    refine o_lload X3 f0_130 rfl ?_
    refine o_lastore X3 f0_132 mmF3 (by decide) (Nat.le_of_ble_eq_true rfl) ha_mm (vs' := [_, _, _]) rfl ?_
    intro T4 h4 X4 W4 mmF4
    have vvF4 := vvF3.other W4 n_vv_mm
    have z4 := Nat.le_trans z3 (Keep.of_wr W4).1
    refine o_aload X4 f0_133 rfl rfl ?_
    refine o_iload X4 f0_135 rfl ?_
    refine o_lload X4 f0_137 rfl ?_
    refine o_lastore X4 f0_139 vvF4 (by decide) (Nat.le_of_ble_eq_true rfl) ha_vv (vs' := [_, _, _]) rfl ?_
    intro T5 h5 X5 W5 vvF5
    have mmF5 := mmF4.other W5 n_mm_vv
    have z5 := Nat.le_trans z4 (Keep.of_wr W5).1
    refine o_aload X5 f0_140 rfl rfl ?_
    refine o_iload X5 f0_142 rfl ?_
    refine o_iconst 1 X5 f0_144 rfl ?_
    refine o_iadd X5 f0_145 ?_
    refine o_lload X5 f0_146 rfl ?_
    refine o_lastore X5 f0_148 vvF5 (by decide) (Nat.le_of_ble_eq_true rfl) ha_vv (vs' := [_, _, _]) rfl ?_
    intro T6 h6 X6 W6 vvF6
    have mmF6 := mmF5.other W6 n_mm_vv
    have z6 := Nat.le_trans z5 (Keep.of_wr W6).1
    refine o_lload X6 f0_149 rfl ?_
    refine o_aload X6 f0_151 rfl rfl ?_
    refine o_iconst 0 X6 f0_153 rfl ?_
    refine o_laload X6 f0_154 mmF6 (by decide) rfl ?_
    refine o_ldc2 X6 f0_155 (hw _ (List.mem_of_getElem? (i := 1) rfl)) ?_
    refine o_lxor X6 f0_158 ?_
    refine o_land X6 f0_159 ?_
    refine o_genL fun i159 _ => ?_
    refine o_lstore X6 f0_160 (Ls' := #[_, _, _, _, _, _, _, _, _, _, _, _, _, _, _, _, _, _, _, _, _, _, _, _, _, _, _, _, _, _, _, _, _, _, _, _]) rfl ?_
    refine o_lload X6 f0_162 rfl ?_
    refine o_aload X6 f0_164 rfl rfl ?_
    refine o_iconst 1 X6 f0_166 rfl ?_
    refine o_laload X6 f0_167 mmF6 (by decide) rfl ?_
    refine o_ldc2 X6 f0_168 (hw _ (List.mem_of_getElem? (i := 1) rfl)) ?_
    refine o_lxor X6 f0_171 ?_
    refine o_land X6 f0_172 ?_
    refine o_genL fun i172 _ => ?_
    refine o_lstore X6 f0_173 (Ls' := #[_, _, _, _, _, _, _, _, _, _, _, _, _, _, _, _, _, _, _, _, _, _, _, _, _, _, _, _, _, _, _, _, _, _, _, _]) rfl ?_
    refine o_lload X6 f0_175 rfl ?_
    refine o_aload X6 f0_177 rfl rfl ?_
    refine o_iconst 2 X6 f0_179 rfl ?_
    refine o_laload X6 f0_180 mmF6 (by decide) rfl ?_
    refine o_ldc2 X6 f0_181 (hw _ (List.mem_of_getElem? (i := 1) rfl)) ?_
    refine o_lxor X6 f0_184 ?_
    refine o_land X6 f0_185 ?_
    refine o_genL fun i185 _ => ?_
    refine o_lstore X6 f0_186 (Ls' := #[_, _, _, _, _, _, _, _, _, _, _, _, _, _, _, _, _, _, _, _, _, _, _, _, _, _, _, _, _, _, _, _, _, _, _, _]) rfl ?_
    refine o_iconst 3 X6 f0_188 rfl ?_
    refine o_newarray X6 3 f0_189 (hw _ (List.mem_of_getElem? (i := 2) rfl)) (by decide) (by decide) (vs := [.long 0, .long 0, .long 0]) rfl (by decide) ?_
    intro T7 h7 wd e7 X7 E7 wdF7
    have n_mm_wd : mm ≠ wd := Nat.ne_of_lt (e7 ▸ mmF6.lt)
    have n_wd_mm := n_mm_wd.symm
    have n_vv_wd : vv ≠ wd := Nat.ne_of_lt (e7 ▸ vvF6.lt)
    have n_wd_vv := n_vv_wd.symm
    have ha_wd : n0 ≤ wd := e7 ▸ z6
    have mmF7 := mmF6.ext E7
    have vvF7 := vvF6.ext E7
    have z7 := Nat.le_trans z6 E7.1
    refine o_astore X7 f0_191 rfl (Ls' := #[_, _, _, _, _, _, _, _, _, _, _, _, _, _, _, _, _, _, _, _, _, _, _, _, _, _, _, _, _, _, _, _, _, _, _, _]) rfl ?_
    refine o_aload X7 f0_193 rfl rfl ?_
    refine o_iconst 0 X7 f0_195 rfl ?_
    refine o_lload X7 f0_196 rfl ?_
    refine o_lastore X7 f0_198 wdF7 (by decide) (Nat.le_of_ble_eq_true rfl) ha_wd (vs' := [_, _, _]) rfl ?_
    intro T8 h8 X8 W8 wdF8
    have mmF8 := mmF7.other W8 n_mm_wd
    have vvF8 := vvF7.other W8 n_vv_wd
    have z8 := Nat.le_trans z7 (Keep.of_wr W8).1
    refine o_aload X8 f0_199 rfl rfl ?_
    refine o_iconst 1 X8 f0_201 rfl ?_
    refine o_lload X8 f0_202 rfl ?_
    refine o_lastore X8 f0_204 wdF8 (by decide) (Nat.le_of_ble_eq_true rfl) ha_wd (vs' := [_, _, _]) rfl ?_
    intro T9 h9 X9 W9 wdF9
    have mmF9 := mmF8.other W9 n_mm_wd
    have vvF9 := vvF8.other W9 n_vv_wd
    have z9 := Nat.le_trans z8 (Keep.of_wr W9).1
    refine o_aload X9 f0_205 rfl rfl ?_
    refine o_iconst 2 X9 f0_207 rfl ?_
    refine o_lload X9 f0_208 rfl ?_
    refine o_lastore X9 f0_210 wdF9 (by decide) (Nat.le_of_ble_eq_true rfl) ha_wd (vs' := [_, _, _]) rfl ?_
    intro T10 h10 X10 W10 wdF10
    have mmF10 := mmF9.other W10 n_mm_wd
    have vvF10 := vvF9.other W10 n_vv_wd
    have z10 := Nat.le_trans z9 (Keep.of_wr W10).1
    refine o_new X10 f0_211 (hw _ (List.mem_of_getElem? (i := 3) rfl)) (hw _ (List.mem_of_getElem? (i := 4) rfl)) (hw _ (List.mem_of_getElem? (i := 5) rfl)) (by decide) ?_
    intro T11 h11 c e11 X11 E11 A11 D11
    have cF11 := Obj.new (ns := own_nsB) (vs := [.null, .long 0]) A11 D11 (own_ldB Z a0 hw) [(.array .long), .long] (by decide) rfl
    have n_mm_c : mm ≠ c := Nat.ne_of_lt (e11 ▸ mmF10.lt)
    have n_c_mm := n_mm_c.symm
    have n_vv_c : vv ≠ c := Nat.ne_of_lt (e11 ▸ vvF10.lt)
    have n_c_vv := n_vv_c.symm
    have n_wd_c : wd ≠ c := Nat.ne_of_lt (e11 ▸ wdF10.lt)
    have n_c_wd := n_wd_c.symm
    have ha_c : n0 ≤ c := e11 ▸ z10
    have mmF11 := mmF10.ext E11
    have vvF11 := vvF10.ext E11
    have wdF11 := wdF10.ext E11
    have z11 := Nat.le_trans z10 E11.1
    refine o_dup X11 f0_214 rfl ?_
    refine o_aload X11 f0_215 rfl rfl ?_
    refine o_iload X11 f0_217 rfl ?_
    refine o_i2l X11 f0_219 ?_
    refine o_callN X11 6 f0_220 rfl (hw _ (List.mem_of_getElem? (i := 6) rfl)) (hw _ (List.mem_of_getElem? (i := 7) rfl)) (hw _ (List.mem_of_getElem? (i := 8) rfl)) (hw _ (List.mem_of_getElem? (i := 5) rfl)) (by decide) (rm1 K.l Z a0 hw c wd _ _ n0 ha_c cF11) (lenOf pd0 rfl) rfl rfl (by first | exact Nat.zero_le _ | simp [Value.category]) (by decide) ?_
    rintro T12 h12 v12 ⟨rfl, Kp12, cF12⟩ X12
    refine o_v0 ?_
    have mmF12 := mmF11.keep Kp12 (ninS n_mm_c nin0)
    have vvF12 := vvF11.keep Kp12 (ninS n_vv_c nin0)
    have wdF12 := wdF11.keep Kp12 (ninS n_wd_c nin0)
    have z12 := Nat.le_trans z11 Kp12.1
    refine o_astore X12 f0_223 rfl (Ls' := #[_, _, _, _, _, _, _, _, _, _, _, _, _, _, _, _, _, _, _, _, _, _, _, _, _, _, _, _, _, _, _, _, _, _, _, _]) rfl ?_
    refine o_aload X12 f0_225 rfl rfl ?_
    refine o_lload_n X12 f0_227 rfl ?_
    refine o_iload X12 f0_228 rfl ?_
    refine o_callV X12 6 f0_230 (hw _ (List.mem_of_getElem? (i := 16) rfl)) (hw _ (List.mem_of_getElem? (i := 17) rfl)) (hw _ (List.mem_of_getElem? (i := 19) rfl)) (hw _ (List.mem_of_getElem? (i := 19) rfl)) (hw _ (List.mem_of_getElem? (i := 18) rfl)) (by decide) (hw _ (List.mem_of_getElem? (i := 20) rfl)) (hw _ (List.mem_of_getElem? (i := 5) rfl)) (rmP0 K.l Z a0 hw c _ _ _ n0 wd _ _ _ _ o ha_c ha_wd n_c_wd hixL hoL cF12 wdF12) cF12.1 (lenOf pd1 rfl) rfl rfl (by first | exact Nat.zero_le _ | simp [Value.category]) (by decide) ?_
    rintro T13 h13 v13 ⟨rfl, Kp13, cF13, wdF13⟩ X13
    refine o_v0 ?_
    have mmF13 := mmF12.keep Kp13 (ninS n_mm_c (ninS n_mm_wd nin0))
    have vvF13 := vvF12.keep Kp13 (ninS n_vv_c (ninS n_vv_wd nin0))
    have z13 := Nat.le_trans z12 Kp13.1
    refine o_aload X13 f0_233 rfl rfl ?_
    refine o_iconst 0 X13 f0_235 rfl ?_
    refine o_laload X13 f0_236 wdF13 (by decide) rfl ?_
    refine o_lload X13 f0_237 rfl ?_
    refine o_aload X13 f0_239 rfl rfl ?_
    refine o_iconst 0 X13 f0_241 rfl ?_
    refine o_laload X13 f0_242 vvF13 (by decide) rfl ?_
    refine o_lor X13 f0_243 ?_
    refine o_lcmp X13 f0_244 ?_
    refine o_lif_ne_f X13 f0_245 (by rw [own_aE x0 w o hw0 hw1, e_on]; rfl) ?_
    refine o_aload X13 f0_248 rfl rfl ?_
    refine o_iconst 1 X13 f0_250 rfl ?_
    refine o_laload X13 f0_251 wdF13 (by decide) rfl ?_
    refine o_lload X13 f0_252 rfl ?_
    refine o_aload X13 f0_254 rfl rfl ?_
    refine o_iconst 1 X13 f0_256 rfl ?_
    refine o_laload X13 f0_257 vvF13 (by decide) rfl ?_
    refine o_lor X13 f0_258 ?_
    refine o_lcmp X13 f0_259 ?_
    refine o_lif_ne_f X13 f0_260 (by rw [own_bE x0 w o hw0 hw1 ho0 ho1, e_on]; rfl) ?_
    refine o_aload X13 f0_263 rfl rfl ?_
    refine o_iconst 2 X13 f0_265 rfl ?_
    refine o_laload X13 f0_266 wdF13 (by decide) rfl ?_
    refine o_lload X13 f0_267 rfl ?_
    refine o_aload X13 f0_269 rfl rfl ?_
    refine o_iconst 2 X13 f0_271 rfl ?_
    refine o_laload X13 f0_272 vvF13 (by decide) rfl ?_
    refine o_lor X13 f0_273 ?_
    refine o_lcmp X13 f0_274 ?_
    refine o_lif_ne_f X13 f0_275 ((Int64.or_zero).symm) ?_
    refine o_aload X13 f0_278 rfl rfl ?_
    refine o_callV X13 6 f0_280 (hw _ (List.mem_of_getElem? (i := 22) rfl)) (hw _ (List.mem_of_getElem? (i := 23) rfl)) (hw _ (List.mem_of_getElem? (i := 25) rfl)) (hw _ (List.mem_of_getElem? (i := 25) rfl)) (hw _ (List.mem_of_getElem? (i := 24) rfl)) (by decide) (hw _ (List.mem_of_getElem? (i := 26) rfl)) (hw _ (List.mem_of_getElem? (i := 5) rfl)) (rm4 K.l Z a0 hw c _ n0 _ _ cF13) cF13.1 (lenOf pd2 rfl) rfl rfl (by first | exact Nat.zero_le _ | simp [Value.category]) (by decide) ?_
    rintro T14 h14 v14 ⟨rfl, rfl⟩ X14
    refine o_v1 ?_
    refine o_iload X14 f0_283 rfl ?_
    refine o_i2l X14 f0_285 ?_
    refine o_iload X14 f0_286 rfl ?_
    refine o_i2l X14 f0_288 ?_
    refine o_ladd X14 f0_289 ?_
    refine o_lcmp X14 f0_290 ?_
    refine o_lif_ne_f X14 f0_291 (own_ps1 _ _) ?_
    refine o_iconst 1 X14 f0_294 rfl ?_
    refine o_goto X14 f0_295 ?_
    refine o_retZ X14 f0_299 (by decide) (by decide) ?_
    rfl
  · subst hix
    have hixL := q1
    refine o_iload X f0_29 rfl ?_
    refine o_cutL 47 (if w = 0 then 0 else XT.ushrL (-1) (64 - w)) (fun J => ?_) ?_
    · refine o_if_ne X f0_31 (fun q31 => ?_) (fun q31 => ?_)
      · refine o_ldc2 X f0_38 (hw _ (List.mem_of_getElem? (i := 1) rfl)) ?_
        refine o_bipush 64 X f0_41 rfl ?_
        refine o_iload X f0_43 rfl ?_
        refine o_isub X f0_45 ?_
        refine o_lushr X f0_46 ?_
        simpa only [q31, ↓reduceIte, if_true, if_false] using J
      · refine o_lconst 0 X f0_34 rfl ?_
        refine o_goto X f0_35 ?_
        simpa only [q31, ↓reduceIte, if_true, if_false] using J
    refine o_genL fun on e_on => ?_
    refine o_lstore X f0_47 (Ls' := #[_, _, _, _, _, _, _, _, _, _, _, _, _, _, _, _, _, _, _, _, _, _, _, _, _, _, _, _, _, _, _, _, _, _, _, _]) rfl ?_
    refine o_lload_n X f0_49 rfl ?_
    refine o_lload X f0_50 rfl ?_
    refine o_land X f0_52 ?_
    refine o_lstore X f0_53 (Ls' := #[_, _, _, _, _, _, _, _, _, _, _, _, _, _, _, _, _, _, _, _, _, _, _, _, _, _, _, _, _, _, _, _, _, _, _, _]) rfl ?_
    refine o_lload X f0_55 rfl ?_
    refine o_iload X f0_57 rfl ?_
    refine o_lshl X f0_59 ?_
    refine o_lstore X f0_60 (Ls' := #[_, _, _, _, _, _, _, _, _, _, _, _, _, _, _, _, _, _, _, _, _, _, _, _, _, _, _, _, _, _, _, _, _, _, _, _]) rfl ?_
    refine o_iload X f0_62 rfl ?_
    refine o_cutL 79 (if o = 0 then 0 else XT.ushrL on (64 - o)) (fun J => ?_) ?_
    · refine o_if_ne X f0_64 (fun q64 => ?_) (fun q64 => ?_)
      · refine o_lload X f0_71 rfl ?_
        refine o_bipush 64 X f0_73 rfl ?_
        refine o_iload X f0_75 rfl ?_
        refine o_isub X f0_77 ?_
        refine o_lushr X f0_78 ?_
        simpa only [q64, ↓reduceIte, if_true, if_false] using J
      · refine o_lconst 0 X f0_67 rfl ?_
        refine o_goto X f0_68 ?_
        simpa only [q64, ↓reduceIte, if_true, if_false] using J
    refine o_lstore X f0_79 (Ls' := #[_, _, _, _, _, _, _, _, _, _, _, _, _, _, _, _, _, _, _, _, _, _, _, _, _, _, _, _, _, _, _, _, _, _, _, _]) rfl ?_
    refine o_lload X f0_81 rfl ?_
    refine o_iload X f0_83 rfl ?_
    refine o_lshl X f0_85 ?_
    refine o_lstore X f0_86 (Ls' := #[_, _, _, _, _, _, _, _, _, _, _, _, _, _, _, _, _, _, _, _, _, _, _, _, _, _, _, _, _, _, _, _, _, _, _, _]) rfl ?_
    refine o_iload X f0_88 rfl ?_
    refine o_cutL 105 (if o = 0 then 0 else XT.ushrL (x0 &&& on) (64 - o)) (fun J => ?_) ?_
    · refine o_if_ne X f0_90 (fun q90 => ?_) (fun q90 => ?_)
      · refine o_lload X f0_97 rfl ?_
        refine o_bipush 64 X f0_99 rfl ?_
        refine o_iload X f0_101 rfl ?_
        refine o_isub X f0_103 ?_
        refine o_lushr X f0_104 ?_
        simpa only [q90, ↓reduceIte, if_true, if_false] using J
      · refine o_lconst 0 X f0_93 rfl ?_
        refine o_goto X f0_94 ?_
        simpa only [q90, ↓reduceIte, if_true, if_false] using J
    refine o_lstore X f0_105 (Ls' := #[_, _, _, _, _, _, _, _, _, _, _, _, _, _, _, _, _, _, _, _, _, _, _, _, _, _, _, _, _, _, _, _, _, _, _, _]) rfl ?_
    refine o_iconst 3 X f0_107 rfl ?_
    refine o_newarray X 3 f0_108 (hw _ (List.mem_of_getElem? (i := 2) rfl)) (by decide) (by decide) (vs := [.long 0, .long 0, .long 0]) rfl (by decide) ?_
    intro T1 h1 mm e1 X1 E1 mmF1
    have ha_mm : n0 ≤ mm := e1 ▸ hn0
    have z1 := Nat.le_trans hn0 E1.1
    refine o_astore X1 f0_110 rfl (Ls' := #[_, _, _, _, _, _, _, _, _, _, _, _, _, _, _, _, _, _, _, _, _, _, _, _, _, _, _, _, _, _, _, _, _, _, _, _]) rfl ?_
    refine o_iconst 3 X1 f0_112 rfl ?_
    refine o_newarray X1 3 f0_113 (hw _ (List.mem_of_getElem? (i := 2) rfl)) (by decide) (by decide) (vs := [.long 0, .long 0, .long 0]) rfl (by decide) ?_
    intro T2 h2 vv e2 X2 E2 vvF2
    have n_mm_vv : mm ≠ vv := Nat.ne_of_lt (e2 ▸ mmF1.lt)
    have n_vv_mm := n_mm_vv.symm
    have ha_vv : n0 ≤ vv := e2 ▸ z1
    have mmF2 := mmF1.ext E2
    have z2 := Nat.le_trans z1 E2.1
    refine o_astore X2 f0_115 rfl (Ls' := #[_, _, _, _, _, _, _, _, _, _, _, _, _, _, _, _, _, _, _, _, _, _, _, _, _, _, _, _, _, _, _, _, _, _, _, _]) rfl ?_
    refine o_aload X2 f0_117 rfl rfl ?_
    refine o_iload X2 f0_119 rfl ?_
    refine o_lload X2 f0_121 rfl ?_
    refine o_lastore X2 f0_123 mmF2 (by decide) (Nat.le_of_ble_eq_true rfl) ha_mm (vs' := [_, _, _]) rfl ?_
    intro T3 h3 X3 W3 mmF3
    have vvF3 := vvF2.other W3 n_vv_mm
    have z3 := Nat.le_trans z2 (Keep.of_wr W3).1
    refine o_aload X3 f0_124 rfl rfl ?_
    refine o_iload X3 f0_126 rfl ?_
    refine o_iconst 1 X3 f0_128 rfl ?_
    refine o_iadd X3 f0_129 ?_
    refine o_lload X3 f0_130 rfl ?_
    refine o_lastore X3 f0_132 mmF3 (by decide) (Nat.le_of_ble_eq_true rfl) ha_mm (vs' := [_, _, _]) rfl ?_
    intro T4 h4 X4 W4 mmF4
    have vvF4 := vvF3.other W4 n_vv_mm
    have z4 := Nat.le_trans z3 (Keep.of_wr W4).1
    refine o_aload X4 f0_133 rfl rfl ?_
    refine o_iload X4 f0_135 rfl ?_
    refine o_lload X4 f0_137 rfl ?_
    refine o_lastore X4 f0_139 vvF4 (by decide) (Nat.le_of_ble_eq_true rfl) ha_vv (vs' := [_, _, _]) rfl ?_
    intro T5 h5 X5 W5 vvF5
    have mmF5 := mmF4.other W5 n_mm_vv
    have z5 := Nat.le_trans z4 (Keep.of_wr W5).1
    refine o_aload X5 f0_140 rfl rfl ?_
    refine o_iload X5 f0_142 rfl ?_
    refine o_iconst 1 X5 f0_144 rfl ?_
    refine o_iadd X5 f0_145 ?_
    refine o_lload X5 f0_146 rfl ?_
    refine o_lastore X5 f0_148 vvF5 (by decide) (Nat.le_of_ble_eq_true rfl) ha_vv (vs' := [_, _, _]) rfl ?_
    intro T6 h6 X6 W6 vvF6
    have mmF6 := mmF5.other W6 n_mm_vv
    have z6 := Nat.le_trans z5 (Keep.of_wr W6).1
    refine o_lload X6 f0_149 rfl ?_
    refine o_aload X6 f0_151 rfl rfl ?_
    refine o_iconst 0 X6 f0_153 rfl ?_
    refine o_laload X6 f0_154 mmF6 (by decide) rfl ?_
    refine o_ldc2 X6 f0_155 (hw _ (List.mem_of_getElem? (i := 1) rfl)) ?_
    refine o_lxor X6 f0_158 ?_
    refine o_land X6 f0_159 ?_
    refine o_genL fun i159 _ => ?_
    refine o_lstore X6 f0_160 (Ls' := #[_, _, _, _, _, _, _, _, _, _, _, _, _, _, _, _, _, _, _, _, _, _, _, _, _, _, _, _, _, _, _, _, _, _, _, _]) rfl ?_
    refine o_lload X6 f0_162 rfl ?_
    refine o_aload X6 f0_164 rfl rfl ?_
    refine o_iconst 1 X6 f0_166 rfl ?_
    refine o_laload X6 f0_167 mmF6 (by decide) rfl ?_
    refine o_ldc2 X6 f0_168 (hw _ (List.mem_of_getElem? (i := 1) rfl)) ?_
    refine o_lxor X6 f0_171 ?_
    refine o_land X6 f0_172 ?_
    refine o_genL fun i172 _ => ?_
    refine o_lstore X6 f0_173 (Ls' := #[_, _, _, _, _, _, _, _, _, _, _, _, _, _, _, _, _, _, _, _, _, _, _, _, _, _, _, _, _, _, _, _, _, _, _, _]) rfl ?_
    refine o_lload X6 f0_175 rfl ?_
    refine o_aload X6 f0_177 rfl rfl ?_
    refine o_iconst 2 X6 f0_179 rfl ?_
    refine o_laload X6 f0_180 mmF6 (by decide) rfl ?_
    refine o_ldc2 X6 f0_181 (hw _ (List.mem_of_getElem? (i := 1) rfl)) ?_
    refine o_lxor X6 f0_184 ?_
    refine o_land X6 f0_185 ?_
    refine o_genL fun i185 _ => ?_
    refine o_lstore X6 f0_186 (Ls' := #[_, _, _, _, _, _, _, _, _, _, _, _, _, _, _, _, _, _, _, _, _, _, _, _, _, _, _, _, _, _, _, _, _, _, _, _]) rfl ?_
    refine o_iconst 3 X6 f0_188 rfl ?_
    refine o_newarray X6 3 f0_189 (hw _ (List.mem_of_getElem? (i := 2) rfl)) (by decide) (by decide) (vs := [.long 0, .long 0, .long 0]) rfl (by decide) ?_
    intro T7 h7 wd e7 X7 E7 wdF7
    have n_mm_wd : mm ≠ wd := Nat.ne_of_lt (e7 ▸ mmF6.lt)
    have n_wd_mm := n_mm_wd.symm
    have n_vv_wd : vv ≠ wd := Nat.ne_of_lt (e7 ▸ vvF6.lt)
    have n_wd_vv := n_vv_wd.symm
    have ha_wd : n0 ≤ wd := e7 ▸ z6
    have mmF7 := mmF6.ext E7
    have vvF7 := vvF6.ext E7
    have z7 := Nat.le_trans z6 E7.1
    refine o_astore X7 f0_191 rfl (Ls' := #[_, _, _, _, _, _, _, _, _, _, _, _, _, _, _, _, _, _, _, _, _, _, _, _, _, _, _, _, _, _, _, _, _, _, _, _]) rfl ?_
    refine o_aload X7 f0_193 rfl rfl ?_
    refine o_iconst 0 X7 f0_195 rfl ?_
    refine o_lload X7 f0_196 rfl ?_
    refine o_lastore X7 f0_198 wdF7 (by decide) (Nat.le_of_ble_eq_true rfl) ha_wd (vs' := [_, _, _]) rfl ?_
    intro T8 h8 X8 W8 wdF8
    have mmF8 := mmF7.other W8 n_mm_wd
    have vvF8 := vvF7.other W8 n_vv_wd
    have z8 := Nat.le_trans z7 (Keep.of_wr W8).1
    refine o_aload X8 f0_199 rfl rfl ?_
    refine o_iconst 1 X8 f0_201 rfl ?_
    refine o_lload X8 f0_202 rfl ?_
    refine o_lastore X8 f0_204 wdF8 (by decide) (Nat.le_of_ble_eq_true rfl) ha_wd (vs' := [_, _, _]) rfl ?_
    intro T9 h9 X9 W9 wdF9
    have mmF9 := mmF8.other W9 n_mm_wd
    have vvF9 := vvF8.other W9 n_vv_wd
    have z9 := Nat.le_trans z8 (Keep.of_wr W9).1
    refine o_aload X9 f0_205 rfl rfl ?_
    refine o_iconst 2 X9 f0_207 rfl ?_
    refine o_lload X9 f0_208 rfl ?_
    refine o_lastore X9 f0_210 wdF9 (by decide) (Nat.le_of_ble_eq_true rfl) ha_wd (vs' := [_, _, _]) rfl ?_
    intro T10 h10 X10 W10 wdF10
    have mmF10 := mmF9.other W10 n_mm_wd
    have vvF10 := vvF9.other W10 n_vv_wd
    have z10 := Nat.le_trans z9 (Keep.of_wr W10).1
    refine o_new X10 f0_211 (hw _ (List.mem_of_getElem? (i := 3) rfl)) (hw _ (List.mem_of_getElem? (i := 4) rfl)) (hw _ (List.mem_of_getElem? (i := 5) rfl)) (by decide) ?_
    intro T11 h11 c e11 X11 E11 A11 D11
    have cF11 := Obj.new (ns := own_nsB) (vs := [.null, .long 0]) A11 D11 (own_ldB Z a0 hw) [(.array .long), .long] (by decide) rfl
    have n_mm_c : mm ≠ c := Nat.ne_of_lt (e11 ▸ mmF10.lt)
    have n_c_mm := n_mm_c.symm
    have n_vv_c : vv ≠ c := Nat.ne_of_lt (e11 ▸ vvF10.lt)
    have n_c_vv := n_vv_c.symm
    have n_wd_c : wd ≠ c := Nat.ne_of_lt (e11 ▸ wdF10.lt)
    have n_c_wd := n_wd_c.symm
    have ha_c : n0 ≤ c := e11 ▸ z10
    have mmF11 := mmF10.ext E11
    have vvF11 := vvF10.ext E11
    have wdF11 := wdF10.ext E11
    have z11 := Nat.le_trans z10 E11.1
    refine o_dup X11 f0_214 rfl ?_
    refine o_aload X11 f0_215 rfl rfl ?_
    refine o_iload X11 f0_217 rfl ?_
    refine o_i2l X11 f0_219 ?_
    refine o_callN X11 6 f0_220 rfl (hw _ (List.mem_of_getElem? (i := 6) rfl)) (hw _ (List.mem_of_getElem? (i := 7) rfl)) (hw _ (List.mem_of_getElem? (i := 8) rfl)) (hw _ (List.mem_of_getElem? (i := 5) rfl)) (by decide) (rm1 K.l Z a0 hw c wd _ _ n0 ha_c cF11) (lenOf pd0 rfl) rfl rfl (by first | exact Nat.zero_le _ | simp [Value.category]) (by decide) ?_
    rintro T12 h12 v12 ⟨rfl, Kp12, cF12⟩ X12
    refine o_v0 ?_
    have mmF12 := mmF11.keep Kp12 (ninS n_mm_c nin0)
    have vvF12 := vvF11.keep Kp12 (ninS n_vv_c nin0)
    have wdF12 := wdF11.keep Kp12 (ninS n_wd_c nin0)
    have z12 := Nat.le_trans z11 Kp12.1
    refine o_astore X12 f0_223 rfl (Ls' := #[_, _, _, _, _, _, _, _, _, _, _, _, _, _, _, _, _, _, _, _, _, _, _, _, _, _, _, _, _, _, _, _, _, _, _, _]) rfl ?_
    refine o_aload X12 f0_225 rfl rfl ?_
    refine o_lload_n X12 f0_227 rfl ?_
    refine o_iload X12 f0_228 rfl ?_
    refine o_callV X12 6 f0_230 (hw _ (List.mem_of_getElem? (i := 16) rfl)) (hw _ (List.mem_of_getElem? (i := 17) rfl)) (hw _ (List.mem_of_getElem? (i := 19) rfl)) (hw _ (List.mem_of_getElem? (i := 19) rfl)) (hw _ (List.mem_of_getElem? (i := 18) rfl)) (by decide) (hw _ (List.mem_of_getElem? (i := 20) rfl)) (hw _ (List.mem_of_getElem? (i := 5) rfl)) (rmP1 K.l Z a0 hw c _ _ _ n0 wd _ _ _ _ o ha_c ha_wd n_c_wd hixL hoL cF12 wdF12) cF12.1 (lenOf pd1 rfl) rfl rfl (by first | exact Nat.zero_le _ | simp [Value.category]) (by decide) ?_
    rintro T13 h13 v13 ⟨rfl, Kp13, cF13, wdF13⟩ X13
    refine o_v0 ?_
    have mmF13 := mmF12.keep Kp13 (ninS n_mm_c (ninS n_mm_wd nin0))
    have vvF13 := vvF12.keep Kp13 (ninS n_vv_c (ninS n_vv_wd nin0))
    have z13 := Nat.le_trans z12 Kp13.1
    refine o_aload X13 f0_233 rfl rfl ?_
    refine o_iconst 0 X13 f0_235 rfl ?_
    refine o_laload X13 f0_236 wdF13 (by decide) rfl ?_
    refine o_lload X13 f0_237 rfl ?_
    refine o_aload X13 f0_239 rfl rfl ?_
    refine o_iconst 0 X13 f0_241 rfl ?_
    refine o_laload X13 f0_242 vvF13 (by decide) rfl ?_
    refine o_lor X13 f0_243 ?_
    refine o_lcmp X13 f0_244 ?_
    refine o_lif_ne_f X13 f0_245 ((Int64.or_zero).symm) ?_
    refine o_aload X13 f0_248 rfl rfl ?_
    refine o_iconst 1 X13 f0_250 rfl ?_
    refine o_laload X13 f0_251 wdF13 (by decide) rfl ?_
    refine o_lload X13 f0_252 rfl ?_
    refine o_aload X13 f0_254 rfl rfl ?_
    refine o_iconst 1 X13 f0_256 rfl ?_
    refine o_laload X13 f0_257 vvF13 (by decide) rfl ?_
    refine o_lor X13 f0_258 ?_
    refine o_lcmp X13 f0_259 ?_
    refine o_lif_ne_f X13 f0_260 (by rw [own_aE x0 w o hw0 hw1, e_on]; rfl) ?_
    refine o_aload X13 f0_263 rfl rfl ?_
    refine o_iconst 2 X13 f0_265 rfl ?_
    refine o_laload X13 f0_266 wdF13 (by decide) rfl ?_
    refine o_lload X13 f0_267 rfl ?_
    refine o_aload X13 f0_269 rfl rfl ?_
    refine o_iconst 2 X13 f0_271 rfl ?_
    refine o_laload X13 f0_272 vvF13 (by decide) rfl ?_
    refine o_lor X13 f0_273 ?_
    refine o_lcmp X13 f0_274 ?_
    refine o_lif_ne_f X13 f0_275 (by rw [own_bE x0 w o hw0 hw1 ho0 ho1, e_on]; rfl) ?_
    refine o_aload X13 f0_278 rfl rfl ?_
    refine o_callV X13 6 f0_280 (hw _ (List.mem_of_getElem? (i := 22) rfl)) (hw _ (List.mem_of_getElem? (i := 23) rfl)) (hw _ (List.mem_of_getElem? (i := 25) rfl)) (hw _ (List.mem_of_getElem? (i := 25) rfl)) (hw _ (List.mem_of_getElem? (i := 24) rfl)) (by decide) (hw _ (List.mem_of_getElem? (i := 26) rfl)) (hw _ (List.mem_of_getElem? (i := 5) rfl)) (rm4 K.l Z a0 hw c _ n0 _ _ cF13) cF13.1 (lenOf pd2 rfl) rfl rfl (by first | exact Nat.zero_le _ | simp [Value.category]) (by decide) ?_
    rintro T14 h14 v14 ⟨rfl, rfl⟩ X14
    refine o_v1 ?_
    refine o_iload X14 f0_283 rfl ?_
    refine o_i2l X14 f0_285 ?_
    refine o_iload X14 f0_286 rfl ?_
    refine o_i2l X14 f0_288 ?_
    refine o_ladd X14 f0_289 ?_
    refine o_lcmp X14 f0_290 ?_
    refine o_lif_ne_f X14 f0_291 (own_ps1 _ _) ?_
    refine o_iconst 1 X14 f0_294 rfl ?_
    refine o_goto X14 f0_295 ?_
    refine o_retZ X14 f0_299 (by decide) (by decide) ?_
    rfl
set_option maxRecDepth 65536 in
set_option maxHeartbeats 40000000 in
theorem comes_1 {Post : Tables → Env → Array Value → State → Outcome → State → Prop} (hpost : ∀ tb e args s v u, (limb_1_1.after args s (.returned v) u = true ∧ limb_1_2.after args s (.returned v) u = true ∧ True) → FrameEnd s (.returned v) u (Jvm.fieldLocs frame_1_writes args s ++ Jvm.arrayLocs frame_1_arrays args s ++ Jvm.staticLocs frame_1_statics s) 16 128 → Post tb e args s (.returned v) u) :
    ArmFor flags0 classFile x code maxLocals ret World_1 tables_1 room_1 Calls_1 rest_1 Pre_1 Post := by
  intro l hfl _ _ p e ha hc hk s m args below hf hA hF happ hP
  obtain ⟨hcalls, hrest, hpre⟩ := hP
  obtain ⟨-, -, -, hnamed, -, -, -, hat⟩ := (Spec.applies_iff hf).mp happ
  obtain ⟨hg, hn⟩ := and_e (Cond.before_iff.mp (show (Jvm.Cond.and given_1 narrow_1).before args s = true from hpre))
  obtain ⟨g0, r0⟩ := and_e hg
  obtain ⟨p0, r1⟩ := and_e r0
  obtain ⟨p1, r2⟩ := and_e r1
  obtain ⟨p2, r3⟩ := and_e r2
  obtain ⟨p3, r4⟩ := and_e r3
  obtain ⟨p4, r5⟩ := and_e r4
  obtain ⟨w0, w1, w2, w3, w4, w5, rfl⟩ : ∃ w0 w1 w2 w3 w4 w5 : Value, args = #[w0, w1, w2, w3, w4, w5] := by
    have hs : args.size = 6 := by simpa [Cond.value, given_1] using g0
    obtain ⟨L⟩ := args
    match L, hs with
    | [w0, w1, w2, w3, w4, w5], _ => exact ⟨w0, w1, w2, w3, w4, w5, rfl⟩
  have hw := fun d (hd : d ∈ tables_1) => atoms_spec (ws := Jvm.Cond.code x code maxLocals ret :: tables_1) hat d (List.mem_cons_of_mem _ hd)
  obtain ⟨i0, e0⟩ := isL_v p0
  obtain rfl : w0 = (.long i0) := Option.some.inj e0
  obtain ⟨i1, e1⟩ := is_v p1
  obtain rfl : w1 = (.int i1) := Option.some.inj e1
  obtain ⟨i2, e2⟩ := is_v p2
  obtain rfl : w2 = (.int i2) := Option.some.inj e2
  obtain ⟨i3, e3⟩ := isL_v p3
  obtain rfl : w3 = (.long i3) := Option.some.inj e3
  obtain ⟨i4, e4⟩ := isL_v p4
  obtain rfl : w4 = (.long i4) := Option.some.inj e4
  obtain ⟨i5, e5⟩ := isL_v r5
  obtain rfl : w5 = (.long i5) := Option.some.inj e5
  obtain ⟨n, o, h1, h2, h3, _, L, rfl, ⟨rfl, N⟩, hq⟩ := rm0 l s _ hw i0 i1 i2 i3 i4 i5 s.heap s.heap.size (Nat.le_refl _) p e ha hc hk s m _ below hf ((Spec.applies_iff_loose hf).mp happ).1 ⟨rfl, State.Warmed39.refl s, rfl⟩ trivial
  refine ⟨n, _, h1, h2, h3, hpost _ _ _ _ _ _ ⟨Cond.after_iff.mpr rfl, Cond.after_iff.mpr (eq_i res_at (Term.int_eval (1)) rfl), trivial⟩ ⟨hq.1, hq.2.1, (hq.2.2.sift fun y hy => Or.inr (N y hy)).mono (by decide) (by decide)⟩⟩
theorem main_1_1 : Claimed_1_1 := comes_1 fun _ _ _ _ _ _ h hF => ⟨h.1, hF⟩
theorem main_1_2 : Claimed_1_2 := comes_1 fun _ _ _ _ _ _ h hF => ⟨h.2.1, hF⟩
end Jvm.Pilot.@@N@@
namespace Jvm.Pilot.@@N@@
open Jvm Jvm.ClassFile Sem Op Lib Jvm.Free Jvm.Stand Jvm.Pilot.@@N@@.Jvm.D
/-! MADE BY PROGRAM (witnessworld.py) out of the Statement's table words and the real class files: 11 classes; the members and pool entries that the words name. The judged class is class 1, her method 1. -/
namespace start1
open Jvm.ClassFile
def u (s : String) : CpInfo := .utf8 (stringToUtf16 s)
/-- a pool by its gaps: so many unusable entries, then the entry; so many at the end -/
def gap : Nat → List CpInfo → List CpInfo
  | 0, r => r
  | n + 1, r => .unusable :: gap n r
def poolList (es : List (Nat × CpInfo)) (last : Nat) : List CpInfo := es.foldr (fun e r => gap e.1 (e.2 :: r)) (gap last [])
def pool (es : List (Nat × CpInfo)) (last : Nat) : Array CpInfo := ⟨poolList es last⟩
def fileOf (pool : Array CpInfo) (this : Nat) (attrs : Array Attribute := #[]) (ms : Array MethodInfo := #[]) (fl : Nat := 33) (sup : Nat := 0) (ifs : Array Nat := #[]) (fds : Array FieldInfo := #[]) : ClassFile where
  minorVersion := 0
  majorVersion := 65
  constantPool := pool
  accessFlags := fl
  thisClass := this
  superClass := sup
  interfaces := ifs
  fields := fds
  methods := ms
  attributes := attrs
def plain (name : String) (sup : Option ClassId) : Class where
  name := name
  kind := .ordinary
  loader := none
  accessFlags := 33
  super := sup
  interfaces := #[]
  cf := none
  fields := #[]
  methods := #[]
  instanceTypes := #[]
  staticTypes := #[]
  resolved := #[]
  callSites := []
  init := .initialized
  statics := none
  mirror := none

def pool0 : Array CpInfo := pool [(5, u "<init>"), (0, u "()V"), (1, .class_ 10), (1, u "java/lang/Object")] 113

def k0c0 : Code := { maxStack := 0, maxLocals := 1, code := object_method_1_code, exceptionTable := #[], attributes := #[] }
def k0m0 : Method := { name := "<init>", desc := "()V", sig := { parameters := [], returnType := none }, accessFlags := 1, code := some k0c0 }
/-- java/lang/Object -/
def k0 : Class := { plain "java/lang/Object" none with
  accessFlags := 33
  interfaces := #[]
  cf := some (fileOf pool0 8 #[] #[{ accessFlags := 1, nameIndex := 5, descriptorIndex := 6, attributes := #[] }] 33 0 #[] #[])
  fields := #[]
  methods := #[k0m0]
  instanceTypes := #[]
  staticTypes := #[]
  resolved := Array.replicate 124 none
  statics := none }

def pool1 : Array CpInfo := pool [(2, .class_ 4), (1, u "java/lang/Object"), (0, u "<init>"), (0, u "()V"), (0, .integer 2147483647), (0, .long 18446744073709551615), (1, .class_ 11), (0, u "com/example/nodewell/nodewell/store/BitCursor"), (0, .methodref 10 13), (0, .nameAndType 5 14), (0, u "([JJ)V"), (0, .methodref 10 16), (0, .nameAndType 17 18), (0, u "put"), (0, u "(JI)V"), (0, .methodref 10 20), (0, .nameAndType 21 22), (0, u "position"), (0, u "()J"), (0, .class_ 24), (0, u "com/example/nodewell/nodewell/store/BitCursorPutPinLaw"), (2, u "law"), (0, u "(JIIJJJ)Z")] 5

def k1m0 : Method := { name := "<init>", desc := "()V", sig := { parameters := [], returnType := none }, accessFlags := 1, code := none }
def k1c1 : Code := { maxStack := 6, maxLocals := 36, code := code, exceptionTable := #[], attributes := #[] }
def k1m1 : Method := { name := "law", desc := "(JIIJJJ)Z", sig := { parameters := [.long, .int, .int, .long, .long, .long], returnType := some .boolean }, accessFlags := 9, code := some k1c1 }
/-- com/example/nodewell/nodewell/store/BitCursorPutPinLaw -/
def k1 : Class := { plain "com/example/nodewell/nodewell/store/BitCursorPutPinLaw" (some 0) with
  accessFlags := 49
  interfaces := #[]
  cf := some (fileOf pool1 23 #[] #[{ accessFlags := 1, nameIndex := 5, descriptorIndex := 6, attributes := #[] }, { accessFlags := 9, nameIndex := 27, descriptorIndex := 28, attributes := #[] }] 49 2 #[] #[])
  fields := #[]
  methods := #[k1m0, k1m1]
  instanceTypes := #[]
  staticTypes := #[]
  resolved := Array.replicate 34 none
  statics := none }

def pool2 : Array CpInfo := pool [(1, .methodref 2 3), (0, .class_ 4), (0, .nameAndType 5 6), (0, u "java/lang/Object"), (0, u "<init>"), (0, u "()V"), (0, .fieldref 8 9), (0, .class_ 10), (0, .nameAndType 11 12), (0, u "com/example/nodewell/nodewell/store/BitCursor"), (0, u "words"), (0, u "[J"), (0, .fieldref 8 14), (0, .nameAndType 15 16), (0, u "position"), (0, u "J"), (2, .long 63), (13, u "([JJ)V"), (2, u "()J"), (0, u "put"), (0, u "(JI)V")] 16

def k2c0 : Code := { maxStack := 3, maxLocals := 4, code := prog_43_method_1_code, exceptionTable := #[], attributes := #[] }
def k2m0 : Method := { name := "<init>", desc := "([JJ)V", sig := { parameters := [(.array .long), .long], returnType := none }, accessFlags := 0, code := some k2c0 }
def k2c1 : Code := { maxStack := 2, maxLocals := 1, code := prog_43_method_2_code, exceptionTable := #[], attributes := #[] }
def k2m1 : Method := { name := "position", desc := "()J", sig := { parameters := [], returnType := some .long }, accessFlags := 0, code := some k2c1 }
def k2c2 : Code := { maxStack := 8, maxLocals := 8, code := prog_43_method_3_code, exceptionTable := #[], attributes := #[] }
def k2m2 : Method := { name := "put", desc := "(JI)V", sig := { parameters := [.long, .int], returnType := none }, accessFlags := 0, code := some k2c2 }
/-- com/example/nodewell/nodewell/store/BitCursor -/
def k2 : Class := { plain "com/example/nodewell/nodewell/store/BitCursor" (some 0) with
  accessFlags := 48
  interfaces := #[]
  cf := some (fileOf pool2 8 #[] #[{ accessFlags := 0, nameIndex := 5, descriptorIndex := 33, attributes := #[] }, { accessFlags := 0, nameIndex := 15, descriptorIndex := 36, attributes := #[] }, { accessFlags := 0, nameIndex := 37, descriptorIndex := 38, attributes := #[] }] 48 2 #[] #[{ accessFlags := 18, nameIndex := 11, descriptorIndex := 12, attributes := #[] }, { accessFlags := 2, nameIndex := 15, descriptorIndex := 16, attributes := #[] }])
  fields := #[{ name := "words", type := (.array .long), accessFlags := 18, slot := 0, constantValue := 0 }, { name := "position", type := .long, accessFlags := 2, slot := 1, constantValue := 0 }]
  methods := #[k2m0, k2m1, k2m2]
  instanceTypes := #[(.array .long), .long]
  staticTypes := #[]
  resolved := Array.replicate 55 none
  statics := none }

def pool3 : Array CpInfo := pool [(1, u "java/lang/Cloneable"), (0, .class_ 1), (0, u "java/lang/Object"), (0, .class_ 3)] 3

/-- java/lang/Cloneable -/
def k3 : Class := { plain "java/lang/Cloneable" (some 0) with
  accessFlags := 1537
  interfaces := #[]
  cf := some (fileOf pool3 2 #[] #[] 1537 4 #[] #[])
  fields := #[]
  methods := #[]
  instanceTypes := #[]
  staticTypes := #[]
  resolved := Array.replicate 8 none
  statics := none }

def pool4 : Array CpInfo := pool [(1, u "java/io/Serializable"), (0, .class_ 1), (0, u "java/lang/Object"), (0, .class_ 3)] 3

/-- java/io/Serializable -/
def k4 : Class := { plain "java/io/Serializable" (some 0) with
  accessFlags := 1537
  interfaces := #[]
  cf := some (fileOf pool4 2 #[] #[] 1537 4 #[] #[])
  fields := #[]
  methods := #[]
  instanceTypes := #[]
  staticTypes := #[]
  resolved := Array.replicate 8 none
  statics := none }

/-- the primitive byte -/
def k5 : Class := { plain "byte" none with kind := .primitive 'B', accessFlags := 0x411 }
/-- [B -/
def k6 : Class := { plain "[B" (some 0) with kind := .array 5 .byte, interfaces := #[3, 4], accessFlags := 1041 }

/-- the primitive int -/
def k7 : Class := { plain "int" none with kind := .primitive 'I', accessFlags := 0x411 }
/-- [I -/
def k8 : Class := { plain "[I" (some 0) with kind := .array 7 .int, interfaces := #[3, 4], accessFlags := 1041 }

/-- the primitive long -/
def k9 : Class := { plain "long" none with kind := .primitive 'J', accessFlags := 0x411 }
/-- [J -/
def k10 : Class := { plain "[J" (some 0) with kind := .array 9 .long, interfaces := #[3, 4], accessFlags := 1041 }

def heap : Heap := #[]
def classes : Array Class := #[k0, k1, k2, k3, k4, k5, k6, k7, k8, k9, k10]
def interned : List (Array UInt16 × Addr) := []
def slotsUsed : Nat := 0
def theMethod : MethodId := ⟨1, 1⟩
def args0 : Array Value := #[.long 5, .int 7, .int 9, .long 1, .long 2, .long 3]
def aboutOver (below : List Frame) : State where
  vm := { classes := classes, interned := interned.toArray }
  heap := heap
  slotsUsed := slotsUsed
  threads := #[{ frames := .invoking theMethod args0 :: below }]
def below0 : List Frame := [.native { method := ⟨0, 0⟩, args := #[] }]
def about1 : State := aboutOver below0
def p0 : Program := .bare "" "" ""
def e0 : Env := launch0.env 0 0 0
theorem w_frames : about1.frames = Frame.invoking theMethod args0 :: below0 := rfl
set_option maxRecDepth 65536 in
theorem w_args : argsFit about1.vm theMethod args0 = true := by decide +kernel
set_option maxRecDepth 65536 in
theorem w_heap : heapFits about1 = true := by decide +kernel
set_option maxRecDepth 65536 in
theorem w_runnable : about1.curStatus? = some .runnable := by decide +kernel
set_option maxRecDepth 65536 in
theorem w_alone : about1.alone = true := by decide +kernel
set_option maxRecDepth 65536 in
theorem w_named : about1.methodNamed? x = some theMethod := by decide +kernel
set_option maxRecDepth 65536 in
theorem w_hears : about1.hears theMethod below0 = true := by decide +kernel
set_option maxRecDepth 65536 in
theorem w_ripe : about1.ripe theMethod args0 below0 = true := by decide +kernel
theorem w_running : about1.status = .running := rfl
set_option maxRecDepth 65536 in
theorem w_room : about1.hasRoom e0.platform room_1 = true :=
  launch0.hasRoom_least _ room_1 (by decide +kernel) (by decide +kernel) (by decide +kernel) (by decide +kernel) (by decide +kernel) (by decide +kernel)
theorem allAtoms_all (ts : List Jvm.Cond) (a : Array Jvm.Value) (st : Jvm.State) : (allAtoms ts).before a st = ts.all (fun c => c.before a st) := by
  induction ts with
  | nil => rfl
  | cons c t ih =>
    show (Jvm.Cond.and c (allAtoms t)).before a st = _
    rw [Jvm.Cond.before_and, ih, List.all_cons]
def words1 : List Jvm.Cond := Jvm.Cond.code x code maxLocals ret :: tables_1
/-- a 'code' word, met by the world's own term for the bytes: nothing is compared byte by byte -/
theorem code_word {y : MethodName} {bytes : ByteArray} {mx : Nat} {rt : Option FieldType} {a : Array Value} {s : State} {m : MethodId} {meth : Method} {c : Code} (h1 : s.methodNamed? y = some m) (h2 : s.vm.method? m = some meth) (h3 : meth.code = some c) (h4 : c.code = bytes)
    (h5 : (c.maxLocals == mx && c.exceptionTable.isEmpty && decide (c.maxStack ≤ mostOperands) && decide (meth.sig.returnType = rt) && !meth.locks && decide (parseMethodDescriptor y.desc = some meth.sig)) = true) : (Jvm.Cond.code y bytes mx rt).before a s = true := by
  simp only [Bool.and_eq_true, beq_iff_eq, Bool.not_eq_true', decide_eq_true_eq] at h5
  obtain ⟨⟨⟨⟨⟨g1, g2⟩, g3⟩, g4⟩, g5⟩, g6⟩ := h5
  simp [Cond.before, Cond.holds, Cond.value, h1, h2, h3, h4, g1, g2, g3, g4, g5, g6]
def isCode : Jvm.Cond → Bool
  | .code _ _ _ _ => true
  | _ => false
theorem all_split {L : List Jvm.Cond} {P : Jvm.Cond → Bool} (h1 : L.all (fun c => isCode c || P c) = true) (h2 : ∀ c ∈ L.filter isCode, P c = true) : L.all P = true := by
  refine List.all_eq_true.mpr fun c hc => ?_
  have h := List.all_eq_true.mp h1 c hc
  rcases Bool.eq_false_or_eq_true (isCode c) with hi | hi
  · exact h2 c (List.mem_filter.mpr ⟨hc, hi⟩)
  · simpa [hi] using h
set_option maxRecDepth 65536 in
theorem w_c0 : (Jvm.Cond.code x code maxLocals ret).before args0 about1 = true := code_word (m := ⟨1, 1⟩) (meth := k1m1) (c := k1c1) (by decide +kernel) rfl rfl rfl (by decide +kernel)
set_option maxRecDepth 65536 in
theorem w_c1 : (Jvm.Cond.code ({ cls := "com/example/nodewell/nodewell/store/BitCursor", name := "<init>", desc := "([JJ)V" } : Jvm.MethodName) prog_43_method_1_code (4 : Nat) (Option.none : Option Jvm.ClassFile.FieldType)).before args0 about1 = true := code_word (m := ⟨2, 0⟩) (meth := k2m0) (c := k2c0) (by decide +kernel) rfl rfl rfl (by decide +kernel)
set_option maxRecDepth 65536 in
theorem w_c2 : (Jvm.Cond.code ({ cls := "java/lang/Object", name := "<init>", desc := "()V" } : Jvm.MethodName) object_method_1_code (1 : Nat) (Option.none : Option Jvm.ClassFile.FieldType)).before args0 about1 = true := code_word (m := ⟨0, 0⟩) (meth := k0m0) (c := k0c0) (by decide +kernel) rfl rfl rfl (by decide +kernel)
set_option maxRecDepth 65536 in
theorem w_c3 : (Jvm.Cond.code ({ cls := "com/example/nodewell/nodewell/store/BitCursor", name := "put", desc := "(JI)V" } : Jvm.MethodName) prog_43_method_3_code (8 : Nat) (Option.none : Option Jvm.ClassFile.FieldType)).before args0 about1 = true := code_word (m := ⟨2, 2⟩) (meth := k2m2) (c := k2c2) (by decide +kernel) rfl rfl rfl (by decide +kernel)
set_option maxRecDepth 65536 in
theorem w_c4 : (Jvm.Cond.code ({ cls := "com/example/nodewell/nodewell/store/BitCursor", name := "position", desc := "()J" } : Jvm.MethodName) prog_43_method_2_code (1 : Nat) (Option.some Jvm.ClassFile.FieldType.long)).before args0 about1 = true := code_word (m := ⟨2, 1⟩) (meth := k2m1) (c := k2c1) (by decide +kernel) rfl rfl rfl (by decide +kernel)
def codes1 : List Jvm.Cond := [Jvm.Cond.code x code maxLocals ret, Jvm.Cond.code ({ cls := "com/example/nodewell/nodewell/store/BitCursor", name := "<init>", desc := "([JJ)V" } : Jvm.MethodName) prog_43_method_1_code (4 : Nat) (Option.none : Option Jvm.ClassFile.FieldType), Jvm.Cond.code ({ cls := "java/lang/Object", name := "<init>", desc := "()V" } : Jvm.MethodName) object_method_1_code (1 : Nat) (Option.none : Option Jvm.ClassFile.FieldType), Jvm.Cond.code ({ cls := "com/example/nodewell/nodewell/store/BitCursor", name := "put", desc := "(JI)V" } : Jvm.MethodName) prog_43_method_3_code (8 : Nat) (Option.none : Option Jvm.ClassFile.FieldType), Jvm.Cond.code ({ cls := "com/example/nodewell/nodewell/store/BitCursor", name := "position", desc := "()J" } : Jvm.MethodName) prog_43_method_2_code (1 : Nat) (Option.some Jvm.ClassFile.FieldType.long)]
set_option maxRecDepth 65536 in
theorem codes_eq : words1.filter isCode = codes1 := rfl
theorem w_codes : ∀ c ∈ words1.filter isCode, c.before args0 about1 = true := by
  rw [codes_eq]
  intro c hc
  simp only [codes1, List.mem_cons, List.not_mem_nil, or_false] at hc
  rcases hc with rfl | rfl | rfl | rfl | rfl
  · exact w_c0
  · exact w_c1
  · exact w_c2
  · exact w_c3
  · exact w_c4
set_option maxRecDepth 65536 in
theorem w_t1 : (words1.take 24).all (fun c => isCode c || c.before args0 about1) = true := by decide +kernel
set_option maxRecDepth 65536 in
theorem w_t2 : (words1.drop 24).all (fun c => isCode c || c.before args0 about1) = true := by decide +kernel
theorem w_tables : (allAtoms (Jvm.Cond.code x code maxLocals ret :: tables_1)).before args0 about1 = true := by
  rw [allAtoms_all]
  show words1.all (fun c => c.before args0 about1) = true
  refine all_split ?_ w_codes
  rw [← List.take_append_drop 24 words1, List.all_append, w_t1, w_t2]
  rfl
set_option maxRecDepth 65536 in
theorem w_case : (Jvm.Cond.and given_1 narrow_1).before args0 about1 = true := by decide +kernel
theorem w_applies : (headSpec (Jvm.Cond.code x code maxLocals ret :: tables_1) room_1).applies x e0.platform about1 = true :=
  (Spec.applies_iff w_frames).mpr ⟨w_running, w_runnable, w_alone, w_named, w_hears, w_ripe, w_room, w_tables⟩
theorem atStart : AtStart classFile x code maxLocals ret World_1 tables_1 room_1 Calls_1 rest_1 Pre_1 launch0 p0 e0 about1 theMethod args0 below0 :=
  ⟨lists_1, trivial, launch0.admits_env _ _ _, launch0.least_env, fairChoices_fair.cas, fairChoices_fair.clock, w_frames, w_args, w_heap, w_applies, trivial, trivial, w_case⟩
end start1
theorem witness_1 : WitnessClaimed_1 := ⟨start1.p0, start1.e0, start1.about1, start1.theMethod, start1.args0, start1.below0, start1.atStart⟩
end Jvm.Pilot.@@N@@
