import JvmDerived
import JvmDerived.Pilot.@@N@@Statement
import JvmDerived.Pilot.@@N@@Code
set_option linter.unusedVariables false
set_option linter.unusedSimpArgs false
namespace Jvm.Pilot.@@N@@
open Jvm Jvm.ClassFile Sem Op Lib Jvm.Free Jvm.Stand Jvm.LawKit Jvm.RoadKit Bundle Jvm.Pilot.@@N@@.Jvm.D
abbrev Cx : Type := Program × Launch × Env × Room × State × MethodId × Array Value × List Frame × Method × Code
abbrev Cx.p (K : Cx) : Program := K.1
abbrev Cx.l (K : Cx) : Launch := K.2.1
abbrev Cx.e (K : Cx) : Env := K.2.2.1
abbrev Cx.R (K : Cx) : Room := K.2.2.2.1
abbrev Cx.s (K : Cx) : State := K.2.2.2.2.1
abbrev Cx.m (K : Cx) : MethodId := K.2.2.2.2.2.1
abbrev Cx.args (K : Cx) : Array Value := K.2.2.2.2.2.2.1
abbrev Cx.below (K : Cx) : List Frame := K.2.2.2.2.2.2.2.1
abbrev Cx.meth (K : Cx) : Method := K.2.2.2.2.2.2.2.2.1
abbrev Cx.c (K : Cx) : Code := K.2.2.2.2.2.2.2.2.2
/-- from T at this frame the body ends within the room, and what it leaves is Q's -/
def Go (K : Cx) (n0 kc kj : Nat) (Q : Option Value → Heap → Prop) (T : State) (pc : Nat) (Ls : Array Slot) (st : List Value) : Prop :=
  ∃ t o, Steps K.p.tables K.e K.below (T.setTop (mkF K.m pc Ls st)) t ∧ t.status = .running ∧ Ended t K.below o ∧ ∃ v L, o = .returned v ∧ (Q v t.heap ∧ Fr n0 L) ∧ FrameEnd K.s o t L kc kj
/-- where the walk stands: the body's own facts, the heap, how many cells and slots have been made -/
def St (K : Cx) (Z : State) (own : String) (b : ByteArray) (mx : Nat) (ret : Option FieldType) (rm : Room) (n0 k j : Nat) (T : State) (h : Heap) : Prop :=
  K.p.tables.exec = Jvm.exec ∧ Z.Warmed39 K.s.vm ∧ K.s.vm.findClass own = some K.m.cls ∧ K.c.code = b ∧ K.c.maxLocals = mx ∧ K.meth.sig.returnType = ret ∧ K.meth.locks = false ∧ K.R = rm ∧ T.heap = h ∧
    ∃ locs, Stand K.p K.l K.e K.R K.s K.m K.args K.below K.meth K.c T locs k j ∧ Fr n0 locs
def Isn (b : ByteArray) (pc : Nat) (i : Instr) (n pc' : Nat) : Prop := decode b pc = .ok (i, n) ∧ pc + n = pc'
def Brn (b : ByteArray) (pc : Nat) (i : Instr) (o : Int) (pc' tg : Nat) : Prop := decode b pc = .ok (i, 3) ∧ pc + 3 = pc' ∧ 0 ≤ (pc : Int) + o ∧ ((pc : Int) + o).toNat = tg
/-- a body's contract, at its arguments and heap -/
def CtrW (l : Launch) (Z : State) (y : MethodName) (b : ByteArray) (mx : Nat) (ret : Option FieldType) (ws : List Jvm.Cond) (rm : Room) (kc kj : Nat) (as' : List Value) (h : Heap) (n0 : Nat) (Q : Option Value → Heap → Prop) : Prop :=
  MetFree l y (head1 (Jvm.Cond.code y b mx ret :: ws) rm) (fun a U => a = as'.toArray ∧ Z.Warmed39 U.vm ∧ U.heap = h) (fun _ _ _ _ _ => True) (fun _ U o U' => ∃ v L, o = .returned v ∧ (Q v U'.heap ∧ Fr n0 L) ∧ FrameEnd U o U' L kc kj)
abbrev Ctr (l : Launch) (Z : State) (y : MethodName) (b : ByteArray) (mx : Nat) (ret : Option FieldType) (rm : Room) (as' : List Value) (h : Heap) (n0 : Nat) (Q : Option Value → Heap → Prop) : Prop :=
  CtrW l Z y b mx ret [] rm rm.cells rm.slots as' h n0 Q
section OwnKit
variable {K : Cx} {Z : State} {own : String} {b : ByteArray} {mx : Nat} {ret : Option FieldType} {rm : Room} {n0 k j kc kj : Nat} {T : State} {h : Heap} {Q : Option Value → Heap → Prop} {pc pc' tg : Nat} {Ls Ls' : Array Slot} {st rest : List Value} {a0 : Array Value}
theorem St.ex (X : St K Z own b mx ret rm n0 k j T h) : K.p.tables.exec = Jvm.exec := X.1
theorem St.wZ (X : St K Z own b mx ret rm n0 k j T h) : Z.Warmed39 K.s.vm := X.2.1
theorem St.ow (X : St K Z own b mx ret rm n0 k j T h) : K.s.vm.findClass own = some K.m.cls := X.2.2.1
theorem St.dec (X : St K Z own b mx ret rm n0 k j T h) {r : Except DecodeError (Instr × Nat)} (d : decode b pc = r) : decode K.c.code pc = r := hb X.2.2.2.1 d
theorem St.ml (X : St K Z own b mx ret rm n0 k j T h) : K.c.maxLocals = mx := X.2.2.2.2.1
theorem St.rt (X : St K Z own b mx ret rm n0 k j T h) : K.meth.sig.returnType = ret := X.2.2.2.2.2.1
theorem St.nl (X : St K Z own b mx ret rm n0 k j T h) : K.meth.locks = false := X.2.2.2.2.2.2.1
theorem St.rmE (X : St K Z own b mx ret rm n0 k j T h) : K.R = rm := X.2.2.2.2.2.2.2.1
theorem St.hp (X : St K Z own b mx ret rm n0 k j T h) : T.heap = h := X.2.2.2.2.2.2.2.2.1
theorem St.sd (X : St K Z own b mx ret rm n0 k j T h) : ∃ locs, Stand K.p K.l K.e K.R K.s K.m K.args K.below K.meth K.c T locs k j ∧ Fr n0 locs := X.2.2.2.2.2.2.2.2.2
theorem St.here (X : St K Z own b mx ret rm n0 k j T h) : At T K.m K.c K.below := by obtain ⟨_, S, _⟩ := X.sd; exact S.here
theorem St.mk' (X : St K Z own b mx ret rm n0 k j T h) {T' : State} {h' : Heap} {k' j' : Nat} {locs : List Loc} (S : Stand K.p K.l K.e K.R K.s K.m K.args K.below K.meth K.c T' locs k' j') (N : Fr n0 locs) (q : T'.heap = h') : St K Z own b mx ret rm n0 k' j' T' h' :=
  ⟨X.1, X.2.1, X.2.2.1, X.2.2.2.1, X.2.2.2.2.1, X.2.2.2.2.2.1, X.2.2.2.2.2.2.1, X.2.2.2.2.2.2.2.1, q, _, S, N⟩
theorem St.more (X : St K Z own b mx ret rm n0 k j T h) {k' j' : Nat} (hk : k ≤ k') (hj : j ≤ j') : St K Z own b mx ret rm n0 k' j' T h := by
  obtain ⟨_, S, N⟩ := X.sd; exact X.mk' (S.more hk hj) N X.hp
theorem St.eqh (X : St K Z own b mx ret rm n0 k j T h) {h' : Heap} (q : h = h') : St K Z own b mx ret rm n0 k j T h' := q ▸ X
theorem o_go {T' : State} {st' : List Value} (f : ∀ t, Steps K.p.tables K.e K.below (T'.setTop (mkF K.m pc' Ls' st')) t → Steps K.p.tables K.e K.below (T.setTop (mkF K.m pc Ls st)) t) (g : Go K n0 kc kj Q T' pc' Ls' st') : Go K n0 kc kj Q T pc Ls st := by
  obtain ⟨t, o, h1, h2⟩ := g; exact ⟨t, o, f t h1, h2⟩
theorem Go.imp {Q' : Option Value → Heap → Prop} (g : Go K n0 kc kj Q T pc Ls st) (f : ∀ v h, Q v h → Q' v h) : Go K n0 kc kj Q' T pc Ls st := by
  obtain ⟨t, o, h1, h2, h3, v, L, h4, ⟨h5, h6⟩, h7⟩ := g; exact ⟨t, o, h1, h2, h3, v, L, h4, ⟨f _ _ h5, h6⟩, h7⟩
theorem o_v1 {v : Value} (g : Go K n0 kc kj Q T pc Ls (v :: rest)) : Go K n0 kc kj Q T pc Ls ((some v).toList ++ rest) := g
theorem o_v0 (g : Go K n0 kc kj Q T pc Ls rest) : Go K n0 kc kj Q T pc Ls ((none : Option Value).toList ++ rest) := g
theorem o_st {st' : List Value} (q : st = st') (g : Go K n0 kc kj Q T pc Ls st') : Go K n0 kc kj Q T pc Ls st := q ▸ g
theorem o_gen {x : Int32} (g : ∀ z, z = x → Go K n0 kc kj Q T pc Ls (.int z :: rest)) : Go K n0 kc kj Q T pc Ls (.int x :: rest) := g x rfl
theorem o_genL {x : Int64} (g : ∀ z, z = x → Go K n0 kc kj Q T pc Ls (.long z :: rest)) : Go K n0 kc kj Q T pc Ls (.long x :: rest) := g x rfl
theorem o_cutL (pj : Nat) (z : Int64) {x : Int32} (B : Go K n0 kc kj Q T pj Ls (.long z :: rest) → Go K n0 kc kj Q T pc Ls (.int x :: rest)) (J : Go K n0 kc kj Q T pj Ls (.long z :: rest)) : Go K n0 kc kj Q T pc Ls (.int x :: rest) := B J
theorem o_cutI (pj : Nat) (z : Int32) {x : Int32} (B : Go K n0 kc kj Q T pj Ls (.int z :: rest) → Go K n0 kc kj Q T pc Ls (.int x :: rest)) (J : Go K n0 kc kj Q T pj Ls (.int z :: rest)) : Go K n0 kc kj Q T pc Ls (.int x :: rest) := B J
theorem o_cutI2 (pj : Nat) (z : Int32) {x y : Int32} (B : Go K n0 kc kj Q T pj Ls (.int z :: rest) → Go K n0 kc kj Q T pc Ls (.int y :: .int x :: rest)) (J : Go K n0 kc kj Q T pj Ls (.int z :: rest)) : Go K n0 kc kj Q T pc Ls (.int y :: .int x :: rest) := B J
theorem o_cutS (pj : Nat) {x : Int32} (X : St K Z own b mx ret rm n0 k j T h) (B : (∀ T' z, St K Z own b mx ret rm n0 k j T' h → Go K n0 kc kj Q T' pj Ls (.int z :: rest)) → Go K n0 kc kj Q T pc Ls (.int x :: rest)) (J : ∀ T' z, St K Z own b mx ret rm n0 k j T' h → Go K n0 kc kj Q T' pj Ls (.int z :: rest)) : Go K n0 kc kj Q T pc Ls (.int x :: rest) := B J
theorem o_cutI2L (pj : Nat) (z : Int64) {x y : Int32} (B : Go K n0 kc kj Q T pj Ls (.long z :: rest) → Go K n0 kc kj Q T pc Ls (.int y :: .int x :: rest)) (J : Go K n0 kc kj Q T pj Ls (.long z :: rest)) : Go K n0 kc kj Q T pc Ls (.int y :: .int x :: rest) := B J
theorem o_ls (q : Ls = Ls') (g : Go K n0 kc kj Q T pc Ls' st) : Go K n0 kc kj Q T pc Ls st := q ▸ g
theorem o_iadd (X : St K Z own b mx ret rm n0 k j T h) {x y : Int32} (d : Isn b pc (.iadd) 1 pc') (g : Go K n0 kc kj Q T pc' Ls (.int (x + y) :: rest)) : Go K n0 kc kj Q T pc Ls (.int y :: .int x :: rest) := by
  obtain ⟨d, rfl⟩ := d; exact o_go (fun t k => XS.iadd X.here X.ex rfl (X.dec d) rfl k) g
theorem o_isub (X : St K Z own b mx ret rm n0 k j T h) {x y : Int32} (d : Isn b pc (.isub) 1 pc') (g : Go K n0 kc kj Q T pc' Ls (.int (x - y) :: rest)) : Go K n0 kc kj Q T pc Ls (.int y :: .int x :: rest) := by
  obtain ⟨d, rfl⟩ := d; exact o_go (fun t k => XS.isub X.here X.ex rfl (X.dec d) rfl k) g
theorem o_imul (X : St K Z own b mx ret rm n0 k j T h) {x y : Int32} (d : Isn b pc (.imul) 1 pc') (g : Go K n0 kc kj Q T pc' Ls (.int (x * y) :: rest)) : Go K n0 kc kj Q T pc Ls (.int y :: .int x :: rest) := by
  obtain ⟨d, rfl⟩ := d; exact o_go (fun t k => XS.imul X.here X.ex rfl (X.dec d) rfl k) g
theorem o_iand (X : St K Z own b mx ret rm n0 k j T h) {x y : Int32} (d : Isn b pc (.iand) 1 pc') (g : Go K n0 kc kj Q T pc' Ls (.int (x &&& y) :: rest)) : Go K n0 kc kj Q T pc Ls (.int y :: .int x :: rest) := by
  obtain ⟨d, rfl⟩ := d; exact o_go (fun t k => XS.iand X.here X.ex rfl (X.dec d) rfl k) g
theorem o_ixor (X : St K Z own b mx ret rm n0 k j T h) {x y : Int32} (d : Isn b pc (.ixor) 1 pc') (g : Go K n0 kc kj Q T pc' Ls (.int (x ^^^ y) :: rest)) : Go K n0 kc kj Q T pc Ls (.int y :: .int x :: rest) := by
  obtain ⟨d, rfl⟩ := d; exact o_go (fun t k => XT.ixor X.here X.ex rfl (X.dec d) rfl k) g
theorem o_ior (X : St K Z own b mx ret rm n0 k j T h) {x y : Int32} (d : Isn b pc (.ior) 1 pc') (g : Go K n0 kc kj Q T pc' Ls (.int (x ||| y) :: rest)) : Go K n0 kc kj Q T pc Ls (.int y :: .int x :: rest) := by
  obtain ⟨d, rfl⟩ := d; exact o_go (fun t k => XT.ior X.here X.ex rfl (X.dec d) rfl k) g
theorem o_ishl (X : St K Z own b mx ret rm n0 k j T h) {x y : Int32} (d : Isn b pc (.ishl) 1 pc') (g : Go K n0 kc kj Q T pc' Ls (.int (x <<< (y &&& 31)) :: rest)) : Go K n0 kc kj Q T pc Ls (.int y :: .int x :: rest) := by
  obtain ⟨d, rfl⟩ := d; exact o_go (fun t k => XT.ishl X.here X.ex rfl (X.dec d) rfl k) g
theorem o_ishr (X : St K Z own b mx ret rm n0 k j T h) {x y : Int32} (d : Isn b pc (.ishr) 1 pc') (g : Go K n0 kc kj Q T pc' Ls (.int (x >>> (y &&& 31)) :: rest)) : Go K n0 kc kj Q T pc Ls (.int y :: .int x :: rest) := by
  obtain ⟨d, rfl⟩ := d; exact o_go (fun t k => XT.ishr X.here X.ex rfl (X.dec d) rfl k) g
theorem o_iushr (X : St K Z own b mx ret rm n0 k j T h) {x y : Int32} (d : Isn b pc (.iushr) 1 pc') (g : Go K n0 kc kj Q T pc' Ls (.int (XT.ushr x y) :: rest)) : Go K n0 kc kj Q T pc Ls (.int y :: .int x :: rest) := by
  obtain ⟨d, rfl⟩ := d; exact o_go (fun t k => XT.iushr X.here X.ex rfl (X.dec d) rfl k) g
theorem o_ladd (X : St K Z own b mx ret rm n0 k j T h) {x y : Int64} (d : Isn b pc (.ladd) 1 pc') (g : Go K n0 kc kj Q T pc' Ls (.long (x + y) :: rest)) : Go K n0 kc kj Q T pc Ls (.long y :: .long x :: rest) := by
  obtain ⟨d, rfl⟩ := d; exact o_go (fun t k => XT.ladd X.here X.ex rfl (X.dec d) rfl k) g
theorem o_lsub (X : St K Z own b mx ret rm n0 k j T h) {x y : Int64} (d : Isn b pc (.lsub) 1 pc') (g : Go K n0 kc kj Q T pc' Ls (.long (x - y) :: rest)) : Go K n0 kc kj Q T pc Ls (.long y :: .long x :: rest) := by
  obtain ⟨d, rfl⟩ := d; exact o_go (fun t k => XT.lsub X.here X.ex rfl (X.dec d) rfl k) g
theorem o_lmul (X : St K Z own b mx ret rm n0 k j T h) {x y : Int64} (d : Isn b pc (.lmul) 1 pc') (g : Go K n0 kc kj Q T pc' Ls (.long (x * y) :: rest)) : Go K n0 kc kj Q T pc Ls (.long y :: .long x :: rest) := by
  obtain ⟨d, rfl⟩ := d; exact o_go (fun t k => XT.lmul X.here X.ex rfl (X.dec d) rfl k) g
theorem o_land (X : St K Z own b mx ret rm n0 k j T h) {x y : Int64} (d : Isn b pc (.land) 1 pc') (g : Go K n0 kc kj Q T pc' Ls (.long (x &&& y) :: rest)) : Go K n0 kc kj Q T pc Ls (.long y :: .long x :: rest) := by
  obtain ⟨d, rfl⟩ := d; exact o_go (fun t k => XT.land X.here X.ex rfl (X.dec d) rfl k) g
theorem o_lor (X : St K Z own b mx ret rm n0 k j T h) {x y : Int64} (d : Isn b pc (.lor) 1 pc') (g : Go K n0 kc kj Q T pc' Ls (.long (x ||| y) :: rest)) : Go K n0 kc kj Q T pc Ls (.long y :: .long x :: rest) := by
  obtain ⟨d, rfl⟩ := d; exact o_go (fun t k => XT.lor X.here X.ex rfl (X.dec d) rfl k) g
theorem o_lxor (X : St K Z own b mx ret rm n0 k j T h) {x y : Int64} (d : Isn b pc (.lxor) 1 pc') (g : Go K n0 kc kj Q T pc' Ls (.long (x ^^^ y) :: rest)) : Go K n0 kc kj Q T pc Ls (.long y :: .long x :: rest) := by
  obtain ⟨d, rfl⟩ := d; exact o_go (fun t k => XT.lxor X.here X.ex rfl (X.dec d) rfl k) g
theorem o_lshl (X : St K Z own b mx ret rm n0 k j T h) {x : Int64} {y : Int32} (d : Isn b pc (.lshl) 1 pc') (g : Go K n0 kc kj Q T pc' Ls (.long (x <<< (y.toInt64 &&& 63)) :: rest)) : Go K n0 kc kj Q T pc Ls (.int y :: .long x :: rest) := by
  obtain ⟨d, rfl⟩ := d; exact o_go (fun t k => XT.lshl X.here X.ex rfl (X.dec d) rfl k) g
theorem o_lshr (X : St K Z own b mx ret rm n0 k j T h) {x : Int64} {y : Int32} (d : Isn b pc (.lshr) 1 pc') (g : Go K n0 kc kj Q T pc' Ls (.long (x >>> (y.toInt64 &&& 63)) :: rest)) : Go K n0 kc kj Q T pc Ls (.int y :: .long x :: rest) := by
  obtain ⟨d, rfl⟩ := d; exact o_go (fun t k => XT.lshr X.here X.ex rfl (X.dec d) rfl k) g
theorem o_lushr (X : St K Z own b mx ret rm n0 k j T h) {x : Int64} {y : Int32} (d : Isn b pc (.lushr) 1 pc') (g : Go K n0 kc kj Q T pc' Ls (.long (XT.ushrL x y) :: rest)) : Go K n0 kc kj Q T pc Ls (.int y :: .long x :: rest) := by
  obtain ⟨d, rfl⟩ := d; exact o_go (fun t k => XT.lushr X.here X.ex rfl (X.dec d) rfl k) g
theorem o_lcmp (X : St K Z own b mx ret rm n0 k j T h) {x y : Int64} (d : Isn b pc (.lcmp) 1 pc') (g : Go K n0 kc kj Q T pc' Ls (.int (XT.cmpL x y) :: rest)) : Go K n0 kc kj Q T pc Ls (.long y :: .long x :: rest) := by
  obtain ⟨d, rfl⟩ := d; exact o_go (fun t k => XT.lcmp X.here X.ex rfl (X.dec d) rfl k) g
theorem o_idiv (X : St K Z own b mx ret rm n0 k j T h) {x y : Int32} (d : Isn b pc (.idiv) 1 pc') (hy : y ≠ 0) (g : Go K n0 kc kj Q T pc' Ls (.int (x / y) :: rest)) : Go K n0 kc kj Q T pc Ls (.int y :: .int x :: rest) := by
  obtain ⟨d, rfl⟩ := d; exact o_go (fun t k => XS.idiv X.here X.ex rfl (X.dec d) rfl hy k) g
theorem o_ldiv (X : St K Z own b mx ret rm n0 k j T h) {x y : Int64} (d : Isn b pc (.ldiv) 1 pc') (hy : y ≠ 0) (g : Go K n0 kc kj Q T pc' Ls (.long (x / y) :: rest)) : Go K n0 kc kj Q T pc Ls (.long y :: .long x :: rest) := by
  obtain ⟨d, rfl⟩ := d; exact o_go (fun t k => XT.ldiv X.here X.ex rfl (X.dec d) rfl hy k) g
theorem o_irem (X : St K Z own b mx ret rm n0 k j T h) {x y : Int32} (d : Isn b pc .irem 1 pc') (hy : y ≠ 0) (g : Go K n0 kc kj Q T pc' Ls (.int (x % y) :: rest)) : Go K n0 kc kj Q T pc Ls (.int y :: .int x :: rest) := by
  obtain ⟨d, rfl⟩ := d; obtain ⟨_, S, _⟩ := X.sd; exact o_go (fun t k => iremM S X.ex rfl (X.dec d) rfl hy k) g
theorem o_lrem (X : St K Z own b mx ret rm n0 k j T h) {x y : Int64} (d : Isn b pc .lrem 1 pc') (hy : y ≠ 0) (g : Go K n0 kc kj Q T pc' Ls (.long (x % y) :: rest)) : Go K n0 kc kj Q T pc Ls (.long y :: .long x :: rest) := by
  obtain ⟨d, rfl⟩ := d; rw [← lrem_mod] at g; exact o_go (fun t k => XT.lrem X.here X.ex rfl (X.dec d) rfl hy k) g
theorem o_i2l (X : St K Z own b mx ret rm n0 k j T h) {x : Int32} (d : Isn b pc (.i2l) 1 pc') (g : Go K n0 kc kj Q T pc' Ls (.long (x.toInt64) :: rest)) : Go K n0 kc kj Q T pc Ls (.int x :: rest) := by
  obtain ⟨d, rfl⟩ := d; exact o_go (fun t k => XT.i2l X.here X.ex rfl (X.dec d) rfl k) g
theorem o_l2i (X : St K Z own b mx ret rm n0 k j T h) {x : Int64} (d : Isn b pc (.l2i) 1 pc') (g : Go K n0 kc kj Q T pc' Ls (.int (x.toInt32) :: rest)) : Go K n0 kc kj Q T pc Ls (.long x :: rest) := by
  obtain ⟨d, rfl⟩ := d; exact o_go (fun t k => XT.l2i X.here X.ex rfl (X.dec d) rfl k) g
theorem o_i2b (X : St K Z own b mx ret rm n0 k j T h) {x : Int32} (d : Isn b pc (.i2b) 1 pc') (g : Go K n0 kc kj Q T pc' Ls (.int (x.toInt8.toInt32) :: rest)) : Go K n0 kc kj Q T pc Ls (.int x :: rest) := by
  obtain ⟨d, rfl⟩ := d; exact o_go (fun t k => XT.i2b X.here X.ex rfl (X.dec d) rfl k) g
theorem o_i2c (X : St K Z own b mx ret rm n0 k j T h) {x : Int32} (d : Isn b pc (.i2c) 1 pc') (g : Go K n0 kc kj Q T pc' Ls (.int (x.toUInt32.toUInt16.toUInt32.toInt32) :: rest)) : Go K n0 kc kj Q T pc Ls (.int x :: rest) := by
  obtain ⟨d, rfl⟩ := d; exact o_go (fun t k => XT.i2c X.here X.ex rfl (X.dec d) rfl k) g
theorem o_i2s (X : St K Z own b mx ret rm n0 k j T h) {x : Int32} (d : Isn b pc (.i2s) 1 pc') (g : Go K n0 kc kj Q T pc' Ls (.int (x.toInt16.toInt32) :: rest)) : Go K n0 kc kj Q T pc Ls (.int x :: rest) := by
  obtain ⟨d, rfl⟩ := d; exact o_go (fun t k => XT.i2s X.here X.ex rfl (X.dec d) rfl k) g
theorem o_ineg (X : St K Z own b mx ret rm n0 k j T h) {x : Int32} (d : Isn b pc (.ineg) 1 pc') (g : Go K n0 kc kj Q T pc' Ls (.int (-x) :: rest)) : Go K n0 kc kj Q T pc Ls (.int x :: rest) := by
  obtain ⟨d, rfl⟩ := d; exact o_go (fun t k => XS.ineg X.here X.ex rfl (X.dec d) rfl k) g
theorem o_lneg (X : St K Z own b mx ret rm n0 k j T h) {x : Int64} (d : Isn b pc (.lneg) 1 pc') (g : Go K n0 kc kj Q T pc' Ls (.long (-x) :: rest)) : Go K n0 kc kj Q T pc Ls (.long x :: rest) := by
  obtain ⟨d, rfl⟩ := d; exact o_go (fun t k => XT.lneg X.here X.ex rfl (X.dec d) rfl k) g
theorem o_iload_n (X : St K Z own b mx ret rm n0 k j T h) {i : Fin 4} {v : Int32} (d : Isn b pc (.iload_n i) 1 pc') (hl : Ls[i.val]? = some (.val (.int v))) (g : Go K n0 kc kj Q T pc' Ls (.int v :: st)) : Go K n0 kc kj Q T pc Ls (st) := by
  obtain ⟨d, rfl⟩ := d; exact o_go (fun t k => XS.iloadN X.here X.ex rfl (X.dec d) hl k) g
theorem o_iload (X : St K Z own b mx ret rm n0 k j T h) {i : Nat} {v : Int32} (d : Isn b pc (.iload i) 2 pc') (hl : Ls[i]? = some (.val (.int v))) (g : Go K n0 kc kj Q T pc' Ls (.int v :: st)) : Go K n0 kc kj Q T pc Ls (st) := by
  obtain ⟨d, rfl⟩ := d; exact o_go (fun t k => XS.iload X.here X.ex rfl (X.dec d) hl k) g
theorem o_lload_n (X : St K Z own b mx ret rm n0 k j T h) {i : Fin 4} {v : Int64} (d : Isn b pc (.lload_n i) 1 pc') (hl : Ls[i.val]? = some (.val (.long v))) (g : Go K n0 kc kj Q T pc' Ls (.long v :: st)) : Go K n0 kc kj Q T pc Ls (st) := by
  obtain ⟨d, rfl⟩ := d; exact o_go (fun t k => XT.lloadN X.here X.ex rfl (X.dec d) hl k) g
theorem o_lload (X : St K Z own b mx ret rm n0 k j T h) {i : Nat} {v : Int64} (d : Isn b pc (.lload i) 2 pc') (hl : Ls[i]? = some (.val (.long v))) (g : Go K n0 kc kj Q T pc' Ls (.long v :: st)) : Go K n0 kc kj Q T pc Ls (st) := by
  obtain ⟨d, rfl⟩ := d; exact o_go (fun t k => XT.lload X.here X.ex rfl (X.dec d) hl k) g
theorem o_aload_n (X : St K Z own b mx ret rm n0 k j T h) {i : Fin 4} {v : Value} (d : Isn b pc (.aload_n i) 1 pc') (hl : Ls[i.val]? = some (.val v)) (hv : v.isRef = true) (g : Go K n0 kc kj Q T pc' Ls (v :: st)) : Go K n0 kc kj Q T pc Ls (st) := by
  obtain ⟨d, rfl⟩ := d; exact o_go (fun t k => XS.aloadN X.here X.ex rfl (X.dec d) hl hv k) g
theorem o_aload (X : St K Z own b mx ret rm n0 k j T h) {i : Nat} {v : Value} (d : Isn b pc (.aload i) 2 pc') (hl : Ls[i]? = some (.val v)) (hv : v.isRef = true) (g : Go K n0 kc kj Q T pc' Ls (v :: st)) : Go K n0 kc kj Q T pc Ls (st) := by
  obtain ⟨d, rfl⟩ := d; exact o_go (fun t k => XS.aload X.here X.ex rfl (X.dec d) hl hv k) g
theorem o_istore_n (X : St K Z own b mx ret rm n0 k j T h) {i : Fin 4} {x : Int32} (d : Isn b pc (.istore_n i) 1 pc') (hl : storeLocals Ls i.val (.int x) = some Ls') (g : Go K n0 kc kj Q T pc' Ls' (rest)) : Go K n0 kc kj Q T pc Ls (.int x :: rest) := by
  obtain ⟨d, rfl⟩ := d; exact o_go (fun t k => XS.istoreN X.here X.ex rfl (X.dec d) rfl hl k) g
theorem o_istore (X : St K Z own b mx ret rm n0 k j T h) {i : Nat} {x : Int32} (d : Isn b pc (.istore i) 2 pc') (hl : storeLocals Ls i (.int x) = some Ls') (g : Go K n0 kc kj Q T pc' Ls' (rest)) : Go K n0 kc kj Q T pc Ls (.int x :: rest) := by
  obtain ⟨d, rfl⟩ := d; exact o_go (fun t k => XS.istore X.here X.ex rfl (X.dec d) rfl hl k) g
theorem o_lstore_n (X : St K Z own b mx ret rm n0 k j T h) {i : Fin 4} {x : Int64} (d : Isn b pc (.lstore_n i) 1 pc') (hl : storeLocals Ls i.val (.long x) = some Ls') (g : Go K n0 kc kj Q T pc' Ls' (rest)) : Go K n0 kc kj Q T pc Ls (.long x :: rest) := by
  obtain ⟨d, rfl⟩ := d; exact o_go (fun t k => XT.lstoreN X.here X.ex rfl (X.dec d) rfl hl k) g
theorem o_lstore (X : St K Z own b mx ret rm n0 k j T h) {i : Nat} {x : Int64} (d : Isn b pc (.lstore i) 2 pc') (hl : storeLocals Ls i (.long x) = some Ls') (g : Go K n0 kc kj Q T pc' Ls' (rest)) : Go K n0 kc kj Q T pc Ls (.long x :: rest) := by
  obtain ⟨d, rfl⟩ := d; exact o_go (fun t k => XT.lstore X.here X.ex rfl (X.dec d) rfl hl k) g
theorem o_istoreO (X : St K Z own b mx ret rm n0 k j T h) {i : Nat} {x : Int32} {o : Slot} (d : Isn b pc (.istore i) 2 pc') (hold : Ls[i]? = some o) (ho : o = .unset ∨ ∃ w, o = .val w ∧ w.category = 1) (hl : Ls.setIfInBounds i (.val (.int x)) = Ls') (g : Go K n0 kc kj Q T pc' Ls' (rest)) : Go K n0 kc kj Q T pc Ls (.int x :: rest) := by
  obtain ⟨d, rfl⟩ := d; subst hl; exact o_go (fun t k => XS.istoreS X.here X.ex rfl (X.dec d) rfl hold ho k) g
theorem o_astore_n (X : St K Z own b mx ret rm n0 k j T h) {i : Fin 4} {x : Value} (d : Isn b pc (.astore_n i) 1 pc') (hv : x.isRef = true) (hl : storeLocals Ls i.val x = some Ls') (g : Go K n0 kc kj Q T pc' Ls' (rest)) : Go K n0 kc kj Q T pc Ls (x :: rest) := by
  obtain ⟨d, rfl⟩ := d; exact o_go (fun t k => XS.astoreN X.here X.ex rfl (X.dec d) rfl hv hl k) g
theorem o_astore (X : St K Z own b mx ret rm n0 k j T h) {i : Nat} {x : Value} (d : Isn b pc (.astore i) 2 pc') (hv : x.isRef = true) (hl : storeLocals Ls i x = some Ls') (g : Go K n0 kc kj Q T pc' Ls' (rest)) : Go K n0 kc kj Q T pc Ls (x :: rest) := by
  obtain ⟨d, rfl⟩ := d; exact o_go (fun t k => XS.astore X.here X.ex rfl (X.dec d) rfl hv hl k) g
theorem o_iconst (v : Int32) (X : St K Z own b mx ret rm n0 k j T h) {i : Int} (d : Isn b pc (.iconst i) 1 pc') (hv : Int32.ofInt i = v) (g : Go K n0 kc kj Q T pc' Ls (.int v :: st)) : Go K n0 kc kj Q T pc Ls (st) := by
  obtain ⟨d, rfl⟩ := d; exact o_go (fun t k => XT.iconstV X.here X.ex rfl v (X.dec d) hv k) g
theorem o_bipush (v : Int32) (X : St K Z own b mx ret rm n0 k j T h) {i : Int} (d : Isn b pc (.bipush i) 2 pc') (hv : (Int8.ofInt i).toInt32 = v) (g : Go K n0 kc kj Q T pc' Ls (.int v :: st)) : Go K n0 kc kj Q T pc Ls (st) := by
  obtain ⟨d, rfl⟩ := d; exact o_go (fun t k => XT.bipushV X.here X.ex rfl v (X.dec d) hv k) g
theorem o_sipush (v : Int32) (X : St K Z own b mx ret rm n0 k j T h) {i : Int} (d : Isn b pc (.sipush i) 3 pc') (hv : (Int16.ofInt i).toInt32 = v) (g : Go K n0 kc kj Q T pc' Ls (.int v :: st)) : Go K n0 kc kj Q T pc Ls (st) := by
  obtain ⟨d, rfl⟩ := d; exact o_go (fun t k => XT.sipushV X.here X.ex rfl v (X.dec d) hv k) g
theorem o_lconst (v : Int64) (X : St K Z own b mx ret rm n0 k j T h) {i : Fin 2} (d : Isn b pc (.lconst i) 1 pc') (hv : Int64.ofNat i = v) (g : Go K n0 kc kj Q T pc' Ls (.long v :: st)) : Go K n0 kc kj Q T pc Ls (st) := by
  obtain ⟨d, rfl⟩ := d; exact o_go (fun t k => XT.lconstV X.here X.ex rfl v (X.dec d) hv k) g
theorem o_aconst_null (X : St K Z own b mx ret rm n0 k j T h)  (d : Isn b pc (.aconst_null) 1 pc') (g : Go K n0 kc kj Q T pc' Ls (.null :: st)) : Go K n0 kc kj Q T pc Ls (st) := by
  obtain ⟨d, rfl⟩ := d; exact o_go (fun t k => XS.aconstNull X.here X.ex rfl (X.dec d)  k) g
theorem o_iinc (v : Int32) (X : St K Z own b mx ret rm n0 k j T h) {i : Nat} {cst : Int} {x : Int32} (d : Isn b pc (.iinc i cst) 3 pc') (hv : Int32.ofInt cst = v) (hl : Ls[i]? = some (.val (.int x))) (hl' : storeLocals Ls i (.int (x + v)) = some Ls') (g : Go K n0 kc kj Q T pc' Ls' (st)) : Go K n0 kc kj Q T pc Ls (st) := by
  obtain ⟨d, rfl⟩ := d; exact o_go (fun t k => XT.iincV X.here X.ex rfl v (X.dec d) hv hl hl' k) g
theorem o_ldc (X : St K Z own b mx ret rm n0 k j T h) {i : Nat} {v : Int32} (d : Isn b pc (.ldc i) 2 pc') (wd : (Jvm.Cond.constant own i v).before a0 Z = true) (g : Go K n0 kc kj Q T pc' Ls (.int v :: st)) : Go K n0 kc kj Q T pc Ls (st) := by
  obtain ⟨d, rfl⟩ := d; obtain ⟨_, S, _⟩ := X.sd; exact o_go (fun t k => S.ldcI X.ex X.ow (mvT X.wZ wd) rfl (X.dec d) k) g
theorem o_ldc2 (X : St K Z own b mx ret rm n0 k j T h) {i : Nat} {v : Int64} (d : Isn b pc (.ldc2_w i) 3 pc') (wd : (Jvm.Cond.constantLong own i v).before a0 Z = true) (g : Go K n0 kc kj Q T pc' Ls (.long v :: st)) : Go K n0 kc kj Q T pc Ls (st) := by
  obtain ⟨d, rfl⟩ := d; obtain ⟨_, S, _⟩ := X.sd; exact o_go (fun t k => S.ldc2J X.ex X.ow (mvT X.wZ wd) rfl (X.dec d) k) g
theorem o_dup (X : St K Z own b mx ret rm n0 k j T h) {x : Value} (d : Isn b pc (.dup) 1 pc') (hc : x.category = 1) (g : Go K n0 kc kj Q T pc' Ls (x :: x :: rest)) : Go K n0 kc kj Q T pc Ls (x :: rest) := by
  obtain ⟨d, rfl⟩ := d; exact o_go (fun t k => XS.dup X.here X.ex rfl (X.dec d) rfl hc k) g
theorem o_pop (X : St K Z own b mx ret rm n0 k j T h) {x : Value} (d : Isn b pc (.pop) 1 pc') (hc : x.category = 1) (g : Go K n0 kc kj Q T pc' Ls (rest)) : Go K n0 kc kj Q T pc Ls (x :: rest) := by
  obtain ⟨d, rfl⟩ := d; exact o_go (fun t k => XT.pop X.here X.ex rfl (X.dec d) rfl hc k) g
theorem o_dup2 (X : St K Z own b mx ret rm n0 k j T h) {x y : Value} (d : Isn b pc (.dup2) 1 pc') (hc : x.category = 1) (hc' : y.category = 1) (g : Go K n0 kc kj Q T pc' Ls (x :: y :: x :: y :: rest)) : Go K n0 kc kj Q T pc Ls (x :: y :: rest) := by
  obtain ⟨d, rfl⟩ := d; exact o_go (fun t k => XT.dup2 X.here X.ex rfl (X.dec d) rfl hc hc' k) g
theorem o_dup_x1 (X : St K Z own b mx ret rm n0 k j T h) {x y : Value} (d : Isn b pc (.dup_x1) 1 pc') (hc : x.category = 1) (hc' : y.category = 1) (g : Go K n0 kc kj Q T pc' Ls (x :: y :: x :: rest)) : Go K n0 kc kj Q T pc Ls (x :: y :: rest) := by
  obtain ⟨d, rfl⟩ := d; exact o_go (fun t k => XT.dupX1 X.here X.ex rfl (X.dec d) rfl hc hc' k) g
theorem o_dup2L (X : St K Z own b mx ret rm n0 k j T h) {x : Int64} (d : Isn b pc (.dup2) 1 pc') (g : Go K n0 kc kj Q T pc' Ls (.long x :: .long x :: rest)) : Go K n0 kc kj Q T pc Ls (.long x :: rest) := by
  obtain ⟨d, rfl⟩ := d; exact o_go (fun t k => XT.dup2L X.here X.ex rfl (X.dec d) rfl k) g
theorem o_goto (X : St K Z own b mx ret rm n0 k j T h) {o : Int} (d : Brn b pc (.goto o) o pc' tg) (g : Go K n0 kc kj Q T tg Ls (st)) : Go K n0 kc kj Q T pc Ls (st) := by
  obtain ⟨d, rfl, h1, h2⟩ := d; exact o_go (fun t k => XS.goto X.here X.ex rfl rfl (X.dec d) h1 h2 k) g
theorem o_icmp_eq_t (X : St K Z own b mx ret rm n0 k j T h) {x y : Int32} {o : Int} (d : Brn b pc (.if_icmp .eq o) o pc' tg) (q : x = y) (g : Go K n0 kc kj Q T tg Ls (rest)) : Go K n0 kc kj Q T pc Ls (.int y :: .int x :: rest) := by
  obtain ⟨d, rfl, h1, h2⟩ := d; exact o_go (fun t k => XS.icmpYes X.here X.ex rfl rfl (X.dec d) rfl (XT.ii_eq_t q) h1 h2 k) g
theorem o_icmp_eq_f (X : St K Z own b mx ret rm n0 k j T h) {x y : Int32} {o : Int} (d : Brn b pc (.if_icmp .eq o) o pc' tg) (q : ¬ x = y) (g : Go K n0 kc kj Q T pc' Ls (rest)) : Go K n0 kc kj Q T pc Ls (.int y :: .int x :: rest) := by
  obtain ⟨d, rfl, h1, h2⟩ := d; exact o_go (fun t k => XS.icmpNo X.here X.ex rfl (X.dec d) rfl (XT.ii_eq_f q) k) g
theorem o_icmp_eq (X : St K Z own b mx ret rm n0 k j T h) {x y : Int32} {o : Int} (d : Brn b pc (.if_icmp .eq o) o pc' tg) (gt : x = y → Go K n0 kc kj Q T tg Ls (rest)) (gf : ¬ x = y → Go K n0 kc kj Q T pc' Ls (rest)) : Go K n0 kc kj Q T pc Ls (.int y :: .int x :: rest) := by
  by_cases q : x = y
  · exact o_icmp_eq_t X d q (gt q)
  · exact o_icmp_eq_f X d q (gf q)
theorem o_if_eq_t (X : St K Z own b mx ret rm n0 k j T h) {x : Int32} {o : Int} (d : Brn b pc (.ifCond .eq o) o pc' tg) (q : x = 0) (g : Go K n0 kc kj Q T tg Ls (rest)) : Go K n0 kc kj Q T pc Ls (.int x :: rest) := by
  obtain ⟨d, rfl, h1, h2⟩ := d; exact o_go (fun t k => XS.ifYes X.here X.ex rfl rfl (X.dec d) rfl (XT.i0_eq_t q) h1 h2 k) g
theorem o_if_eq_f (X : St K Z own b mx ret rm n0 k j T h) {x : Int32} {o : Int} (d : Brn b pc (.ifCond .eq o) o pc' tg) (q : ¬ x = 0) (g : Go K n0 kc kj Q T pc' Ls (rest)) : Go K n0 kc kj Q T pc Ls (.int x :: rest) := by
  obtain ⟨d, rfl, h1, h2⟩ := d; exact o_go (fun t k => XS.ifNo X.here X.ex rfl (X.dec d) rfl (XT.i0_eq_f q) k) g
theorem o_if_eq (X : St K Z own b mx ret rm n0 k j T h) {x : Int32} {o : Int} (d : Brn b pc (.ifCond .eq o) o pc' tg) (gt : x = 0 → Go K n0 kc kj Q T tg Ls (rest)) (gf : ¬ x = 0 → Go K n0 kc kj Q T pc' Ls (rest)) : Go K n0 kc kj Q T pc Ls (.int x :: rest) := by
  by_cases q : x = 0
  · exact o_if_eq_t X d q (gt q)
  · exact o_if_eq_f X d q (gf q)
theorem o_lif_eq_t (X : St K Z own b mx ret rm n0 k j T h) {x y : Int64} {o : Int} (d : Brn b pc (.ifCond .eq o) o pc' tg) (q : x = y) (g : Go K n0 kc kj Q T tg Ls (rest)) : Go K n0 kc kj Q T pc Ls (.int (XT.cmpL x y) :: rest) := by
  obtain ⟨d, rfl, h1, h2⟩ := d; exact o_go (fun t k => XS.ifYes X.here X.ex rfl rfl (X.dec d) rfl (XT.ll_eq_t q) h1 h2 k) g
theorem o_lif_eq_f (X : St K Z own b mx ret rm n0 k j T h) {x y : Int64} {o : Int} (d : Brn b pc (.ifCond .eq o) o pc' tg) (q : ¬ x = y) (g : Go K n0 kc kj Q T pc' Ls (rest)) : Go K n0 kc kj Q T pc Ls (.int (XT.cmpL x y) :: rest) := by
  obtain ⟨d, rfl, h1, h2⟩ := d; exact o_go (fun t k => XS.ifNo X.here X.ex rfl (X.dec d) rfl (XT.ll_eq_f q) k) g
theorem o_lif_eq (X : St K Z own b mx ret rm n0 k j T h) {x y : Int64} {o : Int} (d : Brn b pc (.ifCond .eq o) o pc' tg) (gt : x = y → Go K n0 kc kj Q T tg Ls (rest)) (gf : ¬ x = y → Go K n0 kc kj Q T pc' Ls (rest)) : Go K n0 kc kj Q T pc Ls (.int (XT.cmpL x y) :: rest) := by
  by_cases q : x = y
  · exact o_lif_eq_t X d q (gt q)
  · exact o_lif_eq_f X d q (gf q)
theorem o_icmp_ne_t (X : St K Z own b mx ret rm n0 k j T h) {x y : Int32} {o : Int} (d : Brn b pc (.if_icmp .ne o) o pc' tg) (q : ¬ x = y) (g : Go K n0 kc kj Q T tg Ls (rest)) : Go K n0 kc kj Q T pc Ls (.int y :: .int x :: rest) := by
  obtain ⟨d, rfl, h1, h2⟩ := d; exact o_go (fun t k => XS.icmpYes X.here X.ex rfl rfl (X.dec d) rfl (XT.ii_ne_t q) h1 h2 k) g
theorem o_icmp_ne_f (X : St K Z own b mx ret rm n0 k j T h) {x y : Int32} {o : Int} (d : Brn b pc (.if_icmp .ne o) o pc' tg) (q : x = y) (g : Go K n0 kc kj Q T pc' Ls (rest)) : Go K n0 kc kj Q T pc Ls (.int y :: .int x :: rest) := by
  obtain ⟨d, rfl, h1, h2⟩ := d; exact o_go (fun t k => XS.icmpNo X.here X.ex rfl (X.dec d) rfl (XT.ii_ne_f q) k) g
theorem o_icmp_ne (X : St K Z own b mx ret rm n0 k j T h) {x y : Int32} {o : Int} (d : Brn b pc (.if_icmp .ne o) o pc' tg) (gt : ¬ x = y → Go K n0 kc kj Q T tg Ls (rest)) (gf : x = y → Go K n0 kc kj Q T pc' Ls (rest)) : Go K n0 kc kj Q T pc Ls (.int y :: .int x :: rest) := by
  by_cases q : x = y
  · exact o_icmp_ne_f X d q (gf q)
  · exact o_icmp_ne_t X d q (gt q)
theorem o_if_ne_t (X : St K Z own b mx ret rm n0 k j T h) {x : Int32} {o : Int} (d : Brn b pc (.ifCond .ne o) o pc' tg) (q : ¬ x = 0) (g : Go K n0 kc kj Q T tg Ls (rest)) : Go K n0 kc kj Q T pc Ls (.int x :: rest) := by
  obtain ⟨d, rfl, h1, h2⟩ := d; exact o_go (fun t k => XS.ifYes X.here X.ex rfl rfl (X.dec d) rfl (XT.i0_ne_t q) h1 h2 k) g
theorem o_if_ne_f (X : St K Z own b mx ret rm n0 k j T h) {x : Int32} {o : Int} (d : Brn b pc (.ifCond .ne o) o pc' tg) (q : x = 0) (g : Go K n0 kc kj Q T pc' Ls (rest)) : Go K n0 kc kj Q T pc Ls (.int x :: rest) := by
  obtain ⟨d, rfl, h1, h2⟩ := d; exact o_go (fun t k => XS.ifNo X.here X.ex rfl (X.dec d) rfl (XT.i0_ne_f q) k) g
theorem o_if_ne (X : St K Z own b mx ret rm n0 k j T h) {x : Int32} {o : Int} (d : Brn b pc (.ifCond .ne o) o pc' tg) (gt : ¬ x = 0 → Go K n0 kc kj Q T tg Ls (rest)) (gf : x = 0 → Go K n0 kc kj Q T pc' Ls (rest)) : Go K n0 kc kj Q T pc Ls (.int x :: rest) := by
  by_cases q : x = 0
  · exact o_if_ne_f X d q (gf q)
  · exact o_if_ne_t X d q (gt q)
theorem o_lif_ne_t (X : St K Z own b mx ret rm n0 k j T h) {x y : Int64} {o : Int} (d : Brn b pc (.ifCond .ne o) o pc' tg) (q : ¬ x = y) (g : Go K n0 kc kj Q T tg Ls (rest)) : Go K n0 kc kj Q T pc Ls (.int (XT.cmpL x y) :: rest) := by
  obtain ⟨d, rfl, h1, h2⟩ := d; exact o_go (fun t k => XS.ifYes X.here X.ex rfl rfl (X.dec d) rfl (XT.ll_ne_t q) h1 h2 k) g
theorem o_lif_ne_f (X : St K Z own b mx ret rm n0 k j T h) {x y : Int64} {o : Int} (d : Brn b pc (.ifCond .ne o) o pc' tg) (q : x = y) (g : Go K n0 kc kj Q T pc' Ls (rest)) : Go K n0 kc kj Q T pc Ls (.int (XT.cmpL x y) :: rest) := by
  obtain ⟨d, rfl, h1, h2⟩ := d; exact o_go (fun t k => XS.ifNo X.here X.ex rfl (X.dec d) rfl (XT.ll_ne_f q) k) g
theorem o_lif_ne (X : St K Z own b mx ret rm n0 k j T h) {x y : Int64} {o : Int} (d : Brn b pc (.ifCond .ne o) o pc' tg) (gt : ¬ x = y → Go K n0 kc kj Q T tg Ls (rest)) (gf : x = y → Go K n0 kc kj Q T pc' Ls (rest)) : Go K n0 kc kj Q T pc Ls (.int (XT.cmpL x y) :: rest) := by
  by_cases q : x = y
  · exact o_lif_ne_f X d q (gf q)
  · exact o_lif_ne_t X d q (gt q)
theorem o_icmp_lt_t (X : St K Z own b mx ret rm n0 k j T h) {x y : Int32} {o : Int} (d : Brn b pc (.if_icmp .lt o) o pc' tg) (q : x < y) (g : Go K n0 kc kj Q T tg Ls (rest)) : Go K n0 kc kj Q T pc Ls (.int y :: .int x :: rest) := by
  obtain ⟨d, rfl, h1, h2⟩ := d; exact o_go (fun t k => XS.icmpYes X.here X.ex rfl rfl (X.dec d) rfl (XT.ii_lt_t q) h1 h2 k) g
theorem o_icmp_lt_f (X : St K Z own b mx ret rm n0 k j T h) {x y : Int32} {o : Int} (d : Brn b pc (.if_icmp .lt o) o pc' tg) (q : ¬ x < y) (g : Go K n0 kc kj Q T pc' Ls (rest)) : Go K n0 kc kj Q T pc Ls (.int y :: .int x :: rest) := by
  obtain ⟨d, rfl, h1, h2⟩ := d; exact o_go (fun t k => XS.icmpNo X.here X.ex rfl (X.dec d) rfl (XT.ii_lt_f q) k) g
theorem o_icmp_lt (X : St K Z own b mx ret rm n0 k j T h) {x y : Int32} {o : Int} (d : Brn b pc (.if_icmp .lt o) o pc' tg) (gt : x < y → Go K n0 kc kj Q T tg Ls (rest)) (gf : ¬ x < y → Go K n0 kc kj Q T pc' Ls (rest)) : Go K n0 kc kj Q T pc Ls (.int y :: .int x :: rest) := by
  by_cases q : x < y
  · exact o_icmp_lt_t X d q (gt q)
  · exact o_icmp_lt_f X d q (gf q)
theorem o_if_lt_t (X : St K Z own b mx ret rm n0 k j T h) {x : Int32} {o : Int} (d : Brn b pc (.ifCond .lt o) o pc' tg) (q : x < 0) (g : Go K n0 kc kj Q T tg Ls (rest)) : Go K n0 kc kj Q T pc Ls (.int x :: rest) := by
  obtain ⟨d, rfl, h1, h2⟩ := d; exact o_go (fun t k => XS.ifYes X.here X.ex rfl rfl (X.dec d) rfl (XT.i0_lt_t q) h1 h2 k) g
theorem o_if_lt_f (X : St K Z own b mx ret rm n0 k j T h) {x : Int32} {o : Int} (d : Brn b pc (.ifCond .lt o) o pc' tg) (q : ¬ x < 0) (g : Go K n0 kc kj Q T pc' Ls (rest)) : Go K n0 kc kj Q T pc Ls (.int x :: rest) := by
  obtain ⟨d, rfl, h1, h2⟩ := d; exact o_go (fun t k => XS.ifNo X.here X.ex rfl (X.dec d) rfl (XT.i0_lt_f q) k) g
theorem o_if_lt (X : St K Z own b mx ret rm n0 k j T h) {x : Int32} {o : Int} (d : Brn b pc (.ifCond .lt o) o pc' tg) (gt : x < 0 → Go K n0 kc kj Q T tg Ls (rest)) (gf : ¬ x < 0 → Go K n0 kc kj Q T pc' Ls (rest)) : Go K n0 kc kj Q T pc Ls (.int x :: rest) := by
  by_cases q : x < 0
  · exact o_if_lt_t X d q (gt q)
  · exact o_if_lt_f X d q (gf q)
theorem o_lif_lt_t (X : St K Z own b mx ret rm n0 k j T h) {x y : Int64} {o : Int} (d : Brn b pc (.ifCond .lt o) o pc' tg) (q : x < y) (g : Go K n0 kc kj Q T tg Ls (rest)) : Go K n0 kc kj Q T pc Ls (.int (XT.cmpL x y) :: rest) := by
  obtain ⟨d, rfl, h1, h2⟩ := d; exact o_go (fun t k => XS.ifYes X.here X.ex rfl rfl (X.dec d) rfl (XT.ll_lt_t q) h1 h2 k) g
theorem o_lif_lt_f (X : St K Z own b mx ret rm n0 k j T h) {x y : Int64} {o : Int} (d : Brn b pc (.ifCond .lt o) o pc' tg) (q : ¬ x < y) (g : Go K n0 kc kj Q T pc' Ls (rest)) : Go K n0 kc kj Q T pc Ls (.int (XT.cmpL x y) :: rest) := by
  obtain ⟨d, rfl, h1, h2⟩ := d; exact o_go (fun t k => XS.ifNo X.here X.ex rfl (X.dec d) rfl (XT.ll_lt_f q) k) g
theorem o_lif_lt (X : St K Z own b mx ret rm n0 k j T h) {x y : Int64} {o : Int} (d : Brn b pc (.ifCond .lt o) o pc' tg) (gt : x < y → Go K n0 kc kj Q T tg Ls (rest)) (gf : ¬ x < y → Go K n0 kc kj Q T pc' Ls (rest)) : Go K n0 kc kj Q T pc Ls (.int (XT.cmpL x y) :: rest) := by
  by_cases q : x < y
  · exact o_lif_lt_t X d q (gt q)
  · exact o_lif_lt_f X d q (gf q)
theorem o_icmp_ge_t (X : St K Z own b mx ret rm n0 k j T h) {x y : Int32} {o : Int} (d : Brn b pc (.if_icmp .ge o) o pc' tg) (q : ¬ x < y) (g : Go K n0 kc kj Q T tg Ls (rest)) : Go K n0 kc kj Q T pc Ls (.int y :: .int x :: rest) := by
  obtain ⟨d, rfl, h1, h2⟩ := d; exact o_go (fun t k => XS.icmpYes X.here X.ex rfl rfl (X.dec d) rfl (XT.ii_ge_t q) h1 h2 k) g
theorem o_icmp_ge_f (X : St K Z own b mx ret rm n0 k j T h) {x y : Int32} {o : Int} (d : Brn b pc (.if_icmp .ge o) o pc' tg) (q : x < y) (g : Go K n0 kc kj Q T pc' Ls (rest)) : Go K n0 kc kj Q T pc Ls (.int y :: .int x :: rest) := by
  obtain ⟨d, rfl, h1, h2⟩ := d; exact o_go (fun t k => XS.icmpNo X.here X.ex rfl (X.dec d) rfl (XT.ii_ge_f q) k) g
theorem o_icmp_ge (X : St K Z own b mx ret rm n0 k j T h) {x y : Int32} {o : Int} (d : Brn b pc (.if_icmp .ge o) o pc' tg) (gt : ¬ x < y → Go K n0 kc kj Q T tg Ls (rest)) (gf : x < y → Go K n0 kc kj Q T pc' Ls (rest)) : Go K n0 kc kj Q T pc Ls (.int y :: .int x :: rest) := by
  by_cases q : x < y
  · exact o_icmp_ge_f X d q (gf q)
  · exact o_icmp_ge_t X d q (gt q)
theorem o_if_ge_t (X : St K Z own b mx ret rm n0 k j T h) {x : Int32} {o : Int} (d : Brn b pc (.ifCond .ge o) o pc' tg) (q : ¬ x < 0) (g : Go K n0 kc kj Q T tg Ls (rest)) : Go K n0 kc kj Q T pc Ls (.int x :: rest) := by
  obtain ⟨d, rfl, h1, h2⟩ := d; exact o_go (fun t k => XS.ifYes X.here X.ex rfl rfl (X.dec d) rfl (XT.i0_ge_t q) h1 h2 k) g
theorem o_if_ge_f (X : St K Z own b mx ret rm n0 k j T h) {x : Int32} {o : Int} (d : Brn b pc (.ifCond .ge o) o pc' tg) (q : x < 0) (g : Go K n0 kc kj Q T pc' Ls (rest)) : Go K n0 kc kj Q T pc Ls (.int x :: rest) := by
  obtain ⟨d, rfl, h1, h2⟩ := d; exact o_go (fun t k => XS.ifNo X.here X.ex rfl (X.dec d) rfl (XT.i0_ge_f q) k) g
theorem o_if_ge (X : St K Z own b mx ret rm n0 k j T h) {x : Int32} {o : Int} (d : Brn b pc (.ifCond .ge o) o pc' tg) (gt : ¬ x < 0 → Go K n0 kc kj Q T tg Ls (rest)) (gf : x < 0 → Go K n0 kc kj Q T pc' Ls (rest)) : Go K n0 kc kj Q T pc Ls (.int x :: rest) := by
  by_cases q : x < 0
  · exact o_if_ge_f X d q (gf q)
  · exact o_if_ge_t X d q (gt q)
theorem o_lif_ge_t (X : St K Z own b mx ret rm n0 k j T h) {x y : Int64} {o : Int} (d : Brn b pc (.ifCond .ge o) o pc' tg) (q : ¬ x < y) (g : Go K n0 kc kj Q T tg Ls (rest)) : Go K n0 kc kj Q T pc Ls (.int (XT.cmpL x y) :: rest) := by
  obtain ⟨d, rfl, h1, h2⟩ := d; exact o_go (fun t k => XS.ifYes X.here X.ex rfl rfl (X.dec d) rfl (XT.ll_ge_t q) h1 h2 k) g
theorem o_lif_ge_f (X : St K Z own b mx ret rm n0 k j T h) {x y : Int64} {o : Int} (d : Brn b pc (.ifCond .ge o) o pc' tg) (q : x < y) (g : Go K n0 kc kj Q T pc' Ls (rest)) : Go K n0 kc kj Q T pc Ls (.int (XT.cmpL x y) :: rest) := by
  obtain ⟨d, rfl, h1, h2⟩ := d; exact o_go (fun t k => XS.ifNo X.here X.ex rfl (X.dec d) rfl (XT.ll_ge_f q) k) g
theorem o_lif_ge (X : St K Z own b mx ret rm n0 k j T h) {x y : Int64} {o : Int} (d : Brn b pc (.ifCond .ge o) o pc' tg) (gt : ¬ x < y → Go K n0 kc kj Q T tg Ls (rest)) (gf : x < y → Go K n0 kc kj Q T pc' Ls (rest)) : Go K n0 kc kj Q T pc Ls (.int (XT.cmpL x y) :: rest) := by
  by_cases q : x < y
  · exact o_lif_ge_f X d q (gf q)
  · exact o_lif_ge_t X d q (gt q)
theorem o_icmp_gt_t (X : St K Z own b mx ret rm n0 k j T h) {x y : Int32} {o : Int} (d : Brn b pc (.if_icmp .gt o) o pc' tg) (q : y < x) (g : Go K n0 kc kj Q T tg Ls (rest)) : Go K n0 kc kj Q T pc Ls (.int y :: .int x :: rest) := by
  obtain ⟨d, rfl, h1, h2⟩ := d; exact o_go (fun t k => XS.icmpYes X.here X.ex rfl rfl (X.dec d) rfl (XT.ii_gt_t q) h1 h2 k) g
theorem o_icmp_gt_f (X : St K Z own b mx ret rm n0 k j T h) {x y : Int32} {o : Int} (d : Brn b pc (.if_icmp .gt o) o pc' tg) (q : ¬ y < x) (g : Go K n0 kc kj Q T pc' Ls (rest)) : Go K n0 kc kj Q T pc Ls (.int y :: .int x :: rest) := by
  obtain ⟨d, rfl, h1, h2⟩ := d; exact o_go (fun t k => XS.icmpNo X.here X.ex rfl (X.dec d) rfl (XT.ii_gt_f q) k) g
theorem o_icmp_gt (X : St K Z own b mx ret rm n0 k j T h) {x y : Int32} {o : Int} (d : Brn b pc (.if_icmp .gt o) o pc' tg) (gt : y < x → Go K n0 kc kj Q T tg Ls (rest)) (gf : ¬ y < x → Go K n0 kc kj Q T pc' Ls (rest)) : Go K n0 kc kj Q T pc Ls (.int y :: .int x :: rest) := by
  by_cases q : y < x
  · exact o_icmp_gt_t X d q (gt q)
  · exact o_icmp_gt_f X d q (gf q)
theorem o_if_gt_t (X : St K Z own b mx ret rm n0 k j T h) {x : Int32} {o : Int} (d : Brn b pc (.ifCond .gt o) o pc' tg) (q : 0 < x) (g : Go K n0 kc kj Q T tg Ls (rest)) : Go K n0 kc kj Q T pc Ls (.int x :: rest) := by
  obtain ⟨d, rfl, h1, h2⟩ := d; exact o_go (fun t k => XS.ifYes X.here X.ex rfl rfl (X.dec d) rfl (XT.i0_gt_t q) h1 h2 k) g
theorem o_if_gt_f (X : St K Z own b mx ret rm n0 k j T h) {x : Int32} {o : Int} (d : Brn b pc (.ifCond .gt o) o pc' tg) (q : ¬ 0 < x) (g : Go K n0 kc kj Q T pc' Ls (rest)) : Go K n0 kc kj Q T pc Ls (.int x :: rest) := by
  obtain ⟨d, rfl, h1, h2⟩ := d; exact o_go (fun t k => XS.ifNo X.here X.ex rfl (X.dec d) rfl (XT.i0_gt_f q) k) g
theorem o_if_gt (X : St K Z own b mx ret rm n0 k j T h) {x : Int32} {o : Int} (d : Brn b pc (.ifCond .gt o) o pc' tg) (gt : 0 < x → Go K n0 kc kj Q T tg Ls (rest)) (gf : ¬ 0 < x → Go K n0 kc kj Q T pc' Ls (rest)) : Go K n0 kc kj Q T pc Ls (.int x :: rest) := by
  by_cases q : 0 < x
  · exact o_if_gt_t X d q (gt q)
  · exact o_if_gt_f X d q (gf q)
theorem o_lif_gt_t (X : St K Z own b mx ret rm n0 k j T h) {x y : Int64} {o : Int} (d : Brn b pc (.ifCond .gt o) o pc' tg) (q : y < x) (g : Go K n0 kc kj Q T tg Ls (rest)) : Go K n0 kc kj Q T pc Ls (.int (XT.cmpL x y) :: rest) := by
  obtain ⟨d, rfl, h1, h2⟩ := d; exact o_go (fun t k => XS.ifYes X.here X.ex rfl rfl (X.dec d) rfl (XT.ll_gt_t q) h1 h2 k) g
theorem o_lif_gt_f (X : St K Z own b mx ret rm n0 k j T h) {x y : Int64} {o : Int} (d : Brn b pc (.ifCond .gt o) o pc' tg) (q : ¬ y < x) (g : Go K n0 kc kj Q T pc' Ls (rest)) : Go K n0 kc kj Q T pc Ls (.int (XT.cmpL x y) :: rest) := by
  obtain ⟨d, rfl, h1, h2⟩ := d; exact o_go (fun t k => XS.ifNo X.here X.ex rfl (X.dec d) rfl (XT.ll_gt_f q) k) g
theorem o_lif_gt (X : St K Z own b mx ret rm n0 k j T h) {x y : Int64} {o : Int} (d : Brn b pc (.ifCond .gt o) o pc' tg) (gt : y < x → Go K n0 kc kj Q T tg Ls (rest)) (gf : ¬ y < x → Go K n0 kc kj Q T pc' Ls (rest)) : Go K n0 kc kj Q T pc Ls (.int (XT.cmpL x y) :: rest) := by
  by_cases q : y < x
  · exact o_lif_gt_t X d q (gt q)
  · exact o_lif_gt_f X d q (gf q)
theorem o_icmp_le_t (X : St K Z own b mx ret rm n0 k j T h) {x y : Int32} {o : Int} (d : Brn b pc (.if_icmp .le o) o pc' tg) (q : ¬ y < x) (g : Go K n0 kc kj Q T tg Ls (rest)) : Go K n0 kc kj Q T pc Ls (.int y :: .int x :: rest) := by
  obtain ⟨d, rfl, h1, h2⟩ := d; exact o_go (fun t k => XS.icmpYes X.here X.ex rfl rfl (X.dec d) rfl (XT.ii_le_t q) h1 h2 k) g
theorem o_icmp_le_f (X : St K Z own b mx ret rm n0 k j T h) {x y : Int32} {o : Int} (d : Brn b pc (.if_icmp .le o) o pc' tg) (q : y < x) (g : Go K n0 kc kj Q T pc' Ls (rest)) : Go K n0 kc kj Q T pc Ls (.int y :: .int x :: rest) := by
  obtain ⟨d, rfl, h1, h2⟩ := d; exact o_go (fun t k => XS.icmpNo X.here X.ex rfl (X.dec d) rfl (XT.ii_le_f q) k) g
theorem o_icmp_le (X : St K Z own b mx ret rm n0 k j T h) {x y : Int32} {o : Int} (d : Brn b pc (.if_icmp .le o) o pc' tg) (gt : ¬ y < x → Go K n0 kc kj Q T tg Ls (rest)) (gf : y < x → Go K n0 kc kj Q T pc' Ls (rest)) : Go K n0 kc kj Q T pc Ls (.int y :: .int x :: rest) := by
  by_cases q : y < x
  · exact o_icmp_le_f X d q (gf q)
  · exact o_icmp_le_t X d q (gt q)
theorem o_if_le_t (X : St K Z own b mx ret rm n0 k j T h) {x : Int32} {o : Int} (d : Brn b pc (.ifCond .le o) o pc' tg) (q : ¬ 0 < x) (g : Go K n0 kc kj Q T tg Ls (rest)) : Go K n0 kc kj Q T pc Ls (.int x :: rest) := by
  obtain ⟨d, rfl, h1, h2⟩ := d; exact o_go (fun t k => XS.ifYes X.here X.ex rfl rfl (X.dec d) rfl (XT.i0_le_t q) h1 h2 k) g
theorem o_if_le_f (X : St K Z own b mx ret rm n0 k j T h) {x : Int32} {o : Int} (d : Brn b pc (.ifCond .le o) o pc' tg) (q : 0 < x) (g : Go K n0 kc kj Q T pc' Ls (rest)) : Go K n0 kc kj Q T pc Ls (.int x :: rest) := by
  obtain ⟨d, rfl, h1, h2⟩ := d; exact o_go (fun t k => XS.ifNo X.here X.ex rfl (X.dec d) rfl (XT.i0_le_f q) k) g
theorem o_if_le (X : St K Z own b mx ret rm n0 k j T h) {x : Int32} {o : Int} (d : Brn b pc (.ifCond .le o) o pc' tg) (gt : ¬ 0 < x → Go K n0 kc kj Q T tg Ls (rest)) (gf : 0 < x → Go K n0 kc kj Q T pc' Ls (rest)) : Go K n0 kc kj Q T pc Ls (.int x :: rest) := by
  by_cases q : 0 < x
  · exact o_if_le_f X d q (gf q)
  · exact o_if_le_t X d q (gt q)
theorem o_lif_le_t (X : St K Z own b mx ret rm n0 k j T h) {x y : Int64} {o : Int} (d : Brn b pc (.ifCond .le o) o pc' tg) (q : ¬ y < x) (g : Go K n0 kc kj Q T tg Ls (rest)) : Go K n0 kc kj Q T pc Ls (.int (XT.cmpL x y) :: rest) := by
  obtain ⟨d, rfl, h1, h2⟩ := d; exact o_go (fun t k => XS.ifYes X.here X.ex rfl rfl (X.dec d) rfl (XT.ll_le_t q) h1 h2 k) g
theorem o_lif_le_f (X : St K Z own b mx ret rm n0 k j T h) {x y : Int64} {o : Int} (d : Brn b pc (.ifCond .le o) o pc' tg) (q : y < x) (g : Go K n0 kc kj Q T pc' Ls (rest)) : Go K n0 kc kj Q T pc Ls (.int (XT.cmpL x y) :: rest) := by
  obtain ⟨d, rfl, h1, h2⟩ := d; exact o_go (fun t k => XS.ifNo X.here X.ex rfl (X.dec d) rfl (XT.ll_le_f q) k) g
theorem o_lif_le (X : St K Z own b mx ret rm n0 k j T h) {x y : Int64} {o : Int} (d : Brn b pc (.ifCond .le o) o pc' tg) (gt : ¬ y < x → Go K n0 kc kj Q T tg Ls (rest)) (gf : y < x → Go K n0 kc kj Q T pc' Ls (rest)) : Go K n0 kc kj Q T pc Ls (.int (XT.cmpL x y) :: rest) := by
  by_cases q : y < x
  · exact o_lif_le_f X d q (gf q)
  · exact o_lif_le_t X d q (gt q)
theorem o_bool_icmp_eq (X : St K Z own b mx ret rm n0 k j T h) {x y : Int32} {o o2 : Int} {pc2 pc3 pj : Nat} (d : Brn b pc (.if_icmp .eq o) o pc' tg) (d1 : Isn b pc' (.iconst 1) 1 pc2) (d2 : Brn b pc2 (.goto o2) o2 pc3 pj) (d3 : Isn b tg (.iconst 0) 1 pj) (g : Go K n0 kc kj Q T pj Ls (.int (if x = y then 0 else 1) :: rest)) : Go K n0 kc kj Q T pc Ls (.int y :: .int x :: rest) := by
  refine o_icmp_eq X d (fun q => o_iconst 0 X d3 rfl ?_) (fun q => o_iconst 1 X d1 rfl (o_goto X d2 ?_))
  · simpa only [q, if_true, if_false] using g
  · simpa only [q, if_true, if_false] using g
theorem o_bool_if_eq (X : St K Z own b mx ret rm n0 k j T h) {x : Int32} {o o2 : Int} {pc2 pc3 pj : Nat} (d : Brn b pc (.ifCond .eq o) o pc' tg) (d1 : Isn b pc' (.iconst 1) 1 pc2) (d2 : Brn b pc2 (.goto o2) o2 pc3 pj) (d3 : Isn b tg (.iconst 0) 1 pj) (g : Go K n0 kc kj Q T pj Ls (.int (if x = 0 then 0 else 1) :: rest)) : Go K n0 kc kj Q T pc Ls (.int x :: rest) := by
  refine o_if_eq X d (fun q => o_iconst 0 X d3 rfl ?_) (fun q => o_iconst 1 X d1 rfl (o_goto X d2 ?_))
  · simpa only [q, if_true, if_false] using g
  · simpa only [q, if_true, if_false] using g
theorem o_bool_lif_eq (X : St K Z own b mx ret rm n0 k j T h) {x y : Int64} {o o2 : Int} {pc2 pc3 pj : Nat} (d : Brn b pc (.ifCond .eq o) o pc' tg) (d1 : Isn b pc' (.iconst 1) 1 pc2) (d2 : Brn b pc2 (.goto o2) o2 pc3 pj) (d3 : Isn b tg (.iconst 0) 1 pj) (g : Go K n0 kc kj Q T pj Ls (.int (if x = y then 0 else 1) :: rest)) : Go K n0 kc kj Q T pc Ls (.int (XT.cmpL x y) :: rest) := by
  refine o_lif_eq X d (fun q => o_iconst 0 X d3 rfl ?_) (fun q => o_iconst 1 X d1 rfl (o_goto X d2 ?_))
  · simpa only [q, if_true, if_false] using g
  · simpa only [q, if_true, if_false] using g
theorem o_bool_icmp_ne (X : St K Z own b mx ret rm n0 k j T h) {x y : Int32} {o o2 : Int} {pc2 pc3 pj : Nat} (d : Brn b pc (.if_icmp .ne o) o pc' tg) (d1 : Isn b pc' (.iconst 1) 1 pc2) (d2 : Brn b pc2 (.goto o2) o2 pc3 pj) (d3 : Isn b tg (.iconst 0) 1 pj) (g : Go K n0 kc kj Q T pj Ls (.int (if x = y then 1 else 0) :: rest)) : Go K n0 kc kj Q T pc Ls (.int y :: .int x :: rest) := by
  refine o_icmp_ne X d (fun q => o_iconst 0 X d3 rfl ?_) (fun q => o_iconst 1 X d1 rfl (o_goto X d2 ?_))
  · simpa only [q, if_true, if_false] using g
  · simpa only [q, if_true, if_false] using g
theorem o_bool_if_ne (X : St K Z own b mx ret rm n0 k j T h) {x : Int32} {o o2 : Int} {pc2 pc3 pj : Nat} (d : Brn b pc (.ifCond .ne o) o pc' tg) (d1 : Isn b pc' (.iconst 1) 1 pc2) (d2 : Brn b pc2 (.goto o2) o2 pc3 pj) (d3 : Isn b tg (.iconst 0) 1 pj) (g : Go K n0 kc kj Q T pj Ls (.int (if x = 0 then 1 else 0) :: rest)) : Go K n0 kc kj Q T pc Ls (.int x :: rest) := by
  refine o_if_ne X d (fun q => o_iconst 0 X d3 rfl ?_) (fun q => o_iconst 1 X d1 rfl (o_goto X d2 ?_))
  · simpa only [q, if_true, if_false] using g
  · simpa only [q, if_true, if_false] using g
theorem o_bool_lif_ne (X : St K Z own b mx ret rm n0 k j T h) {x y : Int64} {o o2 : Int} {pc2 pc3 pj : Nat} (d : Brn b pc (.ifCond .ne o) o pc' tg) (d1 : Isn b pc' (.iconst 1) 1 pc2) (d2 : Brn b pc2 (.goto o2) o2 pc3 pj) (d3 : Isn b tg (.iconst 0) 1 pj) (g : Go K n0 kc kj Q T pj Ls (.int (if x = y then 1 else 0) :: rest)) : Go K n0 kc kj Q T pc Ls (.int (XT.cmpL x y) :: rest) := by
  refine o_lif_ne X d (fun q => o_iconst 0 X d3 rfl ?_) (fun q => o_iconst 1 X d1 rfl (o_goto X d2 ?_))
  · simpa only [q, if_true, if_false] using g
  · simpa only [q, if_true, if_false] using g
theorem o_bool_icmp_lt (X : St K Z own b mx ret rm n0 k j T h) {x y : Int32} {o o2 : Int} {pc2 pc3 pj : Nat} (d : Brn b pc (.if_icmp .lt o) o pc' tg) (d1 : Isn b pc' (.iconst 1) 1 pc2) (d2 : Brn b pc2 (.goto o2) o2 pc3 pj) (d3 : Isn b tg (.iconst 0) 1 pj) (g : Go K n0 kc kj Q T pj Ls (.int (if x < y then 0 else 1) :: rest)) : Go K n0 kc kj Q T pc Ls (.int y :: .int x :: rest) := by
  refine o_icmp_lt X d (fun q => o_iconst 0 X d3 rfl ?_) (fun q => o_iconst 1 X d1 rfl (o_goto X d2 ?_))
  · simpa only [q, if_true, if_false] using g
  · simpa only [q, if_true, if_false] using g
theorem o_bool_if_lt (X : St K Z own b mx ret rm n0 k j T h) {x : Int32} {o o2 : Int} {pc2 pc3 pj : Nat} (d : Brn b pc (.ifCond .lt o) o pc' tg) (d1 : Isn b pc' (.iconst 1) 1 pc2) (d2 : Brn b pc2 (.goto o2) o2 pc3 pj) (d3 : Isn b tg (.iconst 0) 1 pj) (g : Go K n0 kc kj Q T pj Ls (.int (if x < 0 then 0 else 1) :: rest)) : Go K n0 kc kj Q T pc Ls (.int x :: rest) := by
  refine o_if_lt X d (fun q => o_iconst 0 X d3 rfl ?_) (fun q => o_iconst 1 X d1 rfl (o_goto X d2 ?_))
  · simpa only [q, if_true, if_false] using g
  · simpa only [q, if_true, if_false] using g
theorem o_bool_lif_lt (X : St K Z own b mx ret rm n0 k j T h) {x y : Int64} {o o2 : Int} {pc2 pc3 pj : Nat} (d : Brn b pc (.ifCond .lt o) o pc' tg) (d1 : Isn b pc' (.iconst 1) 1 pc2) (d2 : Brn b pc2 (.goto o2) o2 pc3 pj) (d3 : Isn b tg (.iconst 0) 1 pj) (g : Go K n0 kc kj Q T pj Ls (.int (if x < y then 0 else 1) :: rest)) : Go K n0 kc kj Q T pc Ls (.int (XT.cmpL x y) :: rest) := by
  refine o_lif_lt X d (fun q => o_iconst 0 X d3 rfl ?_) (fun q => o_iconst 1 X d1 rfl (o_goto X d2 ?_))
  · simpa only [q, if_true, if_false] using g
  · simpa only [q, if_true, if_false] using g
theorem o_bool_icmp_ge (X : St K Z own b mx ret rm n0 k j T h) {x y : Int32} {o o2 : Int} {pc2 pc3 pj : Nat} (d : Brn b pc (.if_icmp .ge o) o pc' tg) (d1 : Isn b pc' (.iconst 1) 1 pc2) (d2 : Brn b pc2 (.goto o2) o2 pc3 pj) (d3 : Isn b tg (.iconst 0) 1 pj) (g : Go K n0 kc kj Q T pj Ls (.int (if x < y then 1 else 0) :: rest)) : Go K n0 kc kj Q T pc Ls (.int y :: .int x :: rest) := by
  refine o_icmp_ge X d (fun q => o_iconst 0 X d3 rfl ?_) (fun q => o_iconst 1 X d1 rfl (o_goto X d2 ?_))
  · simpa only [q, if_true, if_false] using g
  · simpa only [q, if_true, if_false] using g
theorem o_bool_if_ge (X : St K Z own b mx ret rm n0 k j T h) {x : Int32} {o o2 : Int} {pc2 pc3 pj : Nat} (d : Brn b pc (.ifCond .ge o) o pc' tg) (d1 : Isn b pc' (.iconst 1) 1 pc2) (d2 : Brn b pc2 (.goto o2) o2 pc3 pj) (d3 : Isn b tg (.iconst 0) 1 pj) (g : Go K n0 kc kj Q T pj Ls (.int (if x < 0 then 1 else 0) :: rest)) : Go K n0 kc kj Q T pc Ls (.int x :: rest) := by
  refine o_if_ge X d (fun q => o_iconst 0 X d3 rfl ?_) (fun q => o_iconst 1 X d1 rfl (o_goto X d2 ?_))
  · simpa only [q, if_true, if_false] using g
  · simpa only [q, if_true, if_false] using g
theorem o_bool_lif_ge (X : St K Z own b mx ret rm n0 k j T h) {x y : Int64} {o o2 : Int} {pc2 pc3 pj : Nat} (d : Brn b pc (.ifCond .ge o) o pc' tg) (d1 : Isn b pc' (.iconst 1) 1 pc2) (d2 : Brn b pc2 (.goto o2) o2 pc3 pj) (d3 : Isn b tg (.iconst 0) 1 pj) (g : Go K n0 kc kj Q T pj Ls (.int (if x < y then 1 else 0) :: rest)) : Go K n0 kc kj Q T pc Ls (.int (XT.cmpL x y) :: rest) := by
  refine o_lif_ge X d (fun q => o_iconst 0 X d3 rfl ?_) (fun q => o_iconst 1 X d1 rfl (o_goto X d2 ?_))
  · simpa only [q, if_true, if_false] using g
  · simpa only [q, if_true, if_false] using g
theorem o_bool_icmp_gt (X : St K Z own b mx ret rm n0 k j T h) {x y : Int32} {o o2 : Int} {pc2 pc3 pj : Nat} (d : Brn b pc (.if_icmp .gt o) o pc' tg) (d1 : Isn b pc' (.iconst 1) 1 pc2) (d2 : Brn b pc2 (.goto o2) o2 pc3 pj) (d3 : Isn b tg (.iconst 0) 1 pj) (g : Go K n0 kc kj Q T pj Ls (.int (if y < x then 0 else 1) :: rest)) : Go K n0 kc kj Q T pc Ls (.int y :: .int x :: rest) := by
  refine o_icmp_gt X d (fun q => o_iconst 0 X d3 rfl ?_) (fun q => o_iconst 1 X d1 rfl (o_goto X d2 ?_))
  · simpa only [q, if_true, if_false] using g
  · simpa only [q, if_true, if_false] using g
theorem o_bool_if_gt (X : St K Z own b mx ret rm n0 k j T h) {x : Int32} {o o2 : Int} {pc2 pc3 pj : Nat} (d : Brn b pc (.ifCond .gt o) o pc' tg) (d1 : Isn b pc' (.iconst 1) 1 pc2) (d2 : Brn b pc2 (.goto o2) o2 pc3 pj) (d3 : Isn b tg (.iconst 0) 1 pj) (g : Go K n0 kc kj Q T pj Ls (.int (if 0 < x then 0 else 1) :: rest)) : Go K n0 kc kj Q T pc Ls (.int x :: rest) := by
  refine o_if_gt X d (fun q => o_iconst 0 X d3 rfl ?_) (fun q => o_iconst 1 X d1 rfl (o_goto X d2 ?_))
  · simpa only [q, if_true, if_false] using g
  · simpa only [q, if_true, if_false] using g
theorem o_bool_lif_gt (X : St K Z own b mx ret rm n0 k j T h) {x y : Int64} {o o2 : Int} {pc2 pc3 pj : Nat} (d : Brn b pc (.ifCond .gt o) o pc' tg) (d1 : Isn b pc' (.iconst 1) 1 pc2) (d2 : Brn b pc2 (.goto o2) o2 pc3 pj) (d3 : Isn b tg (.iconst 0) 1 pj) (g : Go K n0 kc kj Q T pj Ls (.int (if y < x then 0 else 1) :: rest)) : Go K n0 kc kj Q T pc Ls (.int (XT.cmpL x y) :: rest) := by
  refine o_lif_gt X d (fun q => o_iconst 0 X d3 rfl ?_) (fun q => o_iconst 1 X d1 rfl (o_goto X d2 ?_))
  · simpa only [q, if_true, if_false] using g
  · simpa only [q, if_true, if_false] using g
theorem o_bool_icmp_le (X : St K Z own b mx ret rm n0 k j T h) {x y : Int32} {o o2 : Int} {pc2 pc3 pj : Nat} (d : Brn b pc (.if_icmp .le o) o pc' tg) (d1 : Isn b pc' (.iconst 1) 1 pc2) (d2 : Brn b pc2 (.goto o2) o2 pc3 pj) (d3 : Isn b tg (.iconst 0) 1 pj) (g : Go K n0 kc kj Q T pj Ls (.int (if y < x then 1 else 0) :: rest)) : Go K n0 kc kj Q T pc Ls (.int y :: .int x :: rest) := by
  refine o_icmp_le X d (fun q => o_iconst 0 X d3 rfl ?_) (fun q => o_iconst 1 X d1 rfl (o_goto X d2 ?_))
  · simpa only [q, if_true, if_false] using g
  · simpa only [q, if_true, if_false] using g
theorem o_bool_if_le (X : St K Z own b mx ret rm n0 k j T h) {x : Int32} {o o2 : Int} {pc2 pc3 pj : Nat} (d : Brn b pc (.ifCond .le o) o pc' tg) (d1 : Isn b pc' (.iconst 1) 1 pc2) (d2 : Brn b pc2 (.goto o2) o2 pc3 pj) (d3 : Isn b tg (.iconst 0) 1 pj) (g : Go K n0 kc kj Q T pj Ls (.int (if 0 < x then 1 else 0) :: rest)) : Go K n0 kc kj Q T pc Ls (.int x :: rest) := by
  refine o_if_le X d (fun q => o_iconst 0 X d3 rfl ?_) (fun q => o_iconst 1 X d1 rfl (o_goto X d2 ?_))
  · simpa only [q, if_true, if_false] using g
  · simpa only [q, if_true, if_false] using g
theorem o_bool_lif_le (X : St K Z own b mx ret rm n0 k j T h) {x y : Int64} {o o2 : Int} {pc2 pc3 pj : Nat} (d : Brn b pc (.ifCond .le o) o pc' tg) (d1 : Isn b pc' (.iconst 1) 1 pc2) (d2 : Brn b pc2 (.goto o2) o2 pc3 pj) (d3 : Isn b tg (.iconst 0) 1 pj) (g : Go K n0 kc kj Q T pj Ls (.int (if y < x then 1 else 0) :: rest)) : Go K n0 kc kj Q T pc Ls (.int (XT.cmpL x y) :: rest) := by
  refine o_lif_le X d (fun q => o_iconst 0 X d3 rfl ?_) (fun q => o_iconst 1 X d1 rfl (o_goto X d2 ?_))
  · simpa only [q, if_true, if_false] using g
  · simpa only [q, if_true, if_false] using g
theorem o_ifnonnull_r (X : St K Z own b mx ret rm n0 k j T h) {a : Addr} {o : Int} (d : Brn b pc (.ifnonnull o) o pc' tg) (g : Go K n0 kc kj Q T tg Ls (rest)) : Go K n0 kc kj Q T pc Ls (.ref a :: rest) := by
  obtain ⟨d, rfl, h1, h2⟩ := d; exact o_go (fun t k => XT.ifnonnullYes X.here X.ex rfl rfl (X.dec d) rfl h1 h2 k) g
theorem o_ifnonnull_0 (X : St K Z own b mx ret rm n0 k j T h) {o : Int} (d : Brn b pc (.ifnonnull o) o pc' tg) (g : Go K n0 kc kj Q T pc' Ls (rest)) : Go K n0 kc kj Q T pc Ls (.null :: rest) := by
  obtain ⟨d, rfl, h1, h2⟩ := d; exact o_go (fun t k => XT.ifnonnullNo X.here X.ex rfl (X.dec d) rfl k) g
theorem o_ifnull_r (X : St K Z own b mx ret rm n0 k j T h) {a : Addr} {o : Int} (d : Brn b pc (.ifnull o) o pc' tg) (g : Go K n0 kc kj Q T pc' Ls (rest)) : Go K n0 kc kj Q T pc Ls (.ref a :: rest) := by
  obtain ⟨d, rfl, h1, h2⟩ := d; exact o_go (fun t k => XS.ifnullNo X.here X.ex rfl (X.dec d) rfl k) g
theorem o_ifnull_0 (X : St K Z own b mx ret rm n0 k j T h) {o : Int} (d : Brn b pc (.ifnull o) o pc' tg) (g : Go K n0 kc kj Q T tg Ls (rest)) : Go K n0 kc kj Q T pc Ls (.null :: rest) := by
  obtain ⟨d, rfl, h1, h2⟩ := d; exact o_go (fun t k => XS.ifnullYes X.here X.ex rfl rfl (X.dec d) rfl h1 h2 k) g
theorem o_leave (X : St K Z own b mx ret rm n0 k j T h) {v : Option Value} (hv : ret = none → v = none) (hk : k ≤ kc) (hj : j ≤ kj) (q : Q v h)
    (f : ∀ fs, (∀ (f : JFrame) (acts : List Action), f.method = K.m → f.locked = none → f.entered = [] → (doReturn K.e (T.setTop f) acts v).1 = T.setFrames fs) → Steps K.p.tables K.e K.below (T.setTop (mkF K.m pc Ls st)) (T.setFrames fs)) : Go K n0 kc kj Q T pc Ls (st) := by
  obtain ⟨locs, S, N⟩ := X.sd
  obtain ⟨fs, hr, hrun, hended, hW, hsame⟩ := S.leave (v := v) (fun q => hv (X.rt.symm.trans q)) X.nl
  have e : (T.setFrames fs).heap = h := X.hp
  exact ⟨_, _, f fs hr, hrun, hended, v, locs, rfl, ⟨e ▸ q, N⟩, ⟨v, rfl⟩, hW, hsame.mono hk hj⟩
theorem o_retI (X : St K Z own b mx (some .int) rm n0 k j T h) {z : Int32} (d : Isn b pc .ireturn 1 pc') (hk : k ≤ kc) (hj : j ≤ kj) (q : Q (some (.int z)) h) : Go K n0 kc kj Q T pc Ls (.int z :: rest) := by
  obtain ⟨_, S, _⟩ := X.sd
  exact o_leave X (fun q => nomatch q) hk hj q fun fs hr => retOut S X.ex X.rt rfl (Or.inl ⟨rfl, Or.inl rfl, z, rfl⟩) (X.dec d.1) hr
theorem o_retL (X : St K Z own b mx (some .long) rm n0 k j T h) {z : Int64} (d : Isn b pc .lreturn 1 pc') (hk : k ≤ kc) (hj : j ≤ kj) (q : Q (some (.long z)) h) : Go K n0 kc kj Q T pc Ls (.long z :: rest) := by
  obtain ⟨_, S, _⟩ := X.sd
  exact o_leave X (fun q => nomatch q) hk hj q fun fs hr => retOut S X.ex X.rt rfl (Or.inr (Or.inl ⟨rfl, rfl, z, rfl⟩)) (X.dec d.1) hr
theorem o_retA {t : FieldType} (X : St K Z own b mx (some t) rm n0 k j T h) {z : Value} (ht : t.isReference = true) (hn : narrow t z = z) (hz : z.isRef = true) (d : Isn b pc .areturn 1 pc') (hk : k ≤ kc) (hj : j ≤ kj) (q : Q (some z) h) : Go K n0 kc kj Q T pc Ls (z :: rest) := by
  obtain ⟨_, S, _⟩ := X.sd
  exact o_leave X (fun q => nomatch q) hk hj q fun fs hr => retOut S X.ex X.rt hn (Or.inr (Or.inr (Or.inr (Or.inr ⟨rfl, ht, hz⟩)))) (X.dec d.1) hr
theorem o_retN {t : FieldType} (X : St K Z own b mx (some t) rm n0 k j T h) {z : Int32} (ht : t = .boolean ∨ t = .byte ∨ t = .char ∨ t = .short) (d : Isn b pc .ireturn 1 pc') (hk : k ≤ kc) (hj : j ≤ kj) (q : Q (some (.int (nar t z))) h) : Go K n0 kc kj Q T pc Ls (.int z :: rest) := by
  obtain ⟨_, S, _⟩ := X.sd
  exact o_leave X (fun q => nomatch q) hk hj q fun fs hr => retN S X.ex X.rt ht (X.dec d.1) hr
theorem o_retZ (X : St K Z own b mx (some .boolean) rm n0 k j T h) {z : Int32} (d : Isn b pc .ireturn 1 pc') (hk : k ≤ kc) (hj : j ≤ kj) (q : Q (some (.int (z &&& 1))) h) : Go K n0 kc kj Q T pc Ls (.int z :: rest) := o_retN X (Or.inl rfl) d hk hj q
theorem o_ret0 (X : St K Z own b mx none rm n0 k j T h) (d : Isn b pc .return_ 1 pc') (hk : k ≤ kc) (hj : j ≤ kj) (q : Q none h) : Go K n0 kc kj Q T pc Ls ([]) := by
  obtain ⟨_, S, _⟩ := X.sd
  exact o_leave X (fun _ => rfl) hk hj q fun fs hr => S.returnOut X.ex X.rt (X.dec d.1) hr
theorem CtrW.intro {l : Launch} {y : MethodName} {ws : List Jvm.Cond} {as' : List Value} (pn : plainFor y = true) (ho : y.cls = own) (Ls : Array Slot) (hE : Jvm.Sym.laidSlots as' ++ List.replicate (mx - (Jvm.Sym.laidSlots as').length) .unset = Ls.toList)
    (body : ∀ (K : Cx) (T : State), K.meth.name = y.name → K.l = l → St K Z own b mx ret rm n0 0 0 T h → Go K n0 kc kj Q T 0 Ls []) : CtrW l Z y b mx ret ws rm kc kj as' h n0 Q := by
  refine MetFree.of_bodySF pn hisR ?_
  intro p e s m args below meth c s₁ Bd hml0 hP hK
  obtain ⟨rfl, hZ, hh⟩ := hP
  subst ho
  have X0 : Stand p l e rm s m as'.toArray below meth c s₁ [] 0 0 := Stand.of_body Bd
  have e0 : s₁.heap = h := by rw [← hh, Bd.state]; rfl
  obtain ⟨t, o, h1, h2, h3, h4⟩ := body (p, l, e, rm, s, m, as'.toArray, below, meth, c) s₁ (name_of_methodNamed Bd.named Bd.method).1 rfl ⟨Bd.exec, hZ, findClass_of_methodNamed Bd.named, Bd.bytes, hml0, Bd.returns, Bd.notSynchronized, rfl, e0, [], X0, Fr.nil n0⟩
  exact ⟨t, o, (XT.entry hE).trans h1, h2, h3, h4⟩
theorem o_callS (X : St K Z own b mx ret rm n0 k j T h) (W : Nat) {i : Nat} {y : MethodName} {by' : ByteArray} {my : Nat} {ry : Option FieldType} {rmy : Room} {as' : List Value} {Qy : Option Value → Heap → Prop} (d : Isn b pc (.invokestatic i) 3 pc')
    (w1 : (Jvm.Cond.methodLink own i y).before a0 Z = true) (w2 : (Jvm.Cond.static y).before a0 Z = true) (w3 : (Jvm.Cond.initialized y.cls).before a0 Z = true) (w4 : (Jvm.Cond.code y by' my ry).before a0 Z = true)
    (hy : y.cls ≠ "java/lang/invoke/MethodHandle" ∧ y.cls ≠ "java/lang/invoke/VarHandle") (C : Ctr K.l Z y by' my ry rmy as' h n0 Qy) (hn : ∀ sig, parseMethodDescriptor y.desc = some sig → as'.length = sig.parameters.length)
    (hs : st = as'.reverse ++ rest) (hsz : Ls.size = mx) (hW : (rest.map fun v => v.category).sum ≤ W) (hr : rmy.frames + 1 ≤ rm.frames ∧ W + (my + 11) + rmy.locals ≤ rm.locals ∧ k + rmy.cells ≤ rm.cells ∧ j + rmy.slots ≤ rm.slots)
    (g : ∀ T' h' v, Qy v h' → St K Z own b mx ret rm n0 (k + rmy.cells) (j + rmy.slots) T' h' → Go K n0 kc kj Q T' pc' Ls (v.toList ++ rest)) : Go K n0 kc kj Q T pc Ls (st) := by
  obtain ⟨d, rfl⟩ := d; obtain ⟨locs, S, N⟩ := X.sd; have hR := X.rmE
  obtain ⟨v, _, ⟨T', L', k', j'⟩, -, S', ⟨Lc, ⟨hQ, NL⟩, l1, l2, l3⟩, st'⟩ := Jvm.LawKit.callS S X.ex (y := y) X.ow (mvT X.wZ w1) (mvT X.wZ w2) (mvT X.wZ w3) (mvT X.wZ w4) hy (backOf (W := W) (Q := fun v h L => Qy v h ∧ Fr n0 L) C X.wZ w4 w3 (by rw [hR]; exact hr.1) (by rw [hR]; exact hr.2.1)) (g := mkF K.m pc Ls st) rfl (hsz.trans X.ml.symm) (argsL := as') (rest := rest) hn hs (by show 2 * 0 + _ ≤ _; omega) (X.dec d) (fun _ _ => ⟨rfl, X.hp, by rw [hR]; exact hr.2.2.1, by rw [hR]; exact hr.2.2.2⟩)
  dsimp only [Pt.U, Pt.locs, Pt.cells, Pt.slots] at S' l1 l2 l3 st' hQ
  subst l1 l2 l3
  exact o_go (fun t k => st' t k) (g T' T'.heap v hQ (X.mk' S' (Fr.app N NL) rfl))
theorem o_callV (X : St K Z own b mx ret rm n0 k j T h) (W : Nat) {i : Nat} {y z : MethodName} {C' : String} {by' : ByteArray} {my : Nat} {ry : Option FieldType} {rmy : Room} {a : Addr} {as' : List Value} {Qy : Option Value → Heap → Prop} (d : Isn b pc (.invokevirtual i) 3 pc')
    (w1 : (Jvm.Cond.methodLink own i y).before a0 Z = true) (w2 : (Jvm.Cond.declares y).before a0 Z = true) (w3 : (Jvm.Cond.selects y.cls y y).before a0 Z = true) (w5 : (Jvm.Cond.selects C' y z).before a0 Z = true) (w6 : (Jvm.Cond.instanceMethod z).before a0 Z = true)
    (hy : y.cls ≠ "java/lang/invoke/MethodHandle" ∧ y.cls ≠ "java/lang/invoke/VarHandle") (w4 : (Jvm.Cond.code z by' my ry).before a0 Z = true) (w7 : (Jvm.Cond.initialized z.cls).before a0 Z = true) (C : Ctr K.l Z z by' my ry rmy (.ref a :: as') h n0 Qy) (E : Exa Z h a C') (hn : ∀ sig, parseMethodDescriptor y.desc = some sig → as'.length = sig.parameters.length)
    (hs : st = as'.reverse ++ .ref a :: rest) (hsz : Ls.size = mx) (hW : (rest.map fun v => v.category).sum ≤ W) (hr : rmy.frames + 1 ≤ rm.frames ∧ W + (my + 11) + rmy.locals ≤ rm.locals ∧ k + rmy.cells ≤ rm.cells ∧ j + rmy.slots ≤ rm.slots)
    (g : ∀ T' h' v, Qy v h' → St K Z own b mx ret rm n0 (k + rmy.cells) (j + rmy.slots) T' h' → Go K n0 kc kj Q T' pc' Ls (v.toList ++ rest)) : Go K n0 kc kj Q T pc Ls (st) := by
  obtain ⟨d, rfl⟩ := d; obtain ⟨locs, S, N⟩ := X.sd; have hR := X.rmE
  obtain ⟨cq, kq, q1, q2, q3⟩ := isOf (s := K.s) X.wZ X.hp E
  obtain ⟨v, _, ⟨T', L', k', j'⟩, -, S', ⟨Lc, ⟨hQ, NL⟩, l1, l2, l3⟩, st'⟩ := S.virtualBack X.ex (y := y) (z := z) X.ow (mvT X.wZ w1) (mvT X.wZ w2) (notFace_of_selects (args := #[]) (mvT X.wZ w3)) (mvT X.wZ w5) (mvT X.wZ w6) hy (backOf (W := W) (Q := fun v h L => Qy v h ∧ Fr n0 L) C X.wZ w4 w7 (by rw [hR]; exact hr.1) (by rw [hR]; exact hr.2.1)) q1 q3 (g := mkF K.m pc Ls st) rfl (hsz.trans X.ml.symm) (Steps.refl _) (argsL := as') (rest := rest) hn hs (by show 2 * 0 + _ ≤ _; omega) (X.dec d) (fun _ _ => ⟨rfl, X.hp, by rw [hR]; exact hr.2.2.1, by rw [hR]; exact hr.2.2.2⟩)
  dsimp only [Pt.U, Pt.locs, Pt.cells, Pt.slots] at S' l1 l2 l3 st' hQ
  subst l1 l2 l3
  exact o_go (fun t k => st'.trans k) (g T' T'.heap v hQ (X.mk' S' (Fr.app N NL) rfl))
theorem o_callN (X : St K Z own b mx ret rm n0 k j T h) (W : Nat) {i : Nat} {y : MethodName} {by' : ByteArray} {my : Nat} {rmy : Room} {a : Addr} {as' : List Value} {Qy : Option Value → Heap → Prop} (d : Isn b pc (.invokespecial i) 3 pc') (hy1 : y.name = "<init>")
    (w1 : (Jvm.Cond.methodLink own i y).before a0 Z = true) (w2 : (Jvm.Cond.instanceMethod y).before a0 Z = true) (w4 : (Jvm.Cond.code y by' my none).before a0 Z = true) (w3 : (Jvm.Cond.initialized y.cls).before a0 Z = true)
    (hy : y.cls ≠ "java/lang/invoke/MethodHandle" ∧ y.cls ≠ "java/lang/invoke/VarHandle") (C : Ctr K.l Z y by' my none rmy (.ref a :: as') h n0 Qy) (hn : ∀ sig, parseMethodDescriptor y.desc = some sig → as'.length = sig.parameters.length)
    (hs : st = as'.reverse ++ .ref a :: rest) (hsz : Ls.size = mx) (hW : (rest.map fun v => v.category).sum ≤ W) (hr : rmy.frames + 1 ≤ rm.frames ∧ W + (my + 11) + rmy.locals ≤ rm.locals ∧ k + rmy.cells ≤ rm.cells ∧ j + rmy.slots ≤ rm.slots)
    (g : ∀ T' h' v, Qy v h' → St K Z own b mx ret rm n0 (k + rmy.cells) (j + rmy.slots) T' h' → Go K n0 kc kj Q T' pc' Ls (v.toList ++ rest)) : Go K n0 kc kj Q T pc Ls (st) := by
  obtain ⟨d, rfl⟩ := d; obtain ⟨locs, S, N⟩ := X.sd; have hR := X.rmE
  obtain ⟨v, _, ⟨T', L', k', j'⟩, -, S', ⟨Lc, ⟨hQ, NL⟩, l1, l2, l3⟩, st'⟩ := S.specialBack X.ex (y := y) hy1 X.ow (mvT X.wZ w1) (mvT X.wZ w2) (mvT X.wZ w4) hy (backOf (W := W) (Q := fun v h L => Qy v h ∧ Fr n0 L) C X.wZ w4 w3 (by rw [hR]; exact hr.1) (by rw [hR]; exact hr.2.1)) (g := mkF K.m pc Ls st) rfl (hsz.trans X.ml.symm) (Steps.refl _) (a := a) (argsL := as') (rest := rest) hn hs (by show 2 * 0 + _ ≤ _; omega) (X.dec d) (fun _ _ => ⟨rfl, X.hp, by rw [hR]; exact hr.2.2.1, by rw [hR]; exact hr.2.2.2⟩)
  dsimp only [Pt.U, Pt.locs, Pt.cells, Pt.slots] at S' l1 l2 l3 st' hQ
  subst l1 l2 l3
  exact o_go (fun t k => st'.trans k) (g T' T'.heap v hQ (X.mk' S' (Fr.app N NL) rfl))
theorem o_initO (X : St K Z own b mx ret rm n0 k j T h) (W : Nat) {i : Nat} {a : Addr} (d : Isn b pc (.invokespecial i) 3 pc') (w1 : (Jvm.Cond.methodLink own i Lib.objectInit).before a0 Z = true) (w2 : (Jvm.Cond.instanceMethod Lib.objectInit).before a0 Z = true) (w3 : (Jvm.Cond.code Lib.objectInit ⟨#[0xb1]⟩ 1 none).before a0 Z = true)
    (hsz : Ls.size = mx) (hW : (rest.map fun v => v.category).sum ≤ W) (hr : 1 ≤ rm.frames ∧ W + 12 ≤ rm.locals) (g : ∀ T', St K Z own b mx ret rm n0 k j T' h → Go K n0 kc kj Q T' pc' Ls (rest)) : Go K n0 kc kj Q T pc Ls (.ref a :: rest) := by
  obtain ⟨d, rfl⟩ := d; obtain ⟨locs, S, N⟩ := X.sd; have hR := X.rmE
  obtain ⟨T', S', e', st'⟩ := initO S X.ex X.wZ X.ow w1 w2 w3 X.hp (g := mkF K.m pc Ls (.ref a :: rest)) rfl (hsz.trans X.ml.symm) rfl (X.dec d) (by rw [hR]; exact hr.1) (W := W) (by show 2 * 0 + _ ≤ _; omega) (by rw [hR]; exact hr.2)
  exact o_go (fun t k => st' t k) (g T' (X.mk' S' N e'))
theorem o_getF (X : St K Z own b mx ret rm n0 k j T h) {i : Nat} {O n dd : String} {a : Addr} {v : Value} (d : Isn b pc (.getfield i) 3 pc') (wd : (Jvm.Cond.fieldLink own i O n dd).before a0 Z = true) (F : Fld Z h a O n dd v)
    (g : ∀ T', St K Z own b mx ret rm n0 k j T' h → Go K n0 kc kj Q T' pc' Ls (v :: rest)) : Go K n0 kc kj Q T pc Ls (.ref a :: rest) := by
  obtain ⟨d, rfl⟩ := d; obtain ⟨locs, S, N⟩ := X.sd
  obtain ⟨T', S', e', st'⟩ := getF S X.ex X.wZ X.ow (host := "") (Or.inl wd) Via.refl X.hp F (g := mkF K.m pc Ls (.ref a :: rest)) rfl rfl (X.dec d)
  exact o_go (fun t k => st' t k) (g T' (X.mk' S' N e'))
theorem o_putF (X : St K Z own b mx ret rm n0 k j T h) {i kk : Nat} {O n dd C' : String} {ty : FieldType} {a : Addr} {v ov : Value} (d : Isn b pc (.putfield i) 3 pc') (wd : (Jvm.Cond.fieldLink own i O n dd).before a0 Z = true) (F : Fld Z h a O n dd ov) (E : Exa Z h a C')
    (Lf : (Jvm.Cond.lays C' O n dd).before a0 Z = true ∨ ((Jvm.Cond.laysFinal C' O n dd).before a0 Z = true ∧ own = O ∧ K.meth.name = "<init>")) (wi : (Jvm.Cond.instantiable C' kk).before a0 Z = true) (hty : parseFieldDescriptor dd = some ty) (hn : narrow ty v = v) (hf : fits ty v = true) (ha : n0 ≤ a)
    (g : ∀ T' h', St K Z own b mx ret rm n0 k j T' h' → Wr h h' a (Jvm.RoadKit.slotOf Z O n dd) v → Go K n0 kc kj Q T' pc' Ls (rest)) : Go K n0 kc kj Q T pc Ls (v :: .ref a :: rest) := by
  obtain ⟨d, rfl⟩ := d; obtain ⟨locs, S, N⟩ := X.sd
  obtain ⟨T', h', S', e', W', st'⟩ := putF S X.ex X.wZ X.ow (host := "") (Or.inl wd) Via.refl X.hp F E Lf wi hty hn hf (g := mkF K.m pc Ls (v :: .ref a :: rest)) rfl rfl (X.dec d)
  exact o_go (fun t k => st' t k) (g T' h' (X.mk' S' (Fr.snoc S' N ha) e') W')
theorem o_new (X : St K Z own b mx ret rm n0 k j T h) {i nn : Nat} {C' : String} (d : Isn b pc (.new i) 3 pc') (w1 : (Jvm.Cond.classLink own i C').before a0 Z = true) (w2 : (Jvm.Cond.instantiable C' nn).before a0 Z = true) (w3 : (Jvm.Cond.initialized C').before a0 Z = true) (hr : k + 1 ≤ rm.cells ∧ j + nn ≤ rm.slots)
    (g : ∀ T' h' a, a = h.size → St K Z own b mx ret rm n0 (k + 1) (j + nn) T' h' → Ext h h' → Exa Z h' a C' → (∀ {O nm dd : String} {ty : FieldType}, Laid Z a0 C' O nm dd → parseFieldDescriptor dd = some ty → Fld Z h' a O nm dd (defaultValue ty)) → Go K n0 kc kj Q T' pc' Ls (.ref a :: st)) : Go K n0 kc kj Q T pc Ls (st) := by
  obtain ⟨d, rfl⟩ := d; obtain ⟨locs, S, N⟩ := X.sd; have hR := X.rmE
  obtain ⟨T', h', S', e', E', A', D', -, st'⟩ := newO S X.ex X.wZ X.ow w1 w2 w3 X.hp (g := mkF K.m pc Ls st) rfl (X.dec d) (by rw [hR]; exact hr.1) (by rw [hR]; exact hr.2)
  exact o_go (fun t k => st' t k) (g T' h' h.size rfl (X.mk' S' N e') E' A' D')
/-- an array, by all its values -/
def AL (Z : State) (h : Heap) (a : Addr) (ty : FieldType) (vs : List Value) : Prop := ∃ c : Cell, Arr Z h a c ty ∧ c.slots = vs.toArray ∧ vs.length < 2 ^ 31
theorem AL.lt {a : Addr} {ty : FieldType} {vs : List Value} (A : AL Z h a ty vs) : a < h.size := by obtain ⟨c, q, -⟩ := A; exact q.lt
theorem AL.ext {h' : Heap} {a : Addr} {ty : FieldType} {vs : List Value} (A : AL Z h a ty vs) (E : Ext h h') : AL Z h' a ty vs := by obtain ⟨c, q, r⟩ := A; exact ⟨c, q.ext E, r⟩
theorem AL.other {h' : Heap} {a a' : Addr} {sl : Nat} {v : Value} {ty : FieldType} {vs : List Value} (A : AL Z h a ty vs) (W : Wr h h' a' sl v) (ne : a ≠ a') : AL Z h' a ty vs := by obtain ⟨c, q, r⟩ := A; exact ⟨c, q.other W ne, r⟩
theorem AL.keep {h' : Heap} {a : Addr} {ws : List Addr} {ty : FieldType} {vs : List Value} (A : AL Z h a ty vs) (Kp : Keep h h' ws) (q : a ∉ ws) : AL Z h' a ty vs := by obtain ⟨c, A1, r⟩ := A; exact ⟨c, ⟨Kp.2.1 a c A1.1 q, A1.2⟩, r⟩
theorem AL.set {h' : Heap} {a : Addr} {sl : Nat} {v : Value} {ty : FieldType} {vs : List Value} (A : AL Z h a ty vs) (W : Wr h h' a sl v) : AL Z h' a ty (vs.set sl v) := by
  obtain ⟨c, q, r, s⟩ := A
  exact ⟨_, q.same W, by simp [Cell.setSlot, r], by simpa using s⟩
theorem AL.inb {a : Addr} {ty : FieldType} {vs : List Value} {i : Int32} {c : Cell} (r : c.slots = vs.toArray) (hi : ¬ i < 0) (hl : i.toNatClampNeg < vs.length) : ¬ (i < 0 ∨ c.slots.size ≤ i.toNatClampNeg) := by
  rw [r]; rintro (q | q)
  · exact hi q
  · simp at q; omega
theorem o_arraylength (X : St K Z own b mx ret rm n0 k j T h) {a : Addr} {ty : FieldType} {vs : List Value} (n : Int32) (d : Isn b pc .arraylength 1 pc') (A : AL Z h a ty vs) (hn : vs.length.toInt32 = n) (g : Go K n0 kc kj Q T pc' Ls (.int n :: rest)) : Go K n0 kc kj Q T pc Ls (.ref a :: rest) := by
  obtain ⟨d, rfl⟩ := d; obtain ⟨locs, S, N⟩ := X.sd; obtain ⟨c, q, r, s⟩ := A
  have e : c.slots.size.toInt32 = n := by rw [r, ← hn]; simp
  exact o_go (fun t k => S.arraylength X.ex (cell := c) (by rw [X.hp]; exact q.1) (State.isArrayOf_alike X.wZ.alike q.2.1) (g := mkF K.m pc Ls (.ref a :: rest)) rfl (rest := rest) rfl (X.dec d) t (by rw [e]; exact k)) g
theorem o_iaload (X : St K Z own b mx ret rm n0 k j T h) {a : Addr} {vs : List Value} {i : Int32} {v : Int32} (d : Isn b pc .iaload 1 pc') (A : AL Z h a .int vs) (hi : ¬ i < 0) (hv : vs[i.toNatClampNeg]? = some (.int v)) (g : Go K n0 kc kj Q T pc' Ls (.int v :: rest)) : Go K n0 kc kj Q T pc Ls (.int i :: .ref a :: rest) := by
  obtain ⟨d, rfl⟩ := d; obtain ⟨locs, S, N⟩ := X.sd; obtain ⟨c, q, r, s⟩ := A
  have hl : i.toNatClampNeg < vs.length := (List.getElem?_eq_some_iff.mp hv).1
  exact o_go (fun t k => S.iaload X.ex (j := i) (v := .int v) (by rw [X.hp]; exact q.1) (State.isArrayOf_alike X.wZ.alike q.2.1) q.2.2 (AL.inb (a := a) (ty := .int) r hi hl) (by rw [r]; simpa using hv) (g := mkF K.m pc Ls (.int i :: .ref a :: rest)) rfl rfl (X.dec d) t k) g
theorem o_laload (X : St K Z own b mx ret rm n0 k j T h) {a : Addr} {vs : List Value} {i : Int32} {v : Int64} (d : Isn b pc .laload 1 pc') (A : AL Z h a .long vs) (hi : ¬ i < 0) (hv : vs[i.toNatClampNeg]? = some (.long v)) (g : Go K n0 kc kj Q T pc' Ls (.long v :: rest)) : Go K n0 kc kj Q T pc Ls (.int i :: .ref a :: rest) := by
  obtain ⟨d, rfl⟩ := d; obtain ⟨locs, S, N⟩ := X.sd; obtain ⟨c, q, r, s⟩ := A
  have hl : i.toNatClampNeg < vs.length := (List.getElem?_eq_some_iff.mp hv).1
  exact o_go (fun t k => S.laload X.ex (j := i) (v := .long v) (by rw [X.hp]; exact q.1) (State.isArrayOf_alike X.wZ.alike q.2.1) q.2.2 (AL.inb (a := a) (ty := .long) r hi hl) (by rw [r]; simpa using hv) (g := mkF K.m pc Ls (.int i :: .ref a :: rest)) rfl rfl (X.dec d) t k) g
theorem o_caload (X : St K Z own b mx ret rm n0 k j T h) {a : Addr} {vs : List Value} {i : Int32} {v : Int32} (d : Isn b pc .caload 1 pc') (A : AL Z h a .char vs) (hi : ¬ i < 0) (hv : vs[i.toNatClampNeg]? = some (.int v)) (g : Go K n0 kc kj Q T pc' Ls (.int v :: rest)) : Go K n0 kc kj Q T pc Ls (.int i :: .ref a :: rest) := by
  obtain ⟨d, rfl⟩ := d; obtain ⟨locs, S, N⟩ := X.sd; obtain ⟨c, q, r, s⟩ := A
  have hl : i.toNatClampNeg < vs.length := (List.getElem?_eq_some_iff.mp hv).1
  exact o_go (fun t k => S.caload X.ex (j := i) (v := .int v) (by rw [X.hp]; exact q.1) (State.isArrayOf_alike X.wZ.alike q.2.1) q.2.2 (AL.inb (a := a) (ty := .char) r hi hl) (by rw [r]; simpa using hv) (g := mkF K.m pc Ls (.int i :: .ref a :: rest)) rfl rfl (X.dec d) t k) g
theorem o_baload (X : St K Z own b mx ret rm n0 k j T h) {a : Addr} {vs : List Value} {i : Int32} {v : Int32} (d : Isn b pc .baload 1 pc') (A : AL Z h a .byte vs) (hi : ¬ i < 0) (hv : vs[i.toNatClampNeg]? = some (.int v)) (g : Go K n0 kc kj Q T pc' Ls (.int v :: rest)) : Go K n0 kc kj Q T pc Ls (.int i :: .ref a :: rest) := by
  obtain ⟨d, rfl⟩ := d; obtain ⟨locs, S, N⟩ := X.sd; obtain ⟨c, q, r, s⟩ := A
  have hl : i.toNatClampNeg < vs.length := (List.getElem?_eq_some_iff.mp hv).1
  exact o_go (fun t k => S.baloadBytes X.ex (j := i) (v := .int v) (by rw [X.hp]; exact q.1) (State.isArrayOf_alike X.wZ.alike q.2.1) q.2.2 (AL.inb (a := a) (ty := .byte) r hi hl) (by rw [r]; simpa using hv) (g := mkF K.m pc Ls (.int i :: .ref a :: rest)) rfl rfl (X.dec d) t k) g
theorem o_iastore (X : St K Z own b mx ret rm n0 k j T h) {a : Addr} {vs vs' : List Value} {i : Int32} {v : Int32} (d : Isn b pc .iastore 1 pc') (A : AL Z h a .int vs) (hi : ¬ i < 0) (hl : i.toNatClampNeg < vs.length) (ha : n0 ≤ a) (hv : vs.set i.toNatClampNeg (.int v) = vs')
    (g : ∀ T' h', St K Z own b mx ret rm n0 k j T' h' → Wr h h' a i.toNatClampNeg (.int v) → AL Z h' a .int vs' → Go K n0 kc kj Q T' pc' Ls (rest)) : Go K n0 kc kj Q T pc Ls (.int v :: .int i :: .ref a :: rest) := by
  obtain ⟨d, rfl⟩ := d; obtain ⟨locs, S, N⟩ := X.sd; obtain ⟨c, q, r, s⟩ := A
  obtain ⟨T', h', S', e', W', st'⟩ := stI S X.ex X.wZ X.hp q (j := i) (x := v) (AL.inb (a := a) (ty := .int) r hi hl) (g := mkF K.m pc Ls (.int v :: .int i :: .ref a :: rest)) rfl rfl (X.dec d)
  exact o_go (fun t k => st' t k) (g T' h' (X.mk' S' (Fr.snoc S' N ha) e') W' (hv ▸ AL.set ⟨c, q, r, s⟩ W'))
theorem o_lastore (X : St K Z own b mx ret rm n0 k j T h) {a : Addr} {vs vs' : List Value} {i : Int32} {v : Int64} (d : Isn b pc .lastore 1 pc') (A : AL Z h a .long vs) (hi : ¬ i < 0) (hl : i.toNatClampNeg < vs.length) (ha : n0 ≤ a) (hv : vs.set i.toNatClampNeg (.long v) = vs')
    (g : ∀ T' h', St K Z own b mx ret rm n0 k j T' h' → Wr h h' a i.toNatClampNeg (.long v) → AL Z h' a .long vs' → Go K n0 kc kj Q T' pc' Ls (rest)) : Go K n0 kc kj Q T pc Ls (.long v :: .int i :: .ref a :: rest) := by
  obtain ⟨d, rfl⟩ := d; obtain ⟨locs, S, N⟩ := X.sd; obtain ⟨c, q, r, s⟩ := A
  obtain ⟨T', h', S', e', W', st'⟩ := stJ S X.ex X.wZ X.hp q (j := i) (x := v) (AL.inb (a := a) (ty := .long) r hi hl) (g := mkF K.m pc Ls (.long v :: .int i :: .ref a :: rest)) rfl rfl (X.dec d)
  exact o_go (fun t k => st' t k) (g T' h' (X.mk' S' (Fr.snoc S' N ha) e') W' (hv ▸ AL.set ⟨c, q, r, s⟩ W'))
theorem o_castore (X : St K Z own b mx ret rm n0 k j T h) {a : Addr} {vs vs' : List Value} {i : Int32} {v : Int32} (d : Isn b pc .castore 1 pc') (A : AL Z h a .char vs) (hi : ¬ i < 0) (hl : i.toNatClampNeg < vs.length) (ha : n0 ≤ a) (hv : vs.set i.toNatClampNeg (.int (nar .char v)) = vs')
    (g : ∀ T' h', St K Z own b mx ret rm n0 k j T' h' → Wr h h' a i.toNatClampNeg (.int (nar .char v)) → AL Z h' a .char vs' → Go K n0 kc kj Q T' pc' Ls (rest)) : Go K n0 kc kj Q T pc Ls (.int v :: .int i :: .ref a :: rest) := by
  obtain ⟨d, rfl⟩ := d; obtain ⟨locs, S, N⟩ := X.sd; obtain ⟨c, q, r, s⟩ := A
  obtain ⟨T', h', S', e', W', st'⟩ := stC S X.ex X.wZ X.hp q (j := i) (x := v) (AL.inb (a := a) (ty := .char) r hi hl) (g := mkF K.m pc Ls (.int v :: .int i :: .ref a :: rest)) rfl rfl (X.dec d)
  exact o_go (fun t k => st' t k) (g T' h' (X.mk' S' (Fr.snoc S' N ha) e') W' (hv ▸ AL.set ⟨c, q, r, s⟩ W'))
theorem o_bastore (X : St K Z own b mx ret rm n0 k j T h) {a : Addr} {vs vs' : List Value} {i : Int32} {v : Int32} (d : Isn b pc .bastore 1 pc') (A : AL Z h a .byte vs) (hi : ¬ i < 0) (hl : i.toNatClampNeg < vs.length) (ha : n0 ≤ a) (hv : vs.set i.toNatClampNeg (.int (nar .byte v)) = vs')
    (g : ∀ T' h', St K Z own b mx ret rm n0 k j T' h' → Wr h h' a i.toNatClampNeg (.int (nar .byte v)) → AL Z h' a .byte vs' → Go K n0 kc kj Q T' pc' Ls (rest)) : Go K n0 kc kj Q T pc Ls (.int v :: .int i :: .ref a :: rest) := by
  obtain ⟨d, rfl⟩ := d; obtain ⟨locs, S, N⟩ := X.sd; obtain ⟨c, q, r, s⟩ := A
  obtain ⟨T', h', S', e', W', st'⟩ := stB S X.ex X.wZ X.hp q (j := i) (x := v) (AL.inb (a := a) (ty := .byte) r hi hl) (g := mkF K.m pc Ls (.int v :: .int i :: .ref a :: rest)) rfl rfl (X.dec d)
  exact o_go (fun t k => st' t k) (g T' h' (X.mk' S' (Fr.snoc S' N ha) e') W' (hv ▸ AL.set ⟨c, q, r, s⟩ W'))
theorem o_newarray (X : St K Z own b mx ret rm n0 k j T h) (cap : Nat) {aty : ArrayType} {n : Int32} {vs : List Value} (d : Isn b pc (.newarray aty) 2 pc') (wd : (Jvm.Cond.arrayClass (newarray.typeOf aty)).before a0 Z = true) (hn : ¬ n < 0) (hcap : n.toNatClampNeg ≤ cap) (hvs : List.replicate n.toNatClampNeg (defaultValue (newarray.typeOf aty)) = vs) (hr : cap * 8 ≤ 536870912 ∧ k + 1 ≤ rm.cells ∧ j + cap ≤ rm.slots)
    (g : ∀ T' h' a, a = h.size → St K Z own b mx ret rm n0 (k + 1) (j + cap) T' h' → Ext h h' → AL Z h' a (newarray.typeOf aty) vs → Go K n0 kc kj Q T' pc' Ls (.ref a :: rest)) : Go K n0 kc kj Q T pc Ls (.int n :: rest) := by
  obtain ⟨d, rfl⟩ := d; obtain ⟨locs, S, N⟩ := X.sd; have hR := X.rmE
  obtain ⟨T', h', cA, S', e', E', A', st'⟩ := newP S X.ex X.wZ wd X.hp (g := mkF K.m pc Ls (.int n :: rest)) rfl (X.dec d) rfl hn hcap hr.1 (by rw [hR]; exact hr.2.1) (by rw [hR]; exact hr.2.2)
  refine o_go (fun t k => st' t k) (g T' h' h.size rfl (X.mk' S' N e') E' ⟨_, A', ?_, ?_⟩)
  · rw [← hvs]; simp [newA]
  · rw [← hvs]; simp; have := (back32 hn).2; omega
/-- the array at a takes objects of class C -/
def AO (Z : State) (h : Heap) (a : Addr) (C : String) : Prop := ∃ c : Cell, h[a]? = some c ∧ Ovr Z c.cls C
theorem AO.ext {h' : Heap} {a : Addr} {C : String} (A : AO Z h a C) (E : Ext h h') : AO Z h' a C := by obtain ⟨c, q, r⟩ := A; exact ⟨c, E.2 _ _ q, r⟩
theorem AO.wr {h' : Heap} {a a' : Addr} {C : String} {sl : Nat} {v : Value} (A : AO Z h a C) (W : Wr h h' a' sl v) : AO Z h' a C := by
  obtain ⟨c, q, r⟩ := A; obtain ⟨c', q1, q2, -⟩ := wr_at W q; exact ⟨c', q1, by rw [q2]; exact r⟩
theorem o_anewarray (X : St K Z own b mx ret rm n0 k j T h) (cap : Nat) {i : Nat} {C' : String} {n : Int32} {vs : List Value} (d : Isn b pc (.anewarray i) 3 pc') (w1 : (Jvm.Cond.classLink own i C').before a0 Z = true) (w2 : (Jvm.Cond.arrayOver (.object C')).before a0 Z = true) (hn : ¬ n < 0) (hcap : n.toNatClampNeg ≤ cap) (hvs : List.replicate n.toNatClampNeg Value.null = vs) (hr : cap * 8 ≤ 536870912 ∧ k + 1 ≤ rm.cells ∧ j + cap ≤ rm.slots)
    (g : ∀ T' h' a, a = h.size → St K Z own b mx ret rm n0 (k + 1) (j + cap) T' h' → Ext h h' → AL Z h' a (.object C') vs → AO Z h' a C' → Go K n0 kc kj Q T' pc' Ls (.ref a :: rest)) : Go K n0 kc kj Q T pc Ls (.int n :: rest) := by
  obtain ⟨d, rfl⟩ := d; obtain ⟨locs, S, N⟩ := X.sd; have hR := X.rmE
  obtain ⟨T', h', cA, S', e', E', A', O', st'⟩ := newR S X.ex X.wZ X.ow w1 w2 X.hp (g := mkF K.m pc Ls (.int n :: rest)) rfl (X.dec d) rfl hn hcap hr.1 (by rw [hR]; exact hr.2.1) (by rw [hR]; exact hr.2.2)
  refine o_go (fun t k => st' t k) (g T' h' h.size rfl (X.mk' S' N e') E' ⟨_, A', ?_, ?_⟩ ⟨_, A'.1, O'⟩)
  · rw [← hvs]; simp [newA, defaultValue]
  · rw [← hvs]; simp; have := (back32 hn).2; omega
theorem o_aaload (X : St K Z own b mx ret rm n0 k j T h) {a : Addr} {ty : FieldType} {vs : List Value} {i : Int32} {v : Value} (hty : ty.isReference = true) (d : Isn b pc .aaload 1 pc') (A : AL Z h a ty vs) (hi : ¬ i < 0) (hv : vs[i.toNatClampNeg]? = some v) (g : Go K n0 kc kj Q T pc' Ls (v :: rest)) : Go K n0 kc kj Q T pc Ls (.int i :: .ref a :: rest) := by
  obtain ⟨d, rfl⟩ := d; obtain ⟨locs, S, N⟩ := X.sd; obtain ⟨c, q, r, s⟩ := A
  have hl : i.toNatClampNeg < vs.length := (List.getElem?_eq_some_iff.mp hv).1
  exact o_go (fun t k => S.aaload X.ex (j := i) (v := v) (by rw [X.hp]; exact q.1) (State.isArrayOf_alike X.wZ.alike q.2.1) hty q.2.2 (AL.inb (a := a) (ty := ty) r hi hl) (by rw [r]; simpa using hv) (g := mkF K.m pc Ls (.int i :: .ref a :: rest)) rfl rfl (X.dec d) t k) g
theorem o_aastore (X : St K Z own b mx ret rm n0 k j T h) {a y : Addr} {C' : String} {vs vs' : List Value} {i : Int32} (d : Isn b pc .aastore 1 pc') (A : AL Z h a (.object C') vs) (O : AO Z h a C') (I : Jvm.RoadKit.Ins Z h y C' true) (hi : ¬ i < 0) (hl : i.toNatClampNeg < vs.length) (ha : n0 ≤ a) (hv : vs.set i.toNatClampNeg (.ref y) = vs')
    (g : ∀ T' h', St K Z own b mx ret rm n0 k j T' h' → Wr h h' a i.toNatClampNeg (.ref y) → AL Z h' a (.object C') vs' → Go K n0 kc kj Q T' pc' Ls (rest)) : Go K n0 kc kj Q T pc Ls (.ref y :: .int i :: .ref a :: rest) := by
  obtain ⟨d, rfl⟩ := d; obtain ⟨locs, S, N⟩ := X.sd; obtain ⟨c, q, r, s⟩ := A
  obtain ⟨c2, q2, r2⟩ := O
  have hO : Ovr Z c.cls C' := by cases q.1.symm.trans q2; exact r2
  obtain ⟨T', h', S', e', W', st'⟩ := stR S X.ex X.wZ X.hp q (j := i) (v := .ref y) (AL.inb (a := a) (ty := .object C') r hi hl) rfl (Sto.of q hO I) (g := mkF K.m pc Ls (.ref y :: .int i :: .ref a :: rest)) rfl rfl (X.dec d)
  exact o_go (fun t k => st' t k) (g T' h' (X.mk' S' (Fr.snoc S' N ha) e') W' (hv ▸ AL.set ⟨c, q, r, s⟩ W'))
/-- an array of ints, booleans, bytes or chars, by a function of the place -/
def AN (Z : State) (h : Heap) (a : Addr) (ty : FieldType) (n : Nat) (f : Nat → Int32) : Prop := ∃ c : Cell, Arr Z h a c ty ∧ c.slots.size = n ∧ n < 2 ^ 31 ∧ ∀ i, i < n → c.slots[i]? = some (.int (f i))
theorem AN.lt {a : Addr} {ty : FieldType} {n : Nat} {f : Nat → Int32} (A : AN Z h a ty n f) : a < h.size := by obtain ⟨c, q, -⟩ := A; exact q.lt
theorem AN.ext {h' : Heap} {a : Addr} {ty : FieldType} {n : Nat} {f : Nat → Int32} (A : AN Z h a ty n f) (E : Ext h h') : AN Z h' a ty n f := by obtain ⟨c, q, r⟩ := A; exact ⟨c, q.ext E, r⟩
theorem AN.other {h' : Heap} {a a' : Addr} {sl : Nat} {v : Value} {ty : FieldType} {n : Nat} {f : Nat → Int32} (A : AN Z h a ty n f) (W : Wr h h' a' sl v) (ne : a ≠ a') : AN Z h' a ty n f := by obtain ⟨c, q, r⟩ := A; exact ⟨c, q.other W ne, r⟩
theorem AN.keep {h' : Heap} {a : Addr} {ws : List Addr} {ty : FieldType} {n : Nat} {f : Nat → Int32} (A : AN Z h a ty n f) (Kp : Keep h h' ws) (q : a ∉ ws) : AN Z h' a ty n f := by obtain ⟨c, A1, r⟩ := A; exact ⟨c, ⟨Kp.2.1 a c A1.1 q, A1.2⟩, r⟩
theorem AN.set {h' : Heap} {a : Addr} {sl : Nat} {v : Int32} {ty : FieldType} {n : Nat} {f : Nat → Int32} (A : AN Z h a ty n f) (W : Wr h h' a sl (.int v)) : AN Z h' a ty n (fun i => if i = sl then v else f i) := by
  obtain ⟨c, q, r, s, t⟩ := A
  refine ⟨_, q.same W, by simpa [Cell.setSlot] using r, s, fun i hi => ?_⟩
  have e := t i hi
  by_cases p : i = sl
  · subst p; have : i < c.slots.size := r ▸ hi
    simp [Cell.setSlot, this]
  · have p' : ¬ sl = i := fun q => p q.symm
    simp [Cell.setSlot, Array.getElem?_setIfInBounds, p, p', e]
theorem AN.inb {n : Nat} {i : Int32} {c : Cell} (r : c.slots.size = n) (hi : ¬ i < 0) (hl : i.toNatClampNeg < n) : ¬ (i < 0 ∨ c.slots.size ≤ i.toNatClampNeg) := by
  rw [r]; rintro (q | q)
  · exact hi q
  · omega
theorem o_alenN (X : St K Z own b mx ret rm n0 k j T h) {a : Addr} {ty : FieldType} {n : Nat} {f : Nat → Int32} (z : Int32) (d : Isn b pc .arraylength 1 pc') (A : AN Z h a ty n f) (hn : n.toInt32 = z) (g : Go K n0 kc kj Q T pc' Ls (.int z :: rest)) : Go K n0 kc kj Q T pc Ls (.ref a :: rest) := by
  obtain ⟨d, rfl⟩ := d; obtain ⟨locs, S, N⟩ := X.sd; obtain ⟨c, q, r, s⟩ := A
  have e : c.slots.size.toInt32 = z := by rw [r, ← hn]
  exact o_go (fun t k => S.arraylength X.ex (cell := c) (by rw [X.hp]; exact q.1) (State.isArrayOf_alike X.wZ.alike q.2.1) (g := mkF K.m pc Ls (.ref a :: rest)) rfl (rest := rest) rfl (X.dec d) t (by rw [e]; exact k)) g

theorem o_ialoadN (X : St K Z own b mx ret rm n0 k j T h) {a : Addr} {n : Nat} {f : Nat → Int32} {i : Int32} (d : Isn b pc .iaload 1 pc') (A : AN Z h a .int n f) (hi : ¬ i < 0) (hl : i.toNatClampNeg < n) (g : Go K n0 kc kj Q T pc' Ls (.int (f i.toNatClampNeg) :: rest)) : Go K n0 kc kj Q T pc Ls (.int i :: .ref a :: rest) := by
  obtain ⟨d, rfl⟩ := d; obtain ⟨locs, S, N⟩ := X.sd; obtain ⟨c, q, r, s, t⟩ := A
  exact o_go (fun t' k => S.iaload X.ex (j := i) (v := .int (f i.toNatClampNeg)) (by rw [X.hp]; exact q.1) (State.isArrayOf_alike X.wZ.alike q.2.1) q.2.2 (AN.inb r hi hl) (t _ hl) (g := mkF K.m pc Ls (.int i :: .ref a :: rest)) rfl rfl (X.dec d) t' k) g
theorem o_caloadN (X : St K Z own b mx ret rm n0 k j T h) {a : Addr} {n : Nat} {f : Nat → Int32} {i : Int32} (d : Isn b pc .caload 1 pc') (A : AN Z h a .char n f) (hi : ¬ i < 0) (hl : i.toNatClampNeg < n) (g : Go K n0 kc kj Q T pc' Ls (.int (f i.toNatClampNeg) :: rest)) : Go K n0 kc kj Q T pc Ls (.int i :: .ref a :: rest) := by
  obtain ⟨d, rfl⟩ := d; obtain ⟨locs, S, N⟩ := X.sd; obtain ⟨c, q, r, s, t⟩ := A
  exact o_go (fun t' k => S.caload X.ex (j := i) (v := .int (f i.toNatClampNeg)) (by rw [X.hp]; exact q.1) (State.isArrayOf_alike X.wZ.alike q.2.1) q.2.2 (AN.inb r hi hl) (t _ hl) (g := mkF K.m pc Ls (.int i :: .ref a :: rest)) rfl rfl (X.dec d) t' k) g
theorem o_baloadN (X : St K Z own b mx ret rm n0 k j T h) {a : Addr} {n : Nat} {f : Nat → Int32} {i : Int32} (d : Isn b pc .baload 1 pc') (A : AN Z h a .byte n f) (hi : ¬ i < 0) (hl : i.toNatClampNeg < n) (g : Go K n0 kc kj Q T pc' Ls (.int (f i.toNatClampNeg) :: rest)) : Go K n0 kc kj Q T pc Ls (.int i :: .ref a :: rest) := by
  obtain ⟨d, rfl⟩ := d; obtain ⟨locs, S, N⟩ := X.sd; obtain ⟨c, q, r, s, t⟩ := A
  exact o_go (fun t' k => S.baloadBytes X.ex (j := i) (v := .int (f i.toNatClampNeg)) (by rw [X.hp]; exact q.1) (State.isArrayOf_alike X.wZ.alike q.2.1) q.2.2 (AN.inb r hi hl) (t _ hl) (g := mkF K.m pc Ls (.int i :: .ref a :: rest)) rfl rfl (X.dec d) t' k) g
theorem o_zaloadN (X : St K Z own b mx ret rm n0 k j T h) {a : Addr} {n : Nat} {f : Nat → Int32} {i : Int32} (d : Isn b pc .baload 1 pc') (A : AN Z h a .boolean n f) (hi : ¬ i < 0) (hl : i.toNatClampNeg < n) (g : Go K n0 kc kj Q T pc' Ls (.int (f i.toNatClampNeg) :: rest)) : Go K n0 kc kj Q T pc Ls (.int i :: .ref a :: rest) := by
  obtain ⟨d, rfl⟩ := d; obtain ⟨locs, S, N⟩ := X.sd; obtain ⟨c, q, r, s, t⟩ := A
  exact o_go (fun t' k => S.baloadBooleans X.ex (j := i) (v := .int (f i.toNatClampNeg)) (by rw [X.hp]; exact q.1) (State.isArrayOf_alike X.wZ.alike q.2.1) q.2.2 (AN.inb r hi hl) (t _ hl) (g := mkF K.m pc Ls (.int i :: .ref a :: rest)) rfl rfl (X.dec d) t' k) g
theorem o_iastoreN (X : St K Z own b mx ret rm n0 k j T h) {a : Addr} {n : Nat} {f : Nat → Int32} {i v : Int32} (d : Isn b pc .iastore 1 pc') (A : AN Z h a .int n f) (hi : ¬ i < 0) (hl : i.toNatClampNeg < n) (ha : n0 ≤ a)
    (g : ∀ T' h', St K Z own b mx ret rm n0 k j T' h' → Wr h h' a i.toNatClampNeg (.int (v)) → AN Z h' a .int n (fun q => if q = i.toNatClampNeg then v else f q) → Go K n0 kc kj Q T' pc' Ls (rest)) : Go K n0 kc kj Q T pc Ls (.int v :: .int i :: .ref a :: rest) := by
  obtain ⟨d, rfl⟩ := d; obtain ⟨locs, S, N⟩ := X.sd; have A0 := A; obtain ⟨c, q, r, s⟩ := A
  obtain ⟨T', h', S', e', W', st'⟩ := stI S X.ex X.wZ X.hp q (j := i) (x := v) (AN.inb r hi hl) (g := mkF K.m pc Ls (.int v :: .int i :: .ref a :: rest)) rfl rfl (X.dec d)
  exact o_go (fun t k => st' t k) (g T' h' (X.mk' S' (Fr.snoc S' N ha) e') W' (A0.set W'))
theorem o_castoreN (X : St K Z own b mx ret rm n0 k j T h) {a : Addr} {n : Nat} {f : Nat → Int32} {i v : Int32} (d : Isn b pc .castore 1 pc') (A : AN Z h a .char n f) (hi : ¬ i < 0) (hl : i.toNatClampNeg < n) (ha : n0 ≤ a)
    (g : ∀ T' h', St K Z own b mx ret rm n0 k j T' h' → Wr h h' a i.toNatClampNeg (.int (nar .char v)) → AN Z h' a .char n (fun q => if q = i.toNatClampNeg then nar .char v else f q) → Go K n0 kc kj Q T' pc' Ls (rest)) : Go K n0 kc kj Q T pc Ls (.int v :: .int i :: .ref a :: rest) := by
  obtain ⟨d, rfl⟩ := d; obtain ⟨locs, S, N⟩ := X.sd; have A0 := A; obtain ⟨c, q, r, s⟩ := A
  obtain ⟨T', h', S', e', W', st'⟩ := stC S X.ex X.wZ X.hp q (j := i) (x := v) (AN.inb r hi hl) (g := mkF K.m pc Ls (.int v :: .int i :: .ref a :: rest)) rfl rfl (X.dec d)
  exact o_go (fun t k => st' t k) (g T' h' (X.mk' S' (Fr.snoc S' N ha) e') W' (A0.set W'))
theorem o_bastoreN (X : St K Z own b mx ret rm n0 k j T h) {a : Addr} {n : Nat} {f : Nat → Int32} {i v : Int32} (d : Isn b pc .bastore 1 pc') (A : AN Z h a .byte n f) (hi : ¬ i < 0) (hl : i.toNatClampNeg < n) (ha : n0 ≤ a)
    (g : ∀ T' h', St K Z own b mx ret rm n0 k j T' h' → Wr h h' a i.toNatClampNeg (.int (nar .byte v)) → AN Z h' a .byte n (fun q => if q = i.toNatClampNeg then nar .byte v else f q) → Go K n0 kc kj Q T' pc' Ls (rest)) : Go K n0 kc kj Q T pc Ls (.int v :: .int i :: .ref a :: rest) := by
  obtain ⟨d, rfl⟩ := d; obtain ⟨locs, S, N⟩ := X.sd; have A0 := A; obtain ⟨c, q, r, s⟩ := A
  obtain ⟨T', h', S', e', W', st'⟩ := stB S X.ex X.wZ X.hp q (j := i) (x := v) (AN.inb r hi hl) (g := mkF K.m pc Ls (.int v :: .int i :: .ref a :: rest)) rfl rfl (X.dec d)
  exact o_go (fun t k => st' t k) (g T' h' (X.mk' S' (Fr.snoc S' N ha) e') W' (A0.set W'))
theorem o_zastoreN (X : St K Z own b mx ret rm n0 k j T h) {a : Addr} {n : Nat} {f : Nat → Int32} {i v : Int32} (d : Isn b pc .bastore 1 pc') (A : AN Z h a .boolean n f) (hi : ¬ i < 0) (hl : i.toNatClampNeg < n) (ha : n0 ≤ a)
    (g : ∀ T' h', St K Z own b mx ret rm n0 k j T' h' → Wr h h' a i.toNatClampNeg (.int (nar .boolean v)) → AN Z h' a .boolean n (fun q => if q = i.toNatClampNeg then nar .boolean v else f q) → Go K n0 kc kj Q T' pc' Ls (rest)) : Go K n0 kc kj Q T pc Ls (.int v :: .int i :: .ref a :: rest) := by
  obtain ⟨d, rfl⟩ := d; obtain ⟨locs, S, N⟩ := X.sd; have A0 := A; obtain ⟨c, q, r, s⟩ := A
  obtain ⟨T', h', S', e', W', st'⟩ := stZ S X.ex X.wZ X.hp q (j := i) (x := v) (AN.inb r hi hl) (g := mkF K.m pc Ls (.int v :: .int i :: .ref a :: rest)) rfl rfl (X.dec d)
  exact o_go (fun t k => st' t k) (g T' h' (X.mk' S' (Fr.snoc S' N ha) e') W' (A0.set W'))
theorem o_newarrayN (X : St K Z own b mx ret rm n0 k j T h) (cap : Nat) {aty : ArrayType} {n : Int32} (m : Nat) (d : Isn b pc (.newarray aty) 2 pc') (wd : (Jvm.Cond.arrayClass (newarray.typeOf aty)).before a0 Z = true) (hn : ¬ n < 0) (hm : n.toNatClampNeg = m) (hcap : m ≤ cap) (hdv : defaultValue (newarray.typeOf aty) = .int 0) (hr : cap * 8 ≤ 536870912 ∧ k + 1 ≤ rm.cells ∧ j + cap ≤ rm.slots)
    (g : ∀ T' h' a, a = h.size → St K Z own b mx ret rm n0 (k + 1) (j + cap) T' h' → Ext h h' → AN Z h' a (newarray.typeOf aty) m (fun _ => 0) → Go K n0 kc kj Q T' pc' Ls (.ref a :: rest)) : Go K n0 kc kj Q T pc Ls (.int n :: rest) := by
  obtain ⟨d, rfl⟩ := d; obtain ⟨locs, S, N⟩ := X.sd; have hR := X.rmE
  obtain ⟨T', h', cA, S', e', E', A', st'⟩ := newP S X.ex X.wZ wd X.hp (g := mkF K.m pc Ls (.int n :: rest)) rfl (X.dec d) rfl hn (hm ▸ hcap) hr.1 (by rw [hR]; exact hr.2.1) (by rw [hR]; exact hr.2.2)
  refine o_go (fun t k => st' t k) (g T' h' h.size rfl (X.mk' S' N e') E' ⟨_, A', ?_, ?_, fun i hi => ?_⟩)
  · simpa [newA] using hm
  · have := (back32 hn).2; omega
  · simp [newA, hm, hi, hdv]
/-- a long array, by a function of the place -/
def LN (Z : State) (h : Heap) (a : Addr) (n : Nat) (f : Nat → Int64) : Prop := ∃ c : Cell, Arr Z h a c .long ∧ c.slots.size = n ∧ n < 2 ^ 31 ∧ ∀ i, i < n → c.slots[i]? = some (.long (f i))
theorem LN.lt {a : Addr} {n : Nat} {f : Nat → Int64} (A : LN Z h a n f) : a < h.size := by obtain ⟨c, q, -⟩ := A; exact q.lt
theorem LN.ext {h' : Heap} {a : Addr} {n : Nat} {f : Nat → Int64} (A : LN Z h a n f) (E : Ext h h') : LN Z h' a n f := by obtain ⟨c, q, r⟩ := A; exact ⟨c, q.ext E, r⟩
theorem LN.other {h' : Heap} {a a' : Addr} {sl : Nat} {v : Value} {n : Nat} {f : Nat → Int64} (A : LN Z h a n f) (W : Wr h h' a' sl v) (ne : a ≠ a') : LN Z h' a n f := by obtain ⟨c, q, r⟩ := A; exact ⟨c, q.other W ne, r⟩
theorem LN.set {h' : Heap} {a : Addr} {sl : Nat} {v : Int64} {n : Nat} {f : Nat → Int64} (A : LN Z h a n f) (W : Wr h h' a sl (.long v)) : LN Z h' a n (fun i => if i = sl then v else f i) := by
  obtain ⟨c, q, r, s, t⟩ := A
  refine ⟨_, q.same W, by simpa [Cell.setSlot] using r, s, fun i hi => ?_⟩
  have e := t i hi
  by_cases p : i = sl
  · subst p; have : i < c.slots.size := r ▸ hi
    simp [Cell.setSlot, this]
  · have p' : ¬ sl = i := fun q => p q.symm
    simp [Cell.setSlot, Array.getElem?_setIfInBounds, p, p', e]
theorem o_alenL (X : St K Z own b mx ret rm n0 k j T h) {a : Addr} {n : Nat} {f : Nat → Int64} (z : Int32) (d : Isn b pc .arraylength 1 pc') (A : LN Z h a n f) (hn : n.toInt32 = z) (g : Go K n0 kc kj Q T pc' Ls (.int z :: rest)) : Go K n0 kc kj Q T pc Ls (.ref a :: rest) := by
  obtain ⟨d, rfl⟩ := d; obtain ⟨locs, S, N⟩ := X.sd; obtain ⟨c, q, r, s⟩ := A
  have e : c.slots.size.toInt32 = z := by rw [r, ← hn]
  exact o_go (fun t k => S.arraylength X.ex (cell := c) (by rw [X.hp]; exact q.1) (State.isArrayOf_alike X.wZ.alike q.2.1) (g := mkF K.m pc Ls (.ref a :: rest)) rfl (rest := rest) rfl (X.dec d) t (by rw [e]; exact k)) g
theorem o_laloadN (X : St K Z own b mx ret rm n0 k j T h) {a : Addr} {n : Nat} {f : Nat → Int64} {i : Int32} (d : Isn b pc .laload 1 pc') (A : LN Z h a n f) (hi : ¬ i < 0) (hl : i.toNatClampNeg < n) (g : Go K n0 kc kj Q T pc' Ls (.long (f i.toNatClampNeg) :: rest)) : Go K n0 kc kj Q T pc Ls (.int i :: .ref a :: rest) := by
  obtain ⟨d, rfl⟩ := d; obtain ⟨locs, S, N⟩ := X.sd; obtain ⟨c, q, r, s, t⟩ := A
  exact o_go (fun t' k => S.laload X.ex (j := i) (v := .long (f i.toNatClampNeg)) (by rw [X.hp]; exact q.1) (State.isArrayOf_alike X.wZ.alike q.2.1) q.2.2 (AN.inb r hi hl) (t _ hl) (g := mkF K.m pc Ls (.int i :: .ref a :: rest)) rfl rfl (X.dec d) t' k) g
theorem o_lastoreN (X : St K Z own b mx ret rm n0 k j T h) {a : Addr} {n : Nat} {f : Nat → Int64} {i : Int32} {v : Int64} (d : Isn b pc .lastore 1 pc') (A : LN Z h a n f) (hi : ¬ i < 0) (hl : i.toNatClampNeg < n) (ha : n0 ≤ a)
    (g : ∀ T' h', St K Z own b mx ret rm n0 k j T' h' → Wr h h' a i.toNatClampNeg (.long v) → LN Z h' a n (fun q => if q = i.toNatClampNeg then v else f q) → Go K n0 kc kj Q T' pc' Ls (rest)) : Go K n0 kc kj Q T pc Ls (.long v :: .int i :: .ref a :: rest) := by
  obtain ⟨d, rfl⟩ := d; obtain ⟨locs, S, N⟩ := X.sd; have A0 := A; obtain ⟨c, q, r, s⟩ := A
  obtain ⟨T', h', S', e', W', st'⟩ := stJ S X.ex X.wZ X.hp q (j := i) (x := v) (AN.inb r hi hl) (g := mkF K.m pc Ls (.long v :: .int i :: .ref a :: rest)) rfl rfl (X.dec d)
  exact o_go (fun t k => st' t k) (g T' h' (X.mk' S' (Fr.snoc S' N ha) e') W' (A0.set W'))
theorem o_newarrayL (X : St K Z own b mx ret rm n0 k j T h) (cap : Nat) {n : Int32} (m : Nat) (d : Isn b pc (.newarray .long) 2 pc') (wd : (Jvm.Cond.arrayClass .long).before a0 Z = true) (hn : ¬ n < 0) (hm : n.toNatClampNeg = m) (hcap : m ≤ cap) (hr : cap * 8 ≤ 536870912 ∧ k + 1 ≤ rm.cells ∧ j + cap ≤ rm.slots)
    (g : ∀ T' h' a, a = h.size → St K Z own b mx ret rm n0 (k + 1) (j + cap) T' h' → Ext h h' → LN Z h' a m (fun _ => 0) → Go K n0 kc kj Q T' pc' Ls (.ref a :: rest)) : Go K n0 kc kj Q T pc Ls (.int n :: rest) := by
  obtain ⟨d, rfl⟩ := d; obtain ⟨locs, S, N⟩ := X.sd; have hR := X.rmE
  obtain ⟨T', h', cA, S', e', E', A', st'⟩ := newP S X.ex X.wZ (aty := .long) wd X.hp (g := mkF K.m pc Ls (.int n :: rest)) rfl (X.dec d) rfl hn (hm ▸ hcap) hr.1 (by rw [hR]; exact hr.2.1) (by rw [hR]; exact hr.2.2)
  refine o_go (fun t k => st' t k) (g T' h' h.size rfl (X.mk' S' N e') E' ⟨_, A', ?_, ?_, fun i hi => ?_⟩)
  · simpa [newA] using hm
  · have := (back32 hn).2; omega
  · have e : defaultValue (newarray.typeOf .long) = .long 0 := rfl
    simp [newA, hm, hi, e]
/-- an object, by all the values of these fields of its class -/
def Obj (Z : State) (h : Heap) (a : Addr) (C : String) (ns : List (String × String)) (vs : List Value) : Prop := Exa Z h a C ∧ ns.length = vs.length ∧ ∀ (i : Nat) (n d : String) (v : Value), ns[i]? = some (n, d) → vs[i]? = some v → Fld Z h a C n d v
def LdAll (Z : State) (a0 : Array Value) (C : String) (ns : List (String × String)) : Prop := (ns.map Prod.fst).Nodup ∧ ∀ q ∈ ns, Laid Z a0 C C q.1 q.2 ∧ ∃ t, parseFieldDescriptor q.2 = some t
variable {h' : Heap} {a a' : Addr} {C : String} {ns : List (String × String)} {vs : List Value} {sl : Nat} {v : Value}
theorem Obj.lt (O : Obj Z h a C ns vs) : a < h.size := O.1.lt
theorem Obj.exa (O : Obj Z h a C ns vs) : Exa Z h a C := O.1
theorem Obj.ext (O : Obj Z h a C ns vs) (E : Ext h h') : Obj Z h' a C ns vs := ⟨O.1.ext E, O.2.1, fun i n d v q r => (O.2.2 i n d v q r).ext E⟩
theorem Obj.other (O : Obj Z h a C ns vs) (W : Wr h h' a' sl v) (ne : a ≠ a') : Obj Z h' a C ns vs := ⟨O.1.wr W, O.2.1, fun i n d v q r => (O.2.2 i n d v q r).other W (Or.inl ne)⟩
theorem Obj.keep {ws : List Addr} (O : Obj Z h a C ns vs) (Kp : Keep h h' ws) (ne : a ∉ ws) : Obj Z h' a C ns vs := ⟨O.1.keep Kp, O.2.1, fun i n d v q r => (O.2.2 i n d v q r).keep Kp ne⟩
theorem Obj.new (E : Exa Z h a C) (D : ∀ {O nm dd : String} {ty : FieldType}, Laid Z a0 C O nm dd → parseFieldDescriptor dd = some ty → Fld Z h a O nm dd (defaultValue ty)) (LA : LdAll Z a0 C ns) (ts : List FieldType) (ht : ns.map (fun q => parseFieldDescriptor q.2) = ts.map some) (hv : ts.map defaultValue = vs) : Obj Z h a C ns vs := by
  refine ⟨E, by rw [← hv]; simpa using congrArg List.length ht, fun i n d v q r => ?_⟩
  subst hv
  obtain ⟨t, ht1, rfl⟩ : ∃ t, ts[i]? = some t ∧ defaultValue t = v := by simpa using r
  have q2 := congrArg (fun L => L[i]?) ht
  simp [q, ht1] at q2
  exact D (LA.2 (n, d) (List.mem_of_getElem? q)).1 q2
theorem Obj.set (O : Obj Z h a C ns vs) (LA : LdAll Z a0 C ns) {n d : String} (W : Wr h h' a (Jvm.RoadKit.slotOf Z C n d) v) (i : Nat) (hi : ns[i]? = some (n, d)) : Obj Z h' a C ns (vs.set i v) := by
  refine ⟨O.1.wr W, by simpa using O.2.1, fun j n' d' v' q r => ?_⟩
  have hil : i < ns.length := (List.getElem?_eq_some_iff.mp hi).1
  by_cases e : i = j
  · subst e
    cases hi.symm.trans q
    have hiv : i < vs.length := O.2.1 ▸ hil
    obtain ⟨w, hw⟩ : ∃ w, vs[i]? = some w := ⟨_, List.getElem?_eq_getElem hiv⟩
    have : v = v' := by simpa [List.getElem?_set, hiv] using r
    subst this
    exact (O.2.2 i n d w hi hw).same W
  · have r' : vs[j]? = some v' := by rw [List.getElem?_set_ne e] at r; exact r
    refine (O.2.2 j n' d' v' q r').other W (Or.inr ?_)
    obtain ⟨l1, t1, p1⟩ := LA.2 _ (List.mem_of_getElem? q)
    obtain ⟨l2, t2, p2⟩ := LA.2 _ (List.mem_of_getElem? hi)
    refine slot_ne l1 l2 (fun eq => e ?_) p1 p2
    have hjl : j < ns.length := (List.getElem?_eq_some_iff.mp q).1
    have e1 : (ns.map Prod.fst)[i]? = some n := by simp [hi]
    have e2 : (ns.map Prod.fst)[j]? = some n' := by simp [q]
    have eq' : n' = n := eq
    subst eq'
    obtain ⟨x1, y1⟩ := List.getElem?_eq_some_iff.mp e1
    obtain ⟨x2, y2⟩ := List.getElem?_eq_some_iff.mp e2
    have P := List.pairwise_iff_getElem.mp LA.1
    rcases Nat.lt_trichotomy i j with z | z | z
    · exact absurd (y1.trans y2.symm) (P i j x1 x2 z)
    · exact z
    · exact absurd (y2.trans y1.symm) (P j i x2 x1 z)
theorem o_getO (X : St K Z own b mx ret rm n0 k j T h) {q : Nat} {n dd : String} (i : Nat) (d : Isn b pc (.getfield q) 3 pc') (wd : (Jvm.Cond.fieldLink own q C n dd).before a0 Z = true) (O : Obj Z h a C ns vs) (hi : ns[i]? = some (n, dd)) (hv : vs[i]? = some v)
    (g : ∀ T', St K Z own b mx ret rm n0 k j T' h → Go K n0 kc kj Q T' pc' Ls (v :: rest)) : Go K n0 kc kj Q T pc Ls (.ref a :: rest) := o_getF X d wd (O.2.2 i n dd v hi hv) g
theorem o_putO (X : St K Z own b mx ret rm n0 k j T h) {q kk : Nat} {n dd : String} {ty : FieldType} {vs' : List Value} (i : Nat) (d : Isn b pc (.putfield q) 3 pc') (wd : (Jvm.Cond.fieldLink own q C n dd).before a0 Z = true) (O : Obj Z h a C ns vs) (LA : LdAll Z a0 C ns) (hi : ns[i]? = some (n, dd))
    (Lf : (Jvm.Cond.lays C C n dd).before a0 Z = true ∨ ((Jvm.Cond.laysFinal C C n dd).before a0 Z = true ∧ own = C ∧ K.meth.name = "<init>")) (wi : (Jvm.Cond.instantiable C kk).before a0 Z = true) (hty : parseFieldDescriptor dd = some ty) (hn : narrow ty v = v) (hf : fits ty v = true) (ha : n0 ≤ a) (hv : vs.set i v = vs')
    (g : ∀ T' h', St K Z own b mx ret rm n0 k j T' h' → Wr h h' a (Jvm.RoadKit.slotOf Z C n dd) v → Obj Z h' a C ns vs' → Go K n0 kc kj Q T' pc' Ls (rest)) : Go K n0 kc kj Q T pc Ls (v :: .ref a :: rest) := by
  have hil : i < vs.length := O.2.1 ▸ (List.getElem?_eq_some_iff.mp hi).1
  exact o_putF X d wd (O.2.2 i n dd _ hi (List.getElem?_eq_getElem hil)) O.1 Lf wi hty hn hf ha fun T' h' X' W => g T' h' X' W (hv ▸ O.set LA W i hi)
end OwnKit
theorem pd0 : parseMethodDescriptor "()V" = some ⟨[], none⟩ := by decide +kernel
theorem pd1 : parseMethodDescriptor "()I" = some ⟨[], some .int⟩ := by decide +kernel
theorem pd2 : parseMethodDescriptor "(IIZ)V" = some ⟨[.int, .int, .boolean], none⟩ := by decide +kernel
theorem pd3 : parseMethodDescriptor "(Lcom/example/underboss/underboss/ViceFight$Side;Lcom/example/underboss/underboss/ViceFight$Side;I)V" = some ⟨[(.object "com/example/underboss/underboss/ViceFight$Side"), (.object "com/example/underboss/underboss/ViceFight$Side"), .int], none⟩ := by decide +kernel
theorem pd4 : parseMethodDescriptor "(II)I" = some ⟨[.int, .int], some .int⟩ := by decide +kernel
theorem pd5 : parseMethodDescriptor "(IIIII)I" = some ⟨[.int, .int, .int, .int, .int], some .int⟩ := by decide +kernel
theorem pn0 : plainName "com/example/underboss/underboss/ViceFight$Side" = true := by first | (simp [plainName, overriddenIn]; done) | decide +kernel
theorem pn1 : plainName "com/example/underboss/underboss/ViceFight" = true := by first | (simp [plainName, overriddenIn]; done) | decide +kernel
theorem pn2 : plainName "com/example/underboss/underboss/ViceFightSeatAskedPinLaw" = true := by first | (simp [plainName, overriddenIn]; done) | decide +kernel
def own_nsS : List (String × String) := [("seat", "I"), ("business", "I"), ("gang", "Z")]
theorem own_ldS (Z : State) (a0 : Array Value) (hw : ∀ d ∈ tables_1, d.before a0 Z = true) : LdAll Z a0 "com/example/underboss/underboss/ViceFight$Side" own_nsS := by
  refine ⟨by decide, fun q hq => ?_⟩
  simp only [own_nsS, List.mem_cons, List.not_mem_nil, or_false] at hq
  rcases hq with rfl | rfl | rfl
  · exact ⟨Or.inr (hw _ (List.mem_of_getElem? (i := 16) rfl)), ⟨_, (by decide : parseFieldDescriptor "I" = some .int)⟩⟩
  · exact ⟨Or.inr (hw _ (List.mem_of_getElem? (i := 18) rfl)), ⟨_, (by decide : parseFieldDescriptor "I" = some .int)⟩⟩
  · exact ⟨Or.inr (hw _ (List.mem_of_getElem? (i := 20) rfl)), ⟨_, (by decide : parseFieldDescriptor "Z" = some .boolean)⟩⟩
def own_nsV : List (String × String) := [("wins", "[I"), ("cards", "[I"), ("sides", "[Lcom/example/underboss/underboss/ViceFight$Side;"), ("money", "I")]
theorem own_ldV (Z : State) (a0 : Array Value) (hw : ∀ d ∈ tables_1, d.before a0 Z = true) : LdAll Z a0 "com/example/underboss/underboss/ViceFight" own_nsV := by
  refine ⟨by decide, fun q hq => ?_⟩
  simp only [own_nsV, List.mem_cons, List.not_mem_nil, or_false] at hq
  rcases hq with rfl | rfl | rfl | rfl
  · exact ⟨Or.inr (hw _ (List.mem_of_getElem? (i := 30) rfl)), ⟨_, (by decide : parseFieldDescriptor "[I" = some (.array .int))⟩⟩
  · exact ⟨Or.inr (hw _ (List.mem_of_getElem? (i := 32) rfl)), ⟨_, (by decide : parseFieldDescriptor "[I" = some (.array .int))⟩⟩
  · exact ⟨Or.inr (hw _ (List.mem_of_getElem? (i := 37) rfl)), ⟨_, (by decide : parseFieldDescriptor "[Lcom/example/underboss/underboss/ViceFight$Side;" = some (.array (.object "com/example/underboss/underboss/ViceFight$Side")))⟩⟩
  · exact ⟨Or.inr (hw _ (List.mem_of_getElem? (i := 39) rfl)), ⟨_, (by decide : parseFieldDescriptor "I" = some .int)⟩⟩
theorem f2_0 : Isn jdk_30_method_1_code 0 (.aload_n 0) 1 1 := ⟨by decide +kernel, rfl⟩
theorem f2_1 : Isn jdk_30_method_1_code 1 (.invokespecial 1) 3 4 := ⟨by decide +kernel, rfl⟩
theorem f2_4 : Isn jdk_30_method_1_code 4 (.return_) 1 5 := ⟨by decide +kernel, rfl⟩
theorem f1_0 : Isn prog_8_method_1_code 0 (.aload_n 0) 1 1 := ⟨by decide +kernel, rfl⟩
theorem f1_1 : Isn prog_8_method_1_code 1 (.invokespecial 1) 3 4 := ⟨by decide +kernel, rfl⟩
theorem f1_4 : Isn prog_8_method_1_code 4 (.aload_n 0) 1 5 := ⟨by decide +kernel, rfl⟩
theorem f1_5 : Isn prog_8_method_1_code 5 (.iload_n 1) 1 6 := ⟨by decide +kernel, rfl⟩
theorem f1_6 : Isn prog_8_method_1_code 6 (.putfield 7) 3 9 := ⟨by decide +kernel, rfl⟩
theorem f1_9 : Isn prog_8_method_1_code 9 (.aload_n 0) 1 10 := ⟨by decide +kernel, rfl⟩
theorem f1_10 : Isn prog_8_method_1_code 10 (.iload_n 2) 1 11 := ⟨by decide +kernel, rfl⟩
theorem f1_11 : Isn prog_8_method_1_code 11 (.putfield 13) 3 14 := ⟨by decide +kernel, rfl⟩
theorem f1_14 : Isn prog_8_method_1_code 14 (.aload_n 0) 1 15 := ⟨by decide +kernel, rfl⟩
theorem f1_15 : Isn prog_8_method_1_code 15 (.iload_n 3) 1 16 := ⟨by decide +kernel, rfl⟩
theorem f1_16 : Isn prog_8_method_1_code 16 (.putfield 16) 3 19 := ⟨by decide +kernel, rfl⟩
theorem f1_19 : Isn prog_8_method_1_code 19 (.return_) 1 20 := ⟨by decide +kernel, rfl⟩
theorem f4_0 : Isn prog_7_method_1_code 0 (.aload_n 0) 1 1 := ⟨by decide +kernel, rfl⟩
theorem f4_1 : Isn prog_7_method_1_code 1 (.invokespecial 1) 3 4 := ⟨by decide +kernel, rfl⟩
theorem f4_4 : Isn prog_7_method_1_code 4 (.aload_n 0) 1 5 := ⟨by decide +kernel, rfl⟩
theorem f4_5 : Isn prog_7_method_1_code 5 (.iconst 2) 1 6 := ⟨by decide +kernel, rfl⟩
theorem f4_6 : Isn prog_7_method_1_code 6 (.newarray .int) 2 8 := ⟨by decide +kernel, rfl⟩
theorem f4_8 : Isn prog_7_method_1_code 8 (.putfield 9) 3 11 := ⟨by decide +kernel, rfl⟩
theorem f4_11 : Isn prog_7_method_1_code 11 (.aload_n 0) 1 12 := ⟨by decide +kernel, rfl⟩
theorem f4_12 : Isn prog_7_method_1_code 12 (.iconst 2) 1 13 := ⟨by decide +kernel, rfl⟩
theorem f4_13 : Isn prog_7_method_1_code 13 (.newarray .int) 2 15 := ⟨by decide +kernel, rfl⟩
theorem f4_15 : Isn prog_7_method_1_code 15 (.putfield 13) 3 18 := ⟨by decide +kernel, rfl⟩
theorem f4_18 : Isn prog_7_method_1_code 18 (.aload_n 0) 1 19 := ⟨by decide +kernel, rfl⟩
theorem f4_19 : Isn prog_7_method_1_code 19 (.iconst 2) 1 20 := ⟨by decide +kernel, rfl⟩
theorem f4_20 : Isn prog_7_method_1_code 20 (.anewarray 16) 3 23 := ⟨by decide +kernel, rfl⟩
theorem f4_23 : Isn prog_7_method_1_code 23 (.dup) 1 24 := ⟨by decide +kernel, rfl⟩
theorem f4_24 : Isn prog_7_method_1_code 24 (.iconst 0) 1 25 := ⟨by decide +kernel, rfl⟩
theorem f4_25 : Isn prog_7_method_1_code 25 (.aload_n 1) 1 26 := ⟨by decide +kernel, rfl⟩
theorem f4_26 : Isn prog_7_method_1_code 26 (.aastore) 1 27 := ⟨by decide +kernel, rfl⟩
theorem f4_27 : Isn prog_7_method_1_code 27 (.dup) 1 28 := ⟨by decide +kernel, rfl⟩
theorem f4_28 : Isn prog_7_method_1_code 28 (.iconst 1) 1 29 := ⟨by decide +kernel, rfl⟩
theorem f4_29 : Isn prog_7_method_1_code 29 (.aload_n 2) 1 30 := ⟨by decide +kernel, rfl⟩
theorem f4_30 : Isn prog_7_method_1_code 30 (.aastore) 1 31 := ⟨by decide +kernel, rfl⟩
theorem f4_31 : Isn prog_7_method_1_code 31 (.putfield 18) 3 34 := ⟨by decide +kernel, rfl⟩
theorem f4_34 : Isn prog_7_method_1_code 34 (.aload_n 0) 1 35 := ⟨by decide +kernel, rfl⟩
theorem f4_35 : Isn prog_7_method_1_code 35 (.iload_n 3) 1 36 := ⟨by decide +kernel, rfl⟩
theorem f4_36 : Isn prog_7_method_1_code 36 (.putfield 22) 3 39 := ⟨by decide +kernel, rfl⟩
theorem f4_39 : Isn prog_7_method_1_code 39 (.return_) 1 40 := ⟨by decide +kernel, rfl⟩
set_option maxRecDepth 65536 in
set_option maxHeartbeats 40000000 in
theorem rm2 (l : Launch) (Z : State) (a0 : Array Value) (hw : ∀ d ∈ tables_1, d.before a0 Z = true) (a : Addr) (h : Heap) (n0 : Nat) :
    Ctr l Z (⟨"java/lang/Record", "<init>", "()V"⟩ : MethodName) jdk_30_method_1_code 1 (none) ({ frames := 1, cells := 0, slots := 0, locals := 14 } : Room) [.ref a] h n0 (fun v h' => v = none ∧ h' = h) := by
  refine CtrW.intro (by decide +kernel) rfl #[.val (.ref a)] rfl ?_
  intro K T hnm hl X
  subst hl
  refine o_aload_n X f2_0 rfl rfl ?_
  refine o_initO X 2 f2_1 (hw _ (List.mem_of_getElem? (i := 12) rfl)) (hw _ (List.mem_of_getElem? (i := 13) rfl)) (hw _ (List.mem_of_getElem? (i := 14) rfl)) rfl (by first | exact Nat.zero_le _ | simp [Value.category]) (by decide) ?_
  intro T1 X1
  refine o_ret0 X1 f2_4 (by decide) (by decide) ?_
  exact ⟨rfl, rfl⟩
set_option maxRecDepth 65536 in
set_option maxHeartbeats 40000000 in
theorem rm1 (l : Launch) (Z : State) (a0 : Array Value) (hw : ∀ d ∈ tables_1, d.before a0 Z = true) (a : Addr) (x0 : Int32) (x1 : Int32) (x2 : Int32) (h : Heap) (n0 : Nat) (ha_a : n0 ≤ a) (hg : x2 = 0 ∨ x2 = 1) (O : Obj Z h a "com/example/underboss/underboss/ViceFight$Side" own_nsS [.int 0, .int 0, .int 0]) :
    Ctr l Z (⟨"com/example/underboss/underboss/ViceFight$Side", "<init>", "(IIZ)V"⟩ : MethodName) prog_8_method_1_code 4 (none) ({ frames := 2, cells := 0, slots := 0, locals := 28 } : Room) [.ref a, .int x0, .int x1, .int x2] h n0 (fun v h' => v = none ∧ Keep h h' [a] ∧ Obj Z h' a "com/example/underboss/underboss/ViceFight$Side" own_nsS [.int x0, .int x1, .int x2]) := by
  refine CtrW.intro (plainFor_of_name pn0) rfl #[.val (.ref a), .val (.int x0), .val (.int x1), .val (.int x2)] rfl ?_
  intro K T hnm hl X
  subst hl
  have Kp := Keep.refl h [a]
  have hg1 : narrow .boolean (.int x2) = .int x2 := by rcases hg with rfl | rfl <;> rfl
  have hg2 : fits .boolean (.int x2) = true := by rcases hg with rfl | rfl <;> rfl
  refine o_aload_n X f1_0 rfl rfl ?_
  refine o_callN X 2 f1_1 rfl (hw _ (List.mem_of_getElem? (i := 7) rfl)) (hw _ (List.mem_of_getElem? (i := 8) rfl)) (hw _ (List.mem_of_getElem? (i := 11) rfl)) (hw _ (List.mem_of_getElem? (i := 10) rfl)) (by decide) (rm2 K.l Z a0 hw a _ n0) (lenOf pd0 rfl) rfl rfl (by first | exact Nat.zero_le _ | simp [Value.category]) (by decide) ?_
  rintro T1 h1 v1 ⟨rfl, rfl⟩ X1
  refine o_v0 ?_
  refine o_aload_n X1 f1_4 rfl rfl ?_
  refine o_iload_n X1 f1_5 rfl ?_
  refine o_putO X1 0 f1_6 (hw _ (List.mem_of_getElem? (i := 15) rfl)) O (own_ldS Z a0 hw) rfl (Or.inr ⟨(hw _ (List.mem_of_getElem? (i := 16) rfl)), rfl, hnm⟩) (hw _ (List.mem_of_getElem? (i := 2) rfl)) (ty := .int) (by decide) rfl rfl ha_a (vs' := [_, _, _]) rfl ?_
  intro T2 h2 X2 W2 aF2
  have Kp2 := Kp.wr W2 (Or.inl (by simp))
  refine o_aload_n X2 f1_9 rfl rfl ?_
  refine o_iload_n X2 f1_10 rfl ?_
  refine o_putO X2 1 f1_11 (hw _ (List.mem_of_getElem? (i := 17) rfl)) aF2 (own_ldS Z a0 hw) rfl (Or.inr ⟨(hw _ (List.mem_of_getElem? (i := 18) rfl)), rfl, hnm⟩) (hw _ (List.mem_of_getElem? (i := 2) rfl)) (ty := .int) (by decide) rfl rfl ha_a (vs' := [_, _, _]) rfl ?_
  intro T3 h3 X3 W3 aF3
  have Kp3 := Kp2.wr W3 (Or.inl (by simp))
  refine o_aload_n X3 f1_14 rfl rfl ?_
  refine o_iload_n X3 f1_15 rfl ?_
  refine o_putO X3 2 f1_16 (hw _ (List.mem_of_getElem? (i := 19) rfl)) aF3 (own_ldS Z a0 hw) rfl (Or.inr ⟨(hw _ (List.mem_of_getElem? (i := 20) rfl)), rfl, hnm⟩) (hw _ (List.mem_of_getElem? (i := 2) rfl)) (ty := .boolean) (by decide) hg1 hg2 ha_a (vs' := [_, _, _]) rfl ?_
  intro T4 h4 X4 W4 aF4
  have Kp4 := Kp3.wr W4 (Or.inl (by simp))
  refine o_ret0 X4 f1_19 (by decide) (by decide) ?_
  exact ⟨rfl, Kp4, aF4⟩
set_option maxRecDepth 65536 in
set_option maxHeartbeats 40000000 in
theorem rm4 (l : Launch) (Z : State) (a0 : Array Value) (hw : ∀ d ∈ tables_1, d.before a0 Z = true) (f : Addr) (pa : Addr) (pb : Addr) (x0 : Int32) (h : Heap) (n0 : Nat) (hn0 : n0 ≤ h.size) (ha_f : n0 ≤ f) (vA vD : List Value) (O : Obj Z h f "com/example/underboss/underboss/ViceFight" own_nsV [.null, .null, .null, .int 0]) (OA : Obj Z h pa "com/example/underboss/underboss/ViceFight$Side" own_nsS vA) (OD : Obj Z h pb "com/example/underboss/underboss/ViceFight$Side" own_nsS vD) (n_pa_f : pa ≠ f) (n_pb_f : pb ≠ f) :
    Ctr l Z (⟨"com/example/underboss/underboss/ViceFight", "<init>", "(Lcom/example/underboss/underboss/ViceFight$Side;Lcom/example/underboss/underboss/ViceFight$Side;I)V"⟩ : MethodName) prog_7_method_1_code 4 (none) ({ frames := 1, cells := 3, slots := 6, locals := 16 } : Room) [.ref f, .ref pa, .ref pb, .int x0] h n0 (fun v h' => v = none ∧ Keep h h' [f] ∧ ∃ wn cr sd : Addr, Obj Z h' f "com/example/underboss/underboss/ViceFight" own_nsV [.ref wn, .ref cr, .ref sd, .int x0] ∧ AL Z h' wn .int [.int 0, .int 0] ∧ AL Z h' cr .int [.int 0, .int 0] ∧ AL Z h' sd (.object "com/example/underboss/underboss/ViceFight$Side") [.ref pa, .ref pb] ∧ h.size ≤ wn ∧ h.size ≤ cr ∧ h.size ≤ sd ∧ wn ≠ cr ∧ wn ≠ sd ∧ cr ≠ sd) := by
  refine CtrW.intro (plainFor_of_name pn1) rfl #[.val (.ref f), .val (.ref pa), .val (.ref pb), .val (.int x0)] rfl ?_
  intro K T hnm hl X
  subst hl
  have Kp := Keep.refl h [f]
  have n_f_pa := n_pa_f.symm
  have n_f_pb := n_pb_f.symm
  refine o_aload_n X f4_0 rfl rfl ?_
  refine o_initO X 2 f4_1 (hw _ (List.mem_of_getElem? (i := 27) rfl)) (hw _ (List.mem_of_getElem? (i := 13) rfl)) (hw _ (List.mem_of_getElem? (i := 14) rfl)) rfl (by first | exact Nat.zero_le _ | simp [Value.category]) (by decide) ?_
  intro T1 X1
  refine o_aload_n X1 f4_4 rfl rfl ?_
  refine o_iconst 2 X1 f4_5 rfl ?_
  refine o_newarray X1 2 f4_6 (hw _ (List.mem_of_getElem? (i := 28) rfl)) (by decide) (by decide) (vs := [.int 0, .int 0]) rfl (by decide) ?_
  intro T2 h2 wn e2 X2 E2 wnF2
  have n_f_wn : f ≠ wn := Nat.ne_of_lt (e2 ▸ O.lt)
  have n_wn_f := n_f_wn.symm
  have n_pa_wn : pa ≠ wn := Nat.ne_of_lt (e2 ▸ OA.lt)
  have n_wn_pa := n_pa_wn.symm
  have n_pb_wn : pb ≠ wn := Nat.ne_of_lt (e2 ▸ OD.lt)
  have n_wn_pb := n_pb_wn.symm
  have ha_wn : n0 ≤ wn := e2 ▸ hn0
  have g_wn : h.size ≤ wn := e2 ▸ Kp.1
  have fF2 := O.ext E2
  have paF2 := OA.ext E2
  have pbF2 := OD.ext E2
  have z2 := Nat.le_trans hn0 E2.1
  have Kp2 := Kp.ext E2
  refine o_putO X2 0 f4_8 (hw _ (List.mem_of_getElem? (i := 29) rfl)) fF2 (own_ldV Z a0 hw) rfl (Or.inr ⟨(hw _ (List.mem_of_getElem? (i := 30) rfl)), rfl, hnm⟩) (hw _ (List.mem_of_getElem? (i := 22) rfl)) (ty := (.array .int)) (by decide) rfl rfl ha_f (vs' := [_, _, _, _]) rfl ?_
  intro T3 h3 X3 W3 fF3
  have paF3 := paF2.other W3 n_pa_f
  have pbF3 := pbF2.other W3 n_pb_f
  have wnF3 := wnF2.other W3 n_wn_f
  have z3 := Nat.le_trans z2 (Keep.of_wr W3).1
  have Kp3 := Kp2.wr W3 (Or.inl (by simp))
  refine o_aload_n X3 f4_11 rfl rfl ?_
  refine o_iconst 2 X3 f4_12 rfl ?_
  refine o_newarray X3 2 f4_13 (hw _ (List.mem_of_getElem? (i := 28) rfl)) (by decide) (by decide) (vs := [.int 0, .int 0]) rfl (by decide) ?_
  intro T4 h4 cr e4 X4 E4 crF4
  have n_f_cr : f ≠ cr := Nat.ne_of_lt (e4 ▸ fF3.lt)
  have n_cr_f := n_f_cr.symm
  have n_pa_cr : pa ≠ cr := Nat.ne_of_lt (e4 ▸ paF3.lt)
  have n_cr_pa := n_pa_cr.symm
  have n_pb_cr : pb ≠ cr := Nat.ne_of_lt (e4 ▸ pbF3.lt)
  have n_cr_pb := n_pb_cr.symm
  have n_wn_cr : wn ≠ cr := Nat.ne_of_lt (e4 ▸ wnF3.lt)
  have n_cr_wn := n_wn_cr.symm
  have ha_cr : n0 ≤ cr := e4 ▸ z3
  have g_cr : h.size ≤ cr := e4 ▸ Kp3.1
  have fF4 := fF3.ext E4
  have paF4 := paF3.ext E4
  have pbF4 := pbF3.ext E4
  have wnF4 := wnF3.ext E4
  have z4 := Nat.le_trans z3 E4.1
  have Kp4 := Kp3.ext E4
  refine o_putO X4 1 f4_15 (hw _ (List.mem_of_getElem? (i := 31) rfl)) fF4 (own_ldV Z a0 hw) rfl (Or.inr ⟨(hw _ (List.mem_of_getElem? (i := 32) rfl)), rfl, hnm⟩) (hw _ (List.mem_of_getElem? (i := 22) rfl)) (ty := (.array .int)) (by decide) rfl rfl ha_f (vs' := [_, _, _, _]) rfl ?_
  intro T5 h5 X5 W5 fF5
  have paF5 := paF4.other W5 n_pa_f
  have pbF5 := pbF4.other W5 n_pb_f
  have wnF5 := wnF4.other W5 n_wn_f
  have crF5 := crF4.other W5 n_cr_f
  have z5 := Nat.le_trans z4 (Keep.of_wr W5).1
  have Kp5 := Kp4.wr W5 (Or.inl (by simp))
  refine o_aload_n X5 f4_18 rfl rfl ?_
  refine o_iconst 2 X5 f4_19 rfl ?_
  refine o_anewarray X5 2 f4_20 (hw _ (List.mem_of_getElem? (i := 33) rfl)) (hw _ (List.mem_of_getElem? (i := 34) rfl)) (by decide) (by decide) (vs := [.null, .null]) rfl (by decide) ?_
  intro T6 h6 sd e6 X6 E6 sdF6 sdO6
  have n_f_sd : f ≠ sd := Nat.ne_of_lt (e6 ▸ fF5.lt)
  have n_sd_f := n_f_sd.symm
  have n_pa_sd : pa ≠ sd := Nat.ne_of_lt (e6 ▸ paF5.lt)
  have n_sd_pa := n_pa_sd.symm
  have n_pb_sd : pb ≠ sd := Nat.ne_of_lt (e6 ▸ pbF5.lt)
  have n_sd_pb := n_pb_sd.symm
  have n_wn_sd : wn ≠ sd := Nat.ne_of_lt (e6 ▸ wnF5.lt)
  have n_sd_wn := n_wn_sd.symm
  have n_cr_sd : cr ≠ sd := Nat.ne_of_lt (e6 ▸ crF5.lt)
  have n_sd_cr := n_cr_sd.symm
  have ha_sd : n0 ≤ sd := e6 ▸ z5
  have g_sd : h.size ≤ sd := e6 ▸ Kp5.1
  have fF6 := fF5.ext E6
  have paF6 := paF5.ext E6
  have pbF6 := pbF5.ext E6
  have wnF6 := wnF5.ext E6
  have crF6 := crF5.ext E6
  have z6 := Nat.le_trans z5 E6.1
  have Kp6 := Kp5.ext E6
  refine o_dup X6 f4_23 rfl ?_
  refine o_iconst 0 X6 f4_24 rfl ?_
  refine o_aload_n X6 f4_25 rfl rfl ?_
  refine o_aastore X6 f4_26 sdF6 sdO6 (Jvm.RoadKit.Ins.self paF6.1) (by decide) (Nat.le_of_ble_eq_true rfl) ha_sd (vs' := [_, _]) rfl ?_
  intro T7 h7 X7 W7 sdF7
  have sdO7 := sdO6.wr W7
  have fF7 := fF6.other W7 n_f_sd
  have paF7 := paF6.other W7 n_pa_sd
  have pbF7 := pbF6.other W7 n_pb_sd
  have wnF7 := wnF6.other W7 n_wn_sd
  have crF7 := crF6.other W7 n_cr_sd
  have z7 := Nat.le_trans z6 (Keep.of_wr W7).1
  have Kp7 := Kp6.wr W7 (Or.inr g_sd)
  refine o_dup X7 f4_27 rfl ?_
  refine o_iconst 1 X7 f4_28 rfl ?_
  refine o_aload_n X7 f4_29 rfl rfl ?_
  refine o_aastore X7 f4_30 sdF7 sdO7 (Jvm.RoadKit.Ins.self pbF7.1) (by decide) (Nat.le_of_ble_eq_true rfl) ha_sd (vs' := [_, _]) rfl ?_
  intro T8 h8 X8 W8 sdF8
  have sdO8 := sdO7.wr W8
  have fF8 := fF7.other W8 n_f_sd
  have paF8 := paF7.other W8 n_pa_sd
  have pbF8 := pbF7.other W8 n_pb_sd
  have wnF8 := wnF7.other W8 n_wn_sd
  have crF8 := crF7.other W8 n_cr_sd
  have z8 := Nat.le_trans z7 (Keep.of_wr W8).1
  have Kp8 := Kp7.wr W8 (Or.inr g_sd)
  refine o_putO X8 2 f4_31 (hw _ (List.mem_of_getElem? (i := 36) rfl)) fF8 (own_ldV Z a0 hw) rfl (Or.inr ⟨(hw _ (List.mem_of_getElem? (i := 37) rfl)), rfl, hnm⟩) (hw _ (List.mem_of_getElem? (i := 22) rfl)) (ty := (.array (.object "com/example/underboss/underboss/ViceFight$Side"))) (by decide) rfl rfl ha_f (vs' := [_, _, _, _]) rfl ?_
  intro T9 h9 X9 W9 fF9
  have paF9 := paF8.other W9 n_pa_f
  have pbF9 := pbF8.other W9 n_pb_f
  have wnF9 := wnF8.other W9 n_wn_f
  have crF9 := crF8.other W9 n_cr_f
  have sdF9 := sdF8.other W9 n_sd_f
  have z9 := Nat.le_trans z8 (Keep.of_wr W9).1
  have Kp9 := Kp8.wr W9 (Or.inl (by simp))
  refine o_aload_n X9 f4_34 rfl rfl ?_
  refine o_iload_n X9 f4_35 rfl ?_
  refine o_putO X9 3 f4_36 (hw _ (List.mem_of_getElem? (i := 38) rfl)) fF9 (own_ldV Z a0 hw) rfl (Or.inr ⟨(hw _ (List.mem_of_getElem? (i := 39) rfl)), rfl, hnm⟩) (hw _ (List.mem_of_getElem? (i := 22) rfl)) (ty := .int) (by decide) rfl rfl ha_f (vs' := [_, _, _, _]) rfl ?_
  intro T10 h10 X10 W10 fF10
  have paF10 := paF9.other W10 n_pa_f
  have pbF10 := pbF9.other W10 n_pb_f
  have wnF10 := wnF9.other W10 n_wn_f
  have crF10 := crF9.other W10 n_cr_f
  have sdF10 := sdF9.other W10 n_sd_f
  have z10 := Nat.le_trans z9 (Keep.of_wr W10).1
  have Kp10 := Kp9.wr W10 (Or.inl (by simp))
  refine o_ret0 X10 f4_39 (by decide) (by decide) ?_
  exact ⟨rfl, Kp10, wn, cr, sd, fF10, wnF10, crF10, sdF10, g_wn, g_cr, g_sd, n_wn_cr, n_wn_sd, n_cr_sd⟩
def own_lp (d pl : Int32) : Nat → Int32 → Int32 → Int32
  | 0, _, _ => 0
  | n + 1, k, seat => if seat % pl + 1 = d then own_lp d pl n k (seat % pl + 1) else if k = 0 then seat % pl + 1 else own_lp d pl n (k + -1) (seat % pl + 1)
def own_sa (place pl a d : Int32) : Int32 := if place < 2 then (if place = 0 then a else d) else own_lp d pl (pl.toInt - 1).toNat (place - 2) a
def own_x (place pl a d dOff : Int32) : Int32 :=
  if place = 0 then a else if place = 1 then d else
    if place - 2 + 1 < dOff then (if pl - 1 < place - 2 + 1 then 0 else (a - 1 + (place - 2 + 1)) % pl + 1)
    else (if pl - 1 < place - 2 + 2 then 0 else (a - 1 + (place - 2 + 2)) % pl + 1)
theorem own_one : (1 : Int32).toInt = 1 := by decide
theorem own_two : (2 : Int32).toInt = 2 := by decide
theorem own_m1 : (-1 : Int32).toInt = -1 := by decide
theorem own_zero : (0 : Int32).toInt = 0 := by decide
theorem own_nx (seat pl : Int32) (h1 : 1 ≤ seat.toInt) (h2 : seat.toInt ≤ pl.toInt) (h3 : 2 ≤ pl.toInt) (h4 : pl.toInt ≤ 17) : (seat.toInt < pl.toInt → (seat % pl + 1).toInt = seat.toInt + 1) ∧ (seat.toInt = pl.toInt → (seat % pl + 1).toInt = 1) := by
  have r := (c_iremV seat pl).1 (by omega) (by omega)
  have e : (seat % pl + 1).toInt = (seat % pl).toInt + 1 := by rw [XT.add32 (by rw [own_one]; exact ⟨by omega, by omega⟩), own_one]
  refine ⟨fun q => ?_, fun q => ?_⟩
  · have := r.2.2.2.1 q; omega
  · have := r.2.2.2.2 (by omega) (by omega); omega
/-- the seat that is j places behind a -/
def own_at (a pl j : Int) : Int := if a + j ≤ pl then a + j else a + j - pl
theorem own_lp_eq (a d pl dOff : Int32) (h1 : 1 ≤ a.toInt) (h2 : a.toInt ≤ pl.toInt) (h3 : 2 ≤ pl.toInt) (h4 : pl.toInt ≤ 17) (h5 : 1 ≤ dOff.toInt) (h6 : dOff.toInt ≤ pl.toInt - 1) (hd : d.toInt = own_at a.toInt pl.toInt dOff.toInt) :
    ∀ (n : Nat) (k seat : Int32) (i j : Int), i + n = pl.toInt → 1 ≤ i → 0 ≤ k.toInt → k.toInt ≤ 20 → seat.toInt = own_at a.toInt pl.toInt (i - 1) →
      ((dOff.toInt < i ∧ j = i + k.toInt) ∨ (i ≤ dOff.toInt ∧ i + k.toInt < dOff.toInt ∧ j = i + k.toInt) ∨ (i ≤ dOff.toInt ∧ dOff.toInt ≤ i + k.toInt ∧ j = i + k.toInt + 1)) →
      (own_lp d pl n k seat).toInt = if j ≤ pl.toInt - 1 then own_at a.toInt pl.toInt j else 0 := by
  intro n
  induction n with
  | zero =>
    intro k seat i j e1 e2 e3 e4 e5 e6
    have : ¬ j ≤ pl.toInt - 1 := by omega
    simp only [own_lp, this, if_false]; decide
  | succ n ih =>
    intro k seat i j e1 e2 e3 e4 e5 e6
    have hs : (seat % pl + 1).toInt = own_at a.toInt pl.toInt i := by
      unfold own_at at e5 ⊢
      by_cases c1 : a.toInt + (i - 1) ≤ pl.toInt
      · rw [if_pos c1] at e5
        by_cases c2 : a.toInt + i ≤ pl.toInt
        · rw [if_pos c2, (own_nx seat pl (by omega) (by omega) h3 h4).1 (by omega)]; omega
        · rw [if_neg c2, (own_nx seat pl (by omega) (by omega) h3 h4).2 (by omega)]; omega
      · rw [if_neg c1] at e5
        have c2 : ¬ a.toInt + i ≤ pl.toInt := by omega
        rw [if_neg c2, (own_nx seat pl (by omega) (by omega) h3 h4).1 (by omega)]; omega
    have hd' : seat % pl + 1 = d ↔ i = dOff.toInt := by
      rw [← Int32.toInt_inj, hs, hd]; unfold own_at; split <;> split <;> omega
    have hk : k = 0 ↔ k.toInt = 0 := by rw [← Int32.toInt_inj, own_zero]
    simp only [own_lp]
    by_cases q1 : i = dOff.toInt
    · rw [if_pos (hd'.mpr q1)]
      exact ih k _ (i + 1) j (by omega) (by omega) e3 e4 (by rw [hs]; congr 1; omega) (by omega)
    · rw [if_neg (fun q => q1 (hd'.mp q))]
      by_cases q2 : k.toInt = 0
      · rw [if_pos (hk.mpr q2), hs]
        have : j = i := by omega
        rw [this, if_pos (by omega)]
      · rw [if_neg (fun q => q2 (hk.mp q))]
        have ek : (k + -1).toInt = k.toInt - 1 := by rw [XT.add32 (by rw [own_m1]; exact ⟨by omega, by omega⟩), own_m1]; omega
        clear hd' hk
        generalize k + -1 = k2 at ek ⊢
        generalize seat % pl + 1 = s2 at hs ⊢
        exact ih k2 s2 (i + 1) j (by omega) (by omega) (by omega) (by omega) (by rw [hs]; congr 1; omega) (by omega)
theorem own_sub {x y : Int32} (h1 : -1000 ≤ x.toInt) (h2 : x.toInt ≤ 1000) (h3 : -1000 ≤ y.toInt) (h4 : y.toInt ≤ 1000) : (x - y).toInt = x.toInt - y.toInt := XT.sub32 ⟨by omega, by omega⟩
theorem own_add {x y : Int32} (h1 : -1000 ≤ x.toInt) (h2 : x.toInt ≤ 1000) (h3 : -1000 ≤ y.toInt) (h4 : y.toInt ≤ 1000) : (x + y).toInt = x.toInt + y.toInt := XT.add32 ⟨by omega, by omega⟩
theorem own_mod (x pl : Int32) (h0 : 0 ≤ x.toInt) (h1 : x.toInt < 2 * pl.toInt) (h3 : 2 ≤ pl.toInt) (h4 : pl.toInt ≤ 17) : (x % pl + 1).toInt = if x.toInt < pl.toInt then x.toInt + 1 else x.toInt - pl.toInt + 1 := by
  have r := (c_iremV x pl).1 (by omega) (by omega)
  rw [own_add (by omega) (by omega) (by decide) (by decide), own_one]
  split
  · have := r.2.2.2.1 (by omega); omega
  · have := r.2.2.2.2 (by omega) (by omega); omega
theorem own_main (place pl a d dOff : Int32) (h1 : 1 ≤ a.toInt) (h2 : a.toInt ≤ pl.toInt) (h3 : 2 ≤ pl.toInt) (h4 : pl.toInt ≤ 17) (h5 : 1 ≤ dOff.toInt) (h6 : dOff.toInt ≤ pl.toInt - 1) (hd : d = (a - 1 + dOff) % pl + 1) (h7 : 0 ≤ place.toInt) (h8 : place.toInt ≤ pl.toInt + 1) :
    own_sa place pl a d = own_x place pl a d dOff := by
  have o1 := own_one; have o2 := own_two
  have ea : (a - 1).toInt = a.toInt - 1 := by rw [own_sub (by omega) (by omega) (by omega) (by omega)]; omega
  have ead : (a - 1 + dOff).toInt = a.toInt - 1 + dOff.toInt := by rw [own_add (by omega) (by omega) (by omega) (by omega)]; omega
  have hd2 : d.toInt = own_at a.toInt pl.toInt dOff.toInt := by
    rw [hd, own_mod _ _ (by omega) (by omega) h3 h4, ead]; unfold own_at; split <;> split <;> omega
  unfold own_sa own_x
  by_cases q0 : place = 0
  · have : place < 2 := by rw [q0]; decide
    simp only [if_pos this, if_pos q0]
  · by_cases q1 : place = 1
    · have : place < 2 := by rw [q1]; decide
      simp only [if_pos this, if_neg q0, if_pos q1]
    · have n0 : place.toInt ≠ 0 := fun q => q0 (Int32.toInt_inj.mp (by rw [q, own_zero]))
      have n1 : place.toInt ≠ 1 := fun q => q1 (Int32.toInt_inj.mp (by rw [q, own_one]))
      have : ¬ place < 2 := by rw [Int32.lt_iff_toInt_lt, o2]; omega
      simp only [if_neg this, if_neg q0, if_neg q1]
      have e2 : (place - 2).toInt = place.toInt - 2 := by rw [own_sub (by omega) (by omega) (by omega) (by omega)]; omega
      have e21 : (place - 2 + 1).toInt = place.toInt - 1 := by rw [own_add (by omega) (by omega) (by omega) (by omega)]; omega
      have e22 : (place - 2 + 2).toInt = place.toInt := by rw [own_add (by omega) (by omega) (by omega) (by omega)]; omega
      have ep : (pl - 1).toInt = pl.toInt - 1 := by rw [own_sub (by omega) (by omega) (by omega) (by omega)]; omega
      have key := own_lp_eq a d pl dOff h1 h2 h3 h4 h5 h6 hd2 (pl.toInt - 1).toNat (place - 2) a 1
      apply Int32.toInt_inj.mp
      by_cases q2 : place - 2 + 1 < dOff
      · have q2' := q2; rw [Int32.lt_iff_toInt_lt, e21] at q2'
        rw [key (place.toInt - 1) (by omega) (by omega) (by omega) (by omega) (by unfold own_at; split <;> omega) (by omega), if_pos q2]
        by_cases q3 : pl - 1 < place - 2 + 1
        · have q3' := q3; rw [Int32.lt_iff_toInt_lt, e21, ep] at q3'
          rw [if_pos q3, if_neg (by omega), own_zero]
        · have q3' := q3; rw [Int32.lt_iff_toInt_lt, e21, ep] at q3'
          have ej : (a - 1 + (place - 2 + 1)).toInt = a.toInt - 1 + (place.toInt - 1) := by rw [own_add (by omega) (by omega) (by omega) (by omega)]; omega
          rw [if_neg q3, if_pos (by omega), own_mod _ _ (by omega) (by omega) h3 h4, ej]
          unfold own_at; split <;> split <;> omega
      · have q2' := q2; rw [Int32.lt_iff_toInt_lt, e21] at q2'
        rw [key place.toInt (by omega) (by omega) (by omega) (by omega) (by unfold own_at; split <;> omega) (by omega), if_neg q2]
        by_cases q3 : pl - 1 < place - 2 + 2
        · have q3' := q3; rw [Int32.lt_iff_toInt_lt, e22, ep] at q3'
          rw [if_pos q3, if_neg (by omega), own_zero]
        · have q3' := q3; rw [Int32.lt_iff_toInt_lt, e22, ep] at q3'
          have ej : (a - 1 + (place - 2 + 2)).toInt = a.toInt - 1 + place.toInt := by rw [own_add (by omega) (by omega) (by omega) (by omega)]; omega
          rw [if_neg q3, if_pos (by omega), own_mod _ _ (by omega) (by omega) h3 h4, ej]
          unfold own_at; split <;> split <;> omega
theorem own_ne {x : Int32} (h : 1 ≤ x.toInt) : x ≠ 0 := fun q => by rw [q, own_zero] at h; omega
theorem own_rem (x y : Int32) (hy : 0 < y.toInt) : 0 ≤ ((x &&& 2147483647) % y).toInt ∧ ((x &&& 2147483647) % y).toInt < y.toInt := by
  have e : (x &&& 2147483647).toInt = x.toInt % (2 ^ 31 : Nat) := c_mask x 2147483647 31 (by decide) (by decide)
  have r := (c_iremV (x &&& 2147483647) y).1 (by omega) hy
  exact ⟨r.1, r.2.1⟩
theorem own_01 {x : Int32} (h0 : 0 ≤ x.toInt) (h : x < 2) : x = 0 ∨ x = 1 := by
  rw [Int32.lt_iff_toInt_lt, own_two] at h
  have : x.toInt = 0 ∨ x.toInt = 1 := by omega
  exact this.imp (fun q => Int32.toInt_inj.mp (q.trans own_zero.symm)) (fun q => Int32.toInt_inj.mp (q.trans own_one.symm))

theorem own_p15 (x : Int32) : 2 ≤ (2 + (x &&& 15)).toInt ∧ (2 + (x &&& 15)).toInt ≤ 17 := by
  have e : (x &&& 15).toInt = x.toInt % (2 ^ 4 : Nat) := c_mask x 15 4 (by decide) (by decide)
  rw [own_add (by decide) (by decide) (by omega) (by omega), own_two]; omega
theorem own_b01 (x : Int32) : (if x = 0 then (0 : Int32) else 1) = 0 ∨ (if x = 0 then (0 : Int32) else 1) = 1 := by split; exact Or.inl rfl; exact Or.inr rfl

theorem f6_0 : Isn prog_8_method_5_code 0 (.aload_n 0) 1 1 := ⟨by decide +kernel, rfl⟩
theorem f6_1 : Isn prog_8_method_5_code 1 (.getfield 7) 3 4 := ⟨by decide +kernel, rfl⟩
theorem f6_4 : Isn prog_8_method_5_code 4 (.ireturn) 1 5 := ⟨by decide +kernel, rfl⟩
theorem f7_0 : Isn method_3_code 0 (.iload_n 0) 1 1 := ⟨by decide +kernel, rfl⟩
theorem f7_1 : Brn method_3_code 1 (.ifCond .ne 5) 5 4 6 := ⟨by decide +kernel, rfl, by decide, by decide⟩
theorem f7_4 : Isn method_3_code 4 (.iload_n 2) 1 5 := ⟨by decide +kernel, rfl⟩
theorem f7_5 : Isn method_3_code 5 (.ireturn) 1 6 := ⟨by decide +kernel, rfl⟩
theorem f7_6 : Isn method_3_code 6 (.iload_n 0) 1 7 := ⟨by decide +kernel, rfl⟩
theorem f7_7 : Isn method_3_code 7 (.iconst 1) 1 8 := ⟨by decide +kernel, rfl⟩
theorem f7_8 : Brn method_3_code 8 (.if_icmp .ne 5) 5 11 13 := ⟨by decide +kernel, rfl, by decide, by decide⟩
theorem f7_11 : Isn method_3_code 11 (.iload_n 3) 1 12 := ⟨by decide +kernel, rfl⟩
theorem f7_12 : Isn method_3_code 12 (.ireturn) 1 13 := ⟨by decide +kernel, rfl⟩
theorem f7_13 : Isn method_3_code 13 (.iload_n 0) 1 14 := ⟨by decide +kernel, rfl⟩
theorem f7_14 : Isn method_3_code 14 (.iconst 2) 1 15 := ⟨by decide +kernel, rfl⟩
theorem f7_15 : Isn method_3_code 15 (.isub) 1 16 := ⟨by decide +kernel, rfl⟩
theorem f7_16 : Isn method_3_code 16 (.istore 5) 2 18 := ⟨by decide +kernel, rfl⟩
theorem f7_18 : Isn method_3_code 18 (.iload 5) 2 20 := ⟨by decide +kernel, rfl⟩
theorem f7_20 : Isn method_3_code 20 (.iconst 1) 1 21 := ⟨by decide +kernel, rfl⟩
theorem f7_21 : Isn method_3_code 21 (.iadd) 1 22 := ⟨by decide +kernel, rfl⟩
theorem f7_22 : Isn method_3_code 22 (.iload 4) 2 24 := ⟨by decide +kernel, rfl⟩
theorem f7_24 : Brn method_3_code 24 (.if_icmp .ge 12) 12 27 36 := ⟨by decide +kernel, rfl, by decide, by decide⟩
theorem f7_27 : Isn method_3_code 27 (.iload 5) 2 29 := ⟨by decide +kernel, rfl⟩
theorem f7_29 : Isn method_3_code 29 (.iconst 1) 1 30 := ⟨by decide +kernel, rfl⟩
theorem f7_30 : Isn method_3_code 30 (.iadd) 1 31 := ⟨by decide +kernel, rfl⟩
theorem f7_31 : Isn method_3_code 31 (.istore 6) 2 33 := ⟨by decide +kernel, rfl⟩
theorem f7_33 : Brn method_3_code 33 (.goto 9) 9 36 42 := ⟨by decide +kernel, rfl, by decide, by decide⟩
theorem f7_36 : Isn method_3_code 36 (.iload 5) 2 38 := ⟨by decide +kernel, rfl⟩
theorem f7_38 : Isn method_3_code 38 (.iconst 2) 1 39 := ⟨by decide +kernel, rfl⟩
theorem f7_39 : Isn method_3_code 39 (.iadd) 1 40 := ⟨by decide +kernel, rfl⟩
theorem f7_40 : Isn method_3_code 40 (.istore 6) 2 42 := ⟨by decide +kernel, rfl⟩
theorem f7_42 : Isn method_3_code 42 (.iload 6) 2 44 := ⟨by decide +kernel, rfl⟩
theorem f7_44 : Isn method_3_code 44 (.iload_n 1) 1 45 := ⟨by decide +kernel, rfl⟩
theorem f7_45 : Isn method_3_code 45 (.iconst 1) 1 46 := ⟨by decide +kernel, rfl⟩
theorem f7_46 : Isn method_3_code 46 (.isub) 1 47 := ⟨by decide +kernel, rfl⟩
theorem f7_47 : Brn method_3_code 47 (.if_icmp .gt 14) 14 50 61 := ⟨by decide +kernel, rfl, by decide, by decide⟩
theorem f7_50 : Isn method_3_code 50 (.iload_n 2) 1 51 := ⟨by decide +kernel, rfl⟩
theorem f7_51 : Isn method_3_code 51 (.iconst 1) 1 52 := ⟨by decide +kernel, rfl⟩
theorem f7_52 : Isn method_3_code 52 (.isub) 1 53 := ⟨by decide +kernel, rfl⟩
theorem f7_53 : Isn method_3_code 53 (.iload 6) 2 55 := ⟨by decide +kernel, rfl⟩
theorem f7_55 : Isn method_3_code 55 (.iadd) 1 56 := ⟨by decide +kernel, rfl⟩
theorem f7_56 : Isn method_3_code 56 (.iload_n 1) 1 57 := ⟨by decide +kernel, rfl⟩
theorem f7_57 : Isn method_3_code 57 (.irem) 1 58 := ⟨by decide +kernel, rfl⟩
theorem f7_58 : Isn method_3_code 58 (.iconst 1) 1 59 := ⟨by decide +kernel, rfl⟩
theorem f7_59 : Isn method_3_code 59 (.iadd) 1 60 := ⟨by decide +kernel, rfl⟩
theorem f7_60 : Isn method_3_code 60 (.ireturn) 1 61 := ⟨by decide +kernel, rfl⟩
theorem f7_61 : Isn method_3_code 61 (.iconst 0) 1 62 := ⟨by decide +kernel, rfl⟩
theorem f7_62 : Isn method_3_code 62 (.ireturn) 1 63 := ⟨by decide +kernel, rfl⟩
theorem f5_0 : Isn prog_7_method_7_code 0 (.iload_n 1) 1 1 := ⟨by decide +kernel, rfl⟩
theorem f5_1 : Isn prog_7_method_7_code 1 (.iconst 2) 1 2 := ⟨by decide +kernel, rfl⟩
theorem f5_2 : Brn prog_7_method_7_code 2 (.if_icmp .ge 13) 13 5 15 := ⟨by decide +kernel, rfl, by decide, by decide⟩
theorem f5_5 : Isn prog_7_method_7_code 5 (.aload_n 0) 1 6 := ⟨by decide +kernel, rfl⟩
theorem f5_6 : Isn prog_7_method_7_code 6 (.getfield 18) 3 9 := ⟨by decide +kernel, rfl⟩
theorem f5_9 : Isn prog_7_method_7_code 9 (.iload_n 1) 1 10 := ⟨by decide +kernel, rfl⟩
theorem f5_10 : Isn prog_7_method_7_code 10 (.aaload) 1 11 := ⟨by decide +kernel, rfl⟩
theorem f5_11 : Isn prog_7_method_7_code 11 (.invokevirtual 26) 3 14 := ⟨by decide +kernel, rfl⟩
theorem f5_14 : Isn prog_7_method_7_code 14 (.ireturn) 1 15 := ⟨by decide +kernel, rfl⟩
theorem f5_15 : Isn prog_7_method_7_code 15 (.iload_n 1) 1 16 := ⟨by decide +kernel, rfl⟩
theorem f5_16 : Isn prog_7_method_7_code 16 (.iconst 2) 1 17 := ⟨by decide +kernel, rfl⟩
theorem f5_17 : Isn prog_7_method_7_code 17 (.isub) 1 18 := ⟨by decide +kernel, rfl⟩
theorem f5_18 : Isn prog_7_method_7_code 18 (.istore_n 3) 1 19 := ⟨by decide +kernel, rfl⟩
theorem f5_19 : Isn prog_7_method_7_code 19 (.aload_n 0) 1 20 := ⟨by decide +kernel, rfl⟩
theorem f5_20 : Isn prog_7_method_7_code 20 (.getfield 18) 3 23 := ⟨by decide +kernel, rfl⟩
theorem f5_23 : Isn prog_7_method_7_code 23 (.iconst 0) 1 24 := ⟨by decide +kernel, rfl⟩
theorem f5_24 : Isn prog_7_method_7_code 24 (.aaload) 1 25 := ⟨by decide +kernel, rfl⟩
theorem f5_25 : Isn prog_7_method_7_code 25 (.invokevirtual 26) 3 28 := ⟨by decide +kernel, rfl⟩
theorem f5_28 : Isn prog_7_method_7_code 28 (.istore 4) 2 30 := ⟨by decide +kernel, rfl⟩
theorem f5_30 : Isn prog_7_method_7_code 30 (.iconst 1) 1 31 := ⟨by decide +kernel, rfl⟩
theorem f5_31 : Isn prog_7_method_7_code 31 (.istore 5) 2 33 := ⟨by decide +kernel, rfl⟩
theorem f5_33 : Isn prog_7_method_7_code 33 (.iload 5) 2 35 := ⟨by decide +kernel, rfl⟩
theorem f5_35 : Isn prog_7_method_7_code 35 (.iload_n 2) 1 36 := ⟨by decide +kernel, rfl⟩
theorem f5_36 : Brn prog_7_method_7_code 36 (.if_icmp .ge 44) 44 39 80 := ⟨by decide +kernel, rfl, by decide, by decide⟩
theorem f5_39 : Isn prog_7_method_7_code 39 (.iload 4) 2 41 := ⟨by decide +kernel, rfl⟩
theorem f5_41 : Isn prog_7_method_7_code 41 (.iload_n 2) 1 42 := ⟨by decide +kernel, rfl⟩
theorem f5_42 : Isn prog_7_method_7_code 42 (.irem) 1 43 := ⟨by decide +kernel, rfl⟩
theorem f5_43 : Isn prog_7_method_7_code 43 (.iconst 1) 1 44 := ⟨by decide +kernel, rfl⟩
theorem f5_44 : Isn prog_7_method_7_code 44 (.iadd) 1 45 := ⟨by decide +kernel, rfl⟩
theorem f5_45 : Isn prog_7_method_7_code 45 (.istore 4) 2 47 := ⟨by decide +kernel, rfl⟩
theorem f5_47 : Isn prog_7_method_7_code 47 (.iload 4) 2 49 := ⟨by decide +kernel, rfl⟩
theorem f5_49 : Isn prog_7_method_7_code 49 (.aload_n 0) 1 50 := ⟨by decide +kernel, rfl⟩
theorem f5_50 : Isn prog_7_method_7_code 50 (.getfield 18) 3 53 := ⟨by decide +kernel, rfl⟩
theorem f5_53 : Isn prog_7_method_7_code 53 (.iconst 1) 1 54 := ⟨by decide +kernel, rfl⟩
theorem f5_54 : Isn prog_7_method_7_code 54 (.aaload) 1 55 := ⟨by decide +kernel, rfl⟩
theorem f5_55 : Isn prog_7_method_7_code 55 (.invokevirtual 26) 3 58 := ⟨by decide +kernel, rfl⟩
theorem f5_58 : Brn prog_7_method_7_code 58 (.if_icmp .ne 6) 6 61 64 := ⟨by decide +kernel, rfl, by decide, by decide⟩
theorem f5_61 : Brn prog_7_method_7_code 61 (.goto 13) 13 64 74 := ⟨by decide +kernel, rfl, by decide, by decide⟩
theorem f5_64 : Isn prog_7_method_7_code 64 (.iload_n 3) 1 65 := ⟨by decide +kernel, rfl⟩
theorem f5_65 : Brn prog_7_method_7_code 65 (.ifCond .ne 6) 6 68 71 := ⟨by decide +kernel, rfl, by decide, by decide⟩
theorem f5_68 : Isn prog_7_method_7_code 68 (.iload 4) 2 70 := ⟨by decide +kernel, rfl⟩
theorem f5_70 : Isn prog_7_method_7_code 70 (.ireturn) 1 71 := ⟨by decide +kernel, rfl⟩
theorem f5_71 : Isn prog_7_method_7_code 71 (.iinc 3 (-1)) 3 74 := ⟨by decide +kernel, rfl⟩
theorem f5_74 : Isn prog_7_method_7_code 74 (.iinc 5 1) 3 77 := ⟨by decide +kernel, rfl⟩
theorem f5_77 : Brn prog_7_method_7_code 77 (.goto (-44)) (-44) 80 33 := ⟨by decide +kernel, rfl, by decide, by decide⟩
theorem f5_80 : Isn prog_7_method_7_code 80 (.iconst 0) 1 81 := ⟨by decide +kernel, rfl⟩
theorem f5_81 : Isn prog_7_method_7_code 81 (.ireturn) 1 82 := ⟨by decide +kernel, rfl⟩
theorem f0_0 : Isn code 0 (.iconst 2) 1 1 := ⟨at_0, rfl⟩
theorem f0_1 : Isn code 1 (.iload_n 0) 1 2 := ⟨at_1, rfl⟩
theorem f0_2 : Isn code 2 (.bipush 15) 2 4 := ⟨at_2, rfl⟩
theorem f0_4 : Isn code 4 (.iand) 1 5 := ⟨at_4, rfl⟩
theorem f0_5 : Isn code 5 (.iadd) 1 6 := ⟨at_5, rfl⟩
theorem f0_6 : Isn code 6 (.istore 6) 2 8 := ⟨at_6, rfl⟩
theorem f0_8 : Isn code 8 (.iconst 1) 1 9 := ⟨at_8, rfl⟩
theorem f0_9 : Isn code 9 (.iload_n 1) 1 10 := ⟨at_9, rfl⟩
theorem f0_10 : Isn code 10 (.ldc 7) 2 12 := ⟨at_10, rfl⟩
theorem f0_12 : Isn code 12 (.iand) 1 13 := ⟨at_12, rfl⟩
theorem f0_13 : Isn code 13 (.iload 6) 2 15 := ⟨at_13, rfl⟩
theorem f0_15 : Isn code 15 (.irem) 1 16 := ⟨at_15, rfl⟩
theorem f0_16 : Isn code 16 (.iadd) 1 17 := ⟨at_16, rfl⟩
theorem f0_17 : Isn code 17 (.istore 7) 2 19 := ⟨at_17, rfl⟩
theorem f0_19 : Isn code 19 (.iconst 1) 1 20 := ⟨at_19, rfl⟩
theorem f0_20 : Isn code 20 (.iload_n 2) 1 21 := ⟨at_20, rfl⟩
theorem f0_21 : Isn code 21 (.ldc 7) 2 23 := ⟨at_21, rfl⟩
theorem f0_23 : Isn code 23 (.iand) 1 24 := ⟨at_23, rfl⟩
theorem f0_24 : Isn code 24 (.iload 6) 2 26 := ⟨at_24, rfl⟩
theorem f0_26 : Isn code 26 (.iconst 1) 1 27 := ⟨at_26, rfl⟩
theorem f0_27 : Isn code 27 (.isub) 1 28 := ⟨at_27, rfl⟩
theorem f0_28 : Isn code 28 (.irem) 1 29 := ⟨at_28, rfl⟩
theorem f0_29 : Isn code 29 (.iadd) 1 30 := ⟨at_29, rfl⟩
theorem f0_30 : Isn code 30 (.istore 8) 2 32 := ⟨at_30, rfl⟩
theorem f0_32 : Isn code 32 (.iload 7) 2 34 := ⟨at_32, rfl⟩
theorem f0_34 : Isn code 34 (.iconst 1) 1 35 := ⟨at_34, rfl⟩
theorem f0_35 : Isn code 35 (.isub) 1 36 := ⟨at_35, rfl⟩
theorem f0_36 : Isn code 36 (.iload 8) 2 38 := ⟨at_36, rfl⟩
theorem f0_38 : Isn code 38 (.iadd) 1 39 := ⟨at_38, rfl⟩
theorem f0_39 : Isn code 39 (.iload 6) 2 41 := ⟨at_39, rfl⟩
theorem f0_41 : Isn code 41 (.irem) 1 42 := ⟨at_41, rfl⟩
theorem f0_42 : Isn code 42 (.iconst 1) 1 43 := ⟨at_42, rfl⟩
theorem f0_43 : Isn code 43 (.iadd) 1 44 := ⟨at_43, rfl⟩
theorem f0_44 : Isn code 44 (.istore 9) 2 46 := ⟨at_44, rfl⟩
theorem f0_46 : Isn code 46 (.iload_n 3) 1 47 := ⟨at_46, rfl⟩
theorem f0_47 : Isn code 47 (.ldc 7) 2 49 := ⟨at_47, rfl⟩
theorem f0_49 : Isn code 49 (.iand) 1 50 := ⟨at_49, rfl⟩
theorem f0_50 : Isn code 50 (.iload 6) 2 52 := ⟨at_50, rfl⟩
theorem f0_52 : Isn code 52 (.iconst 2) 1 53 := ⟨at_52, rfl⟩
theorem f0_53 : Isn code 53 (.iadd) 1 54 := ⟨at_53, rfl⟩
theorem f0_54 : Isn code 54 (.irem) 1 55 := ⟨at_54, rfl⟩
theorem f0_55 : Isn code 55 (.istore 10) 2 57 := ⟨at_55, rfl⟩
theorem f0_57 : Isn code 57 (.iload 4) 2 59 := ⟨at_57, rfl⟩
theorem f0_59 : Isn code 59 (.iconst 1) 1 60 := ⟨at_59, rfl⟩
theorem f0_60 : Isn code 60 (.iand) 1 61 := ⟨at_60, rfl⟩
theorem f0_61 : Brn code 61 (.ifCond .eq 7) 7 64 68 := ⟨at_61, rfl, by decide, by decide⟩
theorem f0_64 : Isn code 64 (.iconst 1) 1 65 := ⟨at_64, rfl⟩
theorem f0_65 : Brn code 65 (.goto 4) 4 68 69 := ⟨at_65, rfl, by decide, by decide⟩
theorem f0_68 : Isn code 68 (.iconst 0) 1 69 := ⟨at_68, rfl⟩
theorem f0_69 : Isn code 69 (.istore 11) 2 71 := ⟨at_69, rfl⟩
theorem f0_71 : Isn code 71 (.iload 4) 2 73 := ⟨at_71, rfl⟩
theorem f0_73 : Isn code 73 (.iconst 2) 1 74 := ⟨at_73, rfl⟩
theorem f0_74 : Isn code 74 (.iand) 1 75 := ⟨at_74, rfl⟩
theorem f0_75 : Brn code 75 (.ifCond .eq 7) 7 78 82 := ⟨at_75, rfl, by decide, by decide⟩
theorem f0_78 : Isn code 78 (.iconst 1) 1 79 := ⟨at_78, rfl⟩
theorem f0_79 : Brn code 79 (.goto 4) 4 82 83 := ⟨at_79, rfl, by decide, by decide⟩
theorem f0_82 : Isn code 82 (.iconst 0) 1 83 := ⟨at_82, rfl⟩
theorem f0_83 : Isn code 83 (.istore 12) 2 85 := ⟨at_83, rfl⟩
theorem f0_85 : Isn code 85 (.iload 4) 2 87 := ⟨at_85, rfl⟩
theorem f0_87 : Isn code 87 (.iconst 2) 1 88 := ⟨at_87, rfl⟩
theorem f0_88 : Isn code 88 (.ishr) 1 89 := ⟨at_88, rfl⟩
theorem f0_89 : Isn code 89 (.istore 13) 2 91 := ⟨at_89, rfl⟩
theorem f0_91 : Isn code 91 (.new 8) 3 94 := ⟨at_91, rfl⟩
theorem f0_94 : Isn code 94 (.dup) 1 95 := ⟨at_94, rfl⟩
theorem f0_95 : Isn code 95 (.iload 7) 2 97 := ⟨at_95, rfl⟩
theorem f0_97 : Isn code 97 (.iload 13) 2 99 := ⟨at_97, rfl⟩
theorem f0_99 : Isn code 99 (.iload 11) 2 101 := ⟨at_99, rfl⟩
theorem f0_101 : Isn code 101 (.invokespecial 10) 3 104 := ⟨at_101, rfl⟩
theorem f0_104 : Isn code 104 (.astore 14) 2 106 := ⟨at_104, rfl⟩
theorem f0_106 : Isn code 106 (.new 8) 3 109 := ⟨at_106, rfl⟩
theorem f0_109 : Isn code 109 (.dup) 1 110 := ⟨at_109, rfl⟩
theorem f0_110 : Isn code 110 (.iload 9) 2 112 := ⟨at_110, rfl⟩
theorem f0_112 : Isn code 112 (.iload 13) 2 114 := ⟨at_112, rfl⟩
theorem f0_114 : Isn code 114 (.iconst 1) 1 115 := ⟨at_114, rfl⟩
theorem f0_115 : Isn code 115 (.iadd) 1 116 := ⟨at_115, rfl⟩
theorem f0_116 : Isn code 116 (.iload 12) 2 118 := ⟨at_116, rfl⟩
theorem f0_118 : Isn code 118 (.invokespecial 10) 3 121 := ⟨at_118, rfl⟩
theorem f0_121 : Isn code 121 (.astore 15) 2 123 := ⟨at_121, rfl⟩
theorem f0_123 : Isn code 123 (.new 13) 3 126 := ⟨at_123, rfl⟩
theorem f0_126 : Isn code 126 (.dup) 1 127 := ⟨at_126, rfl⟩
theorem f0_127 : Isn code 127 (.aload 14) 2 129 := ⟨at_127, rfl⟩
theorem f0_129 : Isn code 129 (.aload 15) 2 131 := ⟨at_129, rfl⟩
theorem f0_131 : Isn code 131 (.iload 5) 2 133 := ⟨at_131, rfl⟩
theorem f0_133 : Isn code 133 (.invokespecial 15) 3 136 := ⟨at_133, rfl⟩
theorem f0_136 : Isn code 136 (.astore 16) 2 138 := ⟨at_136, rfl⟩
theorem f0_138 : Isn code 138 (.aload 16) 2 140 := ⟨at_138, rfl⟩
theorem f0_140 : Isn code 140 (.iload 10) 2 142 := ⟨at_140, rfl⟩
theorem f0_142 : Isn code 142 (.iload 6) 2 144 := ⟨at_142, rfl⟩
theorem f0_144 : Isn code 144 (.invokevirtual 18) 3 147 := ⟨at_144, rfl⟩
theorem f0_147 : Isn code 147 (.istore 17) 2 149 := ⟨at_147, rfl⟩
theorem f0_149 : Isn code 149 (.iload 17) 2 151 := ⟨at_149, rfl⟩
theorem f0_151 : Isn code 151 (.iload 10) 2 153 := ⟨at_151, rfl⟩
theorem f0_153 : Isn code 153 (.iload 6) 2 155 := ⟨at_153, rfl⟩
theorem f0_155 : Isn code 155 (.iload 7) 2 157 := ⟨at_155, rfl⟩
theorem f0_157 : Isn code 157 (.iload 9) 2 159 := ⟨at_157, rfl⟩
theorem f0_159 : Isn code 159 (.iload 8) 2 161 := ⟨at_159, rfl⟩
theorem f0_161 : Isn code 161 (.invokestatic 22) 3 164 := ⟨at_161, rfl⟩
theorem f0_164 : Brn code 164 (.if_icmp .ne 7) 7 167 171 := ⟨at_164, rfl, by decide, by decide⟩
theorem f0_167 : Isn code 167 (.iconst 1) 1 168 := ⟨at_167, rfl⟩
theorem f0_168 : Brn code 168 (.goto 4) 4 171 172 := ⟨at_168, rfl, by decide, by decide⟩
theorem f0_171 : Isn code 171 (.iconst 0) 1 172 := ⟨at_171, rfl⟩
theorem f0_172 : Isn code 172 (.ireturn) 1 173 := ⟨at_172, rfl⟩
set_option maxRecDepth 65536 in
set_option maxHeartbeats 40000000 in
theorem rm6 (l : Launch) (Z : State) (a0 : Array Value) (hw : ∀ d ∈ tables_1, d.before a0 Z = true) (a : Addr) (h : Heap) (n0 : Nat) (s0 s1 s2 : Int32) (O : Obj Z h a "com/example/underboss/underboss/ViceFight$Side" own_nsS [.int s0, .int s1, .int s2]) :
    Ctr l Z (⟨"com/example/underboss/underboss/ViceFight$Side", "seat", "()I"⟩ : MethodName) prog_8_method_5_code 1 (some (.int)) ({ frames := 0, cells := 0, slots := 0, locals := 0 } : Room) [.ref a] h n0 (fun v h' => v = some (.int s0) ∧ h' = h) := by
  refine CtrW.intro (plainFor_of_name pn0) rfl #[.val (.ref a)] rfl ?_
  intro K T hnm hl X
  subst hl
  refine o_aload_n X f6_0 rfl rfl ?_
  refine o_getO X 0 f6_1 (hw _ (List.mem_of_getElem? (i := 15) rfl)) O rfl rfl ?_
  intro T1 X1
  refine o_retI X1 f6_4 (by decide) (by decide) ?_
  exact ⟨rfl, rfl⟩
set_option maxRecDepth 65536 in
set_option maxHeartbeats 40000000 in
theorem rm7 (l : Launch) (Z : State) (a0 : Array Value) (hw : ∀ d ∈ tables_1, d.before a0 Z = true) (x0 : Int32) (x1 : Int32) (x2 : Int32) (x3 : Int32) (x4 : Int32) (h : Heap) (n0 : Nat) (hpl : x1 ≠ 0) :
    Ctr l Z (⟨"com/example/underboss/underboss/ViceFightSeatAskedPinLaw", "expected", "(IIIII)I"⟩ : MethodName) method_3_code 7 (some (.int)) ({ frames := 0, cells := 0, slots := 0, locals := 0 } : Room) [.int x0, .int x1, .int x2, .int x3, .int x4] h n0 (fun v h' => v = some (.int (own_x x0 x1 x2 x3 x4)) ∧ h' = h) := by
  refine CtrW.intro (plainFor_of_name pn2) rfl #[.val (.int x0), .val (.int x1), .val (.int x2), .val (.int x3), .val (.int x4), .unset, .unset] rfl ?_
  intro K T hnm hl X
  subst hl
  refine o_iload_n X f7_0 rfl ?_
  refine o_if_ne X f7_1 (fun q1 => ?_) (fun q1 => ?_)
  · refine o_iload_n X f7_6 rfl ?_
    refine o_iconst 1 X f7_7 rfl ?_
    refine o_icmp_ne X f7_8 (fun q8 => ?_) (fun q8 => ?_)
    · refine o_iload_n X f7_13 rfl ?_
      refine o_iconst 2 X f7_14 rfl ?_
      refine o_isub X f7_15 ?_
      refine o_istore X f7_16 (Ls' := #[_, _, _, _, _, _, _]) rfl ?_
      refine o_iload X f7_18 rfl ?_
      refine o_iconst 1 X f7_20 rfl ?_
      refine o_iadd X f7_21 ?_
      refine o_iload X f7_22 rfl ?_
      refine o_icmp_ge X f7_24 (fun q24 => ?_) (fun q24 => ?_)
      · refine o_iload X f7_36 rfl ?_
        refine o_iconst 2 X f7_38 rfl ?_
        refine o_iadd X f7_39 ?_
        refine o_istore X f7_40 (Ls' := #[_, _, _, _, _, _, _]) rfl ?_
        refine o_iload X f7_42 rfl ?_
        refine o_iload_n X f7_44 rfl ?_
        refine o_iconst 1 X f7_45 rfl ?_
        refine o_isub X f7_46 ?_
        refine o_icmp_gt X f7_47 (fun q47 => ?_) (fun q47 => ?_)
        · refine o_iconst 0 X f7_61 rfl ?_
          refine o_retI X f7_62 (by decide) (by decide) ?_
          exact ⟨by simp only [own_x, q1, q8, q24, q47, ↓reduceIte, if_true, if_false] <;> rfl, rfl⟩
        · refine o_iload_n X f7_50 rfl ?_
          refine o_iconst 1 X f7_51 rfl ?_
          refine o_isub X f7_52 ?_
          refine o_iload X f7_53 rfl ?_
          refine o_iadd X f7_55 ?_
          refine o_iload_n X f7_56 rfl ?_
          refine o_irem X f7_57 hpl ?_
          refine o_iconst 1 X f7_58 rfl ?_
          refine o_iadd X f7_59 ?_
          refine o_retI X f7_60 (by decide) (by decide) ?_
          exact ⟨by simp only [own_x, q1, q8, q24, q47, ↓reduceIte, if_true, if_false] <;> rfl, rfl⟩
      · refine o_iload X f7_27 rfl ?_
        refine o_iconst 1 X f7_29 rfl ?_
        refine o_iadd X f7_30 ?_
        refine o_istore X f7_31 (Ls' := #[_, _, _, _, _, _, _]) rfl ?_
        refine o_goto X f7_33 ?_
        refine o_iload X f7_42 rfl ?_
        refine o_iload_n X f7_44 rfl ?_
        refine o_iconst 1 X f7_45 rfl ?_
        refine o_isub X f7_46 ?_
        refine o_icmp_gt X f7_47 (fun q47 => ?_) (fun q47 => ?_)
        · refine o_iconst 0 X f7_61 rfl ?_
          refine o_retI X f7_62 (by decide) (by decide) ?_
          exact ⟨by simp only [own_x, q1, q8, q24, q47, ↓reduceIte, if_true, if_false] <;> rfl, rfl⟩
        · refine o_iload_n X f7_50 rfl ?_
          refine o_iconst 1 X f7_51 rfl ?_
          refine o_isub X f7_52 ?_
          refine o_iload X f7_53 rfl ?_
          refine o_iadd X f7_55 ?_
          refine o_iload_n X f7_56 rfl ?_
          refine o_irem X f7_57 hpl ?_
          refine o_iconst 1 X f7_58 rfl ?_
          refine o_iadd X f7_59 ?_
          refine o_retI X f7_60 (by decide) (by decide) ?_
          exact ⟨by simp only [own_x, q1, q8, q24, q47, ↓reduceIte, if_true, if_false] <;> rfl, rfl⟩
    · refine o_iload_n X f7_11 rfl ?_
      refine o_retI X f7_12 (by decide) (by decide) ?_
      exact ⟨by simp only [own_x, q1, q8, ↓reduceIte, if_true, if_false] <;> rfl, rfl⟩
  · refine o_iload_n X f7_4 rfl ?_
    refine o_retI X f7_5 (by decide) (by decide) ?_
    exact ⟨by simp only [own_x, q1, ↓reduceIte, if_true, if_false] <;> rfl, rfl⟩
set_option maxRecDepth 65536 in
set_option maxHeartbeats 40000000 in
theorem rm5 (l : Launch) (Z : State) (a0 : Array Value) (hw : ∀ d ∈ tables_1, d.before a0 Z = true) (f : Addr) (x0 : Int32) (x1 : Int32) (h : Heap) (n0 : Nat) (pa pb wn cr sd : Addr) (mo s0 s1 s2 t0 t1 t2 : Int32) (hp : 0 ≤ x0.toInt) (hl1 : 2 ≤ x1.toInt) (hl2 : x1.toInt ≤ 17) (hpl : x1 ≠ 0) (OF : Obj Z h f "com/example/underboss/underboss/ViceFight" own_nsV [.ref wn, .ref cr, .ref sd, .int mo]) (AS : AL Z h sd (.object "com/example/underboss/underboss/ViceFight$Side") [.ref pa, .ref pb]) (OA : Obj Z h pa "com/example/underboss/underboss/ViceFight$Side" own_nsS [.int s0, .int s1, .int s2]) (OD : Obj Z h pb "com/example/underboss/underboss/ViceFight$Side" own_nsS [.int t0, .int t1, .int t2]) :
    Ctr l Z (⟨"com/example/underboss/underboss/ViceFight", "seatAsked", "(II)I"⟩ : MethodName) prog_7_method_7_code 6 (some (.int)) ({ frames := 1, cells := 0, slots := 0, locals := 16 } : Room) [.ref f, .int x0, .int x1] h n0 (fun v h' => v = some (.int (own_sa x0 x1 s0 t0)) ∧ h' = h) := by
  refine CtrW.intro (plainFor_of_name pn1) rfl #[.val (.ref f), .val (.int x0), .val (.int x1), .unset, .unset, .unset] rfl ?_
  intro K T hnm hl X
  subst hl
  have loop : ∀ (n : Nat) (kk se i : Int32) (T : State), St K Z "com/example/underboss/underboss/ViceFight" prog_7_method_7_code 6 (some (.int)) ({ frames := 1, cells := 0, slots := 0, locals := 16 } : Room) n0 0 0 T h → 1 ≤ i.toInt → i.toInt + n = x1.toInt → Go K n0 0 0 (fun v h' => v = some (.int (own_lp t0 x1 n kk se)) ∧ h' = h) T 33 #[.val (.ref f), .val (.int x0), .val (.int x1), .val (.int kk), .val (.int se), .val (.int i)] [] := by
    intro n
    induction n with
    | zero =>
      intro kk se i T X h1 h2
      refine o_iload X f5_33 rfl ?_
      refine o_iload_n X f5_35 rfl ?_
      refine o_icmp_ge_t X f5_36 (by rw [Int32.lt_iff_toInt_lt]; omega) ?_
      refine o_iconst 0 X f5_80 rfl ?_
      refine o_retI X f5_81 (by decide) (by decide) ?_
      exact ⟨rfl, rfl⟩
    | succ n ih =>
      intro kk se i T X h1 h2
      have ei : (i + 1).toInt = i.toInt + 1 := own_add (by omega) (by omega) (by decide) (by decide)
      refine o_iload X f5_33 rfl ?_
      refine o_iload_n X f5_35 rfl ?_
      refine o_icmp_ge_f X f5_36 (by rw [Int32.lt_iff_toInt_lt]; omega) ?_
      refine o_iload X f5_39 rfl ?_
      refine o_iload_n X f5_41 rfl ?_
      refine o_irem X f5_42 hpl ?_
      refine o_iconst 1 X f5_43 rfl ?_
      refine o_iadd X f5_44 ?_
      refine o_istore X f5_45 (Ls' := #[_, _, _, _, _, _]) rfl ?_
      refine o_iload X f5_47 rfl ?_
      refine o_aload_n X f5_49 rfl rfl ?_
      refine o_getO X 2 f5_50 (hw _ (List.mem_of_getElem? (i := 36) rfl)) OF rfl rfl ?_
      intro T1 X1
      refine o_iconst 1 X1 f5_53 rfl ?_
      refine o_aaload X1 rfl f5_54 AS (by decide) rfl ?_
      refine o_callV X1 4 f5_55 (hw _ (List.mem_of_getElem? (i := 45) rfl)) (hw _ (List.mem_of_getElem? (i := 46) rfl)) (hw _ (List.mem_of_getElem? (i := 48) rfl)) (hw _ (List.mem_of_getElem? (i := 48) rfl)) (hw _ (List.mem_of_getElem? (i := 47) rfl)) (by decide) (hw _ (List.mem_of_getElem? (i := 49) rfl)) (hw _ (List.mem_of_getElem? (i := 3) rfl)) (rm6 K.l Z a0 hw pb _ n0 _ _ _ OD) OD.1 (lenOf pd1 rfl) rfl rfl (by first | exact Nat.zero_le _ | simp [Value.category]) (by decide) ?_
      rintro T2 h2 v2 ⟨rfl, rfl⟩ X2
      refine o_v1 ?_
      refine o_icmp_ne X2 f5_58 (fun q58 => ?_) (fun q58 => ?_)
      · refine o_iload_n X2 f5_64 rfl ?_
        refine o_if_ne X2 f5_65 (fun q65 => ?_) (fun q65 => ?_)
        · refine o_iinc (-1) X2 f5_71 rfl rfl (Ls' := #[_, _, _, _, _, _]) rfl ?_
          refine o_iinc 1 X2 f5_74 rfl rfl (Ls' := #[_, _, _, _, _, _]) rfl ?_
          refine o_goto X2 f5_77 ?_
          refine Go.imp (ih _ _ _ _ X2 (by rw [ei]; omega) (by rw [ei]; omega)) fun v h q => ⟨?_, q.2⟩
          rw [q.1]; simp only [own_lp, q58, q65, ↓reduceIte, if_true, if_false]
        · refine o_iload X2 f5_68 rfl ?_
          refine o_retI X2 f5_70 (by decide) (by decide) ?_
          exact ⟨by simp only [own_lp, q58, q65, ↓reduceIte, if_true, if_false], rfl⟩
      · refine o_goto X2 f5_61 ?_
        refine o_iinc 1 X2 f5_74 rfl rfl (Ls' := #[_, _, _, _, _, _]) rfl ?_
        refine o_goto X2 f5_77 ?_
        refine Go.imp (ih _ _ _ _ X2 (by rw [ei]; omega) (by rw [ei]; omega)) fun v h q => ⟨?_, q.2⟩
        rw [q.1]; simp only [own_lp, q58, ↓reduceIte, if_true, if_false]
  refine o_iload_n X f5_0 rfl ?_
  refine o_iconst 2 X f5_1 rfl ?_
  refine o_icmp_ge X f5_2 (fun q2 => ?_) (fun q2 => ?_)
  · refine o_iload_n X f5_15 rfl ?_
    refine o_iconst 2 X f5_16 rfl ?_
    refine o_isub X f5_17 ?_
    refine o_istore_n X f5_18 (Ls' := #[_, _, _, _, _, _]) rfl ?_
    refine o_aload_n X f5_19 rfl rfl ?_
    refine o_getO X 2 f5_20 (hw _ (List.mem_of_getElem? (i := 36) rfl)) OF rfl rfl ?_
    intro T1 X1
    refine o_iconst 0 X1 f5_23 rfl ?_
    refine o_aaload X1 rfl f5_24 AS (by decide) rfl ?_
    refine o_callV X1 4 f5_25 (hw _ (List.mem_of_getElem? (i := 45) rfl)) (hw _ (List.mem_of_getElem? (i := 46) rfl)) (hw _ (List.mem_of_getElem? (i := 48) rfl)) (hw _ (List.mem_of_getElem? (i := 48) rfl)) (hw _ (List.mem_of_getElem? (i := 47) rfl)) (by decide) (hw _ (List.mem_of_getElem? (i := 49) rfl)) (hw _ (List.mem_of_getElem? (i := 3) rfl)) (rm6 K.l Z a0 hw pa _ n0 _ _ _ OA) OA.1 (lenOf pd1 rfl) rfl rfl (by first | exact Nat.zero_le _ | simp [Value.category]) (by decide) ?_
    rintro T2 h2 v2 ⟨rfl, rfl⟩ X2
    refine o_v1 ?_
    refine o_istore X2 f5_28 (Ls' := #[_, _, _, _, _, _]) rfl ?_
    refine o_iconst 1 X2 f5_30 rfl ?_
    refine o_istore X2 f5_31 (Ls' := #[_, _, _, _, _, _]) rfl ?_
    refine Go.imp (loop (x1.toInt - 1).toNat _ _ _ _ X2 (by decide) (by rw [own_one]; omega)) fun v h q => ⟨?_, q.2⟩
    rw [q.1]; simp only [own_sa, q2, ↓reduceIte, if_true, if_false]
  · refine o_aload_n X f5_5 rfl rfl ?_
    refine o_getO X 2 f5_6 (hw _ (List.mem_of_getElem? (i := 36) rfl)) OF rfl rfl ?_
    intro T3 X3
    refine o_iload_n X3 f5_9 rfl ?_
    rcases own_01 hp q2 with rfl | rfl
    · refine o_aaload X3 rfl f5_10 AS (by decide) rfl ?_
      refine o_callV X3 4 f5_11 (hw _ (List.mem_of_getElem? (i := 45) rfl)) (hw _ (List.mem_of_getElem? (i := 46) rfl)) (hw _ (List.mem_of_getElem? (i := 48) rfl)) (hw _ (List.mem_of_getElem? (i := 48) rfl)) (hw _ (List.mem_of_getElem? (i := 47) rfl)) (by decide) (hw _ (List.mem_of_getElem? (i := 49) rfl)) (hw _ (List.mem_of_getElem? (i := 3) rfl)) (rm6 K.l Z a0 hw pa _ n0 _ _ _ OA) OA.1 (lenOf pd1 rfl) rfl rfl (by first | exact Nat.zero_le _ | simp [Value.category]) (by decide) ?_
      rintro T4 h4 v4 ⟨rfl, rfl⟩ X4
      refine o_v1 ?_
      refine o_retI X4 f5_14 (by decide) (by decide) ?_
      exact ⟨rfl, rfl⟩
    · refine o_aaload X3 rfl f5_10 AS (by decide) rfl ?_
      refine o_callV X3 4 f5_11 (hw _ (List.mem_of_getElem? (i := 45) rfl)) (hw _ (List.mem_of_getElem? (i := 46) rfl)) (hw _ (List.mem_of_getElem? (i := 48) rfl)) (hw _ (List.mem_of_getElem? (i := 48) rfl)) (hw _ (List.mem_of_getElem? (i := 47) rfl)) (by decide) (hw _ (List.mem_of_getElem? (i := 49) rfl)) (hw _ (List.mem_of_getElem? (i := 3) rfl)) (rm6 K.l Z a0 hw pb _ n0 _ _ _ OD) OD.1 (lenOf pd1 rfl) rfl rfl (by first | exact Nat.zero_le _ | simp [Value.category]) (by decide) ?_
      rintro T5 h5 v5 ⟨rfl, rfl⟩ X5
      refine o_v1 ?_
      refine o_retI X5 f5_14 (by decide) (by decide) ?_
      exact ⟨rfl, rfl⟩
set_option maxRecDepth 65536 in
set_option maxHeartbeats 40000000 in
theorem rm0 (l : Launch) (Z : State) (a0 : Array Value) (hw : ∀ d ∈ tables_1, d.before a0 Z = true) (x0 : Int32) (x1 : Int32) (x2 : Int32) (x3 : Int32) (x4 : Int32) (x5 : Int32) (h : Heap) (n0 : Nat) (hn0 : n0 ≤ h.size) :
    CtrW l Z x code 18 (some .boolean) tables_1 room_1 24 128 [.int x0, .int x1, .int x2, .int x3, .int x4, .int x5] h n0 (fun v _ => v = some (.int 1)) := by
  refine CtrW.intro (plainFor_of_name pn2) rfl #[.val (.int x0), .val (.int x1), .val (.int x2), .val (.int x3), .val (.int x4), .val (.int x5), .unset, .unset, .unset, .unset, .unset, .unset, .unset, .unset, .unset, .unset, .unset, .unset] rfl ?_
  intro K T hnm hl X
  subst hl
  refine o_iconst 2 X f0_0 rfl ?_
  refine o_iload_n X f0_1 rfl ?_
  refine o_bipush 15 X f0_2 rfl ?_
  refine o_iand X f0_4 ?_
  refine o_iadd X f0_5 ?_
  refine o_gen fun pl e_pl => ?_
  have hpl1 : 2 ≤ pl.toInt := by rw [e_pl]; exact (own_p15 x0).1
  have hpl2 : pl.toInt ≤ 17 := by rw [e_pl]; exact (own_p15 x0).2
  have e1 : (pl - 1).toInt = pl.toInt - 1 := own_sub (by omega) (by omega) (by decide) (by decide)
  have e2 : (pl + 2).toInt = pl.toInt + 2 := own_add (by omega) (by omega) (by decide) (by decide)
  have r1 := own_rem x1 pl (by omega)
  have r2 := own_rem x2 (pl - 1) (by omega)
  have r3 := own_rem x3 (pl + 2) (by omega)
  refine o_istore X f0_6 (Ls' := #[_, _, _, _, _, _, _, _, _, _, _, _, _, _, _, _, _, _]) rfl ?_
  refine o_iconst 1 X f0_8 rfl ?_
  refine o_iload_n X f0_9 rfl ?_
  refine o_ldc X f0_10 (hw _ (List.mem_of_getElem? (i := 0) rfl)) ?_
  refine o_iand X f0_12 ?_
  refine o_iload X f0_13 rfl ?_
  refine o_irem X f0_15 (own_ne (by omega)) ?_
  refine o_iadd X f0_16 ?_
  refine o_gen fun pA e_pA => ?_
  have hA : pA.toInt = 1 + ((x1 &&& 2147483647) % pl).toInt := by rw [e_pA]; exact own_add (by decide) (by decide) (by omega) (by omega)
  refine o_istore X f0_17 (Ls' := #[_, _, _, _, _, _, _, _, _, _, _, _, _, _, _, _, _, _]) rfl ?_
  refine o_iconst 1 X f0_19 rfl ?_
  refine o_iload_n X f0_20 rfl ?_
  refine o_ldc X f0_21 (hw _ (List.mem_of_getElem? (i := 0) rfl)) ?_
  refine o_iand X f0_23 ?_
  refine o_iload X f0_24 rfl ?_
  refine o_iconst 1 X f0_26 rfl ?_
  refine o_isub X f0_27 ?_
  refine o_irem X f0_28 (own_ne (by omega)) ?_
  refine o_iadd X f0_29 ?_
  refine o_gen fun dO e_dO => ?_
  have hD : dO.toInt = 1 + ((x2 &&& 2147483647) % (pl - 1)).toInt := by rw [e_dO]; exact own_add (by decide) (by decide) (by omega) (by omega)
  refine o_istore X f0_30 (Ls' := #[_, _, _, _, _, _, _, _, _, _, _, _, _, _, _, _, _, _]) rfl ?_
  refine o_iload X f0_32 rfl ?_
  refine o_iconst 1 X f0_34 rfl ?_
  refine o_isub X f0_35 ?_
  refine o_iload X f0_36 rfl ?_
  refine o_iadd X f0_38 ?_
  refine o_iload X f0_39 rfl ?_
  refine o_irem X f0_41 (own_ne (by omega)) ?_
  refine o_iconst 1 X f0_42 rfl ?_
  refine o_iadd X f0_43 ?_
  refine o_gen fun pD e_pD => ?_
  refine o_istore X f0_44 (Ls' := #[_, _, _, _, _, _, _, _, _, _, _, _, _, _, _, _, _, _]) rfl ?_
  refine o_iload_n X f0_46 rfl ?_
  refine o_ldc X f0_47 (hw _ (List.mem_of_getElem? (i := 0) rfl)) ?_
  refine o_iand X f0_49 ?_
  refine o_iload X f0_50 rfl ?_
  refine o_iconst 2 X f0_52 rfl ?_
  refine o_iadd X f0_53 ?_
  refine o_irem X f0_54 (own_ne (by omega)) ?_
  refine o_gen fun pc1 e_pc => ?_
  have hpl0 : 0 ≤ pc1.toInt := by rw [e_pc]; exact r3.1
  have hpc : pc1.toInt ≤ pl.toInt + 1 := by rw [e_pc]; omega
  refine o_istore X f0_55 (Ls' := #[_, _, _, _, _, _, _, _, _, _, _, _, _, _, _, _, _, _]) rfl ?_
  refine o_iload X f0_57 rfl ?_
  refine o_iconst 1 X f0_59 rfl ?_
  refine o_iand X f0_60 ?_
  refine o_bool_if_eq X f0_61 f0_64 f0_65 f0_68 ?_
  refine o_istore X f0_69 (Ls' := #[_, _, _, _, _, _, _, _, _, _, _, _, _, _, _, _, _, _]) rfl ?_
  refine o_iload X f0_71 rfl ?_
  refine o_iconst 2 X f0_73 rfl ?_
  refine o_iand X f0_74 ?_
  refine o_bool_if_eq X f0_75 f0_78 f0_79 f0_82 ?_
  refine o_istore X f0_83 (Ls' := #[_, _, _, _, _, _, _, _, _, _, _, _, _, _, _, _, _, _]) rfl ?_
  refine o_iload X f0_85 rfl ?_
  refine o_iconst 2 X f0_87 rfl ?_
  refine o_ishr X f0_88 ?_
  refine o_istore X f0_89 (Ls' := #[_, _, _, _, _, _, _, _, _, _, _, _, _, _, _, _, _, _]) rfl ?_
  refine o_new X f0_91 (hw _ (List.mem_of_getElem? (i := 1) rfl)) (hw _ (List.mem_of_getElem? (i := 2) rfl)) (hw _ (List.mem_of_getElem? (i := 3) rfl)) (by decide) ?_
  intro T1 h1 pa e1 X1 E1 A1 D1
  have paF1 := Obj.new (ns := own_nsS) (vs := [.int 0, .int 0, .int 0]) A1 D1 (own_ldS Z a0 hw) [.int, .int, .boolean] (by decide) rfl
  have ha_pa : n0 ≤ pa := e1 ▸ hn0
  have z1 := Nat.le_trans hn0 E1.1
  refine o_dup X1 f0_94 rfl ?_
  refine o_iload X1 f0_95 rfl ?_
  refine o_iload X1 f0_97 rfl ?_
  refine o_iload X1 f0_99 rfl ?_
  refine o_callN X1 6 f0_101 rfl (hw _ (List.mem_of_getElem? (i := 4) rfl)) (hw _ (List.mem_of_getElem? (i := 5) rfl)) (hw _ (List.mem_of_getElem? (i := 6) rfl)) (hw _ (List.mem_of_getElem? (i := 3) rfl)) (by decide) (rm1 K.l Z a0 hw pa _ _ _ _ n0 ha_pa (own_b01 _) paF1) (lenOf pd2 rfl) rfl rfl (by first | exact Nat.zero_le _ | simp [Value.category]) (by decide) ?_
  rintro T2 h2 v2 ⟨rfl, Kp2, paF2⟩ X2
  refine o_v0 ?_
  have z2 := Nat.le_trans z1 Kp2.1
  refine o_astore X2 f0_104 rfl (Ls' := #[_, _, _, _, _, _, _, _, _, _, _, _, _, _, _, _, _, _]) rfl ?_
  refine o_new X2 f0_106 (hw _ (List.mem_of_getElem? (i := 1) rfl)) (hw _ (List.mem_of_getElem? (i := 2) rfl)) (hw _ (List.mem_of_getElem? (i := 3) rfl)) (by decide) ?_
  intro T3 h3 pb e3 X3 E3 A3 D3
  have pbF3 := Obj.new (ns := own_nsS) (vs := [.int 0, .int 0, .int 0]) A3 D3 (own_ldS Z a0 hw) [.int, .int, .boolean] (by decide) rfl
  have n_pa_pb : pa ≠ pb := Nat.ne_of_lt (e3 ▸ paF2.lt)
  have n_pb_pa := n_pa_pb.symm
  have ha_pb : n0 ≤ pb := e3 ▸ z2
  have paF3 := paF2.ext E3
  have z3 := Nat.le_trans z2 E3.1
  refine o_dup X3 f0_109 rfl ?_
  refine o_iload X3 f0_110 rfl ?_
  refine o_iload X3 f0_112 rfl ?_
  refine o_iconst 1 X3 f0_114 rfl ?_
  refine o_iadd X3 f0_115 ?_
  refine o_iload X3 f0_116 rfl ?_
  refine o_callN X3 6 f0_118 rfl (hw _ (List.mem_of_getElem? (i := 4) rfl)) (hw _ (List.mem_of_getElem? (i := 5) rfl)) (hw _ (List.mem_of_getElem? (i := 6) rfl)) (hw _ (List.mem_of_getElem? (i := 3) rfl)) (by decide) (rm1 K.l Z a0 hw pb _ _ _ _ n0 ha_pb (own_b01 _) pbF3) (lenOf pd2 rfl) rfl rfl (by first | exact Nat.zero_le _ | simp [Value.category]) (by decide) ?_
  rintro T4 h4 v4 ⟨rfl, Kp4, pbF4⟩ X4
  refine o_v0 ?_
  have paF4 := paF3.keep Kp4 (ninS n_pa_pb nin0)
  have z4 := Nat.le_trans z3 Kp4.1
  refine o_astore X4 f0_121 rfl (Ls' := #[_, _, _, _, _, _, _, _, _, _, _, _, _, _, _, _, _, _]) rfl ?_
  refine o_new X4 f0_123 (hw _ (List.mem_of_getElem? (i := 21) rfl)) (hw _ (List.mem_of_getElem? (i := 22) rfl)) (hw _ (List.mem_of_getElem? (i := 23) rfl)) (by decide) ?_
  intro T5 h5 f e5 X5 E5 A5 D5
  have fF5 := Obj.new (ns := own_nsV) (vs := [.null, .null, .null, .int 0]) A5 D5 (own_ldV Z a0 hw) [(.array .int), (.array .int), (.array (.object "com/example/underboss/underboss/ViceFight$Side")), .int] (by decide) rfl
  have n_pa_f : pa ≠ f := Nat.ne_of_lt (e5 ▸ paF4.lt)
  have n_f_pa := n_pa_f.symm
  have n_pb_f : pb ≠ f := Nat.ne_of_lt (e5 ▸ pbF4.lt)
  have n_f_pb := n_pb_f.symm
  have ha_f : n0 ≤ f := e5 ▸ z4
  have paF5 := paF4.ext E5
  have pbF5 := pbF4.ext E5
  have z5 := Nat.le_trans z4 E5.1
  refine o_dup X5 f0_126 rfl ?_
  refine o_aload X5 f0_127 rfl rfl ?_
  refine o_aload X5 f0_129 rfl rfl ?_
  refine o_iload X5 f0_131 rfl ?_
  refine o_callN X5 6 f0_133 rfl (hw _ (List.mem_of_getElem? (i := 24) rfl)) (hw _ (List.mem_of_getElem? (i := 25) rfl)) (hw _ (List.mem_of_getElem? (i := 26) rfl)) (hw _ (List.mem_of_getElem? (i := 23) rfl)) (by decide) (rm4 K.l Z a0 hw f pa pb _ _ n0 z5 ha_f _ _ fF5 paF5 pbF5 n_pa_f n_pb_f) (lenOf pd3 rfl) rfl rfl (by first | exact Nat.zero_le _ | simp [Value.category]) (by decide) ?_
  rintro T6 h6 v6 ⟨rfl, Kp6, wn, cr, sd, fF6, -, -, AS, -⟩ X6
  refine o_v0 ?_
  have paF6 := paF5.keep Kp6 (ninS n_pa_f nin0)
  have pbF6 := pbF5.keep Kp6 (ninS n_pb_f nin0)
  have z6 := Nat.le_trans z5 Kp6.1
  refine o_astore X6 f0_136 rfl (Ls' := #[_, _, _, _, _, _, _, _, _, _, _, _, _, _, _, _, _, _]) rfl ?_
  refine o_aload X6 f0_138 rfl rfl ?_
  refine o_iload X6 f0_140 rfl ?_
  refine o_iload X6 f0_142 rfl ?_
  refine o_callV X6 6 f0_144 (hw _ (List.mem_of_getElem? (i := 40) rfl)) (hw _ (List.mem_of_getElem? (i := 41) rfl)) (hw _ (List.mem_of_getElem? (i := 43) rfl)) (hw _ (List.mem_of_getElem? (i := 43) rfl)) (hw _ (List.mem_of_getElem? (i := 42) rfl)) (by decide) (hw _ (List.mem_of_getElem? (i := 44) rfl)) (hw _ (List.mem_of_getElem? (i := 23) rfl)) (rm5 K.l Z a0 hw f _ _ _ n0 pa pb wn cr sd _ _ _ _ _ _ _ hpl0 hpl1 hpl2 (own_ne (by omega)) fF6 AS paF6 pbF6) fF6.1 (lenOf pd4 rfl) rfl rfl (by first | exact Nat.zero_le _ | simp [Value.category]) (by decide) ?_
  rintro T7 h7 v7 ⟨rfl, rfl⟩ X7
  refine o_v1 ?_
  refine o_istore X7 f0_147 (Ls' := #[_, _, _, _, _, _, _, _, _, _, _, _, _, _, _, _, _, _]) rfl ?_
  refine o_iload X7 f0_149 rfl ?_
  refine o_iload X7 f0_151 rfl ?_
  refine o_iload X7 f0_153 rfl ?_
  refine o_iload X7 f0_155 rfl ?_
  refine o_iload X7 f0_157 rfl ?_
  refine o_iload X7 f0_159 rfl ?_
  refine o_callS X7 6 f0_161 (hw _ (List.mem_of_getElem? (i := 50) rfl)) (hw _ (List.mem_of_getElem? (i := 51) rfl)) (hw _ (List.mem_of_getElem? (i := 52) rfl)) (hw _ (List.mem_of_getElem? (i := 53) rfl)) (by decide) (rm7 K.l Z a0 hw _ _ _ _ _ _ _ (own_ne (by omega))) (lenOf pd5 rfl) rfl rfl (by first | exact Nat.zero_le _ | simp [Value.category]) (by decide) ?_
  rintro T8 h8 v8 ⟨rfl, rfl⟩ X8
  refine o_v1 ?_
  refine o_icmp_ne_f X8 f0_164 (own_main _ _ _ _ _ (by omega) (by omega) hpl1 hpl2 (by omega) (by omega) e_pD hpl0 hpc) ?_
  refine o_iconst 1 X8 f0_167 rfl ?_
  refine o_goto X8 f0_168 ?_
  refine o_retZ X8 f0_172 (by decide) (by decide) ?_
  rfl
set_option maxRecDepth 65536 in
set_option maxHeartbeats 40000000 in
theorem comes_1 {Post : Tables → Env → Array Value → State → Outcome → State → Prop} (hpost : ∀ tb e args s v u, (limb_1_1.after args s (.returned v) u = true ∧ limb_1_2.after args s (.returned v) u = true ∧ True) → FrameEnd s (.returned v) u (Jvm.fieldLocs frame_1_writes args s ++ Jvm.arrayLocs frame_1_arrays args s ++ Jvm.staticLocs frame_1_statics s) 24 128 → Post tb e args s (.returned v) u) :
    ArmFor flags0 classFile x code maxLocals ret World_1 tables_1 room_1 Calls_1 rest_1 Pre_1 Post := by
  intro l hfl _ _ p e ha hc hk s m args below hf hA hF happ hP
  obtain ⟨hcalls, hrest, hpre⟩ := hP
  obtain ⟨-, -, -, hnamed, -, -, -, hat⟩ := (Spec.applies_iff hf).mp happ
  obtain ⟨hg, hn⟩ := and_e (Cond.before_iff.mp (show (Jvm.Cond.and given_1 narrow_1).before args s = true from hpre))
  obtain ⟨g0, r0⟩ := and_e hg
  obtain ⟨p0, r1⟩ := and_e r0
  obtain ⟨p1, r2⟩ := and_e r1
  obtain ⟨p2, r3⟩ := and_e r2
  obtain ⟨p3, r4⟩ := and_e r3
  obtain ⟨p4, r5⟩ := and_e r4
  obtain ⟨w0, w1, w2, w3, w4, w5, rfl⟩ : ∃ w0 w1 w2 w3 w4 w5 : Value, args = #[w0, w1, w2, w3, w4, w5] := by
    have hs : args.size = 6 := by simpa [Cond.value, given_1] using g0
    obtain ⟨L⟩ := args
    match L, hs with
    | [w0, w1, w2, w3, w4, w5], _ => exact ⟨w0, w1, w2, w3, w4, w5, rfl⟩
  have hw := fun d (hd : d ∈ tables_1) => atoms_spec (ws := Jvm.Cond.code x code maxLocals ret :: tables_1) hat d (List.mem_cons_of_mem _ hd)
  obtain ⟨i0, e0⟩ := is_v p0
  obtain rfl : w0 = (.int i0) := Option.some.inj e0
  obtain ⟨i1, e1⟩ := is_v p1
  obtain rfl : w1 = (.int i1) := Option.some.inj e1
  obtain ⟨i2, e2⟩ := is_v p2
  obtain rfl : w2 = (.int i2) := Option.some.inj e2
  obtain ⟨i3, e3⟩ := is_v p3
  obtain rfl : w3 = (.int i3) := Option.some.inj e3
  obtain ⟨i4, e4⟩ := is_v p4
  obtain rfl : w4 = (.int i4) := Option.some.inj e4
  obtain ⟨i5, e5⟩ := is_v r5
  obtain rfl : w5 = (.int i5) := Option.some.inj e5
  obtain ⟨n, o, h1, h2, h3, _, L, rfl, ⟨rfl, N⟩, hq⟩ := rm0 l s _ hw i0 i1 i2 i3 i4 i5 s.heap s.heap.size (Nat.le_refl _) p e ha hc hk s m _ below hf ((Spec.applies_iff_loose hf).mp happ).1 ⟨rfl, State.Warmed39.refl s, rfl⟩ trivial
  refine ⟨n, _, h1, h2, h3, hpost _ _ _ _ _ _ ⟨Cond.after_iff.mpr rfl, Cond.after_iff.mpr (eq_i res_at (Term.int_eval (1)) rfl), trivial⟩ ⟨hq.1, hq.2.1, (hq.2.2.sift fun y hy => Or.inr (N y hy)).mono (by decide) (by decide)⟩⟩
theorem main_1_1 : Claimed_1_1 := comes_1 fun _ _ _ _ _ _ h hF => ⟨h.1, hF⟩
theorem main_1_2 : Claimed_1_2 := comes_1 fun _ _ _ _ _ _ h hF => ⟨h.2.1, hF⟩
end Jvm.Pilot.@@N@@
namespace Jvm.Pilot.@@N@@
open Jvm Jvm.ClassFile Sem Op Lib Jvm.Free Jvm.Stand Jvm.Pilot.@@N@@.Jvm.D
/-! MADE BY PROGRAM (witnessworld.py) out of the Statement's table words and the real class files: 12 classes; the members and pool entries that the words name. The judged class is class 1, her method 1. -/
namespace start1
open Jvm.ClassFile
def u (s : String) : CpInfo := .utf8 (stringToUtf16 s)
/-- a pool by its gaps: so many unusable entries, then the entry; so many at the end -/
def gap : Nat → List CpInfo → List CpInfo
  | 0, r => r
  | n + 1, r => .unusable :: gap n r
def poolList (es : List (Nat × CpInfo)) (last : Nat) : List CpInfo := es.foldr (fun e r => gap e.1 (e.2 :: r)) (gap last [])
def pool (es : List (Nat × CpInfo)) (last : Nat) : Array CpInfo := ⟨poolList es last⟩
def fileOf (pool : Array CpInfo) (this : Nat) (attrs : Array Attribute := #[]) (ms : Array MethodInfo := #[]) (fl : Nat := 33) (sup : Nat := 0) (ifs : Array Nat := #[]) (fds : Array FieldInfo := #[]) : ClassFile where
  minorVersion := 0
  majorVersion := 65
  constantPool := pool
  accessFlags := fl
  thisClass := this
  superClass := sup
  interfaces := ifs
  fields := fds
  methods := ms
  attributes := attrs
def plain (name : String) (sup : Option ClassId) : Class where
  name := name
  kind := .ordinary
  loader := none
  accessFlags := 33
  super := sup
  interfaces := #[]
  cf := none
  fields := #[]
  methods := #[]
  instanceTypes := #[]
  staticTypes := #[]
  resolved := #[]
  callSites := []
  init := .initialized
  statics := none
  mirror := none

def pool0 : Array CpInfo := pool [(5, u "<init>"), (0, u "()V"), (1, .class_ 10), (1, u "java/lang/Object")] 113

def k0c0 : Code := { maxStack := 0, maxLocals := 1, code := object_method_1_code, exceptionTable := #[], attributes := #[] }
def k0m0 : Method := { name := "<init>", desc := "()V", sig := { parameters := [], returnType := none }, accessFlags := 1, code := some k0c0 }
/-- java/lang/Object -/
def k0 : Class := { plain "java/lang/Object" none with
  accessFlags := 33
  interfaces := #[]
  cf := some (fileOf pool0 8 #[] #[{ accessFlags := 1, nameIndex := 5, descriptorIndex := 6, attributes := #[] }] 33 0 #[] #[])
  fields := #[]
  methods := #[k0m0]
  instanceTypes := #[]
  staticTypes := #[]
  resolved := Array.replicate 124 none
  statics := none }

def pool1 : Array CpInfo := pool [(2, .class_ 4), (1, u "java/lang/Object"), (0, u "<init>"), (0, u "()V"), (0, .integer 2147483647), (0, .class_ 9), (0, u "com/example/underboss/underboss/ViceFight$Side"), (0, .methodref 8 11), (0, .nameAndType 5 12), (0, u "(IIZ)V"), (0, .class_ 14), (0, u "com/example/underboss/underboss/ViceFight"), (0, .methodref 13 16), (0, .nameAndType 5 17), (0, u "(Lcom/example/underboss/underboss/ViceFight$Side;Lcom/example/underboss/underboss/ViceFight$Side;I)V"), (0, .methodref 13 19), (0, .nameAndType 20 21), (0, u "seatAsked"), (0, u "(II)I"), (0, .methodref 23 24), (0, .class_ 25), (0, .nameAndType 26 27), (0, u "com/example/underboss/underboss/ViceFightSeatAskedPinLaw"), (0, u "expected"), (0, u "(IIIII)I"), (2, u "law"), (0, u "(IIIIII)Z")] 5

def k1m0 : Method := { name := "<init>", desc := "()V", sig := { parameters := [], returnType := none }, accessFlags := 2, code := none }
def k1c1 : Code := { maxStack := 6, maxLocals := 18, code := code, exceptionTable := #[], attributes := #[] }
def k1m1 : Method := { name := "law", desc := "(IIIIII)Z", sig := { parameters := [.int, .int, .int, .int, .int, .int], returnType := some .boolean }, accessFlags := 9, code := some k1c1 }
def k1c2 : Code := { maxStack := 3, maxLocals := 7, code := method_3_code, exceptionTable := #[], attributes := #[] }
def k1m2 : Method := { name := "expected", desc := "(IIIII)I", sig := { parameters := [.int, .int, .int, .int, .int], returnType := some .int }, accessFlags := 10, code := some k1c2 }
/-- com/example/underboss/underboss/ViceFightSeatAskedPinLaw -/
def k1 : Class := { plain "com/example/underboss/underboss/ViceFightSeatAskedPinLaw" (some 0) with
  accessFlags := 49
  interfaces := #[]
  cf := some (fileOf pool1 23 #[] #[{ accessFlags := 2, nameIndex := 5, descriptorIndex := 6, attributes := #[] }, { accessFlags := 9, nameIndex := 30, descriptorIndex := 31, attributes := #[] }, { accessFlags := 10, nameIndex := 26, descriptorIndex := 27, attributes := #[] }] 49 2 #[] #[])
  fields := #[]
  methods := #[k1m0, k1m1, k1m2]
  instanceTypes := #[]
  staticTypes := #[]
  resolved := Array.replicate 37 none
  statics := none }

def pool2 : Array CpInfo := pool [(1, .methodref 2 3), (0, .class_ 4), (0, .nameAndType 5 6), (0, u "java/lang/Object"), (0, u "<init>"), (0, u "()V"), (0, .class_ 8), (0, u "java/lang/Record")] 13

def k2c0 : Code := { maxStack := 1, maxLocals := 1, code := jdk_30_method_1_code, exceptionTable := #[], attributes := #[] }
def k2m0 : Method := { name := "<init>", desc := "()V", sig := { parameters := [], returnType := none }, accessFlags := 4, code := some k2c0 }
/-- java/lang/Record -/
def k2 : Class := { plain "java/lang/Record" (some 0) with
  accessFlags := 1057
  interfaces := #[]
  cf := some (fileOf pool2 7 #[] #[{ accessFlags := 4, nameIndex := 5, descriptorIndex := 6, attributes := #[] }] 1057 2 #[] #[])
  fields := #[]
  methods := #[k2m0]
  instanceTypes := #[]
  staticTypes := #[]
  resolved := Array.replicate 22 none
  statics := none }

def pool3 : Array CpInfo := pool [(1, .methodref 2 3), (0, .class_ 4), (0, .nameAndType 5 6), (0, u "java/lang/Record"), (0, u "<init>"), (0, u "()V"), (0, .fieldref 8 9), (0, .class_ 10), (0, .nameAndType 11 12), (0, u "com/example/underboss/underboss/ViceFight$Side"), (0, u "seat"), (0, u "I"), (0, .fieldref 8 14), (0, .nameAndType 15 12), (0, u "business"), (0, .fieldref 8 17), (0, .nameAndType 18 19), (0, u "gang"), (0, u "Z"), (12, u "(IIZ)V"), (4, u "()I"), (5, .class_ 44), (0, u "com/example/underboss/underboss/ViceFight")] 21

def k3c0 : Code := { maxStack := 2, maxLocals := 4, code := prog_8_method_1_code, exceptionTable := #[], attributes := #[] }
def k3m0 : Method := { name := "<init>", desc := "(IIZ)V", sig := { parameters := [.int, .int, .boolean], returnType := none }, accessFlags := 0, code := some k3c0 }
def k3c1 : Code := { maxStack := 1, maxLocals := 1, code := prog_8_method_5_code, exceptionTable := #[], attributes := #[] }
def k3m1 : Method := { name := "seat", desc := "()I", sig := { parameters := [], returnType := some .int }, accessFlags := 1, code := some k3c1 }
/-- com/example/underboss/underboss/ViceFight$Side -/
def k3 : Class := { plain "com/example/underboss/underboss/ViceFight$Side" (some 2) with
  accessFlags := 48
  interfaces := #[]
  cf := some (fileOf pool3 8 #[.nestHost 43] #[{ accessFlags := 0, nameIndex := 5, descriptorIndex := 32, attributes := #[] }, { accessFlags := 1, nameIndex := 11, descriptorIndex := 37, attributes := #[] }] 48 2 #[] #[{ accessFlags := 18, nameIndex := 11, descriptorIndex := 12, attributes := #[] }, { accessFlags := 18, nameIndex := 15, descriptorIndex := 12, attributes := #[] }, { accessFlags := 18, nameIndex := 18, descriptorIndex := 19, attributes := #[] }])
  fields := #[{ name := "seat", type := .int, accessFlags := 18, slot := 0, constantValue := 0 }, { name := "business", type := .int, accessFlags := 18, slot := 1, constantValue := 0 }, { name := "gang", type := .boolean, accessFlags := 18, slot := 2, constantValue := 0 }]
  methods := #[k3m0, k3m1]
  instanceTypes := #[.int, .int, .boolean]
  staticTypes := #[]
  resolved := Array.replicate 66 none
  statics := none }

def pool4 : Array CpInfo := pool [(1, .methodref 2 3), (0, .class_ 4), (0, .nameAndType 5 6), (0, u "java/lang/Object"), (0, u "<init>"), (0, u "()V"), (0, .class_ 8), (0, u "com/example/underboss/underboss/ViceFight"), (0, .fieldref 7 10), (0, .nameAndType 11 12), (0, u "wins"), (0, u "[I"), (0, .fieldref 7 14), (0, .nameAndType 15 12), (0, u "cards"), (0, .class_ 17), (0, u "com/example/underboss/underboss/ViceFight$Side"), (0, .fieldref 7 19), (0, .nameAndType 20 21), (0, u "sides"), (0, u "[Lcom/example/underboss/underboss/ViceFight$Side;"), (0, .fieldref 7 23), (0, .nameAndType 24 25), (0, u "money"), (0, u "I"), (0, .methodref 16 27), (0, .nameAndType 28 29), (0, u "seat"), (0, u "()I"), (7, u "(II)I"), (0, u "ATTACKER"), (2, u "DEFENDER"), (1, u "UNDECIDED"), (1, u "SIDES"), (1, u "WINS_NEEDED"), (1, u "(Lcom/example/underboss/underboss/ViceFight$Side;Lcom/example/underboss/underboss/ViceFight$Side;I)V"), (6, u "seatAsked")] 13

def k4c0 : Code := { maxStack := 5, maxLocals := 4, code := prog_7_method_1_code, exceptionTable := #[], attributes := #[] }
def k4m0 : Method := { name := "<init>", desc := "(Lcom/example/underboss/underboss/ViceFight$Side;Lcom/example/underboss/underboss/ViceFight$Side;I)V", sig := { parameters := [(.object "com/example/underboss/underboss/ViceFight$Side"), (.object "com/example/underboss/underboss/ViceFight$Side"), .int], returnType := none }, accessFlags := 0, code := some k4c0 }
def k4c1 : Code := { maxStack := 3, maxLocals := 6, code := prog_7_method_7_code, exceptionTable := #[], attributes := #[] }
def k4m1 : Method := { name := "seatAsked", desc := "(II)I", sig := { parameters := [.int, .int], returnType := some .int }, accessFlags := 0, code := some k4c1 }
/-- com/example/underboss/underboss/ViceFight -/
def k4 : Class := { plain "com/example/underboss/underboss/ViceFight" (some 0) with
  accessFlags := 48
  interfaces := #[]
  cf := some (fileOf pool4 7 #[.nestMembers #[16]] #[{ accessFlags := 0, nameIndex := 5, descriptorIndex := 49, attributes := #[] }, { accessFlags := 0, nameIndex := 56, descriptorIndex := 37, attributes := #[] }] 48 2 #[] #[{ accessFlags := 24, nameIndex := 38, descriptorIndex := 25, attributes := #[] }, { accessFlags := 24, nameIndex := 41, descriptorIndex := 25, attributes := #[] }, { accessFlags := 24, nameIndex := 43, descriptorIndex := 25, attributes := #[] }, { accessFlags := 26, nameIndex := 45, descriptorIndex := 25, attributes := #[] }, { accessFlags := 26, nameIndex := 47, descriptorIndex := 25, attributes := #[] }, { accessFlags := 18, nameIndex := 20, descriptorIndex := 21, attributes := #[] }, { accessFlags := 18, nameIndex := 24, descriptorIndex := 25, attributes := #[] }, { accessFlags := 18, nameIndex := 11, descriptorIndex := 12, attributes := #[] }, { accessFlags := 18, nameIndex := 15, descriptorIndex := 12, attributes := #[] }])
  fields := #[{ name := "ATTACKER", type := .int, accessFlags := 24, slot := 0, constantValue := 0 }, { name := "DEFENDER", type := .int, accessFlags := 24, slot := 1, constantValue := 0 }, { name := "UNDECIDED", type := .int, accessFlags := 24, slot := 2, constantValue := 0 }, { name := "SIDES", type := .int, accessFlags := 26, slot := 3, constantValue := 0 }, { name := "WINS_NEEDED", type := .int, accessFlags := 26, slot := 4, constantValue := 0 }, { name := "sides", type := (.array (.object "com/example/underboss/underboss/ViceFight$Side")), accessFlags := 18, slot := 0, constantValue := 0 }, { name := "money", type := .int, accessFlags := 18, slot := 1, constantValue := 0 }, { name := "wins", type := (.array .int), accessFlags := 18, slot := 2, constantValue := 0 }, { name := "cards", type := (.array .int), accessFlags := 18, slot := 3, constantValue := 0 }]
  methods := #[k4m0, k4m1]
  instanceTypes := #[(.array (.object "com/example/underboss/underboss/ViceFight$Side")), .int, (.array .int), (.array .int)]
  staticTypes := #[.int, .int, .int, .int, .int]
  resolved := Array.replicate 70 none
  statics := none }

def pool5 : Array CpInfo := pool [(1, u "java/lang/Cloneable"), (0, .class_ 1), (0, u "java/lang/Object"), (0, .class_ 3)] 3

/-- java/lang/Cloneable -/
def k5 : Class := { plain "java/lang/Cloneable" (some 0) with
  accessFlags := 1537
  interfaces := #[]
  cf := some (fileOf pool5 2 #[] #[] 1537 4 #[] #[])
  fields := #[]
  methods := #[]
  instanceTypes := #[]
  staticTypes := #[]
  resolved := Array.replicate 8 none
  statics := none }

def pool6 : Array CpInfo := pool [(1, u "java/io/Serializable"), (0, .class_ 1), (0, u "java/lang/Object"), (0, .class_ 3)] 3

/-- java/io/Serializable -/
def k6 : Class := { plain "java/io/Serializable" (some 0) with
  accessFlags := 1537
  interfaces := #[]
  cf := some (fileOf pool6 2 #[] #[] 1537 4 #[] #[])
  fields := #[]
  methods := #[]
  instanceTypes := #[]
  staticTypes := #[]
  resolved := Array.replicate 8 none
  statics := none }

/-- the primitive byte -/
def k7 : Class := { plain "byte" none with kind := .primitive 'B', accessFlags := 0x411 }
/-- [B -/
def k8 : Class := { plain "[B" (some 0) with kind := .array 7 .byte, interfaces := #[5, 6], accessFlags := 1041 }

/-- the primitive int -/
def k9 : Class := { plain "int" none with kind := .primitive 'I', accessFlags := 0x411 }
/-- [I -/
def k10 : Class := { plain "[I" (some 0) with kind := .array 9 .int, interfaces := #[5, 6], accessFlags := 1041 }

/-- [Lcom/example/underboss/underboss/ViceFight$Side; -/
def k11 : Class := { plain "[Lcom/example/underboss/underboss/ViceFight$Side;" (some 0) with kind := .array 3 (.object "com/example/underboss/underboss/ViceFight$Side"), interfaces := #[5, 6], accessFlags := 1041 }

def heap : Heap := #[]
def classes : Array Class := #[k0, k1, k2, k3, k4, k5, k6, k7, k8, k9, k10, k11]
def interned : List (Array UInt16 × Addr) := []
def slotsUsed : Nat := 0
def theMethod : MethodId := ⟨1, 1⟩
def args0 : Array Value := #[.int 5, .int 5, .int 5, .int 5, .int 5, .int 5]
def aboutOver (below : List Frame) : State where
  vm := { classes := classes, interned := interned.toArray }
  heap := heap
  slotsUsed := slotsUsed
  threads := #[{ frames := .invoking theMethod args0 :: below }]
def below0 : List Frame := [.native { method := ⟨0, 0⟩, args := #[] }]
def about1 : State := aboutOver below0
def p0 : Program := .bare "" "" ""
def e0 : Env := launch0.env 0 0 0
theorem w_frames : about1.frames = Frame.invoking theMethod args0 :: below0 := rfl
set_option maxRecDepth 65536 in
theorem w_args : argsFit about1.vm theMethod args0 = true := by decide +kernel
set_option maxRecDepth 65536 in
theorem w_heap : heapFits about1 = true := by decide +kernel
set_option maxRecDepth 65536 in
theorem w_runnable : about1.curStatus? = some .runnable := by decide +kernel
set_option maxRecDepth 65536 in
theorem w_alone : about1.alone = true := by decide +kernel
set_option maxRecDepth 65536 in
theorem w_named : about1.methodNamed? x = some theMethod := by decide +kernel
set_option maxRecDepth 65536 in
theorem w_hears : about1.hears theMethod below0 = true := by decide +kernel
set_option maxRecDepth 65536 in
theorem w_ripe : about1.ripe theMethod args0 below0 = true := by decide +kernel
theorem w_running : about1.status = .running := rfl
set_option maxRecDepth 65536 in
theorem w_room : about1.hasRoom e0.platform room_1 = true :=
  launch0.hasRoom_least _ room_1 (by decide +kernel) (by decide +kernel) (by decide +kernel) (by decide +kernel) (by decide +kernel) (by decide +kernel)
theorem allAtoms_all (ts : List Jvm.Cond) (a : Array Jvm.Value) (st : Jvm.State) : (allAtoms ts).before a st = ts.all (fun c => c.before a st) := by
  induction ts with
  | nil => rfl
  | cons c t ih =>
    show (Jvm.Cond.and c (allAtoms t)).before a st = _
    rw [Jvm.Cond.before_and, ih, List.all_cons]
def words1 : List Jvm.Cond := Jvm.Cond.code x code maxLocals ret :: tables_1
/-- a 'code' word, met by the world's own term for the bytes: nothing is compared byte by byte -/
theorem code_word {y : MethodName} {bytes : ByteArray} {mx : Nat} {rt : Option FieldType} {a : Array Value} {s : State} {m : MethodId} {meth : Method} {c : Code} (h1 : s.methodNamed? y = some m) (h2 : s.vm.method? m = some meth) (h3 : meth.code = some c) (h4 : c.code = bytes)
    (h5 : (c.maxLocals == mx && c.exceptionTable.isEmpty && decide (c.maxStack ≤ mostOperands) && decide (meth.sig.returnType = rt) && !meth.locks && decide (parseMethodDescriptor y.desc = some meth.sig)) = true) : (Jvm.Cond.code y bytes mx rt).before a s = true := by
  simp only [Bool.and_eq_true, beq_iff_eq, Bool.not_eq_true', decide_eq_true_eq] at h5
  obtain ⟨⟨⟨⟨⟨g1, g2⟩, g3⟩, g4⟩, g5⟩, g6⟩ := h5
  simp [Cond.before, Cond.holds, Cond.value, h1, h2, h3, h4, g1, g2, g3, g4, g5, g6]
def isCode : Jvm.Cond → Bool
  | .code _ _ _ _ => true
  | _ => false
theorem all_split {L : List Jvm.Cond} {P : Jvm.Cond → Bool} (h1 : L.all (fun c => isCode c || P c) = true) (h2 : ∀ c ∈ L.filter isCode, P c = true) : L.all P = true := by
  refine List.all_eq_true.mpr fun c hc => ?_
  have h := List.all_eq_true.mp h1 c hc
  rcases Bool.eq_false_or_eq_true (isCode c) with hi | hi
  · exact h2 c (List.mem_filter.mpr ⟨hc, hi⟩)
  · simpa [hi] using h
set_option maxRecDepth 65536 in
theorem w_c0 : (Jvm.Cond.code x code maxLocals ret).before args0 about1 = true := code_word (m := ⟨1, 1⟩) (meth := k1m1) (c := k1c1) (by decide +kernel) rfl rfl rfl (by decide +kernel)
set_option maxRecDepth 65536 in
theorem w_c1 : (Jvm.Cond.code ({ cls := "com/example/underboss/underboss/ViceFight$Side", name := "<init>", desc := "(IIZ)V" } : Jvm.MethodName) prog_8_method_1_code (4 : Nat) (Option.none : Option Jvm.ClassFile.FieldType)).before args0 about1 = true := code_word (m := ⟨3, 0⟩) (meth := k3m0) (c := k3c0) (by decide +kernel) rfl rfl rfl (by decide +kernel)
set_option maxRecDepth 65536 in
theorem w_c2 : (Jvm.Cond.code ({ cls := "java/lang/Record", name := "<init>", desc := "()V" } : Jvm.MethodName) jdk_30_method_1_code (1 : Nat) (Option.none : Option Jvm.ClassFile.FieldType)).before args0 about1 = true := code_word (m := ⟨2, 0⟩) (meth := k2m0) (c := k2c0) (by decide +kernel) rfl rfl rfl (by decide +kernel)
set_option maxRecDepth 65536 in
theorem w_c3 : (Jvm.Cond.code ({ cls := "java/lang/Object", name := "<init>", desc := "()V" } : Jvm.MethodName) object_method_1_code (1 : Nat) (Option.none : Option Jvm.ClassFile.FieldType)).before args0 about1 = true := code_word (m := ⟨0, 0⟩) (meth := k0m0) (c := k0c0) (by decide +kernel) rfl rfl rfl (by decide +kernel)
set_option maxRecDepth 65536 in
theorem w_c4 : (Jvm.Cond.code ({ cls := "com/example/underboss/underboss/ViceFight", name := "<init>", desc := "(Lcom/example/underboss/underboss/ViceFight$Side;Lcom/example/underboss/underboss/ViceFight$Side;I)V" } : Jvm.MethodName) prog_7_method_1_code (4 : Nat) (Option.none : Option Jvm.ClassFile.FieldType)).before args0 about1 = true := code_word (m := ⟨4, 0⟩) (meth := k4m0) (c := k4c0) (by decide +kernel) rfl rfl rfl (by decide +kernel)
set_option maxRecDepth 65536 in
theorem w_c5 : (Jvm.Cond.code ({ cls := "com/example/underboss/underboss/ViceFight", name := "seatAsked", desc := "(II)I" } : Jvm.MethodName) prog_7_method_7_code (6 : Nat) (Option.some Jvm.ClassFile.FieldType.int)).before args0 about1 = true := code_word (m := ⟨4, 1⟩) (meth := k4m1) (c := k4c1) (by decide +kernel) rfl rfl rfl (by decide +kernel)
set_option maxRecDepth 65536 in
theorem w_c6 : (Jvm.Cond.code ({ cls := "com/example/underboss/underboss/ViceFight$Side", name := "seat", desc := "()I" } : Jvm.MethodName) prog_8_method_5_code (1 : Nat) (Option.some Jvm.ClassFile.FieldType.int)).before args0 about1 = true := code_word (m := ⟨3, 1⟩) (meth := k3m1) (c := k3c1) (by decide +kernel) rfl rfl rfl (by decide +kernel)
set_option maxRecDepth 65536 in
theorem w_c7 : (Jvm.Cond.code ({ cls := "com/example/underboss/underboss/ViceFightSeatAskedPinLaw", name := "expected", desc := "(IIIII)I" } : Jvm.MethodName) method_3_code (7 : Nat) (Option.some Jvm.ClassFile.FieldType.int)).before args0 about1 = true := code_word (m := ⟨1, 2⟩) (meth := k1m2) (c := k1c2) (by decide +kernel) rfl rfl rfl (by decide +kernel)
def codes1 : List Jvm.Cond := [Jvm.Cond.code x code maxLocals ret, Jvm.Cond.code ({ cls := "com/example/underboss/underboss/ViceFight$Side", name := "<init>", desc := "(IIZ)V" } : Jvm.MethodName) prog_8_method_1_code (4 : Nat) (Option.none : Option Jvm.ClassFile.FieldType), Jvm.Cond.code ({ cls := "java/lang/Record", name := "<init>", desc := "()V" } : Jvm.MethodName) jdk_30_method_1_code (1 : Nat) (Option.none : Option Jvm.ClassFile.FieldType), Jvm.Cond.code ({ cls := "java/lang/Object", name := "<init>", desc := "()V" } : Jvm.MethodName) object_method_1_code (1 : Nat) (Option.none : Option Jvm.ClassFile.FieldType), Jvm.Cond.code ({ cls := "com/example/underboss/underboss/ViceFight", name := "<init>", desc := "(Lcom/example/underboss/underboss/ViceFight$Side;Lcom/example/underboss/underboss/ViceFight$Side;I)V" } : Jvm.MethodName) prog_7_method_1_code (4 : Nat) (Option.none : Option Jvm.ClassFile.FieldType), Jvm.Cond.code ({ cls := "com/example/underboss/underboss/ViceFight", name := "seatAsked", desc := "(II)I" } : Jvm.MethodName) prog_7_method_7_code (6 : Nat) (Option.some Jvm.ClassFile.FieldType.int), Jvm.Cond.code ({ cls := "com/example/underboss/underboss/ViceFight$Side", name := "seat", desc := "()I" } : Jvm.MethodName) prog_8_method_5_code (1 : Nat) (Option.some Jvm.ClassFile.FieldType.int), Jvm.Cond.code ({ cls := "com/example/underboss/underboss/ViceFightSeatAskedPinLaw", name := "expected", desc := "(IIIII)I" } : Jvm.MethodName) method_3_code (7 : Nat) (Option.some Jvm.ClassFile.FieldType.int)]
set_option maxRecDepth 65536 in
theorem codes_eq : words1.filter isCode = codes1 := rfl
theorem w_codes : ∀ c ∈ words1.filter isCode, c.before args0 about1 = true := by
  rw [codes_eq]
  intro c hc
  simp only [codes1, List.mem_cons, List.not_mem_nil, or_false] at hc
  rcases hc with rfl | rfl | rfl | rfl | rfl | rfl | rfl | rfl
  · exact w_c0
  · exact w_c1
  · exact w_c2
  · exact w_c3
  · exact w_c4
  · exact w_c5
  · exact w_c6
  · exact w_c7
set_option maxRecDepth 65536 in
theorem w_t1 : (words1.take 24).all (fun c => isCode c || c.before args0 about1) = true := by decide +kernel
set_option maxRecDepth 65536 in
theorem w_t2 : ((words1.drop 24).take 24).all (fun c => isCode c || c.before args0 about1) = true := by decide +kernel
set_option maxRecDepth 65536 in
theorem w_t3 : ((words1.drop 24).drop 24).all (fun c => isCode c || c.before args0 about1) = true := by decide +kernel
theorem w_tables : (allAtoms (Jvm.Cond.code x code maxLocals ret :: tables_1)).before args0 about1 = true := by
  rw [allAtoms_all]
  show words1.all (fun c => c.before args0 about1) = true
  refine all_split ?_ w_codes
  rw [← List.take_append_drop 24 words1, List.all_append, w_t1, ← List.take_append_drop 24 (words1.drop 24), List.all_append, w_t2, w_t3]
  rfl
set_option maxRecDepth 65536 in
theorem w_case : (Jvm.Cond.and given_1 narrow_1).before args0 about1 = true := by decide +kernel
theorem w_applies : (headSpec (Jvm.Cond.code x code maxLocals ret :: tables_1) room_1).applies x e0.platform about1 = true :=
  (Spec.applies_iff w_frames).mpr ⟨w_running, w_runnable, w_alone, w_named, w_hears, w_ripe, w_room, w_tables⟩
theorem atStart : AtStart classFile x code maxLocals ret World_1 tables_1 room_1 Calls_1 rest_1 Pre_1 launch0 p0 e0 about1 theMethod args0 below0 :=
  ⟨lists_1, trivial, launch0.admits_env _ _ _, launch0.least_env, fairChoices_fair.cas, fairChoices_fair.clock, w_frames, w_args, w_heap, w_applies, trivial, trivial, w_case⟩
end start1
theorem witness_1 : WitnessClaimed_1 := ⟨start1.p0, start1.e0, start1.about1, start1.theMethod, start1.args0, start1.below0, start1.atStart⟩
end Jvm.Pilot.@@N@@
