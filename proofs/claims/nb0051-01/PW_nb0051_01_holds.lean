import PyProof.Rows.All
import Wide.All
import OpenK.AllK
import Wide.FinOn
import PySem.Challenge.RW_nb0051_01
set_option Elab.async false
set_option maxRecDepth 100000
set_option maxHeartbeats 8000000
section
open PySem PySem.W PyProof.Rows
namespace Mine
open_top hd51 for PySem.Challenge.rw_nb0051_01
end Mine
end
section
open PySem PySem.W PyProof.Rows PySem.Calls PySem.Spec
namespace Mine
noncomputable abbrev PR : Program := PySem.Challenge.rw_nb0051_01.row.prog
theorem fill : True ∨ (PySem.Challenge.rw_nb0051_01 = PySem.Challenge.rw_nb0051_01 ∧ hd51.heap_39 = hd51.heap_39) := by
  k_fill
  exact .inl trivial
noncomputable abbrev Map := Str → Option Value
noncomputable abbrev Ldg := List (Addr × Obj)

/-- a frame's surroundings -/
structure Cx where
  w : World
  A : Around
  g : Heap
  L : Addr
  gs : Array GenState
  d : Drawn
  os : OsState

/-- the frame's locals, by name; none: unbound -/
noncomputable abbrev Loc := List (Str × Option Value)
structure St (c : Cx) (l : Loc) (N : Ldg) (s : Shared) : Prop where
  fr : ∃ m, Fr c.g c.L s.heap m ∧ ∀ p ∈ l, m p.1 = p.2
  ln : (l.map (·.1)).Nodup
  nw : News c.g c.L s.heap N
  nd : (N.map (·.1)).Nodup
  gs : s.gens = c.gs
  dr : s.drawn = c.d
  os : s.os = c.os

structure WP {α : Type} (c : Cx) (E : Value → Shared → Prop) (l : Loc) (N : Ldg) (t : Sem α) (Q : α → Loc → Ldg → Prop) : Prop where
  run : ∀ s, St c l N s → wpAny (model PR c.w) c.A t (fun a s' => ∃ l' N', St c l' N' s' ∧ Q a l' N') E s
inductive Up (x : Str) (v : Value) : Loc → Loc → Prop
  | here {u r} : Up x v ((x, u) :: r) ((x, some v) :: r)
  | there {p r r'} : Up x v r r' → Up x v (p :: r) (p :: r')

inductive Ch (a : Addr) (o o' : Obj) : Ldg → Ldg → Prop
  | here {r} : Ch a o o' ((a, o) :: r) ((a, o') :: r)
  | there {p r r'} : Ch a o o' r r' → Ch a o o' (p :: r) (p :: r')

section
variable {c : Cx} {l l' : Loc} {N N' : Ldg} {s : Shared} {a : Addr} {o o' : Obj} {x : Str} {v : Value}

theorem Up.keys : ∀ {l l' : Loc}, Up x v l l' → l'.map (·.1) = l.map (·.1)
  | _, _, .here => rfl
  | _, _, .there (p := p) y => congrArg (p.1 :: ·) y.keys
theorem Up.key : ∀ {l l' : Loc}, Up x v l l' → x ∈ l.map (·.1)
  | _, _, .here => .head _
  | _, _, .there y => .tail _ y.key
theorem Up.other : ∀ {l l' : Loc}, Up x v l l' → (l.map (·.1)).Nodup → ∀ p ∈ l', p = (x, some v) ∨ (p ∈ l ∧ p.1 ≠ x)
  | _, _, .here (r := r), hn, p, hp => by
    rw [List.map_cons, List.nodup_cons] at hn
    rcases List.mem_cons.mp hp with rfl | hp
    · exact .inl rfl
    · exact .inr ⟨.tail _ hp, fun e => hn.1 (by rw [← e]; exact List.mem_map_of_mem (f := (·.1)) hp)⟩
  | _, _, .there (p := q) (r := r) y, hn, p, hp => by
    rw [List.map_cons, List.nodup_cons] at hn
    rcases List.mem_cons.mp hp with rfl | hp
    · exact .inr ⟨.head _, fun e => hn.1 (by rw [e]; exact y.key)⟩
    · exact (y.other hn.2 p hp).imp id fun h => ⟨.tail _ h.1, h.2⟩
theorem St.tok (S : St c l N s) (t : Nat) : St c l N { s with toks := t } := ⟨S.fr, S.ln, S.nw, S.nd, S.gs, S.dr, S.os⟩
theorem St.get (S : St c l N s) (h : (a, o) ∈ N) : s.heap.get? a = some o := S.nw.get h
theorem St.old (S : St c l N s) (h : c.g.get? a = some o) : s.heap.get? a = some o := let ⟨_, F, _⟩ := S.fr; F.keep _ _ h
theorem St.keep (S : St c l N s) : ∀ b o, c.g.get? b = some o → s.heap.get? b = some o := let ⟨_, F, _⟩ := S.fr; F.keep
theorem St.push (S : St c l N s) (o : Obj) (hf : o.isFreed = false := by rfl) : St c l ((s.heap.objs.size, o) :: N) { s with heap := s.heap.push o } := by
  obtain ⟨m, F, hm⟩ := S.fr
  refine ⟨⟨m, F.push o, hm⟩, S.ln, S.nw.push F o hf, ?_, S.gs, S.dr, S.os⟩
  rw [List.map_cons, List.nodup_cons]
  refine ⟨fun hm => ?_, S.nd⟩
  obtain ⟨p, hp, e⟩ := List.mem_map.mp hm
  have := Heap.lt_size (S.nw p hp).1
  rw [e] at this
  exact Nat.lt_irrefl _ this
theorem St.sub (S : St c l N s) (hs : List.Sublist N' N) : St c l N' s :=
  ⟨S.fr, S.ln, fun p hp => S.nw p (hs.subset hp), S.nd.sublist (hs.map _), S.gs, S.dr, S.os⟩
theorem St.perm (S : St c l N s) (hs : N.Perm N') : St c l N' s :=
  ⟨S.fr, S.ln, fun p hp => S.nw p (hs.mem_iff.mpr hp), (hs.map _).nodup_iff.mp S.nd, S.gs, S.dr, S.os⟩
theorem St.subL (S : St c l N s) (hs : List.Sublist l' l) : St c l' N s :=
  ⟨let ⟨m, F, h⟩ := S.fr; ⟨m, F, fun p hp => h p (hs.subset hp)⟩, S.ln.sublist (hs.map _), S.nw, S.nd, S.gs, S.dr, S.os⟩
theorem Ch.mem : ∀ {N N' : Ldg}, Ch a o o' N N' → (a, o) ∈ N
  | _, _, .here => .head _
  | _, _, .there x => .tail _ x.mem
theorem Ch.keys : ∀ {N N' : Ldg}, Ch a o o' N N' → N'.map (·.1) = N.map (·.1)
  | _, _, .here => rfl
  | _, _, .there (p := p) x => congrArg (p.1 :: ·) x.keys
theorem Ch.other : ∀ {N N' : Ldg}, Ch a o o' N N' → (N.map (·.1)).Nodup → ∀ p ∈ N', p = (a, o') ∨ (p ∈ N ∧ p.1 ≠ a)
  | _, _, .here (r := r), hn, p, hp => by
    rw [List.map_cons, List.nodup_cons] at hn
    rcases List.mem_cons.mp hp with rfl | hp
    · exact .inl rfl
    · exact .inr ⟨.tail _ hp, fun e => hn.1 (by rw [← e]; exact List.mem_map_of_mem (f := (·.1)) hp)⟩
  | _, _, .there (p := q) (r := r) x, hn, p, hp => by
    rw [List.map_cons, List.nodup_cons] at hn
    rcases List.mem_cons.mp hp with rfl | hp
    · exact .inr ⟨.head _, fun e => hn.1 (by rw [e]; exact List.mem_map_of_mem (f := (·.1)) x.mem)⟩
    · exact (x.other hn.2 p hp).imp id fun h => ⟨.tail _ h.1, h.2⟩
/-- an object of the ledger turned -/
theorem St.turn (S : St c l N s) (U : Ch a o o' N N') {h' : Heap} (hs : Heap.SameBut a s.heap h') (e : h'.get? a = some o') : St c l N' { s with heap := h' } := by
  have D := S.nw (a, o) U.mem
  obtain ⟨m, F, hm⟩ := S.fr
  obtain ⟨oL, es, ep, hL, r⟩ := F.ns
  refine ⟨⟨m, ⟨⟨oL, es, ep, (hs.2 _ (Ne.symm D.2.1)).trans hL, r⟩, fun b x q => (hs.2 _ fun z => ?_).trans (F.keep b x q), F.above⟩, hm⟩, S.ln, fun p hp => ?_, U.keys ▸ S.nd, S.gs, S.dr, S.os⟩
  · have := D.2.2; rw [← z, q] at this; cases this
  · rcases U.other S.nd p hp with rfl | ⟨h1, h2⟩
    · exact ⟨e, D.2⟩
    · exact ⟨(hs.2 _ h2).trans (S.nw p h1).1, (S.nw p h1).2⟩
theorem St.upd (S : St c l N s) (U : Ch a o o' N N') {f : Obj → Obj} (e : f o = o') (hf : o'.isFreed = false) : St c l N' { s with heap := s.heap.update a f } :=
  S.turn U (Heap.SameBut.update ..) (e ▸ Heap.get?_update_self f (S.get U.mem) (e ▸ hf))
end

section
variable {α β : Type} {c : Cx} {E : Value → Shared → Prop} {l l' : Loc} {N N' : Ldg} {t : Sem α} {Q Q' : α → Loc → Ldg → Prop}

theorem WP.go {s : Shared} (h : WP c E l N t Q) (S : St c l N s) {R : α → Shared → Prop} (k : ∀ a s' l' N', St c l' N' s' → Q a l' N' → R a s') : wpAny (model PR c.w) c.A t R E s :=
  wpAny_mono (h.run s S) (fun a s' ⟨l', N', S', q⟩ => k a s' l' N' S' q) fun _ _ e => e
theorem WP.mono (h : WP c E l N t Q) (k : ∀ a l' N', Q a l' N' → Q' a l' N') : WP c E l N t Q' :=
 WP.mk fun _ S => h.go S fun _ _ _ _ S' q => ⟨_, _, S', k _ _ _ q⟩
theorem w_bind {f : α → Sem β} {Q : β → Loc → Ldg → Prop} (h : WP c E l N t fun a l' N' => WP c E l' N' (f a) Q) : WP c E l N (t >>= f) Q :=
 WP.mk fun _ S => wpAny_bind (h.go S fun _ _ _ _ S' q => q.run _ S')
theorem w_pure {a : α} (h : Q a l N) : WP c E l N (pure a) Q :=
 WP.mk fun _ S => wpAny_pure ⟨_, _, S, h⟩
theorem w_sub (hs : List.Sublist N' N) (h : WP c E l N' t Q) : WP c E l N t Q :=
 WP.mk fun s S => h.run s (S.sub hs)
theorem w_perm (hs : N.Perm N') (h : WP c E l N' t Q) : WP c E l N t Q :=
 WP.mk fun s S => h.run s (S.perm hs)
theorem w_subL (hs : List.Sublist l' l) (h : WP c E l' N t Q) : WP c E l N t Q :=
 WP.mk fun s S => h.run s (S.subL hs)
theorem w_ite {p : Prop} [Decidable p] {a b : Sem α} (h : if p then WP c E l N a Q else WP c E l N b Q) : WP c E l N (if p then a else b) Q := by
  split <;> simp_all
theorem w_eqT {t' : Sem α} (e : t = t') (h : WP c E l N t' Q) : WP c E l N t Q := e ▸ h
end
end Mine
end
section
open PySem PySem.W PyProof.Rows PySem.Calls PySem.Spec
namespace Mine
/-- what stands below a call -/
structure Kx where
  w : World
  A : Around
  g : Heap
  gs : Array GenState
  d : Drawn
  os : OsState
structure Gnd (w : World) (g : Heap) : Prop where
  X : (hd51.heap_39 w.params).In g
  T : ∃ p loose mean mg mb, Top p loose mean mg mb g
  C1 : CodeHd g 105 101
  C2 : CodeHd g 110 108
  C3 : CodeHd g 98 94
structure Gk (n : Nat) (k : Kx) (base : Heap) (envs : List Env) : Prop extends Gnd k.w k.g where
  B : Below k.A base envs k.g
  hh : k.A.handled = none
  dep : k.A.depth + n < recursionLimit
  un : k.A.units + 50 * n + 200 < cLine
/-- what stands below a frame -/
structure Gd (n : Nat) (c : Cx) (base : Heap) (outer : List Env) (env : Env) : Prop extends Gnd c.w c.g where
  B : ∃ A₀, Below A₀ base outer c.g
  hA : c.A.frames = some (env :: outer)
  hf : env.frame = some c.L
  hk : env.scope.kind = .function
  hh : c.A.handled = none
  dep : c.A.depth + n < recursionLimit
  un : c.A.units + 50 * n + 200 < cLine
theorem Gnd.keeps {w : World} {g g' : Heap} (G : Gnd w g) (k : ∀ b o, g.get? b = some o → g'.get? b = some o) : Gnd w g' :=
  ⟨G.X.keeps k, let ⟨p, lo, me, mg, mb, T⟩ := G.T; ⟨p, lo, me, mg, mb, T.keeps k⟩, G.C1.keeps k, G.C2.keeps k, G.C3.keeps k⟩

section
variable {α β : Type} (c : Cx) (E : Value → Shared → Prop) (env : Env)
/-- posts, each under a short name -/
noncomputable def Nx (rest : List Stmt) (Q : Flow → Loc → Ldg → Prop) (f : Flow) (l : Loc) (N : Ldg) : Prop := match f with | .next => WP c E l N (execs rest env) Q | f => Q f l N
noncomputable def Th (t : α → Sem β) (Q : β → Loc → Ldg → Prop) (v : α) (l : Loc) (N : Ldg) : Prop := WP c E l N (t v) Q
noncomputable def Bn (b : Expr) (t : Value → Value → Sem β) (Q : β → Loc → Ldg → Prop) (x : Value) (l : Loc) (N : Ldg) : Prop := WP c E l N (eval b env) (Th c E (t x) Q)
noncomputable def Bt (b : Expr) (op : CmpOp) (Q : Bool → Loc → Ldg → Prop) (x : Value) (l : Loc) (N : Ldg) : Prop := WP c E l N (eval b env) (Th c E (compareOp op x) (Th c E truthy Q))
noncomputable def Cl (pos : Pos) (args : List Expr) (Q : Value → Loc → Ldg → Prop) (fv : Value) (l : Loc) (N : Ldg) : Prop := WP c E l N (callWith pos fv [] (backTo pos (starEach args env)) []) Q
noncomputable def Mc2 (pos : Pos) (args : List Expr) (Q : Value → Loc → Ldg → Prop) (fx : Value × List Value) (l : Loc) (N : Ldg) : Prop := WP c E l N (callWith pos fx.1 fx.2 (backTo pos (starEach args env)) []) Q
noncomputable def Mc (name : Str) (pl : Sem Bool) (pos : Pos) (args : List Expr) (Q : Value → Loc → Ldg → Prop) (ov : Value) (l : Loc) (N : Ldg) : Prop := WP c E l N (getMethod ov name pl) (Mc2 c E env pos args Q)
noncomputable def Qc (Q : List Value → Loc → Ldg → Prop) (v : Value) (vs : List Value) : Loc → Ldg → Prop := Q (v :: vs)
noncomputable def Ac (pos : Pos) (rest : List Expr) (Q : List Value → Loc → Ldg → Prop) (v : Value) (l : Loc) (N : Ldg) : Prop := WP c E l N (spliced (backTo pos (starEach rest env))) (Qc Q v)
noncomputable def Cb (f : Value) (first : List Value) (Q : Value → Loc → Ldg → Prop) (vs : List Value) (l : Loc) (N : Ldg) : Prop := WP c E l N (call f (first ++ vs)) Q
noncomputable def As (x : Str) (Q : Flow → Loc → Ldg → Prop) (v : Value) (l : Loc) (N : Ldg) : Prop := WP c E l N (storeName env x v) fun _ => Q .next
noncomputable def Br (body orelse : List Stmt) (Q : Flow → Loc → Ldg → Prop) (b : Bool) (l : Loc) (N : Ldg) : Prop := match b with | true => WP c E l N (execs body env) Q | false => WP c E l N (execs orelse env) Q
noncomputable def Ga (attr : Str) (Q : Value → Loc → Ldg → Prop) (o : Value) (l : Loc) (N : Ldg) : Prop := WP c E l N (getAttr o attr true) Q
noncomputable def Qr (Q : Flow → Loc → Ldg → Prop) (v : Value) : Loc → Ldg → Prop := Q (.ret v)
noncomputable def Qn (Q : Flow → Loc → Ldg → Prop) (v : Value) (l : Loc) (N : Ldg) : Prop := v = .none ∧ Q .next l N
end
section
variable {α : Type} {c : Cx} {E : Value → Shared → Prop} {l l' : Loc} {N N' : Ldg} {env : Env}

theorem w_execs_nil {Q : Flow → Loc → Ldg → Prop} (h : Q .next l N) : WP c E l N (execs [] env) Q :=
 WP.mk fun _ S => wpAny_execs_nil ⟨_, _, S, h⟩
theorem w_execs_cons {st : Stmt} {rest : List Stmt} {Q : Flow → Loc → Ldg → Prop}
    (h : WP c E l N (exec st env) (Nx c E env rest Q)) : WP c E l N (execs (st :: rest) env) Q :=
 WP.mk fun _ S => wpAny_execs_cons (h.go S fun f _ l' N' S' q => by cases f <;> first | exact WP.run q _ S' | exact ⟨_, _, S', q⟩)
theorem w_Assign_Name {x : Str} {p pos : Pos} {value : Expr} {Q : Flow → Loc → Ldg → Prop}
    (h : WP c E l N (eval value env) (As c E env x Q))
    (hs : swapsWith value (some (.Name x p)) pos.line env = pure false := by rfl) : WP c E l N (exec (.Assign [.Name x p] value pos) env) Q :=
 WP.mk fun _ S => wpAny_Assign_Name (h.go S fun _ _ _ _ S' q => WP.run q _ S') hs
theorem w_AugAssign_Name {x : Str} {p pos : Pos} {op : Operator} {value : Expr} {Q : Flow → Loc → Ldg → Prop}
    (h : WP c E l N (loadName env x) fun old l1 N1 => WP c E l1 N1 (eval value env) fun v l2 N2 => WP c E l2 N2 (inplaceOp op old v) fun r l3 N3 => WP c E l3 N3 (storeName env x r) fun _ => Q .next) :
    WP c E l N (exec (.AugAssign (.Name x p) op value pos) env) Q :=
 WP.mk fun _ S => wpAny_AugAssign_Name (h.go S fun _ _ _ _ S1 q => q.go S1 fun _ _ _ _ S2 q => q.go S2 fun _ _ _ _ S3 q => q.run _ S3)
theorem w_AugSub {o i value : Expr} {tpos pos : Pos} {op : Operator} {Q : Flow → Loc → Ldg → Prop}
    (h : WP c E l N (eval o env) fun ov l1 N1 => WP c E l1 N1 (eval i env) fun iv l2 N2 => WP c E l2 N2 (getItem ov iv) fun old l3 N3 => WP c E l3 N3 (eval value env) fun v l4 N4 => WP c E l4 N4 (inplaceOp op old v) fun new l5 N5 => WP c E l5 N5 (setItem ov iv new) fun _ => Q .next)
    (hi : ∀ ov iv new, augStore i ov iv new = (do holding [new, ov, iv] (setItem ov iv new); release [new, ov, iv] []; pure .next) := by intros; rfl) :
    WP c E l N (exec (.AugAssign (.Subscript o i tpos) op value pos) env) Q :=
 WP.mk fun _ S => wpAny_AugAssign_SubscriptAny (h.go S fun _ _ _ _ S1 q => q.go S1 fun _ _ _ _ S2 q => q.go S2 fun _ _ _ _ S3 q => q.go S3 fun _ _ _ _ S4 q => q.go S4 fun _ _ _ _ S5 q => q.run _ S5) hi
theorem w_AugAttr {o value : Expr} {attr : Str} {tpos pos : Pos} {op : Operator} {Q : Flow → Loc → Ldg → Prop}
    (h : WP c E l N (eval o env) fun ov l1 N1 => WP c E l1 N1 (getAttr ov attr true) fun old l3 N3 => WP c E l3 N3 (eval value env) fun v l4 N4 => WP c E l4 N4 (inplaceOp op old v) fun new l5 N5 => WP c E l5 N5 (setAttr ov attr new) fun _ => Q .next) :
    WP c E l N (exec (.AugAssign (.Attribute o attr tpos) op value pos) env) Q :=
 WP.mk fun _ S => wpAny_AugAssign_AttributeAny (h.go S fun _ _ _ _ S1 q => q.go S1 fun _ _ _ _ S3 q => q.go S3 fun _ _ _ _ S4 q => q.go S4 fun _ _ _ _ S5 q => q.run _ S5)
theorem w_AssignSub {o i value : Expr} {p pos : Pos} {Q : Flow → Loc → Ldg → Prop}
    (h : WP c E l N (eval value env) fun v l1 N1 => WP c E l1 N1 (eval o env) fun ov l2 N2 => WP c E l2 N2 (eval i env) fun iv l3 N3 => WP c E l3 N3 (setItem ov iv v) fun _ => Q .next)
    (hs : swapsWith value (some (.Subscript o i p)) pos.line env = pure false := by rfl) :
    WP c E l N (exec (.Assign [.Subscript o i p] value pos) env) Q :=
 WP.mk fun _ S => wpAny_Assign_Subscript (h.go S fun _ _ _ _ S1 q => q.go S1 fun _ _ _ _ S2 q => q.go S2 fun _ _ _ _ S3 q => q.run _ S3) hs
theorem w_If {test : Expr} {body orelse : List Stmt} {pos : Pos} {Q : Flow → Loc → Ldg → Prop}
    (h : WP c E l N (isTrue test env (eval test env)) (Br c E env body orelse Q)) : WP c E l N (exec (.If test body orelse pos) env) Q :=
 WP.mk fun _ S => wpAny_If (h.go S fun b _ _ _ S' q => by cases b <;> exact WP.run q _ S')
theorem w_Return_some {e : Expr} {pos : Pos} {Q : Flow → Loc → Ldg → Prop} (h : WP c E l N (eval e env) (Qr Q)) : WP c E l N (exec (.Return (some e) pos) env) Q :=
 WP.mk fun _ S => wpAny_Return_some (h.run _ S)
theorem w_Continue {pos : Pos} {Q : Flow → Loc → Ldg → Prop} (h : Q .cont l N) : WP c E l N (exec (.Continue pos) env) Q :=
 WP.mk fun _ S => wpAny_Continue ⟨_, _, S, h⟩
theorem w_Expr_none {e : Expr} {pos : Pos} {Q : Flow → Loc → Ldg → Prop} (h : WP c E l N (eval e env) (Qn Q))
    (hi : interactive env = false := by rfl) (hs : swapsWith e none pos.line env = pure false := by rfl) : WP c E l N (exec (.Expr e pos) env) Q :=
 WP.mk fun _ S => wpAny_Expr (h.go S fun _ _ _ _ S' q => by obtain ⟨rfl, q⟩ := q; exact ⟨_, _, S', q⟩) hi hs
theorem w_BinOp {a b : Expr} {op : Operator} {pos : Pos} {Q : Value → Loc → Ldg → Prop}
    (h : WP c E l N (eval a env) (Bn c E env b (binaryOp op) Q)) : WP c E l N (eval (.BinOp a op b pos) env) Q :=
 WP.mk fun _ S => wpAny_BinOp (h.go S fun _ _ _ _ S1 q => WP.go q S1 fun _ _ _ _ S2 q => WP.run q _ S2)
theorem w_Compare1 {a b : Expr} {op : CmpOp} {pos : Pos} {Q : Value → Loc → Ldg → Prop}
    (h : WP c E l N (eval a env) (Bn c E env b (compareOp op) Q))
    (hm : behindInMarks op b = false := by with_unfolding_all rfl) : WP c E l N (eval (.Compare a [op] [b] pos) env) Q :=
 WP.mk fun _ S => wpAny_Compare1 (h.go S fun _ _ _ _ S1 q => WP.go q S1 fun _ _ _ _ S2 q => WP.run q _ S2) hm
theorem w_isTrue_Compare1 {a b : Expr} {op : CmpOp} {pos : Pos} {whole : Sem Value} {Q : Bool → Loc → Ldg → Prop}
    (h : WP c E l N (eval a env) (Bt c E env b op Q))
    (hm : behindInMarks op b = false := by with_unfolding_all rfl) : WP c E l N (isTrue (.Compare a [op] [b] pos) env whole) Q :=
 WP.mk fun _ S => wpAny_isTrue_Compare1 (h.go S fun _ _ _ _ S1 q => WP.go q S1 fun _ _ _ _ S2 q => WP.go q S2 fun _ _ _ _ S3 q => WP.run q _ S3) hm
theorem w_isTrue_plain {e : Expr} {whole : Sem Value} {Q : Bool → Loc → Ldg → Prop} (h : WP c E l N whole (Th c E truthy Q))
    (he : isTrue e env whole = (do let v ← whole; standAt e.pos; holding [v] (truthy v)) := by rfl) : WP c E l N (isTrue e env whole) Q :=
 WP.mk fun _ S => PyProof.Rows.isTrue_plain (h.go S fun _ _ _ _ S1 q => WP.run q _ S1) he
theorem w_truthy_bool {b : Bool} {Q : Bool → Loc → Ldg → Prop} (h : Q b l N) : WP c E l N (truthy (.bool b)) Q :=
 WP.mk fun _ S => wpAny_truthy_bool ⟨_, _, S, h⟩
theorem w_Const_int {i : Int} {k : Nat} {pos : Pos} {Q : Value → Loc → Ldg → Prop} (h : ∀ t, Q (.int i t) l N) : WP c E l N (eval (.Constant (.int i) k pos) env) Q :=
 WP.mk fun _ S => wpAny_Constant_int ⟨_, _, S.tok _, h _⟩
theorem w_Const_str {x : Str} {k : Nat} {pos : Pos} {Q : Value → Loc → Ldg → Prop} (h : ∀ t, Q (.str x t) l N) : WP c E l N (eval (.Constant (.str x) k pos) env) Q :=
 WP.mk fun _ S => Constant_str ⟨_, _, S.tok _, h _⟩
theorem w_Const_none {k : Nat} {pos : Pos} {Q : Value → Loc → Ldg → Prop} (h : Q .none l N) : WP c E l N (eval (.Constant .none k pos) env) Q :=
 WP.mk fun _ S => fun _ _ _ => ⟨_, _, S, h⟩
theorem w_Const_bool {b : Bool} {k : Nat} {pos : Pos} {Q : Value → Loc → Ldg → Prop} (h : Q (.bool b) l N) : WP c E l N (eval (.Constant (.bool b) k pos) env) Q :=
 WP.mk fun _ S => fun _ _ _ => ⟨_, _, S, h⟩
theorem w_Call {f : Expr} {args : List Expr} {pos : Pos} {Q : Value → Loc → Ldg → Prop}
    (h : WP c E l N (eval f env) (Cl c E env pos args Q))
    (he : eval (.Call f args [] pos) env = (do callWith pos (← eval f env) [] (backTo pos (starEach args env)) (backToKw pos (keywordEach [] env))) := by rfl) :
    WP c E l N (eval (.Call f args [] pos) env) Q :=
 WP.mk fun _ S => Call_ (h.go S fun _ _ _ _ S1 q => WP.run q _ S1) he
theorem w_MethodCall {o : Expr} {name : Str} {apos pos : Pos} {args : List Expr} {pl : Sem Bool} {Q : Value → Loc → Ldg → Prop}
    (h : WP c E l N (eval o env) (Mc c E env name pl pos args Q))
    (he : eval (.Call (.Attribute o name apos) args [] pos) env = (do
      let ov ← eval o env
      standAt apos.atName
      let (f, first) ← holding [ov] (getMethod ov name pl)
      callWith pos f first (backTo pos (starEach args env)) []) := by rfl) :
    WP c E l N (eval (.Call (.Attribute o name apos) args [] pos) env) Q :=
 WP.mk fun _ S => MethodCall_ (h.go S fun _ _ _ _ S1 q => WP.go q S1 fun _ _ _ _ S2 q => WP.run q _ S2) he
theorem w_args_nil {pos : Pos} {Q : List Value → Loc → Ldg → Prop} (h : Q [] l N) : WP c E l N (spliced (backTo pos (starEach [] env))) Q :=
 WP.mk fun _ S => PyProof.Rows.args_nil ⟨_, _, S, h⟩
theorem w_args_cons {e : Expr} {rest : List Expr} {pos : Pos} {Q : List Value → Loc → Ldg → Prop}
    (h : WP c E l N (eval e env) (Ac c E env pos rest Q))
    (he : starEach (e :: rest) env = (false, eval e env) :: starEach rest env := by rfl) : WP c E l N (spliced (backTo pos (starEach (e :: rest) env))) Q :=
 WP.mk fun _ S => PyProof.Rows.args_cons (h.go S fun _ _ _ _ S1 q => WP.run q _ S1) he
theorem w_callWith_b0 {pos : Pos} {id : String} {first : List Value} {Q : Value → Loc → Ldg → Prop} (h : WP c E l N (call (.builtin id) first) Q) :
    WP c E l N (callWith pos (.builtin id) first (backTo pos (starEach [] env)) []) Q :=
 WP.mk fun _ S => callWith_method0 (h.run _ S)
theorem w_callWith_b {pos : Pos} {id : String} {first : List Value} {e : Expr} {rest : List Expr} {Q : Value → Loc → Ldg → Prop}
    (h : WP c E l N (spliced (backTo pos (starEach (e :: rest) env))) (Cb c E (.builtin id) first Q))
    (he : starEach (e :: rest) env = (false, eval e env) :: starEach rest env := by rfl)
    (hplain : (backTo pos (starEach rest env)).any (·.1) = false := by rfl) :
    WP c E l N (callWith pos (.builtin id) first (backTo pos (starEach (e :: rest) env)) []) Q :=
 WP.mk fun _ S => callWith_method1 (h.go S fun _ _ _ _ S1 q => WP.run q _ S1) he hplain
theorem w_callWith_t {pos : Pos} {T : String} {e : Expr} {rest : List Expr} {Q : Value → Loc → Ldg → Prop}
    (h : WP c E l N (spliced (backTo pos (starEach (e :: rest) env))) (Th c E (fun vs => call (.type T) vs) Q))
    (he : starEach (e :: rest) env = (false, eval e env) :: starEach rest env := by rfl)
    (hplain : (backTo pos (starEach (e :: rest) env)).any (·.1) = false := by rfl) :
    WP c E l N (callWith pos (.type T) [] (backTo pos (starEach (e :: rest) env)) []) Q :=
 WP.mk fun _ S => PyProof.Rows.callWith_type hplain (by
    rw [he]; rw [he] at h
    exact evalArgs_plain (h.go S fun _ _ _ _ S1 q => WP.run q _ S1))
/-- a function stands at f, whatever its ledger -/
noncomputable def IsFn (c : Cx) (N : Ldg) (f : Addr) : Prop := ∃ oc od fd sl, (f, (⟨oc, od, .func fd, sl⟩ : Obj)) ∈ N ∨ c.g.get? f = some ⟨oc, od, .func fd, sl⟩
theorem St.fn {s : Shared} {f : Addr} (S : St c l N s) (h : IsFn c N f) : FnAt f s.heap :=
  let ⟨oc, od, fd, sl, h⟩ := h; ⟨oc, od, fd, sl, h.elim S.get S.old⟩
noncomputable def Cf (c : Cx) (E : Value → Shared → Prop) (f : Addr) (first : List Value) (Q : Value → Loc → Ldg → Prop) (vs : List Value) (l : Loc) (N : Ldg) : Prop := IsFn c N f ∧ WP c E l N (call (.ref f) (first ++ vs)) Q
theorem w_callWith_f0 {pos : Pos} {f : Addr} {first : List Value} {Q : Value → Loc → Ldg → Prop} (hf : IsFn c N f) (h : WP c E l N (call (.ref f) (first ++ [])) Q) :
    WP c E l N (callWith pos (.ref f) first (backTo pos (starEach [] env)) []) Q :=
 WP.mk fun _ S => callWith_F0 (S.fn hf) (h.run _ S)
theorem w_callWith_f {pos : Pos} {f : Addr} {first : List Value} {e : Expr} {rest : List Expr} {Q : Value → Loc → Ldg → Prop}
    (h : WP c E l N (spliced (backTo pos (starEach (e :: rest) env))) (Cf c E f first Q))
    (he : starEach (e :: rest) env = (false, eval e env) :: starEach rest env := by rfl)
    (hplain : (backTo pos (starEach rest env)).any (·.1) = false := by rfl) :
    WP c E l N (callWith pos (.ref f) first (backTo pos (starEach (e :: rest) env)) []) Q :=
 WP.mk fun _ S => by
    rw [he] at h ⊢
    refine callWith_of (P := FnAt f) (by show ((false || (backTo pos (starEach rest env)).any (·.1)) || false) = false; rw [hplain]; rfl) keeps_F (evalArgs_plain (h.go S fun _ _ _ _ S1 q => ⟨S1.fn (And.left q), WP.run (And.right q) _ S1⟩))
theorem w_Subscript {value slice : Expr} {pos : Pos} {Q : Value → Loc → Ldg → Prop}
    (h : WP c E l N (eval value env) (Bn c E env slice (subscriptTail value slice) Q)) : WP c E l N (eval (.Subscript value slice pos) env) Q :=
 WP.mk fun _ S => Subscript_ (h.go S fun _ _ _ _ S1 q => WP.go q S1 fun _ _ _ _ S2 q => WP.run q _ S2)
theorem w_Attr {x attr : Str} {xp pos : Pos} {Q : Value → Loc → Ldg → Prop}
    (h : WP c E l N (eval (.Name x xp) env) (Ga c E attr Q))
    (he : eval (.Attribute (.Name x xp) attr pos) env = (do
      let o ← eval (.Name x xp) env
      standAt pos.atName
      let r ← holding [o] (getAttr o attr true)
      letTemporaryGo (.Name x xp) o r
      return r) := by rfl) : WP c E l N (eval (.Attribute (.Name x xp) attr pos) env) Q :=
 WP.mk fun _ S => Attribute_Name_ (h.go S fun _ _ _ _ S1 q => WP.run q _ S1) he
theorem w_newTuple {vs : List Value} {Q : Value → Loc → Ldg → Prop} (h : ∀ a, Q (.ref a) l ((a, { cls := .type "tuple", data := .seq vs.toArray }) :: N)) (hsz : vs.length ≤ sizeLine := by size_fits) :
    WP c E l N (newTuple vs) Q :=
 WP.mk fun _ S => wpAny_newObj_type ⟨_, _, S.push _, h _⟩ (by show vs.toArray.size ≤ sizeLine; rw [List.size_toArray]; exact hsz)
theorem w_newList {vs : List Value} {Q : Value → Loc → Ldg → Prop} (h : ∀ a, Q (.ref a) l ((a, { cls := .type "list", data := .seq vs.toArray }) :: N)) (hsz : vs.length ≤ sizeLine := by size_fits) :
    WP c E l N (newList vs) Q :=
 WP.mk fun _ S => wpAny_newObj_type ⟨_, _, S.push _, h _⟩ (by show vs.toArray.size ≤ sizeLine; rw [List.size_toArray]; exact hsz)
theorem w_Tuple {elts : List Expr} {k : Nat} {pos : Pos} {Q : Value → Loc → Ldg → Prop}
    (h : WP c E l N (spliced (backTo pos (starEach elts env))) (Th c E newTuple Q)) : WP c E l N (eval (.Tuple elts k pos) env) Q :=
 WP.mk fun _ S => Tuple_ (h.go S fun _ _ _ _ S1 q => WP.run q _ S1)
theorem w_List {elts : List Expr} {pos : Pos} {Q : Value → Loc → Ldg → Prop}
    (h : WP c E l N (spliced (backTo pos (starEach elts env))) (Th c E newList Q)) : WP c E l N (eval (.List elts pos) env) Q :=
 WP.mk fun _ S => List_ (h.go S fun _ _ _ _ S1 q => WP.run q _ S1)
end

section
variable {c : Cx} {E : Value → Shared → Prop} {l l' : Loc} {N N' : Ldg} {nm : Str} {sc : Scope} {fa : Addr} {cd : Value} {cl : List (Str × Addr)} {x : Str} {pos : Pos} {v : Value} {a : Addr} {o : Obj}

theorem w_name_L {Q : Value → Loc → Ldg → Prop} (hv : (x, some v) ∈ l) (h : Q v l N)
    (hk : sc.kind = .function := by rfl) (hx : (envX nm sc c.L fa cd cl).kindOf x = some .local := by rfl) (hd : (x == ("__debug__" : Str)) = false := by decide) :
    WP c E l N (eval (.Name x pos) (envX nm sc c.L fa cd cl)) Q :=
 WP.mk fun _ S => let ⟨_, F, hm⟩ := S.fr; nameX_L F (hm _ hv) ⟨_, _, S, h⟩ hk hx hd
theorem w_ldn_L {Q : Value → Loc → Ldg → Prop} (hv : (x, some v) ∈ l) (h : Q v l N)
    (hk : sc.kind = .function := by rfl) (hx : (envX nm sc c.L fa cd cl).kindOf x = some .local := by rfl) :
    WP c E l N (loadName (envX nm sc c.L fa cd cl) x) Q :=
 WP.mk fun _ S => let ⟨_, F, hm⟩ := S.fr; wpAny_loadName_local hk hx F.ns (hm _ hv) ⟨_, _, S, h⟩
theorem w_name_K {Q : Value → Loc → Ldg → Prop} (G : Gnd c.w c.g) (e : nsIn (hd51.heap_39 c.w.params) mainGlobals x = some (some v)) (h : Q v l N)
    (hk : sc.kind = .function := by rfl) (hx : (envX nm sc c.L fa cd cl).kindOf x = some .globalImplicit := by rfl) (hd : (x == ("__debug__" : Str)) = false := by decide) :
    WP c E l N (eval (.Name x pos) (envX nm sc c.L fa cd cl)) Q :=
 WP.mk fun _ S => let ⟨_, F, _⟩ := S.fr; let ⟨_, _, _, _, _, T⟩ := G.T; nameX_K F G.X (topRead_of T) e ⟨_, _, S, h⟩ hk hx hd
theorem w_name_B {Q : Value → Loc → Ldg → Prop} (G : Gnd c.w c.g) (e : nsIn (hd51.heap_39 c.w.params) mainGlobals x = some none) (hv : bootBuiltins x = some v) (hn : x ≠ "__name__") (h : Q v l N)
    (hk : sc.kind = .function := by rfl) (hx : (envX nm sc c.L fa cd cl).kindOf x = some .globalImplicit := by rfl) (hd : (x == ("__debug__" : Str)) = false := by decide) :
    WP c E l N (eval (.Name x pos) (envX nm sc c.L fa cd cl)) Q :=
 WP.mk fun _ S => let ⟨_, F, _⟩ := S.fr; let ⟨_, _, _, _, _, T⟩ := G.T; nameX_B F G.X (topRead_of T) e hv hn ⟨_, _, S, h⟩ hk hx hd
theorem w_name_C {Q : Value → Loc → Ldg → Prop} (hc : cl.lookup x = some a) (hm : (a, o) ∈ N) (hd : o.data = .cell (some v)) (h : Q v l N)
    (hk : sc.kind = .function := by rfl) (hx : (envX nm sc c.L fa cd cl).kindOf x = some .cell := by rfl) (hb : (x == ("__debug__" : Str)) = false := by decide) :
    WP c E l N (eval (.Name x pos) (envX nm sc c.L fa cd cl)) Q :=
 WP.mk fun _ S => nameX_C S.nw hc hm hd ⟨_, _, S, h⟩ hk hx hb
theorem w_name_F {Q : Value → Loc → Ldg → Prop} (hc : cl.lookup x = some a) (hm : (a, o) ∈ N) (hd : o.data = .cell (some v)) (h : Q v l N)
    (hk : sc.kind = .function := by rfl) (hx : (envX nm sc c.L fa cd cl).kindOf x = some .free := by rfl) (hb : (x == ("__debug__" : Str)) = false := by decide) (hn : (x == ("__classdict__" : Str)) = false := by decide) :
    WP c E l N (eval (.Name x pos) (envX nm sc c.L fa cd cl)) Q :=
 WP.mk fun _ S => nameX_F S.nw hc hm hd ⟨_, _, S, h⟩ hk hx hb hn
theorem w_store_L {Q : Unit → Loc → Ldg → Prop} (U : Up x v l l') (h : Q () l' N)
    (hk : sc.kind = .function := by rfl) (hx : (envX nm sc c.L fa cd cl).kindOf x = some .local := by rfl) : WP c E l N (storeName (envX nm sc c.L fa cd cl) x v) Q :=
 WP.mk fun s S => by
    obtain ⟨m, F, hm⟩ := S.fr
    refine storeX_L F S.nw (fun h' F' N' => ⟨_, _, ⟨⟨_, F', fun p hp => ?_⟩, U.keys ▸ S.ln, N', S.nd, S.gs, S.dr, S.os⟩, h⟩) hk hx
    rcases U.other S.ln p hp with rfl | ⟨h1, h2⟩
    · exact if_pos rfl
    · exact (if_neg h2).trans (hm _ h1)
end
end Mine
end
section
open PySem PySem.W PyProof.Rows PySem.Calls PySem.Spec
namespace Mine
structure Sc (k : Kx) (N : Ldg) (s : Shared) : Prop where
  keep : ∀ b o, k.g.get? b = some o → s.heap.get? b = some o
  size : k.g.objs.size ≤ s.heap.objs.size
  nw : ∀ p ∈ N, s.heap.get? p.1 = some p.2 ∧ k.g.get? p.1 = none
  nd : (N.map (·.1)).Nodup
  gs : s.gens = k.gs
  dr : s.drawn = k.d
  os : s.os = k.os

/-- a call's contract: from the ledger N it ends in Q, or raises into E -/
structure CP (k : Kx) (E : Value → Shared → Prop) (N : Ldg) (f : Value) (args : List Value) (Q : Value → Ldg → Prop) : Prop where
  run : ∀ s, Sc k N s → codeAny (model PR k.w) k.A (.call f ⟨args, []⟩) (fun r s' => match r with
    | .ok (.ret v) => ∃ N', Sc k N' s' ∧ Q v N'
    | .ok _ => False
    | .error e => E e s') s

section
variable {c : Cx} {E : Value → Shared → Prop} {l : Loc} {core rest N : Ldg} {n : Nat} {base : Heap} {outer : List Env} {env : Env} {s : Shared} {f : Value} {args : List Value}

noncomputable abbrev Cx.k (c : Cx) (g : Heap) : Kx := ⟨c.w, c.A, g, c.gs, c.d, c.os⟩
theorem St.ground (S : St c l (core ++ rest) s) : ∀ b o, c.g.get? b = some o → (hideAll s.heap (core.map (·.1))).get? b = some o := fun b o e =>
  hideAll_get _ (S.keep b o e) fun q => by
    obtain ⟨p, hp, rfl⟩ := List.mem_map.mp q
    rw [(S.nw p (List.mem_append_left _ hp)).2.2] at e; cases e
theorem St.sc (S : St c l (core ++ rest) s) : Sc (c.k (hideAll s.heap (core.map (·.1)))) core s where
  keep := fun _ _ e => of_hideAll _ e
  size := Nat.le_of_eq (hideAll_size _ _)
  nw := fun p hp => ⟨(S.nw p (List.mem_append_left _ hp)).1, hideAll_none _ (List.mem_map_of_mem hp)⟩
  nd := by have := S.nd; rw [List.map_append] at this; exact (List.nodup_append.mp this).1
  gs := S.gs
  dr := S.dr
  os := S.os
theorem St.gk (G : Gd (n + 1) c base outer env) (S : St c l (core ++ rest) s) : Gk n (c.k (hideAll s.heap (core.map (·.1)))) base (env :: outer) := by
  obtain ⟨A₀, B⟩ := G.B
  obtain ⟨m, F, _⟩ := S.fr
  have NC : News c.g c.L s.heap core := fun p hp => S.nw p (List.mem_append_left _ hp)
  obtain ⟨_, BG, _, _⟩ := groundX (R := fun _ _ => True) B F NC G.hA G.hf G.hk
  exact ⟨G.toGnd.keeps S.ground, BG, G.hh, by have := G.dep; show c.A.depth + n < _; omega, by have := G.un; show c.A.units + 50 * n + 200 < _; omega⟩
theorem St.back (S : St c l (core ++ rest) s) {core' : Ldg} {s' : Shared} (S' : Sc (c.k (hideAll s.heap (core.map (·.1)))) core' s') : St c l (core' ++ rest) s' := by
  obtain ⟨m, F, hm⟩ := S.fr
  obtain ⟨oL, es, ep, hL, r⟩ := F.ns
  have nL : c.L ∉ core.map (·.1) := fun q => by
    obtain ⟨p, hp, e⟩ := List.mem_map.mp q
    exact (S.nw p (List.mem_append_left _ hp)).2.1 e
  have hLg := hideAll_get (core.map (·.1)) hL nL
  have nd := S.nd
  rw [List.map_append, List.nodup_append] at nd
  have hr : ∀ p ∈ rest, (hideAll s.heap (core.map (·.1))).get? p.1 = some p.2 := fun p hp =>
    hideAll_get _ (S.nw p (List.mem_append_right _ hp)).1 fun q => nd.2.2 _ q _ (List.mem_map_of_mem hp) rfl
  refine ⟨⟨m, ⟨⟨oL, es, ep, S'.keep _ _ hLg, r⟩, fun b o e => S'.keep _ _ (S.ground b o e), F.above⟩, hm⟩, S.ln, fun p hp => ?_, ?_, S'.gs, S'.dr, S'.os⟩
  · rcases List.mem_append.mp hp with hp | hp
    · refine ⟨(S'.nw p hp).1, fun e => ?_, ?_⟩
      · have := (S'.nw p hp).2; rw [e] at this; rw [show (c.k (hideAll s.heap (core.map (·.1)))).g = hideAll s.heap (core.map (·.1)) from rfl, hLg] at this; cases this
      · cases q : c.g.get? p.1 with
        | none => rfl
        | some o => have := (S'.nw p hp).2; rw [show (c.k (hideAll s.heap (core.map (·.1)))).g = hideAll s.heap (core.map (·.1)) from rfl, S.ground _ _ q] at this; cases this
    · exact ⟨S'.keep _ _ (hr p hp), (S.nw p (List.mem_append_right _ hp)).2⟩
  · rw [List.map_append, List.nodup_append]
    refine ⟨S'.nd, nd.2.1, fun x hx y hy e => ?_⟩
    subst e
    obtain ⟨p, hp, rfl⟩ := List.mem_map.mp hx
    obtain ⟨q, hq, e⟩ := List.mem_map.mp hy
    have h1 := (S'.nw p hp).2
    have h2 := hr q hq
    rw [e] at h2
    rw [show (c.k (hideAll s.heap (core.map (·.1)))).g = hideAll s.heap (core.map (·.1)) from rfl, h2] at h1; cases h1

theorem w_callE {Qs : Value → Ldg → Prop} {Q : Value → Loc → Ldg → Prop} (Ex : Heap → Value → Shared → Prop) (G : Gd (n + 1) c base outer env)
    (spec : ∀ g, Gk n (c.k g) base (env :: outer) → CP (c.k g) (Ex g) core f args Qs)
    (hE : ∀ s, St c l (core ++ rest) s → ∀ e s', Ex (hideAll s.heap (core.map (·.1))) e s' → E e s')
    (h : ∀ v core', Qs v core' → Q v l (core' ++ rest)) : WP c E l (core ++ rest) (call f args) Q := WP.mk fun s S => by
  refine wpAny_call (codeAny_mono ((spec _ (S.gk G)).run s S.sc) fun r s' hr => ?_)
  match r with
  | .ok (.ret v) => obtain ⟨N', S', q⟩ := hr; exact ⟨_, _, S.back S', h v N' q⟩
  | .ok .next => exact hr
  | .ok .brk => exact hr
  | .ok .cont => exact hr
  | .error e => exact hE s S e s' hr
theorem w_call {Qs : Value → Ldg → Prop} {Q : Value → Loc → Ldg → Prop} (G : Gd (n + 1) c base outer env)
    (spec : ∀ g E, Gk n (c.k g) base (env :: outer) → CP (c.k g) E core f args Qs)
    (h : ∀ v core', Qs v core' → Q v l (core' ++ rest)) : WP c E l (core ++ rest) (call f args) Q :=
  w_callE (fun _ => E) G (fun g => spec g E) (fun _ _ _ _ e => e) h
end

/-- posts as variables -/
theorem w_abs {α : Type} {c : Cx} {E : Value → Shared → Prop} {l : Loc} {N : Ldg} {t : Sem α} {Q : α → Loc → Ldg → Prop} (h : ∀ E' Q', (∀ e s, E e s → E' e s) → (∀ a l N, Q a l N → Q' a l N) → WP c E' l N t Q') : WP c E l N t Q := h E Q (fun _ _ h => h) (fun _ _ _ h => h)
noncomputable def Lv (k : Kx) (env : Env) (E : Value → Shared → Prop) (e : Value) (s : Shared) : Prop := wpAny (model PR k.w) (k.A.deeper env) (leaving env e) (fun _ s'' => E e s'') (fun e' s'' => E e' s'') s
noncomputable def EndV (Q : Value → Ldg → Prop) (v : Value) (_ : Loc) (N' : Ldg) : Prop := ∃ N'', List.Sublist N'' N' ∧ Q v N''
noncomputable def EndQ (Q : Value → Ldg → Prop) (fl : Flow) (_ : Loc) (N' : Ldg) : Prop := ∃ N'', List.Sublist N'' N' ∧ Q (match fl with | .ret v => v | _ => .none) N''
noncomputable def LocIs (bs : List (Str × Value)) : Loc → Prop
  | [] => True
  | p :: r => bs.lookup p.1 = p.2 ∧ LocIs bs r
theorem LocIs.all {bs : List (Str × Value)} {l : Loc} (h : LocIs bs l) : ∀ p ∈ l, bs.lookup p.1 = p.2 := by
  induction l with
  | nil => intro p hp; cases hp
  | cons q r ih =>
    intro p hp
    rcases List.mem_cons.mp hp with rfl | hp
    · exact h.1
    · exact ih h.2 p hp
section
variable {k : Kx} {E : Value → Shared → Prop} {N : Ldg} {n : Nat} {base : Heap} {envs : List Env} {f : Addr} {args : List Value} {Q : Value → Ldg → Prop}
  {name qual : Str} {params : Arguments} {body : List Stmt} {scope : Scope} {cl : List (Str × Addr)} {dV kV doc pm cdv ct : Value} {an : Option Addr} {fo : Obj} {binds : List (Str × Value)} {l : Loc}

noncomputable abbrev Kx.c (k : Kx) (qual : Str) (scope : Scope) (L f : Addr) (cdv : Value) (cl : List (Str × Addr)) : Cx := ⟨k.w, k.A.deeper (envX qual scope L f cdv cl), k.g, L, k.gs, k.d, k.os⟩
theorem Gk.gd (G : Gk (n + 1) k base envs) (L : Addr) (hk : scope.kind = .function) : Gd n (k.c qual scope L f cdv cl) base envs (envX qual scope L f cdv cl) where
  toGnd := G.toGnd
  B := ⟨_, G.B⟩
  hA := Around.frames_deeper G.B.stack
  hf := rfl
  hk := hk
  hh := G.hh
  dep := by have := G.dep; show k.A.depth + 1 + n < _; omega
  un := by have := G.un; show k.A.units + 3 + 50 * n + 200 < _; omega

/-- a def without cells is entered -/
theorem enterE (G : Gk (n + 1) k base envs) (ho : (f, fo) ∈ N ∨ k.g.get? f = some fo) (hd : fo.data = .func (fnX name qual params body scope cl dV kV doc pm an cdv ct))
    (hcd : ∀ s, Sc k N s → s.heap.CodeRec cdv qual)
    (hbind : bindArgs (fnX name qual params body scope cl dV kV doc pm an cdv ct) ⟨args, []⟩ = pure binds) (hloc : ∀ y ∈ binds, scope.names.lookup y.1 = some .local)
    (hl : LocIs binds.reverse l) (hn : (l.map (·.1)).Nodup)
    (h : ∀ L, (∀ b o, k.g.get? b = some o → b ≠ L) → (∀ p ∈ N, p.1 ≠ L) → Gd n (k.c qual scope L f cdv cl) base envs (envX qual scope L f cdv cl) →
      WP (k.c qual scope L f cdv cl) (Lv k (envX qual scope L f cdv cl) E) l N
        (execs body (envX qual scope L f cdv cl)) (EndQ Q))
    (hcell : ∀ x ∈ scope.names, x.2 ≠ .cell := by decide) (hco : scope.isCoroutine = false := by rfl) (hgen : scope.isGenerator = false := by rfl) (hk : scope.kind = .function := by rfl) :
    CP k E N (.ref f) args Q := CP.mk fun s S => by
  have hof : s.heap.get? f = some fo := ho.elim (fun h => (S.nw _ h).1) (S.keep _ _)
  obtain ⟨_, _, _, _, _, T⟩ := G.T
  refine codeAny_call_def (fd := fnX name qual params body scope cl dV kV doc pm an cdv ct) (body := body) (binds := binds) (by have := G.dep; omega) hof hd (T.nolimit.keeps S.keep) (hcd s S) rfl (BindsTo.of_eq hbind) hcell hloc (fun h₁ hns hk₁ => ?_) hco hgen hk
  have gl : ∀ b o, k.g.get? b = some o → b ≠ s.heap.objs.size := fun b o e => Nat.ne_of_lt (Heap.lt_size (S.keep _ _ e))
  have nl : ∀ p ∈ N, p.1 ≠ s.heap.objs.size := fun p hp => Nat.ne_of_lt (Heap.lt_size (S.nw p hp).1)
  have W := h s.heap.objs.size gl nl (G.gd _ hk)
  refine wpAny_mono (W.run _ ⟨⟨_, ⟨hns, fun b o e => hk₁ b o (S.keep b o e), S.size⟩, hl.all⟩, hn, fun p hp => ⟨hk₁ _ _ (S.nw p hp).1, nl p hp, (S.nw p hp).2⟩, S.nd, S.gs, S.dr, S.os⟩) (fun fl s' ⟨l', N', S0, N'', hsub, q⟩ => ?_) fun _ _ e => e
  have S' := S0.sub hsub
  obtain ⟨m', F', _⟩ := S'.fr
  exact ⟨N'', ⟨S'.keep, Nat.le_trans F'.above (Nat.le_of_lt (let ⟨_, _, _, hL, _⟩ := F'.ns; Heap.lt_size hL)), fun p hp => ⟨(S'.nw p hp).1, (S'.nw p hp).2.2⟩, S'.nd, S'.gs, S'.dr, S'.os⟩, q⟩
theorem enter (G : Gk (n + 1) k base envs) (ho : (f, fo) ∈ N ∨ k.g.get? f = some fo) (hd : fo.data = .func (fnX name qual params body scope cl dV kV doc pm an cdv ct))
    (hcd : ∀ s, Sc k N s → s.heap.CodeRec cdv qual)
    (hbind : bindArgs (fnX name qual params body scope cl dV kV doc pm an cdv ct) ⟨args, []⟩ = pure binds) (hloc : ∀ y ∈ binds, scope.names.lookup y.1 = some .local)
    (hl : LocIs binds.reverse l) (hn : (l.map (·.1)).Nodup)
    (h : ∀ L E', Gd n (k.c qual scope L f cdv cl) base envs (envX qual scope L f cdv cl) →
      WP (k.c qual scope L f cdv cl) E' l N (execs body (envX qual scope L f cdv cl)) (EndQ Q))
    (hcell : ∀ x ∈ scope.names, x.2 ≠ .cell := by decide) (hco : scope.isCoroutine = false := by rfl) (hgen : scope.isGenerator = false := by rfl) (hk : scope.kind = .function := by rfl) :
    CP k E N (.ref f) args Q := enterE G ho hd hcd hbind hloc hl hn (fun L _ _ g => h L _ g) hcell hco hgen hk
end
end Mine
end
section
open PySem PySem.W PyProof.Rows PySem.Calls PySem.Spec
namespace Mine
/-- a code of the frame's own (a loop) -/
structure CW (c : Cx) (Er : Value → Shared → Prop) (l : Loc) (N : Ldg) (code : Code) (Q : Flow → Loc → Ldg → Prop) : Prop where
  run : ∀ s, St c l N s → codeAny (model PR c.w) c.A code (fun r s' => match r with
    | .ok f => ∃ l' N', St c l' N' s' ∧ Q f l' N'
    | .error e => Er e s') s
section
variable (c : Cx) (E : Value → Shared → Prop) (env : Env)
noncomputable def Fo2 (target : Expr) (body orelse : List Stmt) (Q : Flow → Loc → Ldg → Prop) (it : Value) (l : Loc) (N : Ldg) : Prop := CW c (cameBackBy (model PR c.w) c.A env E) l N (.forLoop target it body orelse env) Q
noncomputable def Fo1 (target : Expr) (body orelse : List Stmt) (Q : Flow → Loc → Ldg → Prop) (x : Value) (l : Loc) (N : Ldg) : Prop := WP c E l N (pyIter x) (Fo2 c E env target body orelse Q)
/-- how a turn ends -/
noncomputable def TurnF (I : Nat → Loc → Ldg → Prop) (Q : Flow → Loc → Ldg → Prop) (n : Nat) (f : Flow) (l : Loc) (N : Ldg) : Prop := match f with
  | .next | .cont => ∃ m, m < n ∧ I m l N
  | .brk => Q .next l N
  | .ret v => Q (.ret v) l N
noncomputable def TurnB (body : List Stmt) (QF : Flow → Loc → Ldg → Prop) (_ : Unit) (l : Loc) (N : Ldg) : Prop := WP c E l N (execs body env) QF
noncomputable def TurnN (target : Expr) (body orelse : List Stmt) (Q QF : Flow → Loc → Ldg → Prop) (r : Option Value) (l : Loc) (N : Ldg) : Prop := match r with
  | none => WP c E l N (execs orelse env) Q
  | some v => WP c E l N (assign target env v) (TurnB c E env body QF)
noncomputable def TurnW (body orelse : List Stmt) (Q QF : Flow → Loc → Ldg → Prop) (b : Bool) (l : Loc) (N : Ldg) : Prop := match b with
  | false => WP c E l N (execs orelse env) Q
  | true => WP c E l N (execs body env) QF
end
section
variable {c : Cx} {E Er : Value → Shared → Prop} {l : Loc} {N : Ldg} {env : Env} {target iter test elt : Expr} {it : Value} {body orelse : List Stmt} {pos : Pos} {Q : Flow → Loc → Ldg → Prop}

theorem w_For (h : WP c E l N (eval iter env) (Fo1 c E env target body orelse Q))
    (hs : ∀ x, foldedSetIterable iter env x = pure x := by intro _; rfl) : WP c E l N (exec (.For target iter body orelse pos) env) Q :=
  WP.mk fun _ S => wpAny_For (h.go S fun _ _ _ _ S1 q => WP.go q S1 fun _ _ _ _ S2 q => codeAny_mono (CW.run q _ S2) fun r _ hr => by cases r <;> exact hr) hs
theorem w_While (h : CW c (cameBackBy (model PR c.w) c.A env E) l N (.whileLoop test body orelse env) Q) : WP c E l N (exec (.While test body orelse pos) env) Q :=
  WP.mk fun _ S => wpAny_While (codeAny_mono (h.run _ S) fun r _ hr => by cases r <;> exact hr)
theorem cw_for (I : Nat → Loc → Ldg → Prop)
    (turn : ∀ n l N, I n l N → WP c (notedBy (model PR c.w) c.A env Er) l N (pyNext it) (TurnN c (notedBy (model PR c.w) c.A env Er) env target body orelse Q (TurnF I Q n)))
    (n : Nat) (h : I n l N) (ht : ∀ v, letOwnedTupleGo target it v = pure () := by intro _; rfl) : CW c Er l N (.forLoop target it body orelse env) Q := CW.mk fun s S => by
  refine codeAny_forLoop_any (fun n s => ∃ l N, St c l N s ∧ I n l N) (fun n s hI => ?_) n ⟨_, _, S, h⟩
  obtain ⟨l, N, S, hI⟩ := hI
  refine (turn n l N hI).go S fun r s₁ l1 N1 S1 q => ?_
  cases r with
  | none => exact WP.go q S1 fun f _ _ _ S2 q => ⟨_, _, S2, q⟩
  | some v =>
    refine wpAny_of_eq (ht v) (WP.go q S1 fun _ _ _ _ S2 q => WP.go q S2 fun f s₃ l3 N3 S3 q => ?_)
    cases f with
    | next => obtain ⟨m, hm, q⟩ := q; exact ⟨m, hm, _, _, S3, q⟩
    | cont => obtain ⟨m, hm, q⟩ := q; exact ⟨m, hm, _, _, S3, q⟩
    | brk => exact ⟨_, _, S3, q⟩
    | ret v => exact ⟨_, _, S3, q⟩
theorem cw_while (I : Nat → Loc → Ldg → Prop)
    (turn : ∀ n l N, I n l N → WP c (notedBy (model PR c.w) c.A env Er) l N (isTrue test env (eval test env)) (TurnW c (notedBy (model PR c.w) c.A env Er) env body orelse Q (TurnF I Q n)))
    (n : Nat) (h : I n l N) : CW c Er l N (.whileLoop test body orelse env) Q := CW.mk fun s S => by
  refine codeAny_whileLoop (fun n s => ∃ l N, St c l N s ∧ I n l N) (fun n s hI => ?_) n ⟨_, _, S, h⟩
  obtain ⟨l, N, S, hI⟩ := hI
  refine (turn n l N hI).go S fun b s₁ l1 N1 S1 q => ?_
  cases b with
  | false => exact WP.go q S1 fun f _ _ _ S2 q => ⟨_, _, S2, q⟩
  | true =>
    refine WP.go q S1 fun f s₃ l3 N3 S3 q => ?_
    cases f with
    | next => obtain ⟨m, hm, q⟩ := q; exact ⟨m, hm, _, _, S3, q⟩
    | cont => obtain ⟨m, hm, q⟩ := q; exact ⟨m, hm, _, _, S3, q⟩
    | brk => exact ⟨_, _, S3, q⟩
    | ret v => exact ⟨_, _, S3, q⟩
theorem cw_comp {ifs : List Expr} {scope : Scope} {acc : Value} (I : Nat → Loc → Ldg → Prop)
    (turn : ∀ n l N, I n l N → WP c (notedBy (model PR c.w) c.A env Er) l N (pyNext it) fun r l1 N1 => match r with
      | none => Q .next l1 N1
      | some v => WP c (notedBy (model PR c.w) c.A env Er) l1 N1 (assign target env v) fun _ l2 N2 =>
        WP c (notedBy (model PR c.w) c.A env Er) l2 N2 (forIn ifs true fun c r => if r = true then do let ok ← isTrue c env (eval c env); pure (ForInStep.yield ok) else pure (ForInStep.yield r)) fun ok l3 N3 => match ok with
          | true => WP c (notedBy (model PR c.w) c.A env Er) l3 N3 (eval elt env) fun x l4 N4 => WP c (notedBy (model PR c.w) c.A env Er) l4 N4 (call (.builtin "list.append") [acc, x]) fun _ l5 N5 => ∃ m, m < n ∧ I m l5 N5
          | false => ∃ m, m < n ∧ I m l3 N3)
    (n : Nat) (h : I n l N) (ht : ∀ v, letOwnedTupleGo target it v = pure () := by intro _; rfl) : CW c Er l N (.compLoop (.ListComp elt [⟨target, iter, ifs, 0⟩] scope pos) 0 it acc env) Q := CW.mk fun s S => by
  refine codeAny_compLoop_tests (fun n s => ∃ l N, St c l N s ∧ I n l N) (fun n s hI => ?_) n ⟨_, _, S, h⟩ ht
  obtain ⟨l, N, S, hI⟩ := hI
  refine (turn n l N hI).go S fun r s₁ l1 N1 S1 q => ?_
  cases r with
  | none => exact ⟨_, _, S1, q⟩
  | some v =>
    refine WP.go q S1 fun _ _ _ _ S2 q => WP.go q S2 fun ok s₃ l3 N3 S3 q => ?_
    cases ok with
    | false => obtain ⟨m, hm, q⟩ := q; exact ⟨m, hm, _, _, S3, q⟩
    | true => exact WP.go q S3 fun _ _ _ _ S4 q => WP.go q S4 fun _ _ _ _ S5 q => let ⟨m, hm, q⟩ := q; ⟨m, hm, _, _, S5, q⟩
theorem cw_perm {code : Code} {N' : Ldg} (hs : N.Perm N') (h : CW c Er l N' code Q) : CW c Er l N code Q := CW.mk fun s S => h.run s (S.perm hs)
theorem w_tests_nil {Q : Bool → Loc → Ldg → Prop} (h : Q true l N) :
    WP c E l N (forIn ([] : List Expr) true fun c r => if r = true then do let ok ← isTrue c env (eval c env); pure (ForInStep.yield ok) else pure (ForInStep.yield r)) Q := WP.mk fun _ S => wpAny_tests_nil ⟨_, _, S, h⟩
theorem w_tests_one {e : Expr} {Q : Bool → Loc → Ldg → Prop} (h : WP c E l N (isTrue e env (eval e env)) Q) :
    WP c E l N (forIn [e] true fun c r => if r = true then do let ok ← isTrue c env (eval c env); pure (ForInStep.yield ok) else pure (ForInStep.yield r)) Q := WP.mk fun _ S => wpAny_tests_one (h.run _ S)
end

section
variable {c : Cx} {E : Value → Shared → Prop} {l lc : Loc} {N : Ldg} {env : Env} {target iter elt : Expr} {ifs : List Expr} {pos : Pos} {scope : Scope} {cl : List (Str × Addr)}
noncomputable abbrev Cx.inner (c : Cx) (g : Heap) (C : Addr) : Cx := ⟨c.w, c.A, g, C, c.gs, c.d, c.os⟩
noncomputable abbrev listO (vs : List Value) (n : Nat := 0) : Obj := { cls := .type "list", data := .seq vs.toArray n }
/-- what the comprehension's own block must show -/
noncomputable def CompDo (c : Cx) (env : Env) (elt target iter : Expr) (ifs : List Expr) (scope : Scope) (pos : Pos) (cl : List (Str × Addr)) (lc : Loc) (it : Value) (N : Ldg) (Q : Addr → Ldg → Prop) : Prop :=
  ∀ acc g C, (∀ b o, c.g.get? b = some o → g.get? b = some o) →
    (∀ E', WP (c.inner g C) E' lc ((acc, listO []) :: N) (pyIter it) fun it' lc' N' => it' = it ∧ lc' = lc ∧ N' = (acc, listO []) :: N) ∧
    ∀ Er, CW (c.inner g C) Er lc ((acc, listO []) :: N) (.compLoop (.ListComp elt [⟨target, iter, ifs, 0⟩] scope pos) 0 it (.ref acc) (compEnvC scope cl C env)) fun _ _ N' => Q acc N'
theorem CompDo.mono {it : Value} {Q Q' : Addr → Ldg → Prop} (h : CompDo c env elt target iter ifs scope pos cl lc it N Q) (k : ∀ acc N', Q acc N' → Q' acc N') : CompDo c env elt target iter ifs scope pos cl lc it N Q' :=
  fun acc g C hg => ⟨(h acc g C hg).1, fun Er => CW.mk fun s S => codeAny_mono (((h acc g C hg).2 Er).run s S) fun r s' hr => by
    cases r with
    | ok f => obtain ⟨l', N', S', q⟩ := hr; exact ⟨l', N', S', k _ _ q⟩
    | error e => exact hr⟩
theorem St.inner {s : Shared} (S : St c l N s) {h' : Heap} {t : Nat} (hn : h'.Ns s.heap.objs.size (fun _ => none)) (hk : ∀ b o, s.heap.get? b = some o → h'.get? b = some o) (hlc : ∀ p ∈ lc, p.2 = none) (hln : (lc.map (·.1)).Nodup) :
    St (c.inner (hideAll s.heap (N.map (·.1))) s.heap.objs.size) lc N { s with heap := h', toks := t } :=
  ⟨⟨_, ⟨hn, fun b o e => hk b o (of_hideAll _ e), Nat.le_of_eq (hideAll_size _ _)⟩, fun p hp => (hlc p hp).symm⟩, hln, fun p hp => ⟨hk _ _ (S.nw p hp).1, Nat.ne_of_lt (Heap.lt_size (S.nw p hp).1), hideAll_none _ (List.mem_map_of_mem hp)⟩, S.nd, S.gs, S.dr, S.os⟩
theorem St.outer {s s' : Shared} {N' : Ldg} {C : Addr} (S : St c l N s) (S' : St (c.inner (hideAll s.heap (N.map (·.1))) C) lc N' s') {h' : Heap} (hC : C = s.heap.objs.size) (hs : Heap.SameBut C s'.heap h') : St c l N' { s' with heap := h' } := by
  have S0 : St c l (N ++ []) s := by rw [List.append_nil]; exact S
  have z : Sc (c.k (hideAll s.heap (N.map (·.1)))) N' { s' with heap := h' } := by
    refine ⟨fun b o e => (hs.2 b ?_).trans (S'.keep b o e), ?_, fun p hp => ⟨(hs.2 _ (S'.nw p hp).2.1).trans (S'.nw p hp).1, (S'.nw p hp).2.2⟩, S'.nd, S'.gs, S'.dr, S'.os⟩
    · rw [hC]; exact Nat.ne_of_lt (Heap.lt_size (of_hideAll _ e))
    · obtain ⟨m, F, _⟩ := S'.fr
      show (hideAll s.heap (N.map (·.1))).objs.size ≤ h'.objs.size
      rw [hs.1, hideAll_size, ← hC]
      obtain ⟨_, _, _, hL, _⟩ := F.ns
      exact Nat.le_of_lt (Heap.lt_size hL)
  have q := S0.back (core' := N') (s' := { s' with heap := h' }) z
  rw [List.append_nil] at q
  exact q
theorem w_ListComp {Q : Value → Loc → Ldg → Prop} (hclos : closureFor scope env = pure cl) (hlc : ∀ p ∈ lc, p.2 = none) (hln : (lc.map (·.1)).Nodup)
    (h : WP c E l N (eval iter env) fun x l1 N1 => WP c E l1 N1 (pyIter x) fun it l2 N2 => CompDo c env elt target iter ifs scope pos cl lc it N2 fun acc N' => Q (.ref acc) l2 N')
    (hkind : scope.kind = .function := by rfl) (hnames : ∀ x ∈ scope.names, x.2 = .local → scope.names.lookup x.1 = some .local := by decide) (hcell : ∀ x ∈ scope.names, x.2 ≠ .cell := by decide)
    (hs : ∀ x, foldedSetIterable iter env x = pure x := by intro _; rfl) :
    WP c E l N (eval (.ListComp elt [⟨target, iter, ifs, 0⟩] scope pos) env) Q := WP.mk fun s S => by
  rw [eval_ListComp]
  refine wpAny_comprehension_free (cl := cl) rfl hs hclos hkind hnames (h.go S fun x s₁ l1 N1 S1 q => q.go S1 fun it s₂ l2 N2 S2 q => ?_)
  refine wpAny_newObj_type ?_ (by show ([] : List Value).toArray.size ≤ sizeLine; decide)
  have S3 := S2.push (listO [])
  refine wpAny_newFunctionEnv hcell (fun _ hx => nomatch hx) (fun h' hn hsb => ?_) hkind
  have hk : ∀ b o, (s₂.heap.push (listO [])).get? b = some o → h'.get? b = some o := fun b o e => hsb.extBut b o (Nat.ne_of_lt (Heap.lt_size e)) (Heap.get?_push_of_some _ e)
  have S4 := S3.inner (t := s₂.toks) (lc := lc) hn hk hlc hln
  obtain ⟨q1, q2⟩ := q s₂.heap.objs.size (hideAll (s₂.heap.push (listO [])) (((s₂.heap.objs.size, listO []) :: N2).map (·.1))) (s₂.heap.push (listO [])).objs.size
    (by have S0 : St c l2 (((s₂.heap.objs.size, listO []) :: N2) ++ []) { s₂ with heap := s₂.heap.push (listO []) } := by rw [List.append_nil]; exact S3
        exact S0.ground)
  have fin : ∀ r s', (match r with | .ok _ => ∃ l' N', St (c.inner (hideAll (s₂.heap.push (listO [])) (((s₂.heap.objs.size, listO []) :: N2).map (·.1))) (s₂.heap.push (listO [])).objs.size) l' N' s' ∧ Q (.ref s₂.heap.objs.size) l2 N' | .error _ => False) →
      compPost (model PR c.w) c.A E none (fun a s' => ∃ l' N', St c l' N' s' ∧ Q a l' N') (.ref s₂.heap.objs.size) (s₂.heap.push (listO [])).objs.size r s' := fun r s' hr => by
    cases r with
    | error e => exact hr.elim
    | ok f =>
      obtain ⟨l', N', S5, q⟩ := hr
      obtain ⟨m, F, _⟩ := S5.fr
      exact ⟨m, F.ns, fun h' hs => ⟨_, _, S3.outer S5 rfl hs, q⟩⟩
  refine codeAny_mono (codeAny_compStart_list (R := fun r s' => match r with | .ok _ => ∃ l' N', St (c.inner (hideAll (s₂.heap.push (listO [])) (((s₂.heap.objs.size, listO []) :: N2).map (·.1))) (s₂.heap.push (listO [])).objs.size) l' N' s' ∧ Q (.ref s₂.heap.objs.size) l2 N' | .error _ => False) ?_ ?_) fin
  · exact codeAny_mono ((q2 (fun _ _ => False)).run _ S4) fun r s' hr => by cases r <;> exact hr
  · refine WP.go (q1 _) S4 fun it' s5 lc' N' S5 e => ?_
    obtain ⟨rfl, rfl, rfl⟩ := e
    exact codeAny_mono ((q2 (fun _ _ => False)).run _ S5) fun r s' hr => by cases r <;> exact hr
end
end Mine
end
section
open PySem PySem.W PyProof.Rows PySem.Calls PySem.Spec
namespace Mine
/-- a text by its signs' numbers -/
noncomputable abbrev T (l : List Nat) : Str := ⟨l.toArray⟩
theorem T_append (a b : List Nat) : T a ++ T b = T (a ++ b) := by
  show (⟨a.toArray ++ b.toArray⟩ : Str) = ⟨(a ++ b).toArray⟩
  rw [List.append_toArray]
theorem T_len (a : List Nat) : (T a).length = a.length := by show a.toArray.size = _; simp
theorem T_inj {a b : List Nat} (h : T a = T b) : a = b := by injection h with h; exact congrArg Array.toList h

section
variable {c : Cx} {E : Value → Shared → Prop} {l : Loc} {N : Ldg} {env : Env} {a b : Int} {t u : Tok} {Q : Value → Loc → Ldg → Prop}
theorem w_add (h : ∀ t, Q (.int (a + b) t) l N) : WP c E l N (binaryOp .Add (.int a t) (.int b u)) Q := WP.mk fun _ S => P.add_int ⟨_, _, S.tok _, h _⟩
theorem w_iadd (h : ∀ t, Q (.int (a + b) t) l N) : WP c E l N (inplaceOp .Add (.int a t) (.int b u)) Q := WP.mk fun _ S => P.iadd_int ⟨_, _, S.tok _, h _⟩
theorem w_sub_int (h : ∀ t, Q (.int (a - b) t) l N) : WP c E l N (binaryOp .Sub (.int a t) (.int b u)) Q := WP.mk fun _ S => P.sub_int ⟨_, _, S.tok _, h _⟩
theorem w_mod (hb : b ≠ 0) (h : ∀ t, Q (.int (a.fmod b) t) l N) : WP c E l N (binaryOp .Mod (.int a t) (.int b u)) Q := WP.mk fun _ S => mod_int' hb ⟨_, _, S.tok _, h _⟩
theorem w_fdiv (hb : b ≠ 0) (hs : b.natAbs < 1073741824) (h : ∀ t, Q (.int (a.fdiv b) t) l N) : WP c E l N (binaryOp .FloorDiv (.int a t) (.int b u)) Q :=
  WP.mk fun _ S => floordiv_int hb ⟨_, _, S.tok _, h _⟩ (.inl (PyProof.noPylong_small hs))
theorem w_pow8 (h0 : 0 ≤ b) (h1 : b ≤ 100) (h : ∀ t, Q (.int (8 ^ b.toNat) t) l N) : WP c E l N (binaryOp .Pow (.int 8 t) (.int b u)) Q :=
  WP.mk fun _ S => pow_int h0 (by rw [show Builtin.Int.intBits 8 = 4 from by decide +kernel]; omega) ⟨_, _, S.tok _, h _⟩
theorem w_and (h : ∀ t, Q (.int (Builtin.bitAnd a b) t) l N) : WP c E l N (binaryOp .BitAnd (.int a t) (.int b u)) Q := WP.mk fun _ S => and_int ⟨_, _, S.tok _, h _⟩
theorem w_ior (h : ∀ t, Q (.int (Builtin.bitOr a b) t) l N) : WP c E l N (inplaceOp .BitOr (.int a t) (.int b u)) Q := WP.mk fun _ S => ior_int ⟨_, _, S.tok _, h _⟩
theorem w_ishl (hn : 0 ≤ b) (hn2 : b ≤ 1000000) (ha : a.natAbs < 2 ^ 64) (h : ∀ t, Q (.int (a * 2 ^ b.toNat) t) l N) : WP c E l N (inplaceOp .LShift (.int a t) (.int b u)) Q :=
  WP.mk fun _ S => ilshift_int_small hn hn2 ha ⟨_, _, S.tok _, h _⟩
theorem w_gt (h : Q (.bool (decide (a > b))) l N) : WP c E l N (compareOp .Gt (.int a t) (.int b u)) Q := WP.mk fun _ S => P.gt_int ⟨_, _, S, h⟩
theorem w_le (h : Q (.bool (decide (a ≤ b))) l N) : WP c E l N (compareOp .LtE (.int a t) (.int b u)) Q := WP.mk fun _ S => P.le_int ⟨_, _, S, h⟩
theorem w_eqi (h : Q (.bool (a == b)) l N) : WP c E l N (compareOp .Eq (.int a t) (.int b u)) Q := WP.mk fun _ S => P.eq_int ⟨_, _, S, h⟩
theorem w_truthy_int {Q : Bool → Loc → Ldg → Prop} (h : Q (a != 0) l N) : WP c E l N (truthy (.int a t)) Q := WP.mk fun _ S => P.truthy_int ⟨_, _, S, h⟩
theorem w_chr (h0 : 0 ≤ a) (h1 : a ≤ 1114111) (h : ∀ t, Q (.str (T [a.toNat]) t) l N) : WP c E l N (call (.builtin "chr") [.int a t]) Q := WP.mk fun _ S => chr_of_range h0 h1 ⟨_, _, S.tok _, h _⟩
theorem w_ord {n : Nat} (h : ∀ t, Q (.int (n : Int) t) l N) : WP c E l N (call (.builtin "ord") [.str (T [n]) t]) Q := WP.mk fun _ S => P.ord_of_char ⟨_, _, S.tok _, h _⟩
end
section
variable {c : Cx} {E : Value → Shared → Prop} {l : Loc} {N : Ldg} {env : Env} {x y : List Nat} {t u : Tok} {Q : Value → Loc → Ldg → Prop}
theorem w_adds (hs : x.length + y.length ≤ 1000000) (h : ∀ t, Q (.str (T (x ++ y)) t) l N) : WP c E l N (binaryOp .Add (.str (T x) t) (.str (T y) u)) Q :=
  WP.mk fun _ S => SB.add (fun _ _ => by rw [T_append]; exact ⟨_, _, S.tok _, h _⟩) (by rw [T_len, T_len]; exact Nat.le_trans hs (by decide))
theorem w_iadds (hs : x.length + y.length ≤ 1000000) (h : ∀ t, Q (.str (T (x ++ y)) t) l N) : WP c E l N (inplaceOp .Add (.str (T x) t) (.str (T y) u)) Q :=
  WP.mk fun _ S => SB.iadd (fun _ _ => by rw [T_append]; exact ⟨_, _, S.tok _, h _⟩) (by rw [T_len, T_len]; exact Nat.le_trans hs (by decide))
theorem w_eqs (h : Q (.bool (x == y)) l N) : WP c E l N (compareOp .Eq (.str (T x) t) (.str (T y) u)) Q := WP.mk fun _ S => P.eq_str ⟨_, _, S, h⟩
theorem w_in1 {n : Nat} (h : Q (.bool (decide (n ∈ x))) l N) : WP c E l N (compareOp .In (.str (T [n]) t) (.str (T x) u)) Q :=
  WP.mk fun _ S => P.in_str (by rw [StrLaws.found_one]; exact ⟨_, _, S, h⟩)
theorem w_lens (hs : x.length ≤ 1000000) (h : ∀ t, Q (.int (x.length : Int) t) l N) : WP c E l N (call (.builtin "len") [.str (T x) t]) Q :=
  WP.mk fun _ S => P.len_str (by rw [T_len]; omega) (by rw [T_len]; exact ⟨_, _, S.tok _, h _⟩)
theorem w_truthy_str {Q : Bool → Loc → Ldg → Prop} (hs : x.length ≤ 1000000) (h : Q (decide (x ≠ [])) l N) : WP c E l N (truthy (.str (T x) t)) Q :=
  WP.mk fun _ S => P.truthy_str (by rw [T_len]; omega) (by
    rw [T_len]
    refine ⟨_, _, S.tok _, ?_⟩
    have : ((x.length : Int) != 0) = decide (x ≠ []) := by cases x <;> simp <;> omega
    rw [this]; exact h)
end
end Mine
end
section
open PySem PySem.W PyProof.Rows PySem.Calls PySem.Spec
namespace Mine
/-- list objects, whatever their count of changes -/
noncomputable def OL (o : Obj) (vs : List Value) : Prop := o.cls = .type "list" ∧ ∃ n, o.data = .seq vs.toArray n
theorem OL.new (vs : List Value) (n : Nat := 0) : OL (listO vs n) vs := ⟨rfl, n, rfl⟩
noncomputable abbrev tupO (vs : List Value) : Obj := { cls := .type "tuple", data := .seq vs.toArray }
noncomputable abbrev OD (w : World) (o : Obj) (kvs : List (Str × Value)) : Prop := o.IsDictOf (PySem.strKind PR w) kvs
noncomputable def OLI (o : Obj) (a : Addr) (i : Nat) : Prop := o.cls = .type "list_iterator" ∧ o.data = .fields #[.ref a, .int i 0]
noncomputable abbrev rangeItO (x left : Int) : Obj := { cls := .type "range_iterator", dict := none, data := .fields #[rawInt x, rawInt left, rawInt 1], slots := #[] }
noncomputable def OSI (o : Obj) (x : Str) (i : Nat) : Prop := ∃ ty t, (ty = "str_ascii_iterator" ∨ ty = "str_iterator") ∧ o.cls = .type ty ∧ o.data = .fields #[.str x t, .int i 0]

section
variable {c : Cx} {E : Value → Shared → Prop} {l : Loc} {N : Ldg} {s : Shared} {a : Addr} {o : Obj} {vs : List Value} {f : Obj → Ldg}
theorem St.isList (S : St c l N s) (hm : (a, o) ∈ N) (ho : OL o vs) : s.heap.IsList a vs.toArray := ⟨o, S.get hm, ho⟩
theorem St.drop (S : St c l ((a, o) :: N) s) {h' : Heap} (he : Heap.ExtBut a s.heap h') : St c l N { s with heap := h' } := by
  have D := S.nw _ (.head _)
  have nd := S.nd
  rw [List.map_cons, List.nodup_cons] at nd
  obtain ⟨m, F, hm⟩ := S.fr
  refine ⟨⟨m, ⟨F.ns.extBut he (Ne.symm D.2.1), fun b x q => he b x (fun z => ?_) (F.keep b x q), F.above⟩, hm⟩, S.ln, fun p hp => ⟨he _ _ (fun z => nd.1 ?_) (S.nw p (.tail _ hp)).1, (S.nw p (.tail _ hp)).2⟩, nd.2, S.gs, S.dr, S.os⟩
  · have := D.2.2; rw [← z, q] at this; cases this
  · rw [← show p.1 = a from z]; exact List.mem_map_of_mem (f := (·.1)) hp
theorem St.chg (S : St c l N s) (U : ∀ o', Ch a o o' N (f o')) {h' : Heap} (hs : Heap.SameBut a s.heap h') {o' : Obj} (e : h'.get? a = some o') : St c l (f o') { s with heap := h' } := S.turn (U o') hs e
end

section
variable {c : Cx} {E : Value → Shared → Prop} {l : Loc} {N : Ldg} {env : Env} {a b : Addr} {o o₂ : Obj} {vs ws : List Value} {f : Obj → Ldg} {k : Int} {t u : Tok} {v : Value} {Q : Value → Loc → Ldg → Prop}
theorem w_len_list (hm : (a, o) ∈ N) (ho : OL o vs) (hs : vs.length ≤ 1000000) (h : ∀ t, Q (.int vs.length t) l N) : WP c E l N (call (.builtin "len") [.ref a]) Q :=
  WP.mk fun _ S => len_list (S.isList hm ho) (by rw [List.size_toArray]; omega) (by rw [List.size_toArray]; exact ⟨_, _, S.tok _, h _⟩)
theorem w_getItem_list (hm : (a, o) ∈ N) (ho : OL o vs) (h0 : 0 ≤ k) (h1 : k < 1000000) (hv : vs[k.toNat]? = some v) (h : Q v l N) : WP c E l N (getItem (.ref a) (.int k t)) Q :=
  WP.mk fun _ S => wpAny_getItem_list (S.isList hm ho) h0 (by omega) (by simpa using hv) ⟨_, _, S, h⟩
theorem w_item {value slice : Expr} (hm : (a, o) ∈ N) (ho : OL o vs) (h0 : 0 ≤ k) (h1 : k < 1000000) (hv : vs[k.toNat]? = some v) (h : Q v l N)
    (hs : subscripted slice false (.ref a) (.int k t) = operate [.ref a, .int k t] (getItem (.ref a) (.int k t)) := by with_unfolding_all rfl) : WP c E l N (subscriptTail value slice (.ref a) (.int k t)) Q :=
  WP.mk fun _ S => tail_any (S.isList hm ho).typeIs slot_list_getitem.lookup ((w_getItem_list hm ho h0 h1 hv h).run _ S) hs
theorem w_item_last {value slice : Expr} (hm : (a, o) ∈ N) (ho : OL o (vs ++ [v])) (hl : vs.length < 1000000) (h : Q v l N)
    (hs : subscripted slice false (.ref a) (.int (-1) t) = operate [.ref a, .int (-1) t] (getItem (.ref a) (.int (-1) t)) := by with_unfolding_all rfl) : WP c E l N (subscriptTail value slice (.ref a) (.int (-1) t)) Q :=
  WP.mk fun _ S => tail_any (S.isList hm ho).typeIs slot_list_getitem.lookup
    (wpAny_getItem_list_neg (S.isList hm ho) (by omega) (by simp only [List.size_toArray, List.length_append, List.length_cons, List.length_nil]; omega) (by omega)
      (by simp only [List.size_toArray, List.length_append, List.length_cons, List.length_nil]
          rw [show ((-1 : Int) + ((vs.length + (0 + 1) : Nat) : Int)).toNat = vs.length by omega]
          simp) ⟨_, _, S, h⟩) hs
theorem w_setItem_list {Q : Unit → Loc → Ldg → Prop} (U : ∀ o', Ch a o o' N (f o')) (ho : OL o vs) (h0 : 0 ≤ k) (h1 : k < vs.length) (hl : vs.length < 1000000)
    (h : ∀ o', OL o' (vs.set k.toNat v) → Q () l (f o')) : WP c E l N (setItem (.ref a) (.int k t) v) Q :=
  WP.mk fun s S => wpAny_setItem_list (S.isList (U o).mem ho) h0 (by omega) (by simpa using h1) fun h' hl' hs => by
    obtain ⟨o', e, q1, n, q2⟩ := hl'
    exact ⟨_, _, S.chg U hs e, h o' ⟨q1, n, by rw [q2]; congr 1; simp⟩⟩
theorem w_append (U : ∀ o', Ch a o o' N (f o')) (ho : OL o vs) (hl : vs.length < 1000000) (h : ∀ o', OL o' (vs ++ [v]) → Q .none l (f o')) : WP c E l N (call (.builtin "list.append") [.ref a, v]) Q :=
  WP.mk fun s S => wpAny_list_append (S.isList (U o).mem ho) (fun h' hl' hs => by
    obtain ⟨o', e, q1, n, q2⟩ := hl'
    exact ⟨_, _, S.chg U hs e, h o' ⟨q1, n, by rw [q2]; congr 1; simp⟩⟩) (by rw [List.size_toArray, sizeLine_eq]; omega)
theorem w_add_list (h1 : (a, o) ∈ N) (ho : OL o vs) (h2 : (b, o₂) ∈ N) (ho₂ : OL o₂ ws) (hl : vs.length + ws.length ≤ 1000000) (h : ∀ d, Q (.ref d) l ((d, listO (vs ++ ws)) :: N)) :
    WP c E l N (binaryOp .Add (.ref a) (.ref b)) Q := WP.mk fun s S => by
  obtain ⟨m, F, hm⟩ := S.fr
  refine add_lists F S.nw (S.isList h1 ho) (S.isList h2 ho₂) (fun h' F' N' => ⟨l, (s.heap.objs.size, listO (vs ++ ws)) :: N, ⟨⟨m, F', hm⟩, S.ln, N', (S.push (listO (vs ++ ws))).nd, S.gs, S.dr, S.os⟩, h _⟩) (by rw [sizeLine_eq]; omega)
theorem w_truthy_list {Q : Bool → Loc → Ldg → Prop} (hm : (a, o) ∈ N) (ho : OL o vs) (hl : vs.length ≤ 1000000) (h : Q (!vs.isEmpty) l N) : WP c E l N (truthy (.ref a)) Q :=
  WP.mk fun _ S => wpAny_truthy_list (S.isList hm ho) (by rw [List.size_toArray]; omega) ⟨_, _, S.tok _, by simpa using h⟩
/-- a cut of a list, wherever it stands -/
theorem w_slice_listA {value : Expr} {lower upper : Option Expr} {p pos : Pos}
    (h : WP c E l N (eval value env) fun x l1 N1 => WP c E l1 N1 (evalPart lower env) fun vl l2 N2 => WP c E l2 N2 (evalPart upper env) fun vu l3 N3 =>
      ∃ (a : Addr) (vs : List Value) (lo hi : Option Int), x = .ref a ∧ (∀ s, St c l3 N3 s → s.heap.IsList a vs.toArray) ∧ vs.length ≤ 1000000 ∧ IsPart vl lo ∧ IsPart vu hi ∧ ∀ d, Q (.ref d) l3 ((d, listO (slicePick vs.toArray lo hi none).toList) :: N3)) :
    WP c E l N (eval (.Subscript value (.Slice lower upper none p) pos) env) Q :=
  WP.mk fun s S => Subscript_ (h.go S fun x _ _ _ S1 q => wpAny_Slice (q.go S1 fun vl _ _ _ S2 q => q.go S2 fun vu s₃ l3 N3 S3 q => by
    obtain ⟨a, vs, lo, hi, rfl, hL, hl, pl, pu, hq⟩ := q
    have hL := (hL _ S3).push (o := { cls := .type "slice", data := .fields #[vl, vu, .none] })
    rw [evalPart_none]
    refine wpAny_pure (tail_any hL.typeIs slot_list_getitem.lookup (wpAny_getItem_list_slice hL (Heap.IsSliceOf.new ..) pl pu .none (by simp) ?_ (by rw [List.size_toArray, sizeLine_eq]; omega)) rfl)
    have S4 := (S3.push { cls := .type "slice", data := .fields #[vl, vu, .none] }).push (listO (slicePick vs.toArray lo hi none).toList)
    have S5 := S4.sub (N' := ((s₃.heap.push { cls := .type "slice", data := .fields #[vl, vu, .none] }).objs.size, listO (slicePick vs.toArray lo hi none).toList) :: N3) (List.Sublist.cons_cons _ (List.Sublist.cons _ (List.Sublist.refl _)))
    exact ⟨_, _, by simpa using S5, hq _⟩))
theorem w_slice_list {value : Expr} {lower upper : Option Expr} {p pos : Pos}
    (h : WP c E l N (eval value env) fun x l1 N1 => WP c E l1 N1 (evalPart lower env) fun vl l2 N2 => WP c E l2 N2 (evalPart upper env) fun vu l3 N3 =>
      ∃ a o vs lo hi, x = .ref a ∧ (a, o) ∈ N3 ∧ OL o vs ∧ vs.length ≤ 1000000 ∧ IsPart vl lo ∧ IsPart vu hi ∧ ∀ d, Q (.ref d) l3 ((d, listO (slicePick vs.toArray lo hi none).toList) :: N3)) :
    WP c E l N (eval (.Subscript value (.Slice lower upper none p) pos) env) Q :=
  w_slice_listA <| h.mono fun _ _ _ q => WP.mono q fun _ _ _ q => WP.mono q fun _ _ _ ⟨a, _, vs, lo, hi, e, hm, ho, hr⟩ => ⟨a, vs, lo, hi, e, fun _ S => S.isList hm ho, hr⟩
theorem w_part_none {env : Env} (h : Q .none l N) : WP c E l N (evalPart none env) Q := WP.mk fun _ S => wpAny_pure ⟨_, _, S, h⟩
theorem w_part_some {env : Env} {e : Expr} (h : WP c E l N (eval e env) Q) : WP c E l N (evalPart (some e) env) Q := h
theorem w_iter_list (hm : (a, o) ∈ N) (ho : OL o vs) (h : ∀ i o', OLI o' a 0 → Q (.ref i) l ((i, o') :: N)) : WP c E l N (pyIter (.ref a)) Q :=
  WP.mk fun _ S => wpAny_pyIter_list (S.isList hm ho) ⟨_, _, S.push _, h _ _ ⟨rfl, rfl⟩⟩
theorem w_iter_listiter {i : Nat} (hm : (a, o) ∈ N) (ho : OLI o b i) (h : Q (.ref a) l N) : WP c E l N (pyIter (.ref a)) Q :=
  WP.mk fun _ S => wpAny_pyIter_listiter ⟨o, S.get hm, ho⟩ ⟨_, _, S, h⟩
theorem w_next_list {Q : Option Value → Loc → Ldg → Prop} {i : Nat} (U : ∀ o', Ch b o₂ o' N (f o')) (hi : OLI o₂ a i) (hm : (a, o) ∈ N) (ho : OL o vs) (hv : vs[i]? = some v)
    (h : ∀ o', OLI o' a (i + 1) → Q (some v) l (f o')) : WP c E l N (pyNext (.ref b)) Q :=
  WP.mk fun _ S => wpAny_pyNext_list_item ⟨o₂, S.get (U o₂).mem, hi⟩ (S.isList hm ho) (by simpa using hv) fun h' hi' hs => by
    obtain ⟨o', e, q⟩ := hi'
    exact ⟨_, _, S.chg U hs e, h o' q⟩
theorem w_end_list {Q : Option Value → Loc → Ldg → Prop} {i : Nat} (hh : c.A.handled = none) (hi : OLI o₂ a i) (hm : (a, o) ∈ N) (ho : OL o vs) (hv : vs[i]? = none) (h : Q none l N) :
    WP c E l ((b, o₂) :: N) (pyNext (.ref b)) Q :=
  WP.mk fun _ S => wpAny_pyNext_list_end hh ⟨o₂, S.get (.head _), hi⟩ (S.isList (.tail _ hm) ho) (by simpa using hv) fun h' he => ⟨_, _, S.drop he, h⟩
end

section
variable {c : Cx} {E : Value → Shared → Prop} {l : Loc} {N : Ldg} {env : Env} {b : Addr} {o : Obj} {f : Obj → Ldg} {k x left : Int} {t : Tok} {Q : Value → Loc → Ldg → Prop}
theorem w_range (hk : k.natAbs < 1000000) (h : ∀ r t t', Q (.ref r) l ((r, { cls := .type "range", dict := none, data := .fields #[.int 0 t, .int k t', .int 1 (t + 1)], slots := #[] }) :: N)) : WP c E l N (call (.type "range") [.int k t]) Q :=
  WP.mk fun s S => call_range_1 ⟨_, _, (S.push { cls := .type "range", data := .fields #[.int 0 s.toks, .int k t, .int 1 (s.toks + 1)] }).tok _, h _ _ _⟩
theorem w_iter_range {t t' u : Tok} (hk : 0 ≤ k) (hk1 : k < 1000000) (h : ∀ i, Q (.ref i) l ((i, rangeItO 0 k) :: N)) : WP c E l ((b, { cls := .type "range", dict := none, data := .fields #[.int 0 t, .int k t', .int 1 u], slots := #[] }) :: N) (pyIter (.ref b)) Q :=
  WP.mk fun s S => by
    have hsz : Builtin.Range.rangeSize 0 k 1 = k := by rw [rangeSize_one]; split <;> omega
    refine wpAny_pyIter_range (S.get (.head _)) (small_one (by decide) (by decide) (by omega) (by omega)) ?_
    rw [hsz]
    exact ⟨_, _, (S.push (rangeItO 0 k)).sub (List.Sublist.cons₂ _ (List.Sublist.cons _ (List.Sublist.refl _))), h _⟩
theorem w_iter_rangeiter (hm : (b, rangeItO x left) ∈ N) (h : Q (.ref b) l N) : WP c E l N (pyIter (.ref b)) Q :=
  WP.mk fun _ S => wpAny_pyIter_rangeiter (S.get hm) ⟨_, _, S, h⟩
theorem w_next_range {Q : Option Value → Loc → Ldg → Prop} (U : Ch b (rangeItO x left) (rangeItO (x + 1) (left - 1)) N N') (hl : 0 < left) (h : ∀ t, Q (some (.int x t)) l N') : WP c E l N (pyNext (.ref b)) Q :=
  WP.mk fun _ S => wpAny_pyNext_range_item (S.get U.mem) hl fun h' hi hs => ⟨_, _, (S.turn U hs hi).tok _, h _⟩
theorem w_end_range {Q : Option Value → Loc → Ldg → Prop} (hh : c.A.handled = none) (hl : left ≤ 0) (h : Q none l N) : WP c E l ((b, rangeItO x left) :: N) (pyNext (.ref b)) Q :=
  WP.mk fun _ S => wpAny_pyNext_range_end hh (S.get (.head _)) hl fun h' he => ⟨_, _, S.drop he, h⟩
end

section
variable {c : Cx} {E : Value → Shared → Prop} {l : Loc} {N : Ldg} {env : Env} {b : Addr} {o : Obj} {f : Obj → Ldg} {x : List Nat} {i n : Nat} {t : Tok} {Q : Value → Loc → Ldg → Prop}
theorem w_iter_str (h : ∀ a o', OSI o' (T x) 0 → Q (.ref a) l ((a, o') :: N)) : WP c E l N (pyIter (.str (T x) t)) Q := WP.mk fun s S => by
  cases ha : (T x).cps.all (· < 128)
  · exact wpAny_pyIter_wide ha ⟨_, _, S.push _, h _ _ ⟨"str_iterator", t, .inr rfl, rfl, rfl⟩⟩
  · exact wpAny_pyIter_ascii ha ⟨_, _, S.push _, h _ _ ⟨"str_ascii_iterator", t, .inl rfl, rfl, rfl⟩⟩
theorem w_iter_striter {x : Str} (hm : (b, o) ∈ N) (ho : OSI o x i) (h : Q (.ref b) l N) : WP c E l N (pyIter (.ref b)) Q := WP.mk fun s S => by
  obtain ⟨ty, t, rfl | rfl, q⟩ := ho
  · exact wpAny_pyIter_striter_ascii ⟨o, S.get hm, q⟩ ⟨_, _, S, h⟩
  · exact wpAny_pyIter_striter_wide ⟨o, S.get hm, q⟩ ⟨_, _, S, h⟩
theorem w_next_str {Q : Option Value → Loc → Ldg → Prop} (U : ∀ o', Ch b o o' N (f o')) (ho : OSI o (T x) i) (hx : x[i]? = some n) (h : ∀ o' t, OSI o' (T x) (i + 1) → Q (some (.str (T [n]) t)) l (f o')) :
    WP c E l N (pyNext (.ref b)) Q := WP.mk fun s S => by
  obtain ⟨ty, t, hty, q⟩ := ho
  rcases hty with rfl | rfl
  · refine wpAny_pyNext_ascii_item ⟨o, S.get (U o).mem, q⟩ (c := n) (by simpa using hx) fun h' hi hs => ?_
    obtain ⟨o', e, q'⟩ := hi
    exact ⟨_, _, (S.chg U hs e).tok _, h o' _ ⟨_, t, .inl rfl, q'⟩⟩
  · refine wpAny_pyNext_wide_item ⟨o, S.get (U o).mem, q⟩ (c := n) (by simpa using hx) fun h' hi hs => ?_
    obtain ⟨o', e, q'⟩ := hi
    exact ⟨_, _, (S.chg U hs e).tok _, h o' _ ⟨_, t, .inr rfl, q'⟩⟩
theorem w_end_str {Q : Option Value → Loc → Ldg → Prop} (hh : c.A.handled = none) (ho : OSI o (T x) i) (hx : x[i]? = none) (h : Q none l N) : WP c E l ((b, o) :: N) (pyNext (.ref b)) Q := WP.mk fun s S => by
  obtain ⟨ty, t, hty, q⟩ := ho
  rcases hty with rfl | rfl
  · exact wpAny_pyNext_ascii_end hh ⟨o, S.get (.head _), q⟩ (by simpa using hx) fun h' he => ⟨_, _, S.drop he, h⟩
  · exact wpAny_pyNext_wide_end hh ⟨o, S.get (.head _), q⟩ (by simpa using hx) fun h' he => ⟨_, _, S.drop he, h⟩
end

section
variable {c : Cx} {E : Value → Shared → Prop} {l : Loc} {N : Ldg} {env : Env} {d : Addr} {o : Obj} {f : Obj → Ldg} {x : Str} {t : Tok} {v : Value} {kvs : List (Str × Value)} {Q : Value → Loc → Ldg → Prop}
theorem St.dictOf {s : Shared} (S : St c l N s) (hm : (d, o) ∈ N) (ho : OD c.w o kvs) : s.heap.DictOf (PySem.strKind PR c.w) d kvs := Heap.dictOf_iff.mpr ⟨o, S.get hm, ho⟩
theorem w_getItem_dict (hm : (d, o) ∈ N) (ho : OD c.w o kvs) (hv : valueAt kvs x = some v) (h : Q v l N) : WP c E l N (getItem (.ref d) (.str x t)) Q :=
  WP.mk fun _ S => wpAny_getItem_of (strKind_is PR c.w x t) (S.dictOf hm ho).mapOf hv ⟨_, _, S.tok _, h⟩
theorem w_ditem {value slice : Expr} (hm : (d, o) ∈ N) (ho : OD c.w o kvs) (hv : valueAt kvs x = some v) (h : Q v l N)
    (hs : subscripted slice false (.ref d) (.str x t) = operate [.ref d, .str x t] (getItem (.ref d) (.str x t)) := by with_unfolding_all rfl) : WP c E l N (subscriptTail value slice (.ref d) (.str x t)) Q :=
  WP.mk fun _ S => tail_any (S.dictOf hm ho).typeIs slot_dict_getitem.lookup ((w_getItem_dict hm ho hv h).run _ S) hs
theorem w_setItem_dict {Q : Unit → Loc → Ldg → Prop} (U : ∀ o', Ch d o o' N (f o')) (ho : OD c.w o kvs) (hl : kvs.length ≤ 1000) (h : ∀ o', OD c.w o' (stored kvs x v) → Q () l (f o')) :
    WP c E l N (setItem (.ref d) (.str x t) v) Q :=
  WP.mk fun _ S => wpAny_setItem_pairs (strKind_is PR c.w x t) (S.dictOf (U o).mem ho) (fun h' hd hs => by
    obtain ⟨o', e, q⟩ := Heap.dictOf_iff.mp hd
    exact ⟨_, _, (S.chg U hs e).tok _, h o' q⟩) (by rw [sizeLine_eq]; omega)
end
end Mine
end
section
open PySem PySem.W PyProof.Rows PySem.Calls PySem.Spec
namespace Mine
section
variable {c : Cx} {E : Value → Shared → Prop} {l l' : Loc} {N : Ldg} {env : Env} {x : Str} {pos : Pos} {v : Value} {a : Addr} {o : Obj}
theorem wg_name_L {Q : Value → Loc → Ldg → Prop} (hv : (x, some v) ∈ l) (h : Q v l N) (hL : env.locals = c.L) (hk : env.scope.kind = .function) (hx : env.kindOf x = some .local) (hd : (x == ("__debug__" : Str)) = false := by decide) :
    WP c E l N (eval (.Name x pos) env) Q := WP.mk fun _ S => let ⟨_, F, hm⟩ := S.fr; wpAny_Name (wpAny_loadName_local hk hx (hL ▸ F.ns) (hm _ hv) ⟨_, _, S, h⟩) hd
theorem wg_name_B {Q : Value → Loc → Ldg → Prop} (G : Gnd c.w c.g) (e : nsIn (hd51.heap_39 c.w.params) mainGlobals x = some none) (hv : bootBuiltins x = some v) (hn : x ≠ "__name__") (h : Q v l N)
    (hg : env.globals = mainGlobals) (hb : env.builtins = builtinsNs) (hk : env.scope.kind = .function) (hx : env.kindOf x = some .globalImplicit) (hd : (x == ("__debug__" : Str)) = false := by decide) :
    WP c E l N (eval (.Name x pos) env) Q := WP.mk fun _ S => by
  obtain ⟨_, _, _, _, _, T⟩ := G.T
  have X := topRead_of T
  exact Name_function_global hk hx (loadGlobal_builtin (env := env) (by rw [hg]; exact X.g.keeps S.keep) (mg_none_of G.X X.g e) (by rw [hb]; exact X.b.keeps S.keep) ((X.builtins x hn).trans hv) ⟨_, _, S, h⟩) hd
theorem wg_name_C {Q : Value → Loc → Ldg → Prop} (hc : env.cells.lookup x = some a) (hm : (a, o) ∈ N) (hd : o.data = .cell (some v)) (h : Q v l N)
    (hk : env.scope.kind = .function) (hx : env.kindOf x = some .cell) (hb : (x == ("__debug__" : Str)) = false := by decide) :
    WP c E l N (eval (.Name x pos) env) Q := WP.mk fun _ S => wpAny_Name (wpAny_loadName_cell hk hx hc ⟨o, S.get hm, hd⟩ ⟨_, _, S, h⟩) hb
theorem wg_store {Q : Unit → Loc → Ldg → Prop} (U : Up x v l l') (h : Q () l' N) (hL : env.locals = c.L) (hk : env.scope.kind = .function) (hx : env.kindOf x = some .local) : WP c E l N (storeName env x v) Q :=
  WP.mk fun s S => by
    obtain ⟨m, F, hm⟩ := S.fr
    refine wpAny_storeName_local hx (hL ▸ F.ns) (fun h' hn hs => ?_) (by rw [hk]; rfl)
    rw [hL] at hn hs
    refine ⟨_, _, ⟨⟨_, F.set hn hs, fun p hp => ?_⟩, U.keys ▸ S.ln, S.nw.set hs, S.nd, S.gs, S.dr, S.os⟩, h⟩
    rcases U.other S.ln p hp with rfl | ⟨h1, h2⟩
    · exact if_pos rfl
    · exact (if_neg h2).trans (hm _ h1)
theorem w_assign {Q : Unit → Loc → Ldg → Prop} {p : Pos} (h : WP c E l N (storeName env x v) Q) : WP c E l N (assign (.Name x p) env v) Q := WP.mk fun _ S => assign_Name (h.run _ S)
end
inductive Rm (p : Addr × Obj) : Ldg → Ldg → Prop
  | here {r} : Rm p (p :: r) r
  | there {q r r'} : Rm p r r' → Rm p (q :: r) (q :: r')
theorem Rm.perm {p : Addr × Obj} : ∀ {N N' : Ldg}, Rm p N N' → N.Perm (p :: N')
  | _, _, .here => .refl _
  | _, _, .there x => (x.perm.cons _).trans (.swap ..)
theorem w_rm {α : Type} {c : Cx} {E : Value → Shared → Prop} {l : Loc} {N N' : Ldg} {t : Sem α} {Q : α → Loc → Ldg → Prop} {p : Addr × Obj} (R : Rm p N N') (h : WP c E l (p :: N') t Q) : WP c E l N t Q := w_perm R.perm h

/-- an iterator's protocol: at J i it gives a value of V i, i below n; P: what it reads -/
structure Iter (J : Nat → Obj → Prop) (n : Nat) (V : Nat → Value → Prop) (P : Ldg → Prop) : Prop where
  mono : ∀ {N N' : Ldg}, List.Sublist N N' → P N → P N'
  step : ∀ {c : Cx} {E : Value → Shared → Prop} {l : Loc} {N : Ldg} {b : Addr} {o : Obj} {i : Nat} {Q : Option Value → Loc → Ldg → Prop}, P N → J i o → i < n →
    (∀ o' v, J (i + 1) o' → V i v → Q (some v) l ((b, o') :: N)) → WP c E l ((b, o) :: N) (pyNext (.ref b)) Q
  done : ∀ {c : Cx} {E : Value → Shared → Prop} {l : Loc} {N : Ldg} {b : Addr} {o : Obj} {Q : Option Value → Loc → Ldg → Prop}, c.A.handled = none → P N → J n o → Q none l N → WP c E l ((b, o) :: N) (pyNext (.ref b)) Q
  self : ∀ {c : Cx} {E : Value → Shared → Prop} {l : Loc} {N : Ldg} {b : Addr} {o : Obj} {i : Nat} {Q : Value → Loc → Ldg → Prop}, J i o → (b, o) ∈ N → Q (.ref b) l N → WP c E l N (pyIter (.ref b)) Q
theorem Iter.list {a : Addr} {oa : Obj} {vs : List Value} (ho : OL oa vs) : Iter (fun i o => OLI o a i) vs.length (fun i v => vs[i]? = some v) (fun N => (a, oa) ∈ N) where
  mono := fun hs hm => hs.subset hm
  step := fun {_ _ _ _ _ _ i _} hm hj hi h => w_next_list (v := vs[i]) (fun _ => .here) hj (.tail _ hm) ho (by simp [hi]) fun o' hj' => h o' _ hj' (by simp [hi])
  done := fun hh hm hj h => w_end_list hh hj hm ho (by simp) h
  self := fun hj hm h => w_iter_listiter hm hj h
theorem Iter.str (x : List Nat) : Iter (fun i o => OSI o (T x) i) x.length (fun i v => ∃ n t, x[i]? = some n ∧ v = .str (T [n]) t) (fun _ => True) where
  mono := fun _ h => h
  step := fun {_ _ _ _ _ _ i _} _ hj hi h => w_next_str (n := x[i]) (fun _ => .here) hj (by simp [hi]) fun o' t hj' => h o' _ hj' ⟨_, t, by simp [hi], rfl⟩
  done := fun hh _ hj h => w_end_str hh hj (by simp) h
  self := fun hj hm h => w_iter_striter hm hj h
theorem Iter.range (n : Nat) : Iter (fun i o => o = rangeItO i ((n : Int) - i)) n (fun i v => ∃ t, v = .int i t) (fun _ => True) where
  mono := fun _ h => h
  step := fun {_ _ _ _ _ _ i _} _ hj hi h => by
    subst hj
    refine w_next_range .here (by omega) fun t => ?_
    have e : rangeItO ((i : Int) + 1) ((n : Int) - i - 1) = rangeItO ((i + 1 : Nat) : Int) ((n : Int) - (i + 1 : Nat)) := by
      rw [show ((i : Int) + 1) = ((i + 1 : Nat) : Int) by omega, show (n : Int) - i - 1 = (n : Int) - (i + 1 : Nat) by omega]
    rw [e]
    exact h _ _ rfl ⟨t, rfl⟩
  done := fun hh _ hj h => by subst hj; exact w_end_range hh (by omega) h
  self := fun hj hm h => by subst hj; exact w_iter_rangeiter hm h

inductive InvC (J : Nat → Obj → Prop) (n : Nat) (F : Nat → Value → Prop) (x : Str) (it acc : Addr) (N : Ldg) (m : Nat) (l : Loc) (N' : Ldg) : Prop
  | mk (i : Nat) (oi oa : Obj) (ys : List Value) (u : Option Value) (c0 : m = n - i) (c1 : i ≤ n) (c2 : J i oi) (c3 : OL oa ys) (c4 : ys.length = i) (c5 : ∀ j, j < i → ∃ y, ys[j]? = some y ∧ F j y) (c6 : l = [(x, u)]) (c7 : List.Sublist ((it, oi) :: (acc, oa) :: N) N')
inductive InvF (J : Nat → Obj → Prop) (n : Nat) (Inv : Nat → Loc → Ldg → Prop) (it : Addr) (m : Nat) (l : Loc) (N' : Ldg) : Prop
  | mk (i : Nat) (o : Obj) (N : Ldg) (c0 : m = n - i) (c1 : i ≤ n) (c2 : J i o) (c3 : Inv i l N) (c4 : List.Sublist ((it, o) :: N) N')
section
variable {c : Cx} {env : Env} {elt iter : Expr} {scope : Scope} {pos px : Pos} {cl : List (Str × Addr)} {x : Str} {J : Nat → Obj → Prop} {n : Nat} {V : Nat → Value → Prop} {P : Ldg → Prop} {it : Addr} {o : Obj} {N : Ldg} {F : Nat → Value → Prop}
theorem comp_iter (I : Iter J n V P) (hh : c.A.handled = none) (hP : P N) (hJ : J 0 o) (hn : n < 1000000)
    (helt : ∀ i v g C E' N', i < n → V i v → (∀ b o, c.g.get? b = some o → g.get? b = some o) → List.Sublist N N' →
      WP (c.inner g C) E' [(x, some v)] N' (eval elt (compEnvC scope cl C env)) fun y l4 N4 => l4 = [(x, some v)] ∧ N4 = N' ∧ F i y)
    (hx : (relabel scope env).names.lookup x = some .local := by rfl) (hk : scope.kind = .function := by rfl) :
    CompDo c env elt (.Name x px) iter [] scope pos cl [(x, none)] (.ref it) ((it, o) :: N) fun acc N' => ∃ oa ys, OL oa ys ∧ ys.length = n ∧ (∀ i, i < n → ∃ y, ys[i]? = some y ∧ F i y) ∧ List.Sublist ((acc, oa) :: N) N' := by
  intro acc g C hg
  refine ⟨fun E' => I.self hJ (.tail _ (.head _)) ⟨rfl, rfl, rfl⟩, fun Er => ?_⟩
  refine cw_perm (List.Perm.swap ..) (cw_comp (InvC J n F x it acc N) ?_ n ⟨0, o, listO [], [], none, rfl, Nat.zero_le _, hJ, OL.new _, rfl, fun j hj => absurd hj (Nat.not_lt_zero _), rfl, List.Sublist.refl _⟩)
  rintro m l N' ⟨i, oi, oa, ys, u, rfl, hi, hj, ho, hl, hF, rfl, hs⟩
  refine w_sub hs ?_
  by_cases hlt : i < n
  · refine I.step (I.mono (List.Sublist.cons _ (List.Sublist.refl _)) hP) hj hlt fun o' v hj' hv => ?_
    refine w_assign (wg_store .here ?_ rfl hk hx)
    refine w_tests_nil ?_
    refine WP.mono (helt i v g C _ _ hlt hv hg (List.Sublist.cons _ (List.Sublist.cons _ (List.Sublist.refl _)))) ?_
    rintro y l4 N4 ⟨rfl, rfl, hy⟩
    refine w_append (fun _ => .there .here) ho (by omega) fun oa' ho' => ?_
    refine ⟨n - (i + 1), by omega, i + 1, o', oa', ys ++ [y], some v, rfl, hlt, hj', ho', by simp [hl], fun j hj => ?_, rfl, ?_⟩
    · by_cases e : j < i
      · obtain ⟨y', h1, h2⟩ := hF j e
        exact ⟨y', by rw [List.getElem?_append_left (by omega)]; exact h1, h2⟩
      · have : j = i := by omega
        subst this
        exact ⟨y, by rw [List.getElem?_append_right (by omega)]; simp [hl], hy⟩
    · exact List.Sublist.refl _
  · have : i = n := by omega
    subst this
    refine I.done hh (I.mono (List.Sublist.cons _ (List.Sublist.refl _)) hP) hj ⟨oa, ys, ho, hl, hF, List.Sublist.refl _⟩
end
noncomputable def TurnI (it : Addr) (o : Obj) (Inv : Nat → Loc → Ldg → Prop) (i : Nat) (Q : Flow → Loc → Ldg → Prop) (f : Flow) (l : Loc) (N : Ldg) : Prop := match f with
  | .next | .cont => ∃ N4, List.Sublist ((it, o) :: N4) N ∧ Inv (i + 1) l N4
  | .brk => False
  | .ret v => Q (.ret v) l N
theorem for_iter {c : Cx} {Er : Value → Shared → Prop} {env : Env} {target : Expr} {body : List Stmt} {Q : Flow → Loc → Ldg → Prop} {J : Nat → Obj → Prop} {n : Nat} {V : Nat → Value → Prop} {P : Ldg → Prop} {it : Addr} {o : Obj} {l : Loc} {N : Ldg}
    (I : Iter J n V P) (hh : c.A.handled = none) (Inv : Nat → Loc → Ldg → Prop) (hP : ∀ i l N, Inv i l N → P N)
    (turn : ∀ i v l o N E', i < n → V i v → Inv i l N → WP c E' l ((it, o) :: N) (assign target env v) (TurnB c E' env body (TurnI it o Inv i Q)))
    (fin : ∀ l N, Inv n l N → Q .next l N) (h0 : Inv 0 l N) (hJ : J 0 o) (ht : ∀ v, letOwnedTupleGo target (.ref it) v = pure () := by intro _; rfl) : CW c Er l ((it, o) :: N) (.forLoop target (.ref it) body [] env) Q := by
  refine cw_for (InvF J n Inv it) ?_ n ⟨0, o, N, rfl, Nat.zero_le _, hJ, h0, List.Sublist.refl _⟩ ht
  rintro m l N' ⟨i, o, N, rfl, hi, hj, hI, hs⟩
  refine w_sub hs ?_
  by_cases hlt : i < n
  · refine I.step (hP _ _ _ hI) hj hlt fun o' v hj' hv => ?_
    refine WP.mono (turn i v l o' N _ hlt hv hI) fun _ l2 N2 q => WP.mono (Q := TurnI it o' Inv i Q) q fun f l3 N3 q => ?_
    cases f with
    | next => obtain ⟨N4, h1, h2⟩ := q; exact ⟨n - (i + 1), by omega, i + 1, o', N4, rfl, hlt, hj', h2, h1⟩
    | cont => obtain ⟨N4, h1, h2⟩ := q; exact ⟨n - (i + 1), by omega, i + 1, o', N4, rfl, hlt, hj', h2, h1⟩
    | brk => exact False.elim q
    | ret v => exact q
  · have : i = n := by omega
    subst this
    exact I.done hh (hP _ _ _ hI) hj (w_execs_nil (fin _ _ hI))
end Mine
end
section
open PySem PySem.W PyProof.Rows PySem.Calls PySem.Spec
namespace Mine
theorem join_T : ∀ xs : List (List Nat), Txt.join (T []) (xs.map T) = T xs.flatten := by
  intro xs
  unfold Txt.join
  rw [StrLaws.glued_eq_join]
  induction xs with
  | nil => rfl
  | cons x r ih =>
    cases r with
    | nil => show T x = T (x ++ []); rw [List.append_nil]
    | cons y r =>
      show T x ++ T [] ++ Str.join (T []) ((y :: r).map T) = _
      rw [ih, T_append, T_append, List.append_nil]
      rfl
theorem strsAre_of : ∀ {ys : List Value} {zs : List (List Nat)}, ys.length = zs.length → (∀ i, i < zs.length → ∃ y, ys[i]? = some y ∧ ∃ t, y = .str (T (zs.getD i [])) t) → StrsAre ys (zs.map T)
  | [], [], _, _ => .nil
  | [], _ :: _, h, _ => by cases h
  | _ :: _, [], h, _ => by cases h
  | y :: ys, z :: zs, h, H => by
    obtain ⟨y', h1, t, h2⟩ := H 0 (Nat.zero_lt_succ _)
    simp at h1
    subst h1
    rw [h2]
    refine .cons _ t (strsAre_of (by simpa using h) fun i hi => ?_)
    obtain ⟨y'', h3, t', h4⟩ := H (i + 1) (by simpa using hi)
    exact ⟨y'', by simpa using h3, t', by simpa using h4⟩
theorem fold_dot : ∀ (k : Nat) (a : Array Nat), (List.replicate k #[46]).foldl (· ++ ·) a = a ++ (List.replicate k 46).toArray
  | 0, a => by simp
  | k + 1, a => by
    rw [List.replicate_succ, List.foldl_cons, fold_dot k, List.replicate_succ, Array.append_assoc]
    congr 1
    apply Array.ext'
    simp
theorem mul_dot (k : Nat) : Txt.mul (T [46]) (k : Int) = T (List.replicate k 46) := by
  unfold Txt.mul
  by_cases h0 : k = 0
  · subst h0; rfl
  · rw [if_neg (by omega)]
    by_cases h1 : k = 1
    · subst h1; rfl
    · rw [if_neg]
      · have := fold_dot k #[]
        show (⟨_⟩ : Str) = ⟨_⟩
        rw [show ((k : Int)).toNat = k by omega]
        congr 1
        exact this.trans (by simp)
      · have : ((k : Int) == 1) = false := by simp; omega
        rw [this, T_len]
        simp
section
variable {c : Cx} {E : Value → Shared → Prop} {l : Loc} {N : Ldg} {env : Env} {x y : List Nat} {t u : Tok} {a : Addr} {o : Obj} {Q : Value → Loc → Ldg → Prop}
theorem w_Const_T {x : Str} {k : Nat} {pos : Pos} (y : List Nat) (e : x = T y) (h : ∀ t, Q (.str (T y) t) l N) : WP c E l N (eval (.Constant (.str x) k pos) env) Q := by
  subst e; exact w_Const_str h
theorem w_IfExp {test body orelse : Expr} {pos : Pos} (h : WP c E l N (isTrue test env (eval test env)) fun b l1 N1 => match b with | true => WP c E l1 N1 (eval body env) Q | false => WP c E l1 N1 (eval orelse env) Q) : WP c E l N (eval (.IfExp test body orelse pos) env) Q :=
  WP.mk fun _ S => IfExp_ (h.go S fun b _ _ _ S1 q => by cases b <;> exact WP.run q _ S1)
theorem w_Not {e : Expr} {pos : Pos} (h : WP c E l N (eval e env) fun v l1 N1 => WP c E l1 N1 (truthy v) fun b => Q (.bool (!b))) : WP c E l N (eval (.UnaryOp .Not e pos) env) Q :=
  WP.mk fun _ S => wpAny_UnaryOp (h.go S fun _ _ _ _ S1 q => not_of (q.go S1 fun _ _ _ _ S2 q => ⟨_, _, S2, q⟩))
theorem w_sitem {value slice : Expr} {k n : Nat} (hx : x[k]? = some n) (hl : x.length ≤ 1000000) (h : ∀ t, Q (.str (T [n]) t) l N)
    (hs : subscripted slice false (.str (T x) t) (.int (k : Int) u) = operate [.str (T x) t, .int (k : Int) u] (getItem (.str (T x) t) (.int (k : Int) u)) := by with_unfolding_all rfl) :
    WP c E l N (subscriptTail value slice (.str (T x) t) (.int (k : Int) u)) Q := WP.mk fun _ S => by
  have hk : k < x.length := (List.getElem?_eq_some_iff.mp hx).1
  refine tail_any (typeIs_str _ _ _) F.slot_str_getitem.lookup (P.getItem_str (c := n) ?_ ?_ ⟨_, _, S.tok _, h _⟩) hs
  · rw [decide_eq_false (by omega), decide_eq_false (by omega)]; rfl
  · have e : seqIndex? (k : Int) (T x).length = some k := by
      unfold seqIndex?
      rw [T_len]
      simp [show ¬ (k : Int) < 0 by omega, hk]
    rw [e]; simpa using hx
theorem w_str_join {pl : Sem Bool} {x : Str} {Q : Value × List Value → Loc → Ldg → Prop} (h : Q (.builtin "str.join", [.str x t]) l N) : WP c E l N (getMethod (.str x t) "join" pl) Q :=
  WP.mk fun _ S => by with_reducible refine getMethod_builtin (typeIs_str _ x t) F.plainAttrs_str F.slot_str_join F.type_str_join (fun _ e => nomatch e) ?_; exact ⟨_, _, S, h⟩
theorem w_str_count {pl : Sem Bool} {x : Str} {Q : Value × List Value → Loc → Ldg → Prop} (h : Q (.builtin "str.count", [.str x t]) l N) : WP c E l N (getMethod (.str x t) "count" pl) Q :=
  WP.mk fun _ S => by with_reducible refine getMethod_builtin (typeIs_str _ x t) F.plainAttrs_str F.slot_str_count F.type_str_count (fun _ e => nomatch e) ?_; exact ⟨_, _, S, h⟩
theorem w_join {ys : List Value} {zs : List (List Nat)} (hm : (a, o) ∈ N) (ho : OL o ys) (hz : StrsAre ys (zs.map T)) (hs : zs.flatten.length + zs.length ≤ 1000000) (h : ∀ t, Q (.str (T zs.flatten) t) l N) :
    WP c E l N (call (.builtin "str.join") [.str (T []) t, .ref a]) Q := WP.mk fun _ S => by
  refine join_list (S.isList hm ho) (by simpa using hz) ?_ fun t' k => ?_
  · rw [T_len, List.map_map]
    have e : ((fun x : Str => x.length) ∘ T) = List.length := funext fun z => T_len z
    rw [e, ← List.length_flatten, List.length_map, List.length_nil, Nat.mul_zero]
    omega
  · rw [join_T]; exact ⟨_, _, S.tok _, h _⟩
theorem w_count {n : Nat} (h : ∀ t, Q (.int (PyProof.Rows.cnt n x) t) l N) : WP c E l N (call (.builtin "str.count") [.str (T x) t, .str (T [n]) u]) Q :=
  WP.mk fun _ S => SC.count (by rw [count_cnt]; exact ⟨_, _, S.tok _, h _⟩)
theorem w_dots {k : Nat} (hk : k ≤ 1000) (h : ∀ t, Q (.str (T (List.replicate k 46)) t) l N) : WP c E l N (binaryOp .Mult (.str (T [46]) t) (.int (k : Int) u)) Q := WP.mk fun _ S => by
  refine SB.mul (n := (k : Int)) ⟨?_, fun h1 _ => ?_, fun _ _ => ?_⟩ fun t' k' => ?_
  · rw [decide_eq_false (by omega), decide_eq_false (by omega)]; rfl
  · rw [T_len]
    have hk1 : (1 : Int) ≤ k := by omega
    have := Int.le_ediv_of_mul_le (a := 10) (b := 2 ^ 63 - 1) (c := (k : Int)) (by omega) (by omega)
    show ¬ ((1 : Nat) : Int) > _
    omega
  · rw [T_len]; unfold Builtin.Str.tooLong; rw [sizeLine_eq]
    exact decide_eq_false (by show ¬ 1 * (k : Int).toNat > 16777216; omega)
  · rw [mul_dot]; exact ⟨_, _, S.tok _, h _⟩
end
end Mine
end
section
open PySem PySem.W PyProof.Rows PySem.Calls PySem.Spec
namespace Mine
noncomputable def LocF (f : Str → Option Value) : Loc → Prop
  | [] => True
  | p :: r => f p.1 = p.2 ∧ LocF f r
theorem LocF.all {f : Str → Option Value} {l : Loc} (h : LocF f l) : ∀ p ∈ l, f p.1 = p.2 := by
  induction l with
  | nil => intro p hp; cases hp
  | cons q r ih =>
    intro p hp
    rcases List.mem_cons.mp hp with rfl | hp
    · exact h.1
    · exact ih h.2 p hp
theorem cellsAre_keys {cm : Str → Option Value} : ∀ {cs : List (Str × Addr)} {cells : List (Addr × Obj)}, CellsAre cm cs cells → cells.map (·.1) = cs.map (·.2)
  | _, _, .nil => rfl
  | _, _, .cons _ r => congrArg (_ :: ·) (cellsAre_keys r)
section
variable {k : Kx} {E : Value → Shared → Prop} {N : Ldg} {n : Nat} {base : Heap} {envs : List Env} {f : Addr} {args : List Value} {Q : Value → Ldg → Prop}
  {name qual : Str} {params : Arguments} {body : List Stmt} {scope : Scope} {dV kV doc pm cdv ct : Value} {an : Option Addr} {fo : Obj} {binds : List (Str × Value)} {l : Loc}
/-- a def with cells is entered -/
theorem enterCE (G : Gk (n + 1) k base envs) (ho : (f, fo) ∈ N ∨ k.g.get? f = some fo) (hd : fo.data = .func (fnX name qual params body scope [] dV kV doc pm an cdv ct))
    (hcd : ∀ s, Sc k N s → s.heap.CodeRec cdv qual)
    (hbind : bindArgs (fnX name qual params body scope [] dV kV doc pm an cdv ct) ⟨args, []⟩ = pure binds)
    (hkind : (binds.all fun y => scope.names.lookup y.1 == some .local || scope.names.lookup y.1 == some .cell) = true) (hnd : ((cellsFrom 0 scope.names []).map (·.1)).Nodup)
    (hl : ∀ L, LocF (bindL (envOfC qual scope L f cdv).kindOf binds fun _ => none) l) (hn : (l.map (·.1)).Nodup)
    (h : ∀ L cells, (∀ b o, k.g.get? b = some o → b ≠ L) → (∀ p ∈ N, p.1 ≠ L) → CellsAre (bindC (envOfC qual scope L f cdv).kindOf binds fun _ => none) (cellsFrom (L + 1) scope.names []) cells →
      Gd n (k.c qual scope L f cdv (cellsFrom (L + 1) scope.names [])) base envs (envX qual scope L f cdv (cellsFrom (L + 1) scope.names [])) →
      WP (k.c qual scope L f cdv (cellsFrom (L + 1) scope.names [])) (Lv k (envX qual scope L f cdv (cellsFrom (L + 1) scope.names [])) E) l (cells ++ N)
        (execs body (envX qual scope L f cdv (cellsFrom (L + 1) scope.names []))) (EndQ Q))
    (hco : scope.isCoroutine = false := by rfl) (hgen : scope.isGenerator = false := by rfl) (hk : scope.kind = .function := by rfl) :
    CP k E N (.ref f) args Q := CP.mk fun s S => by
  have hof : s.heap.get? f = some fo := ho.elim (fun h => (S.nw _ h).1) (S.keep _ _)
  obtain ⟨_, _, _, _, _, T⟩ := G.T
  have hlim := T.nolimit.keeps S.keep
  refine codeAny_call_function (by have := G.dep; omega) hof hd hco hgen rfl (hcd s S) (BindsTo.of_eq hbind _ _ _ _ ?_)
  refine wpAny_newFunctionEnv_cells hk (kindsX hkind _) fun env' he s' x => ?_
  subst he
  refine ⟨hlim.keeps x.toInCall.keep, codeAny_func ?_⟩
  obtain ⟨h₁, tk, rfl, _⟩ := x.done
  have hk₁ := x.toInCall.keep
  obtain ⟨cells, NC, Y⟩ := Cl.news (h₀ := s.heap) (Nat.le_refl _) fun n c hm => ⟨x.cell n c (lookup_of_mem_nodup (cellsFrom_names scope.names 0 (s.heap.objs.size + 1) [] [] rfl ▸ hnd) hm), x.above n c hm⟩
  have gl : ∀ b o, k.g.get? b = some o → b ≠ s.heap.objs.size := fun b o e => Nat.ne_of_lt (Heap.lt_size (S.keep _ _ e))
  have nl : ∀ p ∈ N, p.1 ≠ s.heap.objs.size := fun p hp => Nat.ne_of_lt (Heap.lt_size (S.nw p hp).1)
  have W := h s.heap.objs.size cells gl nl Y (G.gd _ hk)
  have nd : ((cells ++ N).map (·.1)).Nodup := by
    rw [List.map_append, List.nodup_append]
    refine ⟨?_, S.nd, fun a ha b hb e => ?_⟩
    · rw [cellsAre_keys Y]
      exact List.pairwise_map.mpr x.apart
    · subst e
      obtain ⟨q, hq, rfl⟩ := List.mem_map.mp hb
      obtain ⟨p, hp, e⟩ := List.mem_map.mp ha
      have h2 := (NC p hp).2.2
      rw [e, (S.nw q hq).1] at h2
      cases h2
  refine wpAny_mono (W.run _ ⟨⟨_, ⟨x.toInCall.ns, fun b o e => hk₁ b o (S.keep b o e), S.size⟩, (hl _).all⟩, hn, fun p hp => ?_, nd, S.gs, S.dr, S.os⟩) (fun fl s' ⟨l', N', S0, N'', hsub, q⟩ => ?_) fun _ _ e => e
  · rcases List.mem_append.mp hp with hp | hp
    · refine ⟨(NC p hp).1, (NC p hp).2.1, ?_⟩
      cases q : k.g.get? p.1 with
      | none => rfl
      | some o => have := S.keep _ _ q; rw [(NC p hp).2.2] at this; cases this
    · exact ⟨hk₁ _ _ (S.nw p hp).1, nl p hp, (S.nw p hp).2⟩
  · have S' := S0.sub hsub
    obtain ⟨m', F', _⟩ := S'.fr
    exact ⟨N'', ⟨S'.keep, Nat.le_trans F'.above (Nat.le_of_lt (let ⟨_, _, _, hL, _⟩ := F'.ns; Heap.lt_size hL)), fun p hp => ⟨(S'.nw p hp).1, (S'.nw p hp).2.2⟩, S'.nd, S'.gs, S'.dr, S'.os⟩, q⟩
end
section
variable {k : Kx} {E : Value → Shared → Prop} {N : Ldg} {n : Nat} {base : Heap} {envs : List Env} {f : Addr} {args : List Value} {Q : Value → Ldg → Prop}
  {name qual : Str} {params : Arguments} {body : List Stmt} {scope : Scope} {dV kV doc pm cdv ct : Value} {an : Option Addr} {fo : Obj} {binds : List (Str × Value)} {l : Loc}
/-- a def with one cell is entered -/
theorem enterC1E (x : Str) (v : Option Value) (G : Gk (n + 1) k base envs) (ho : (f, fo) ∈ N ∨ k.g.get? f = some fo) (hd : fo.data = .func (fnX name qual params body scope [] dV kV doc pm an cdv ct))
    (hcd : ∀ s, Sc k N s → s.heap.CodeRec cdv qual)
    (hbind : bindArgs (fnX name qual params body scope [] dV kV doc pm an cdv ct) ⟨args, []⟩ = pure binds)
    (hkind : (binds.all fun y => scope.names.lookup y.1 == some .local || scope.names.lookup y.1 == some .cell) = true)
    (hcl : ∀ L, cellsFrom L scope.names [] = [(x, L)]) (hv : ∀ L, bindC (envOfC qual scope L f cdv).kindOf binds (fun _ => none) x = v)
    (hl : ∀ L, LocF (bindL (envOfC qual scope L f cdv).kindOf binds fun _ => none) l) (hn : (l.map (·.1)).Nodup)
    (h : ∀ L oc, (∀ b o, k.g.get? b = some o → b ≠ L) → (∀ p ∈ N, p.1 ≠ L) → oc.data = .cell v → Gd n (k.c qual scope L f cdv [(x, L + 1)]) base envs (envX qual scope L f cdv [(x, L + 1)]) →
      WP (k.c qual scope L f cdv [(x, L + 1)]) (Lv k (envX qual scope L f cdv [(x, L + 1)]) E) l ((L + 1, oc) :: N)
        (execs body (envX qual scope L f cdv [(x, L + 1)])) (EndQ Q))
    (hco : scope.isCoroutine = false := by rfl) (hgen : scope.isGenerator = false := by rfl) (hk : scope.kind = .function := by rfl) :
    CP k E N (.ref f) args Q := by
  refine enterCE G ho hd hcd hbind hkind (by rw [hcl]; simp) hl hn (fun L cells g1 g2 hc G' => ?_) hco hgen hk
  rw [hcl] at hc G' ⊢
  obtain ⟨oc, rfl, e⟩ := hc.one
  exact h L oc g1 g2 (by rw [e, hv]) G'
theorem enterC1 (x : Str) (v : Option Value) (G : Gk (n + 1) k base envs) (ho : (f, fo) ∈ N ∨ k.g.get? f = some fo) (hd : fo.data = .func (fnX name qual params body scope [] dV kV doc pm an cdv ct))
    (hcd : ∀ s, Sc k N s → s.heap.CodeRec cdv qual)
    (hbind : bindArgs (fnX name qual params body scope [] dV kV doc pm an cdv ct) ⟨args, []⟩ = pure binds)
    (hkind : (binds.all fun y => scope.names.lookup y.1 == some .local || scope.names.lookup y.1 == some .cell) = true)
    (hcl : ∀ L, cellsFrom L scope.names [] = [(x, L)]) (hv : ∀ L, bindC (envOfC qual scope L f cdv).kindOf binds (fun _ => none) x = v)
    (hl : ∀ L, LocF (bindL (envOfC qual scope L f cdv).kindOf binds fun _ => none) l) (hn : (l.map (·.1)).Nodup)
    (h : ∀ L E' oc, oc.data = .cell v → Gd n (k.c qual scope L f cdv [(x, L + 1)]) base envs (envX qual scope L f cdv [(x, L + 1)]) →
      WP (k.c qual scope L f cdv [(x, L + 1)]) E' l ((L + 1, oc) :: N) (execs body (envX qual scope L f cdv [(x, L + 1)])) (EndQ Q))
    (hco : scope.isCoroutine = false := by rfl) (hgen : scope.isGenerator = false := by rfl) (hk : scope.kind = .function := by rfl) :
    CP k E N (.ref f) args Q := enterC1E x v G ho hd hcd hbind hkind hcl hv hl hn (fun L oc _ _ e g => h L _ oc e g) hco hgen hk
/-- a def with two cells is entered -/
theorem enterC2 (x y : Str) (vx vy : Option Value) (G : Gk (n + 1) k base envs) (ho : (f, fo) ∈ N ∨ k.g.get? f = some fo) (hd : fo.data = .func (fnX name qual params body scope [] dV kV doc pm an cdv ct))
    (hcd : ∀ s, Sc k N s → s.heap.CodeRec cdv qual)
    (hbind : bindArgs (fnX name qual params body scope [] dV kV doc pm an cdv ct) ⟨args, []⟩ = pure binds)
    (hkind : (binds.all fun y => scope.names.lookup y.1 == some .local || scope.names.lookup y.1 == some .cell) = true)
    (hcl : ∀ L, cellsFrom L scope.names [] = [(y, L + 1), (x, L)]) (hxy : y ≠ x) (hvx : ∀ L, bindC (envOfC qual scope L f cdv).kindOf binds (fun _ => none) x = vx) (hvy : ∀ L, bindC (envOfC qual scope L f cdv).kindOf binds (fun _ => none) y = vy)
    (hl : ∀ L, LocF (bindL (envOfC qual scope L f cdv).kindOf binds fun _ => none) l) (hn : (l.map (·.1)).Nodup)
    (h : ∀ L E' ox oy, ox.data = .cell vx → oy.data = .cell vy → Gd n (k.c qual scope L f cdv [(y, L + 1 + 1), (x, L + 1)]) base envs (envX qual scope L f cdv [(y, L + 1 + 1), (x, L + 1)]) →
      WP (k.c qual scope L f cdv [(y, L + 1 + 1), (x, L + 1)]) E' l ((L + 1 + 1, oy) :: (L + 1, ox) :: N) (execs body (envX qual scope L f cdv [(y, L + 1 + 1), (x, L + 1)])) (EndQ Q))
    (hco : scope.isCoroutine = false := by rfl) (hgen : scope.isGenerator = false := by rfl) (hk : scope.kind = .function := by rfl) :
    CP k E N (.ref f) args Q := by
  refine enterCE G ho hd hcd hbind hkind (by rw [hcl]; simp [hxy]) hl hn (fun L cells g1 g2 hc G' => ?_) hco hgen hk
  rw [hcl] at hc G' ⊢
  obtain ⟨oy, ox, rfl, e1, e2⟩ : ∃ oy ox, cells = [(L + 1 + 1, oy), (L + 1, ox)] ∧ oy.data = _ ∧ ox.data = _ := by
    cases hc with | cons h1 r => cases r with | cons h2 r => cases r; exact ⟨_, _, rfl, h1, h2⟩
  exact h L _ ox oy (by rw [e2, hvx]) (by rw [e1, hvy]) G'
end
section
variable {c : Cx} {E : Value → Shared → Prop} {l : Loc} {N : Ldg} {nm : Str} {sc : Scope} {fa : Addr} {cd : Value} {cl : List (Str × Addr)} {x : Str} {v : Value} {v₀ : Option Value} {a : Addr} {o : Obj} {f : Obj → Ldg}
theorem w_store_C {Q : Unit → Loc → Ldg → Prop} (hc : cl.lookup x = some a) (U : ∀ o', Ch a o o' N (f o')) (hd : o.data = .cell v₀) (h : ∀ o', o'.data = .cell (some v) → Q () l (f o'))
    (hk : sc.kind = .function := by rfl) (hx : (envX nm sc c.L fa cd cl).kindOf x = some .cell := by rfl) : WP c E l N (storeName (envX nm sc c.L fa cd cl) x v) Q :=
  WP.mk fun s S => by
    refine wpAny_storeName_cell hk hx hc ⟨o, S.get (U o).mem, hd⟩ fun h' hv hs => ?_
    obtain ⟨o', ho', hd'⟩ := hv
    exact ⟨_, _, S.chg U hs ho', h o' hd'⟩
end
end Mine
end
section
open PySem PySem.W PyProof.Rows PySem.Calls PySem.Spec
namespace Mine
section
variable {c : Cx} {E : Value → Shared → Prop} {l : Loc} {N : Ldg} {s : Shared}
theorem St.grow (S : St c l N s) {h' : Heap} {t : Nat} (hk : ∀ b o, s.heap.get? b = some o → h'.get? b = some o) : St c l N { s with heap := h', toks := t } := by
  obtain ⟨m, F, hm⟩ := S.fr
  exact ⟨⟨m, ⟨F.ns.keeps hk, fun b o e => hk _ _ (F.keep b o e), F.above⟩, hm⟩, S.ln, fun p hp => ⟨hk _ _ (S.nw p hp).1, (S.nw p hp).2⟩, S.nd, S.gs, S.dr, S.os⟩
theorem ext_size {h h' : Heap} (he : Heap.ExtBut h.objs.size h h') : ∀ b o, h.get? b = some o → h'.get? b = some o := fun b o e => he b o (Nat.ne_of_lt (Heap.lt_size e)) e
end
section
variable {c : Cx} {E : Value → Shared → Prop} {l : Loc} {N : Ldg} {env : Env} {a b : Int} {t u : Tok} {Q : Value → Loc → Ldg → Prop}
theorem w_max (hh : c.A.handled = none) (h : ∀ t, Q (.int (max a b) t) l N) : WP c E l N (call (.builtin "max") [.int a t, .int b u]) Q :=
  WP.mk fun _ S => max_two_ints hh fun h' tk hk => ⟨_, _, S.grow hk, by
    by_cases e : b > a
    · rw [if_pos e, show b = max a b by omega]; exact h _
    · rw [if_neg e, show Value.int a t = Value.int (max a b) t by congr 1; omega]; exact h _⟩
theorem w_min (hh : c.A.handled = none) (h : ∀ t, Q (.int (min a b) t) l N) : WP c E l N (call (.builtin "min") [.int a t, .int b u]) Q :=
  WP.mk fun _ S => min_two_ints hh fun h' tk hk => ⟨_, _, S.grow hk, by
    by_cases e : b < a
    · rw [if_pos e, show b = min a b by omega]; exact h _
    · rw [if_neg e, show Value.int a t = Value.int (min a b) t by congr 1; omega]; exact h _⟩
end
section
variable {c : Cx} {E : Value → Shared → Prop} {l : Loc} {N : Ldg} {env : Env}
theorem w_order_nil {xs : List Value} {Q : Unit → Loc → Ldg → Prop} (h : Q () l N) : WP c E l N (assignInOrder [] xs) Q := WP.mk fun _ S => assignInOrder_nil ⟨_, _, S, h⟩
theorem w_order_cons {t : Value → Sem Unit} {ts : List (Value → Sem Unit)} {x : Value} {xs : List Value} {Q : Unit → Loc → Ldg → Prop}
    (h : WP c E l N (t x) fun _ l1 N1 => WP c E l1 N1 (assignInOrder ts xs) Q) : WP c E l N (assignInOrder (t :: ts) (x :: xs)) Q :=
  WP.mk fun _ S => assignInOrder_cons (h.go S fun _ _ _ _ S1 q => q.run _ S1)
theorem w_bindName {x : Str} {v : Value} {Q : Unit → Loc → Ldg → Prop} (h : WP c E l N (storeName env x v) Q) : WP c E l N (bindName env x v) Q := WP.mk fun _ S => bindName_ (h.run _ S)
theorem St.tup {s : Shared} (S : St c l N s) {a : Addr} {vs : List Value} (h : (a, tupO vs) ∈ N) : IsTup s.heap a vs.toArray := ⟨_, S.get h, rfl, 0, rfl⟩
theorem w_AssignTup_swapped {elts k tpos value pos} {names : List Str} {Q : Flow → Loc → Ldg → Prop} (hh : c.A.handled = none)
    (h : WP c E l N (eval value env) fun v l1 N1 => ∃ a vs, v = .ref a ∧ (a, tupO vs) ∈ N1 ∧ vs.length = names.length ∧
      WP c E l1 N1 (assignInOrder (names.reverse.map fun n => bindName env n) vs.reverse) fun _ => Q .next)
    (hs : swapsWithSole [.Tuple elts k tpos] value pos.line env = pure false := by rfl)
    (hw : swappedStores [.Tuple elts k tpos] value env = pure (some names) := by rfl) : WP c E l N (exec (.Assign [.Tuple elts k tpos] value pos) env) Q :=
  WP.mk fun _ S => Assign_Tuple_swapped (h.go S fun v s₁ l1 N1 S1 q => by
    obtain ⟨a, vs, rfl, hm, hl, q⟩ := q
    rw [show names.length = vs.toArray.size by simp [hl]]
    exact unpackItems_tuple hh (S1.tup hm) fun h' he => q.run _ (S1.grow (ext_size he))) hs hw
theorem w_AssignTup {elts k tpos value pos} {Q : Flow → Loc → Ldg → Prop} (hh : c.A.handled = none)
    (h : WP c E l N (eval value env) fun v l1 N1 => ∃ a vs, v = .ref a ∧ (a, tupO vs) ∈ N1 ∧ (assignEach elts env).length = vs.length ∧
      WP c E l1 N1 (assignInOrder ((assignEach elts env).map (·.2)) vs) fun _ => Q .next)
    (hstar : (assignEach elts env).findIdx? (·.1) = none := by rfl)
    (hs : swapsWithSole [.Tuple elts k tpos] value pos.line env = pure false := by rfl)
    (hw : swappedStores [.Tuple elts k tpos] value env = pure none := by rfl) : WP c E l N (exec (.Assign [.Tuple elts k tpos] value pos) env) Q :=
  WP.mk fun _ S => Assign_Tuple (h.go S fun v s₁ l1 N1 S1 q => by
    obtain ⟨a, vs, rfl, hm, hl, q⟩ := q
    exact assign_Tuple_tuple hh (S1.tup hm) (by simp [hl]) hstar fun h' he => q.run _ (S1.grow (ext_size he))) hs hw
/-- a dict display -/
noncomputable def dpairs (env : Env) (pos : Pos) : List (Option Expr) → List Expr → List (Sem Value × Sem Value)
  | some k :: ks, v :: vs => (eval k env, do let x ← eval v env; standAt pos; pure x) :: dpairs env pos ks vs
  | _, _ => []
theorem w_pairs_nil {vs : List Expr} {pos : Pos} {Q : List (Value × Value) → Loc → Ldg → Prop} (h : Q [] l N) : WP c E l N (evalPairs (dpairs env pos [] vs)) Q :=
  WP.mk fun _ S => evalPairs_nil ⟨_, _, S, h⟩
theorem w_pairs_cons {k : Expr} {ks : List (Option Expr)} {v : Expr} {vs : List Expr} {pos : Pos} {Q : List (Value × Value) → Loc → Ldg → Prop}
    (h : WP c E l N (eval k env) fun kv l1 N1 => WP c E l1 N1 (eval v env) fun vv l2 N2 => WP c E l2 N2 (evalPairs (dpairs env pos ks vs)) fun r => Q ((kv, vv) :: r)) :
    WP c E l N (evalPairs (dpairs env pos (some k :: ks) (v :: vs))) Q :=
  WP.mk fun _ S => evalPairs_cons (h.go S fun _ _ _ _ S1 q => wpAny_bind (q.go S1 fun _ _ _ _ S2 q => wpAny_bind (wpAny_standAt (wpAny_pure (q.run _ S2)))))
theorem w_Dict {keys : List (Option Expr)} {values : List Expr} {pos : Pos} {Q : Value → Loc → Ldg → Prop}
    (h : ∀ d o, OD c.w o [] → WP c E l ((d, o) :: N) (evalPairs (dpairs env pos keys values)) fun vs l1 N1 => ∃ (kvs : List (Str × Value)) (o₁ : Obj) (f : Obj → Ldg), Carries (PySem.strKind PR c.w) vs kvs ∧ OD c.w o₁ [] ∧ (∀ o', Ch d o₁ o' N1 (f o')) ∧
      ∀ o', OD c.w o' (merged [] kvs) → Q (.ref d) l1 (f o'))
    (hshape : (evalEachOpt keys env).zip ((evalEach values env).map fun v => do let x ← v; standAt pos; pure x) = (dpairs env pos keys values).map fun p => (some p.1, p.2) := by rfl) (h0 : dpairs env pos keys values ≠ [] := by simp [dpairs]) (hlen : (dpairs env pos keys values).length ≤ 15 := by simp [dpairs]) :
    WP c E l N (eval (.Dict keys values pos) env) Q := WP.mk fun s S => by
  refine wpAny_Dict_pairs (knd := PySem.strKind PR c.w) hshape h0 hlen ?_
  obtain ⟨o, ho, hd⟩ := Heap.dictOf_iff.mp (Heap.DictOf.new (knd := PySem.strKind PR c.w) s.heap)
  have ho' : o = { cls := .type "dict", data := .dict #[] } := by
    have := Heap.get?_push_size s.heap (o := { cls := .type "dict", data := .dict #[] }) rfl
    rw [ho] at this
    exact Option.some.inj this
  subst ho'
  refine (h _ _ hd).go (S.push _) fun vs s₁ l1 N1 S1 q => ?_
  obtain ⟨kvs, o₁, f, hc, h1, U, hq⟩ := q
  refine ⟨kvs, hc, S1.dictOf (U o₁).mem h1, fun h' hd' hs => ?_⟩
  obtain ⟨o', e, q'⟩ := Heap.dictOf_iff.mp hd'
  exact ⟨_, _, (S1.chg U hs e).tok _, hq _ q'⟩
end
/-- a list that carries no dict of its own -/
noncomputable def OP (o : Obj) (vs : List Value) : Prop := ∃ n, o = listO vs n
theorem OP.ol {o : Obj} {vs : List Value} (h : OP o vs) : OL o vs := by obtain ⟨n, rfl⟩ := h; exact ⟨rfl, n, rfl⟩
theorem OP.new (vs : List Value) : OP (listO vs) vs := ⟨0, rfl⟩
section
variable {c : Cx} {E : Value → Shared → Prop} {l : Loc} {N : Ldg} {env : Env} {a : Addr} {o : Obj} {vs : List Value} {f : Obj → Ldg} {v : Value} {k : Int} {t : Tok}
theorem w_pappend {Q : Value → Loc → Ldg → Prop} (U : ∀ o', Ch a o o' N (f o')) (ho : OP o vs) (hl : vs.length < 1000000) (h : ∀ o', OP o' (vs ++ [v]) → Q .none l (f o')) : WP c E l N (call (.builtin "list.append") [.ref a, v]) Q :=
  WP.mk fun s S => by
    obtain ⟨n, rfl⟩ := ho
    refine wpAny_list_append_plain ⟨n, S.get (U (listO vs n)).mem⟩ (fun h' hl' hs => ?_) (by rw [List.size_toArray, sizeLine_eq]; omega)
    obtain ⟨n', e⟩ := hl'
    rw [List.push_toArray] at e
    exact ⟨_, _, S.chg U hs e, h _ ⟨n', rfl⟩⟩
theorem w_m_append {pl : Sem Bool} {Q : Value × List Value → Loc → Ldg → Prop} (hm : (a, o) ∈ N) (ho : OP o vs) (h : Q (.builtin "list.append", [.ref a]) l N) : WP c E l N (getMethod (.ref a) "append" pl) Q :=
  WP.mk fun s S => by
    obtain ⟨n, rfl⟩ := ho
    exact getMethod_list_append (S.get hm) rfl rfl ⟨_, _, S, h⟩
theorem w_neg1 {p q : Pos} {j : Nat} {Q : Value → Loc → Ldg → Prop} (h : ∀ t, Q (.int (-k) t) l N) : WP c E l N (eval (.UnaryOp .USub (.Constant (.int k) j p) q) env) Q :=
  WP.mk fun _ S => wpAny_UnaryOp (wpAny_Constant_int (P.neg_int ⟨_, _, S.tok _, h _⟩))
theorem Ch.at {d : Addr} {o o' : Obj} : ∀ {D : Ldg} {j : Nat} {N : Ldg}, D[j]? = some (d, o) → Ch d o o' (D ++ N) (D.set j (d, o') ++ N)
  | [], _, _, h => by simp at h
  | p :: D, 0, _, h => by simp at h; subst h; exact .here
  | p :: D, j + 1, N, h => .there (Ch.at (by simpa using h))
theorem mem_at {D N : Ldg} {j : Nat} {p : Addr × Obj} (h : D[j]? = some p) : p ∈ D ++ N := List.mem_append_left _ (List.mem_of_getElem? h)
end
noncomputable def Ints (vs : List Value) (ns : List Int) : Prop := vs.length = ns.length ∧ ∀ (i : Nat) (n : Int), ns[i]? = some n → ∃ t, vs[i]? = some (.int n t)
theorem w_keep {α : Type} {c : Cx} {E : Value → Shared → Prop} {l : Loc} {N : Ldg} {t : Sem α} {Q : α → Loc → Ldg → Prop} (P : α → Prop) (h : WP c E l N t fun v l' N' => P v ∧ l' = l ∧ N' = N) (k : ∀ v, P v → Q v l N) : WP c E l N t Q :=
  h.mono fun v l' N' ⟨p, e1, e2⟩ => by subst e1; subst e2; exact k v p
end Mine
end
section
open PySem PySem.W PyProof.Rows PySem.Calls PySem.Spec
namespace Mine
/-- an entry of a table of code objects -/
structure Ent where
  line : Nat
  col : Nat
  a : Addr
  o : Obj
noncomputable def CodeOb (o : Obj) (q : Str) : Prop := ∃ vs t, o.data = .fields vs ∧ vs[1]? = some (.str q t)
noncomputable def flatE : List Ent → List Value
  | [] => []
  | e :: r => rawInt e.line :: rawInt e.col :: .ref e.a :: flatE r
noncomputable def entL (es : List Ent) : Ldg := es.map fun e => (e.a, e.o)
noncomputable def tabX (P : Addr) (es : List Ent) : Ldg := (P, tabObj (flatE es).toArray) :: entL es
noncomputable def TabOk (qf : Nat → Nat → Str) (es : List Ent) : Prop := ∀ e ∈ es, CodeOb e.o (qf e.line e.col)
theorem flatE_snoc (e : Ent) : ∀ es : List Ent, flatE (es ++ [e]) = flatE es ++ [rawInt e.line, rawInt e.col, .ref e.a]
  | [] => rfl
  | x :: r => by
    show rawInt x.line :: rawInt x.col :: .ref x.a :: flatE (r ++ [e]) = _
    rw [flatE_snoc e r]; rfl
theorem triplesE : ∀ es : List Ent, TriplesOk (flatE es)
  | [] => trivial
  | _ :: r => triplesE r
theorem amongE (pos : Pos) : ∀ es : List Ent, codeAmong pos (flatE es) = none ∨ ∃ e ∈ es, e.line = pos.line ∧ e.col = pos.col ∧ codeAmong pos (flatE es) = some (.ref e.a)
  | [] => .inl rfl
  | e :: r => by
    have h : codeAmong pos (flatE (e :: r)) = if ((e.line : Int) == pos.line && (e.col : Int) == pos.col) = true then some (.ref e.a) else codeAmong pos (flatE r) := rfl
    rw [h]
    by_cases q : ((e.line : Int) == pos.line && (e.col : Int) == pos.col) = true
    · rw [if_pos q]
      rw [Bool.and_eq_true, beq_iff_eq, beq_iff_eq] at q
      exact .inr ⟨e, .head _, by omega, by omega, rfl⟩
    · rw [if_neg q]
      rcases amongE pos r with h | ⟨x, hx, h⟩
      · exact .inl h
      · exact .inr ⟨x, .tail _ hx, h⟩
theorem entL_snoc (es : List Ent) (e : Ent) : entL (es ++ [e]) = entL es ++ [(e.a, e.o)] := by unfold entL; rw [List.map_append]; rfl
section
variable {c : Cx} {E : Value → Shared → Prop} {l : Loc} {N : Ldg} {s : Shared} {P f c' : Addr} {es : List Ent} {fo oc : Obj} {h' : Heap} {tk : Nat}
theorem St.nest (S : St c l (tabX P es ++ N) s) (line col : Nat) (F' : ∃ m, Fr c.g c.L h' m ∧ ∀ p ∈ l, m p.1 = p.2)
    (N' : News c.g c.L h' ((f, fo) :: (c', oc) :: (P, tabObj ((flatE es).toArray ++ #[rawInt line, rawInt col, .ref c'])) :: (entL es ++ N))) (h1 : ∀ q ∈ tabX P es ++ N, q.1 < c') (h2 : c' < f) :
    St c l ((f, fo) :: (tabX P (es ++ [⟨line, col, c', oc⟩]) ++ N)) { s with heap := h', toks := tk } := by
  have e : (flatE es).toArray ++ #[rawInt line, rawInt col, .ref c'] = (flatE (es ++ [⟨line, col, c', oc⟩])).toArray := by rw [flatE_snoc]; simp
  rw [e] at N'
  have nd : (((f, fo) :: (c', oc) :: (P, tabObj (flatE (es ++ [⟨line, col, c', oc⟩])).toArray) :: (entL es ++ N)).map (·.1)).Nodup := by
    have h0 := S.nd
    have e2 : (((P, tabObj (flatE (es ++ [⟨line, col, c', oc⟩])).toArray) :: (entL es ++ N)).map (·.1)) = (tabX P es ++ N).map (·.1) := rfl
    rw [List.map_cons, List.map_cons, e2, List.nodup_cons, List.nodup_cons]
    refine ⟨fun hm => ?_, fun hm => ?_, h0⟩
    · rcases List.mem_cons.mp hm with e | hm
      · exact Nat.ne_of_gt h2 e
      · obtain ⟨q, hq, e⟩ := List.mem_map.mp hm
        have := h1 q hq
        rw [e] at this
        exact absurd (Nat.lt_trans this h2) (Nat.lt_irrefl _)
    · obtain ⟨q, hq, e⟩ := List.mem_map.mp hm
      have := h1 q hq
      rw [e] at this
      exact Nat.lt_irrefl _ this
  have S' : St c l ((f, fo) :: (c', oc) :: (P, tabObj (flatE (es ++ [⟨line, col, c', oc⟩])).toArray) :: (entL es ++ N)) { s with heap := h', toks := tk } := ⟨F', S.ln, N', nd, S.gs, S.dr, S.os⟩
  refine S'.perm (.cons _ ?_)
  unfold tabX
  rw [entL_snoc]
  refine (List.Perm.swap _ _ _).trans (.cons _ ?_)
  show ((c', oc) :: (entL es ++ N)).Perm ((entL es ++ [(c', oc)]) ++ N)
  rw [List.append_assoc]
  exact List.perm_middle.symm
theorem St.nestHit (S : St c l N s) (F' : ∃ m, Fr c.g c.L h' m ∧ ∀ p ∈ l, m p.1 = p.2) (N' : News c.g c.L h' ((f, fo) :: N)) (h1 : ∀ q ∈ N, q.1 < f) : St c l ((f, fo) :: N) { s with heap := h', toks := tk } := by
  refine ⟨F', S.ln, N', ?_, S.gs, S.dr, S.os⟩
  rw [List.map_cons, List.nodup_cons]
  refine ⟨fun hm => ?_, S.nd⟩
  obtain ⟨q, hq, e⟩ := List.mem_map.mp hm
  have := h1 q hq
  rw [e] at this
  exact Nat.lt_irrefl _ this
theorem tab_upd (S : St c l (tabX P es ++ N) s) : UpdF P (tabObj (flatE es).toArray) (tabX P es ++ N) (fun o' => (P, o') :: (entL es ++ N)) := by
  refine .head fun p hp e => ?_
  have := S.nd
  unfold tabX at this
  rw [List.cons_append, List.map_cons, List.nodup_cons] at this
  exact this.1 (by rw [← e]; exact List.mem_map_of_mem (f := (·.1)) hp)
end
section
variable {c : Cx} {E : Value → Shared → Prop} {l : Loc} {N : Ldg} {P cA : Addr} {es : List Ent} {nm : Str} {sc : Scope} {fa : Addr} {cd : Value} {cl : List (Str × Addr)} {name qual : Str} {params : Arguments} {scope : Scope} {clos : List (Str × Addr)} {pos : Pos} {fl : Nat} {qf : Nat → Nat → Str}
  {Q : Value → Loc → Ldg → Prop}
theorem w_makeDef {body : List Stmt} (G : Gnd c.w c.g) (C : CodeHd c.g cA P) (hcd : cd = .ref cA) (ok : TabOk qf es) (hq : qf pos.line pos.col = qual) (hcl : closureFor scope (envX nm sc c.L fa cd cl) = pure clos)
    (h : ∀ f c' oc ctv doc pm es', TabOk qf es' → (c', oc) ∈ entL es' → CodeOb oc qual → (∀ x ∈ entL es, x ∈ entL es') → Q (.ref f) l ((f, fnMade name qual params body scope clos doc pm c' ctv) :: (tabX P es' ++ N))) :
    WP c E l (tabX P es ++ N) (makeFunction name qual params (.stmts body) scope (envX nm sc c.L fa cd cl) [] [] [] pos fl) Q := WP.mk fun s S => by
  obtain ⟨p, lo, me, mg, mb, T⟩ := G.T
  obtain ⟨m, F, hm⟩ := S.fr
  rcases amongE pos es with hn | ⟨e, he, e1, e2, hf⟩
  · refine nest_K F S.nw T C hcd (tab_upd S) (by simpa using triplesE es) (by simpa using hn) hcl fun f c' oc vs t ctv doc h' tk F' N' hd hv l1 l2 => ?_
    refine ⟨l, _, S.nest (es := es) pos.line pos.col ⟨m, F', hm⟩ N' l1 l2, h f c' oc ctv doc _ _ (fun x hx => ?_) (by rw [entL_snoc]; exact List.mem_append_right _ (.head _)) ⟨vs, t, hd, hv⟩ (fun x hx => by rw [entL_snoc]; exact List.mem_append_left _ hx)⟩
    rcases List.mem_append.mp hx with hx | hx
    · exact ok x hx
    · simp at hx; subst hx; exact ⟨vs, t, hd, by rw [hq]; exact hv⟩
  · refine nestHit_K F S.nw T C hcd (.head _) (by simpa using triplesE es) (by simpa using hf) hcl fun f ctv doc h' tk F' N' l1 => ?_
    have hc := ok e he
    rw [e1, e2, hq] at hc
    exact ⟨l, _, S.nestHit ⟨m, F', hm⟩ N' l1, h f e.a e.o ctv doc _ es ok (List.mem_map_of_mem (f := fun e : Ent => (e.a, e.o)) he) hc (fun _ h => h)⟩
theorem w_makeLam {body : Expr} (G : Gnd c.w c.g) (C : CodeHd c.g cA P) (hcd : cd = .ref cA) (ok : TabOk qf es) (hq : qf pos.line pos.col = qual) (hcl : closureFor scope (envX nm sc c.L fa cd cl) = pure clos)
    (h : ∀ f c' oc ctv pm es', TabOk qf es' → (c', oc) ∈ entL es' → CodeOb oc qual → (∀ x ∈ entL es, x ∈ entL es') → Q (.ref f) l ((f, kla_obj name qual params body scope clos pm c' ctv) :: (tabX P es' ++ N))) :
    WP c E l (tabX P es ++ N) (makeFunction name qual params (.expr body) scope (envX nm sc c.L fa cd cl) [] [] [] pos fl) Q := WP.mk fun s S => by
  obtain ⟨p, lo, me, mg, mb, T⟩ := G.T
  obtain ⟨m, F, hm⟩ := S.fr
  rcases amongE pos es with hn | ⟨e, he, e1, e2, hf⟩
  · refine kla_nest F S.nw T C hcd (tab_upd S) (by simpa using triplesE es) (by simpa using hn) hcl fun f c' oc vs t ctv h' tk F' N' hd hv l1 l2 => ?_
    refine ⟨l, _, S.nest (es := es) pos.line pos.col ⟨m, F', hm⟩ N' l1 l2, h f c' oc ctv _ _ (fun x hx => ?_) (by rw [entL_snoc]; exact List.mem_append_right _ (.head _)) ⟨vs, t, hd, hv⟩ (fun x hx => by rw [entL_snoc]; exact List.mem_append_left _ hx)⟩
    rcases List.mem_append.mp hx with hx | hx
    · exact ok x hx
    · simp at hx; subst hx; exact ⟨vs, t, hd, by rw [hq]; exact hv⟩
  · refine kla_hit F S.nw T C hcd (.head _) (by simpa using triplesE es) (by simpa using hf) hcl fun f ctv h' tk F' N' l1 => ?_
    have hc := ok e he
    rw [e1, e2, hq] at hc
    exact ⟨l, _, S.nestHit ⟨m, F', hm⟩ N' l1, h f e.a e.o ctv _ es ok (List.mem_map_of_mem (f := fun e : Ent => (e.a, e.o)) he) hc (fun _ h => h)⟩
theorem w_Def {body : List Stmt} {env : Env} {Q : Flow → Loc → Ldg → Prop} (h : WP c E l N (makeFunction name (qualnameIn env name name) params (.stmts body) scope env [] [] [] pos pos.line) fun v l1 N1 => WP c E l1 N1 (storeName env name v) fun _ => Q .next)
    (hd0 : params.defaults = [] := by rfl) (hk0 : params.kw_defaults = [] := by rfl) (ha : annTrees params none env = [] := by rfl) :
    WP c E l N (exec (.FunctionDef name params body [] none [] scope none name pos) env) Q :=
  WP.mk fun _ S => nestDef_K hd0 hk0 ha (h.go S fun _ _ _ _ S1 q => q.run _ S1)
theorem w_Lambda {body : Expr} {env : Env} (h : WP c E l N (makeFunction "<lambda>" (env.qual ++ "<lambda>") params (.expr body) scope env [] [] [] pos pos.line) Q) (hdef : defaultsOf params env = ([], []) := by rfl) :
    WP c E l N (eval (.Lambda params body scope pos) env) Q :=
  WP.mk fun _ S => kla_eval hdef (h.run _ S)
end
section
variable {k : Kx} {E : Value → Shared → Prop} {N : Ldg} {n : Nat} {base : Heap} {envs : List Env} {f : Addr} {args : List Value} {Q : Value → Ldg → Prop}
  {name qual : Str} {params : Arguments} {body : Expr} {scope : Scope} {cl : List (Str × Addr)} {pm cdv ct : Value} {fo : Obj} {binds : List (Str × Value)} {l : Loc}
/-- a lambda without cells of its own is entered -/
theorem enterLE (G : Gk (n + 1) k base envs) (ho : (f, fo) ∈ N ∨ k.g.get? f = some fo) (hd : fo.data = .func (kla_fn name qual params body scope cl pm cdv ct))
    (hcd : ∀ s, Sc k N s → s.heap.CodeRec cdv qual)
    (hbind : bindArgs (kla_fn name qual params body scope cl pm cdv ct) ⟨args, []⟩ = pure binds) (hloc : ∀ y ∈ binds, scope.names.lookup y.1 = some .local)
    (hl : LocIs binds.reverse l) (hn : (l.map (·.1)).Nodup)
    (h : ∀ L, (∀ b o, k.g.get? b = some o → b ≠ L) → (∀ p ∈ N, p.1 ≠ L) → Gd n (k.c qual scope L f cdv cl) base envs (envX qual scope L f cdv cl) →
      WP (k.c qual scope L f cdv cl) (Lv k (envX qual scope L f cdv cl) E) l N
        (eval body (envX qual scope L f cdv cl)) (EndV Q))
    (hcell : ∀ x ∈ scope.names, x.2 ≠ .cell := by decide) (hco : scope.isCoroutine = false := by rfl) (hgen : scope.isGenerator = false := by rfl) (hk : scope.kind = .function := by rfl) :
    CP k E N (.ref f) args Q := CP.mk fun s S => by
  have hof : s.heap.get? f = some fo := ho.elim (fun h => (S.nw _ h).1) (S.keep _ _)
  obtain ⟨_, _, _, _, _, T⟩ := G.T
  refine kla_callFunE (by have := G.dep; omega) hof hd hco hgen rfl (hcd s S) ?_
  rw [hbind]
  refine wpAny_pure (wpAny_newFunctionEnv hcell hloc (fun h₁ hns hsb => ⟨(T.nolimit.keeps S.keep).fresh _ hsb, ?_⟩) hk)
  show codeAny _ _ (.expr body (envX qual scope s.heap.objs.size f cdv cl)) _ _
  have hk₁ : ∀ b o, s.heap.get? b = some o → h₁.get? b = some o := fun b o e => hsb.extBut b o (Nat.ne_of_lt (Heap.lt_size e)) (Heap.get?_push_of_some _ e)
  have gl : ∀ b o, k.g.get? b = some o → b ≠ s.heap.objs.size := fun b o e => Nat.ne_of_lt (Heap.lt_size (S.keep _ _ e))
  have nl : ∀ p ∈ N, p.1 ≠ s.heap.objs.size := fun p hp => Nat.ne_of_lt (Heap.lt_size (S.nw p hp).1)
  have W := h s.heap.objs.size gl nl (G.gd _ hk)
  refine kla_codeExpr (wpAny_mono (W.run _ ⟨⟨_, ⟨hns, fun b o e => hk₁ b o (S.keep b o e), S.size⟩, hl.all⟩, hn, fun p hp => ⟨hk₁ _ _ (S.nw p hp).1, nl p hp, (S.nw p hp).2⟩, S.nd, S.gs, S.dr, S.os⟩) (fun v s' ⟨l', N', S0, N'', hsub, q⟩ => ?_) fun _ _ e => e)
  have S' := S0.sub hsub
  obtain ⟨m', F', _⟩ := S'.fr
  exact ⟨N'', ⟨S'.keep, Nat.le_trans F'.above (Nat.le_of_lt (let ⟨_, _, _, hL, _⟩ := F'.ns; Heap.lt_size hL)), fun p hp => ⟨(S'.nw p hp).1, (S'.nw p hp).2.2⟩, S'.nd, S'.gs, S'.dr, S'.os⟩, q⟩
end
end Mine
end
section
open PySem PySem.W PyProof.Rows PySem.Calls PySem.Spec
namespace Mine
theorem slot_fn_sa : Slot "function" "__setattr__" "object.__setattr__" :=
  .of (owner := "object") (n := "__setattr__") (by rw [typeLookup_type, builtinLookup_eq_fast]; kernel_rfl) (by decide +kernel) (by decide +kernel) (by decide +kernel)
    (by first | exact .inl (by decide +kernel) | exact .inr (by decide +kernel)) (by rw [isSubtype_type]; kernel_rfl)
theorem slot_fn_ga : Slot "function" "__getattribute__" "object.__getattribute__" :=
  .of (owner := "object") (n := "__getattribute__") (by rw [typeLookup_type, builtinLookup_eq_fast]; kernel_rfl) (by decide +kernel) (by decide +kernel) (by decide +kernel)
    (by first | exact .inl (by decide +kernel) | exact .inr (by decide +kernel)) (by rw [isSubtype_type]; kernel_rfl)
theorem fn_no_hook : typeLookup (.type "function") "__getattr__" = pure none := by rw [typeLookup_type, builtinLookup_eq_fast]; kernel_rfl
theorem fn_no_read : typeLookup (.type "function") "read" = pure none := by rw [typeLookup_type, builtinLookup_eq_fast]; kernel_rfl
theorem fn_mro : mroOf (.type "function") = pure [.type "function", .type "object"] := by kernel_rfl
theorem fn_passes (self : Value) : refuseLoop self "__setattr__" [.type "function", .type "object"] = pure () := by kernel_rfl
theorem entry_ga : entryFor table "object.__getattribute__" = some Builtin.«object.__getattribute__» := entryFor_of_tree (by kernel_rfl)
theorem args_ga (a b : Value) : argsOk "object.__getattribute__" ⟨[a, b], []⟩ := by unfold argsOk; kernel_rfl
theorem args_sa (a b c : Value) : argsOk "object.__setattr__" ⟨[a, b, c], []⟩ := by unfold argsOk; kernel_rfl
noncomputable abbrev fnO (fd : FuncData) (d : Option Addr) (sl : Array (Option Value)) : Obj := ⟨.type "function", d, .func fd, sl⟩
section
variable {prog : Program} {w : World} {A : Around} {E : Value → Shared → Prop} {s : Shared} {a d : Addr} {fd : FuncData} {sl : Array (Option Value)} {v : Value} {m : Str → Option Value}
theorem fn_get_own {expr : Bool} {Q : Value → Shared → Prop} (ho : s.heap.get? a = some (fnO fd (some d) sl)) (hn : s.heap.Ns d m) (hv : m "read" = some v) (hh : handedOut v = pure v) (h : Q v { s with toks := s.toks + 1 }) :
    wpAny (model prog w) A (getAttr (.ref a) "read" expr) Q E s := by
  have hT : ∀ t, ({ s with toks := t } : Shared).TypeIs (.ref a) "function" := fun t => ⟨_, ho, rfl⟩
  unfold getAttr getAttrBy
  refine wpAny_bind (wpAny_mkText (wpAny_holding (wpAny_bind (wpAny_typeOf (hT _) (wpAny_bind (wpAny_of_eq slot_fn_ga.lookup ?_))))))
  show wpAny _ _ (getAttrByItsOwn _ _ _ _ _ _) _ _ _
  unfold getAttrByItsOwn
  refine wpAny_bind (m := hookBefore (.type "function")) (wpAny_pure (wpAny_bind (wpAny_attempt (wpAny_holding ?_))))
  unfold callGetattribute
  rw [show (expr && onTheHeap (Value.builtin "object.__getattribute__")) = false from Bool.and_false _, if_neg (by decide)]
  unfold boundAndCalled
  rw [slot_fn_ga.bind]
  refine wpAny_bind (wpAny_pure ?_)
  show wpAny _ _ (call (.builtin "object.__getattribute__") [.ref a, .str "read" s.toks]) _ _ _
  refine wpAny_call_entry slot_fn_ga (hT _) entry_ga ?_ (args_ga _ _)
  unfold Builtin.«object.__getattribute__»
  refine wpAny_bind (wpAny_pure (a := (Value.ref a, [Value.str "read" s.toks])) (wpAny_bind (m := Builtin.ObjectAttr.attrName (.str "read" s.toks)) (wpAny_pure ?_)))
  refine wpAny_bind (wpAny_typeOf (hT _) (wpAny_bind ?_))
  unfold Builtin.ObjectAttr.find
  refine wpAny_bind (wpAny_of_eq fn_no_read (wpAny_bind (m := Builtin.ObjectAttr.getOf none) (wpAny_pure (wpAny_bind (m := Builtin.ObjectAttr.dataDescriptor? none none) (wpAny_pure ?_)))))
  show wpAny _ _ (Builtin.ObjectAttr.ownThenClass _ _ _ _) _ _ _
  unfold Builtin.ObjectAttr.ownThenClass
  refine wpAny_bind ?_
  show wpAny _ _ (Builtin.ObjectAttr.ownDict a >>= fun x => Builtin.ObjectAttr.inDict "read" x) _ _ _
  refine wpAny_bind ?_
  unfold Builtin.ObjectAttr.ownDict
  refine wpAny_bind (m := loadHead a) (wpAny_loadPart ho ?_)
  show wpAny _ _ (instanceDict a false) _ _ _
  unfold instanceDict
  refine wpAny_bind (wpAny_loadPart ho ?_)
  refine wpAny_pure ?_
  show wpAny _ _ (nsGet d "read") _ _ _
  refine wpAny_nsGet hn ?_
  rw [hv]
  refine wpAny_bind (wpAny_rule (wpAny_pure ?_))
  refine wpAny_pure ⟨v, rfl, ?_⟩
  show wpAny _ _ (handedOut v) _ _ _
  rw [hh]
  exact wpAny_pure h
theorem fn_method {pl : Sem Bool} {Q : Value × List Value → Shared → Prop} (ho : s.heap.get? a = some (fnO fd (some d) sl)) (hn : s.heap.Ns d m) (hv : m "read" = some v) (hh : handedOut v = pure v) (h : Q (v, []) { s with toks := s.toks + 1 }) :
    wpAny (model prog w) A (getMethod (.ref a) "read" pl) Q E s := by
  have hT : s.TypeIs (.ref a) "function" := ⟨_, ho, rfl⟩
  unfold getMethod
  refine wpAny_bind (wpAny_specialOf hT slot_fn_ga.lookup ?_)
  show wpAny _ _ (if (Manifest.canonical "object.__getattribute__" != "object.__getattribute__") = true then _ else _) Q E s
  rw [PySem.F.canon_object_ga, if_neg (by decide)]
  refine wpAny_bind (wpAny_specialOf hT fn_no_hook ?_)
  refine wpAny_bind (wpAny_specialOf hT fn_no_read ?_)
  exact wpAny_bind (fn_get_own ho hn hv hh (wpAny_pure h))
theorem dictMade_fn (d : Addr) : dictMade (.type "function") a d = pure (some d) := by
  have h : finalisedInACycleAlone "function" = false := by decide +kernel
  unfold dictMade
  simp only [h, Bool.false_eq_true, if_false]
noncomputable abbrev readD (hs : Int) (t : Tok) (v : Value) : Obj := dictOf [⟨hs, .str "read" t, v⟩] 1
theorem fn_set {Q : Unit → Shared → Prop} (ho : s.heap.get? a = some (fnO fd none sl))
    (h : ∀ h' hs t, h'.get? a = some (fnO fd (some s.heap.objs.size) sl) → h'.get? s.heap.objs.size = some (readD hs t v) → (∀ b o, b ≠ a → s.heap.get? b = some o → h'.get? b = some o) → Q () { s with heap := h', toks := s.toks + 2 }) :
    wpAny (model prog w) A (setAttr (.ref a) "read" v) Q E s := by
  have hT : ∀ t, ({ s with toks := t } : Shared).TypeIs (.ref a) "function" := fun t => ⟨_, ho, rfl⟩
  unfold setAttr
  refine wpAny_bind (wpAny_mkText (wpAny_bind (wpAny_callSpecial?_slot (hT _) slot_fn_sa ?_)))
  refine wpAny_call_entry slot_fn_sa (hT _) PySem.F.entry_object_sa ?_ (args_sa _ _ _)
  rw [osa_eq, refuse_eq]
  refine wpAny_bind (wpAny_bind (wpAny_typeOf (hT _) (wpAny_bind (wpAny_of_eq fn_mro ?_))))
  rw [fn_passes]
  refine wpAny_pure (wpAny_bind (wpAny_typeOf (hT _) (wpAny_bind (wpAny_of_eq fn_no_read (wpAny_bind (m := Builtin.ObjectAttr.storeTaker? none) (wpAny_pure ?_))))))
  show wpAny _ _ (Builtin.ObjectAttr.storeInOwnDict _ _ _ _ _ _) _ _ _
  unfold Builtin.ObjectAttr.storeInOwnDict
  refine wpAny_bind (m := ownStreamTells (.ref a) (.type "function")) (wpAny_pure ?_)
  have hne : a ≠ s.heap.objs.size := Nat.ne_of_lt (Heap.lt_size ho)
  refine wpAny_bind ?_
  show wpAny _ _ (instanceDict a true) _ _ _
  unfold instanceDict
  refine wpAny_bind (wpAny_loadPart ho ?_)
  have ht : (!true || !typeHasDict (.type "function")) = false := by decide +kernel
  show wpAny _ _ (if (!true || !typeHasDict (.type "function")) = true then _ else _) _ _ _
  rw [ht, if_neg (by decide)]
  refine wpAny_bind (m := alloc _) (wpAny_alloc (wpAny_bind (m := update a _) (wpAny_update (o := fnO fd none sl) (Heap.get?_push_of_some _ ho) (wpAny_of_eq (dictMade_fn _) ?_))))
  show wpAny _ _ (Builtin.ObjectAttr.storeInDict _ _ _ _) _ _ _
  unfold Builtin.ObjectAttr.storeInDict
  refine wpAny_bind (m := Builtin.ObjectAttr.newKeyGuard _ _ _) (wpAny_pure ?_)
  have SB : Heap.SameBut a (s.heap.push { cls := .type "dict", data := .dict #[] }) ((s.heap.push { cls := .type "dict", data := .dict #[] }).update a fun o => { o with dict := some s.heap.objs.size }) := Heap.SameBut.update ..
  have D : ((s.heap.push { cls := .type "dict", data := .dict #[] }).update a fun o => { o with dict := some s.heap.objs.size }).get? s.heap.objs.size = some (dictOf [] 0) := (SB.2 _ hne.symm).trans (Heap.get?_push_size _ rfl)
  have D1 : ((s.heap.push { cls := .type "dict", data := .dict #[] }).update a fun o => { o with dict := some s.heap.objs.size }).get? a = some (fnO fd (some s.heap.objs.size) sl) := Heap.get?_update_self (o := fnO fd none sl) _ (Heap.get?_push_of_some _ ho) rfl
  refine wpAny_bind ?_
  unfold nsSet
  refine wpAny_bind (wpAny_bind (wpAny_askSetting (wpAny_pure (wpAny_bind (wpAny_mkText (wpAny_bind (wpAny_loadPart D ?_)))))))
  show wpAny _ _ (if aRefKeyMayBeTheName "read" #[] = true then _ else _) _ _ _
  rw [show aRefKeyMayBeTheName "read" #[] = false from rfl, if_neg (by decide)]
  refine wpAny_updatePart D ?_
  have SB2 := Heap.SameBut.update (s.heap.objs.size) (Obj.putName "read" (PyData.keyHash w.params "read") (.str "read" (s.toks + 1)) v) (h := (s.heap.push { cls := .type "dict", data := .dict #[] }).update a fun o => { o with dict := some s.heap.objs.size })
  have hp := putName_dict "read" (PyData.keyHash w.params "read") (.str "read" (s.toks + 1)) v [] 0
  have D2 := Heap.get?_update_self (Obj.putName "read" (PyData.keyHash w.params "read") (.str "read" (s.toks + 1)) v) D (by rw [hp]; rfl)
  rw [hp] at D2
  refine wpAny_bind (wpAny_lookBehind D2 rfl (wpAny_pure ⟨_, rfl, wpAny_pure ?_⟩))
  refine h _ _ _ ((SB2.2 _ hne).trans D1) D2 fun b o hb e => ?_
  exact (SB2.2 _ (Nat.ne_of_lt (Heap.lt_size e))).trans ((SB.2 _ hb).trans (Heap.get?_push_of_some _ e))
end
end Mine
end
section
open PySem PySem.W PyProof.Rows PySem.Calls PySem.Spec
namespace Mine
theorem Ch.upd {a : Addr} {o o' : Obj} : ∀ {N N' : Ldg}, Ch a o o' N N' → (N.map (·.1)).Nodup → Upd a o o' N N'
  | _, _, .here (r := r), hn => by
    rw [List.map_cons, List.nodup_cons] at hn
    exact .head fun p hp e => hn.1 (by rw [← e]; exact List.mem_map_of_mem (f := (·.1)) hp)
  | _, _, .there (p := p) x, hn => by
    rw [List.map_cons, List.nodup_cons] at hn
    exact .tail (fun e => hn.1 (by rw [e]; exact List.mem_map_of_mem (f := (·.1)) x.mem)) (x.upd hn.2)
section
variable {c : Cx} {E : Value → Shared → Prop} {l : Loc} {N N' : Ldg} {a d : Addr} {fd : FuncData} {sl : Array (Option Value)} {v : Value}
theorem w_set_fn {Q : Unit → Loc → Ldg → Prop} (h : ∀ d hs t, Q () l ((d, readD hs t v) :: (a, fnO fd (some d) sl) :: N)) : WP c E l ((a, fnO fd none sl) :: N) (setAttr (.ref a) "read" v) Q := WP.mk fun s S => by
  have D := S.nw _ (.head _)
  refine fn_set D.1 fun h' hs t h1 h2 h3 => ⟨_, _, ?_, h s.heap.objs.size hs t⟩
  obtain ⟨m, F, hm⟩ := S.fr
  have nd := S.nd
  rw [List.map_cons, List.nodup_cons] at nd
  have hLs : c.L < s.heap.objs.size := F.ns.lt
  have fresh : c.g.get? s.heap.objs.size = none := Heap.get?_none_of_le (Nat.le_trans F.above (Nat.le_of_lt hLs))
  refine ⟨⟨m, ⟨F.ns.extBut h3 D.2.1.symm, fun b o q => h3 b o (fun z => ?_) (F.keep b o q), F.above⟩, hm⟩, S.ln, fun p hp => ?_, ?_, S.gs, S.dr, S.os⟩
  · have := D.2.2; rw [← z, q] at this; cases this
  · rcases List.mem_cons.mp hp with rfl | hp
    · exact ⟨h2, Nat.ne_of_gt hLs, fresh⟩
    · rcases List.mem_cons.mp hp with rfl | hp
      · exact ⟨h1, D.2⟩
      · have n := S.nw p (.tail _ hp)
        exact ⟨h3 _ _ (fun z => nd.1 (by rw [← z]; exact List.mem_map_of_mem (f := (·.1)) hp)) n.1, n.2⟩
  · rw [List.map_cons, List.nodup_cons]
    refine ⟨fun hm => ?_, S.nd⟩
    obtain ⟨q, hq, e⟩ := List.mem_map.mp hm
    have hlt : q.1 < s.heap.objs.size := by
      rcases List.mem_cons.mp hq with rfl | hq
      · exact Heap.lt_size D.1
      · exact Heap.lt_size (S.nw q (.tail _ hq)).1
    rw [e] at hlt
    exact Nat.lt_irrefl _ hlt
theorem w_meth_fn {hs : Int} {t : Tok} {pl : Sem Bool} {Q : Value × List Value → Loc → Ldg → Prop} (hm : (a, fnO fd (some d) sl) ∈ N) (hd : (d, readD hs t v) ∈ N) (h : Q (v, []) l N) (hv : handedOut v = pure v := by rfl) : WP c E l N (getMethod (.ref a) "read" pl) Q :=
  WP.mk fun s S => fn_method (m := fun x => nsFind #[⟨hs, .str "read" t, v⟩] x) (S.get hm) ⟨_, _, _, S.get hd, rfl, fun e he => by simp at he; subst he; exact ⟨_, _, rfl⟩, fun _ => rfl⟩ rfl hv ⟨_, _, S.tok _, h⟩
end
section
variable {c : Cx} {E : Value → Shared → Prop} {l : Loc} {N N' : Ldg} {x C dx : Addr} {es es' : List DictEntry} {n n' : Nat} {name : Str} {v : Value} {f : Obj → Ldg}
theorem w_get_own {expr : Bool} {Q : Value → Loc → Ldg → Prop} {attr : Option Value} (G : Gnd c.w c.g) (hm : (x, instObj C dx) ∈ N) (hd : (dx, dictOf es n) ∈ N) (hg : plainGet (hd51.heap_39 c.w.params) C name = true) (hh : hasDictIn (hd51.heap_39 c.w.params) C = true)
    (ha : findIn (hd51.heap_39 c.w.params) (.ref C) name = some attr) (hn : noGet (hd51.heap_39 c.w.params) attr = true) (hl : getL name es = some (some v)) (hv : handedIn v = true) (h : Q v l N) :
    WP c E l N (getAttr (.ref x) name expr) Q :=
  WP.mk fun s S => let ⟨_, F, _⟩ := S.fr; get_own F G.X (InstAt.of_news S.nw hm hd) hg hh ha hn hl hv ⟨_, _, S.tok _, h⟩
theorem w_set_own {Q : Unit → Loc → Ldg → Prop} (G : Gnd c.w c.g) (hm : (x, instObj C dx) ∈ N) (hs : findIn (hd51.heap_39 c.w.params) (.ref C) "__setattr__" = some (some (.builtin "object.__setattr__"))) (hp : plainOver (hd51.heap_39 c.w.params) C = true)
    (ht : takerIn (hd51.heap_39 c.w.params) C name = some none) (hh : hasDictIn (hd51.heap_39 c.w.params) C = true) (hl : (getL name es).isSome = true) (hz : es.length ≤ 100)
    (U : ∀ o', Ch dx (dictOf es n) o' N (f o')) (h : ∀ t, Q () l (f (dictOf (putL name (PyData.keyHash c.w.params name) (.str name t) v es) (putN name es n)))) :
    WP c E l N (setAttr (.ref x) name v) Q := WP.mk fun s S => by
  obtain ⟨m, F, hm'⟩ := S.fr
  have hlen : (putL name (PyData.keyHash c.w.params name) (.str name (s.toks + 1)) v es).length ≤ 1000 := by
    have : ∀ es : List DictEntry, (putL name (PyData.keyHash c.w.params name) (.str name (s.toks + 1)) v es).length ≤ es.length + 1 := by
      intro es
      induction es with
      | nil => simp [putL]
      | cons e r ih => unfold putL; split <;> simp <;> omega
    have := this es
    omega
  refine set_dict F G.X S.nw (InstAt.of_news S.nw hm (U (dictOf es n)).mem) rfl hs hp ht hh hl rfl ((U _).upd S.nd) hlen fun h' F' N' => ⟨_, _, ⟨⟨m, F', hm'⟩, S.ln, N', ?_, S.gs, S.dr, S.os⟩, h _⟩
  rw [(U _).keys]; exact S.nd
theorem w_method {pl : Sem Bool} {Q : Value × List Value → Loc → Ldg → Prop} {fn : Addr} (G : Gnd c.w c.g) (hm : (x, instObj C dx) ∈ N) (hd : (dx, dictOf es n) ∈ N) (hg : plainGet (hd51.heap_39 c.w.params) C name = true)
    (hf : findIn (hd51.heap_39 c.w.params) (.ref C) name = some (some (.ref fn))) (ht : isFn (hd51.heap_39 c.w.params) (.ref fn) = true) (hl : getL name es = some none) (h : Q (.ref fn, [.ref x]) l N) : WP c E l N (getMethod (.ref x) name pl) Q :=
  WP.mk fun s S => let ⟨_, F, _⟩ := S.fr; method_inst F G.X (InstAt.of_news S.nw hm hd) hg hf ht hl ⟨_, _, S, h⟩
end
end Mine
end
section
open PySem PySem.W PyProof.Rows PySem.Calls PySem.Spec
namespace Mine
/-- the same frames, a few units on -/
structure Al (A A' : Around) : Prop where
  fr : A'.frames = A.frames
  hh : A'.handled = A.handled
  dep : A'.depth ≤ A.depth + 1
  un : A'.units ≤ A.units + 40
noncomputable abbrev Cx.kA (c : Cx) (A' : Around) (g : Heap) : Kx := ⟨c.w, A', g, c.gs, c.d, c.os⟩
section
variable {c : Cx} {l : Loc} {core rest N : Ldg} {n : Nat} {base : Heap} {outer : List Env} {env : Env} {s : Shared} {f : Value} {args : List Value} {A' : Around}
theorem St.gkA (G : Gd (n + 1) c base outer env) (S : St c l (core ++ rest) s) (a : Al c.A A') : Gk n (c.kA A' (hideAll s.heap (core.map (·.1)))) base (env :: outer) := by
  have k := S.gk G
  exact ⟨k.toGnd, ⟨a.fr.trans k.B.stack, k.B.stays, k.B.frames⟩, a.hh.trans k.hh, by have h1 := G.dep; have := a.dep; show A'.depth + n < _; omega, by have := G.un; have := a.un; show A'.units + 50 * n + 200 < _; omega⟩
theorem callA {R : Result → Shared → Prop} {Qs : Value → Ldg → Prop} (G : Gd (n + 1) c base outer env) (a : Al c.A A') (S : St c l (core ++ rest) s)
    (spec : ∀ g E, Gk n (c.kA A' g) base (env :: outer) → CP (c.kA A' g) E core f args Qs)
    (h : ∀ v core' s', Qs v core' → St c l (core' ++ rest) s' → R (.ok (.ret v)) s') : codeAny (model PR c.w) A' (.call f ⟨args, []⟩) R s := by
  have Z := S.sc
  refine codeAny_mono ((spec _ (fun e s' => R (.error e) s') (S.gkA G a)).run s ⟨Z.keep, Z.size, Z.nw, Z.nd, Z.gs, Z.dr, Z.os⟩) fun r s' hr => ?_
  match r with
  | .ok (.ret v) => obtain ⟨N', S', q⟩ := hr; exact h v N' s' q (S.back ⟨S'.keep, S'.size, S'.nw, S'.nd, S'.gs, S'.dr, S'.os⟩)
  | .ok .next => exact hr.elim
  | .ok .brk => exact hr.elim
  | .ok .cont => exact hr.elim
  | .error e => exact hr
end
noncomputable def NewStop (h h' : Heap) (e : Addr) : Prop := (∀ b o, h.get? b = some o → h'.get? b = some o) ∧ h.get? e = none ∧ ∃ ob vs a0, h'.get? e = some ob ∧ ob.cls = .type "StopIteration" ∧ ob.data = .fields vs ∧ vs[1]? = some .none ∧ vs[0]? = some a0
section
variable {prog : Program} {w : World} {A : Around} {E : Value → Shared → Prop} {s : Shared}
theorem stop_raises {α : Type} {Q : α → Shared → Prop} (hh : A.handled = none) (hE : ∀ h' e, NewStop s.heap h' e → E (.ref e) { s with heap := h' }) : wpAny (model prog w) A (Builtin.SmallTypes.stopIteration (α := α)) Q E s := by
  show wpAny _ _ (newExc (.type "StopIteration") [] >>= _) _ _ _
  refine wpAny_bind ?_
  simp only [newExc, newTuple]
  refine wpAny_bind (wpAny_newObj_type ?_ (by size_fits))
  refine wpAny_bind (m := firstArgMember _ _) (wpAny_of_eq (a := Value.none) (by first | rfl | (simp only [firstArgMember]; rfl)) ?_)
  refine wpAny_newObj_type ?_ (by size_fits)
  simp only [raiseNew]
  refine wpAny_bind (wpAny_handled ?_)
  rw [hh]
  refine wpAny_bind (wpAny_pure (wpAny_throw (hE _ _ ⟨fun b o e => Heap.get?_push_of_some _ (Heap.get?_push_of_some _ e), ?_, ?_⟩)))
  · exact Heap.get?_none_of_le (by rw [Heap.size_push]; exact Nat.le_succ _)
  · exact ⟨_, _, _, Heap.get?_push_size _ rfl, rfl, rfl, rfl, rfl⟩
end
/-- what a slot of C borrows: a function, or a method object over one -/
noncomputable def Bor (h : Heap) (f : Value) : Prop := ∃ a o, f = .ref a ∧ h.get? a = some o ∧ ((∃ fd, o.data = .func fd) ∨ ∃ g self og fd, o.cls = .type "method" ∧ o.data = .fields #[.ref g, self] ∧ h.get? g = some og ∧ og.data = .func fd)
noncomputable def OCI (o : Obj) (f sent : Value) : Prop := o.cls = .type "callable_iterator" ∧ o.data = .fields #[f, sent, .bool false]
noncomputable def OCE (o : Obj) : Prop := o.cls = .type "callable_iterator" ∧ o.data = .fields #[.none, .none, .bool true]
section
variable {prog : Program} {w : World} {A : Around} {E : Value → Shared → Prop} {s : Shared} {f sent : Value} {it : Addr} {o : Obj}
theorem bor_true {M : Model} {Q : Bool → Shared → Prop} (b : Bor s.heap f) (h : Q true s) : wpAny M A (borrowsExactly f) Q E s := by
  obtain ⟨a, o, rfl, ho, hd⟩ := b
  unfold borrowsExactly
  refine wpAny_bind (m := load a) (wpAny_load ho ?_)
  rcases hd with ⟨fd, hd⟩ | ⟨g, self, og, fd, hc, hd, hg, hgd⟩
  · rw [hd]; exact wpAny_pure h
  · rw [hd, hc]
    simp only [beq_self_eq_true, if_true]
    refine wpAny_bind (m := load g) (wpAny_load hg ?_)
    rw [hgd]; exact wpAny_pure h
theorem wpAny_borrowed {M : Model} {pos : List Value} {Q : Value → Shared → Prop} (hc : codeAny M A (.call f ⟨pos, []⟩) (fun r s' => match r with | .ok (.ret v) => Q v s' | .ok _ => False | .error e => E e s') s) :
    wpAny M A (callBorrowed f pos) Q E s := fun Γ p hΓ => by
  have h := hc _ p rfl (hΓ.enter (.call f ⟨pos, []⟩) none p (by intro x; cases x))
  have e : Sem.wp M Γ (callBorrowed f pos) (fun a _ s' => Q a s') (fun e _ s' => E e s') p s =
      wpCode M (Γ.enter (.call f ⟨pos, []⟩) none p) (fun r s' => match r with | .ok (.ret v) => Q v s' | .ok _ => False | .error e => E e s') p s := by
    show wpCode M (Γ.enter (.call f ⟨pos, []⟩) none p) _ p s = _
    congr 1; funext r s'
    cases r with
    | error e => rfl
    | ok f => cases f <;> rfl
  rw [e]; exact h
theorem ci_body {Q : Value → Shared → Prop} (hh : A.handled = none) (ho : s.heap.get? it = some o) (hc : OCI o f sent) (hb : Bor s.heap f)
    (h : codeAny (model prog w) A (.call f ⟨[], []⟩) (fun r s1 => match r with
      | .ok (.ret v) => ∃ b o1, s1.heap.get? it = some o1 ∧ OCI o1 f sent ∧ MeetsSeq.EqGives sent v b ∧ Bor s1.heap f ∧
        (match b with | true => ∀ h1 o2, Heap.SameBut it s1.heap h1 → h1.get? it = some o2 → OCE o2 → ∀ h2 e, NewStop h1 h2 e → E (.ref e) { s1 with heap := h2 } | false => Q v s1)
      | .ok _ => False
      | .error e => False) s) :
    wpAny (model prog w) A (Builtin.«callable_iterator.__next__» ⟨[.ref it], []⟩) (fun fin s' => ∃ v, fin = .done (.ret v) ∧ Q v s') E s := by
  unfold Builtin.«callable_iterator.__next__»
  refine wpAny_bind (wpAny_pure (a := (Value.ref it, [])) ?_)
  refine wpAny_bind (wpAny_field ho hc.2 (x := .bool false) rfl ?_)
  show wpAny _ _ (if (Value.bool false == Value.bool true) = true then _ else _) _ _ s
  rw [if_neg (show ¬ ((Value.bool false == Value.bool true) = true) from Bool.false_ne_true)]
  refine wpAny_bind (wpAny_field ho hc.2 (x := f) rfl (wpAny_bind (wpAny_attempt ?_)))
  unfold callOutOfASlot
  refine wpAny_bind (bor_true hb ?_)
  simp only [if_true]
  refine wpAny_borrowed (codeAny_mono h fun r s1 hr => ?_)
  match r with
  | .ok .next => exact hr.elim
  | .ok .brk => exact hr.elim
  | .ok .cont => exact hr.elim
  | .error e => exact hr.elim
  | .ok (.ret v) =>
    obtain ⟨b, o1, ho1, hc1, he, hb1, hq⟩ := hr
    refine wpAny_bind (wpAny_field ho1 hc1.2 (x := .bool false) rfl ?_)
    show wpAny _ _ (if (Value.bool false == Value.bool true) = true then _ else _) _ _ s1
    rw [if_neg (show ¬ ((Value.bool false == Value.bool true) = true) from Bool.false_ne_true)]
    refine wpAny_bind (wpAny_field ho1 hc1.2 (x := sent) rfl (wpAny_bind (wpAny_holding (he _ _ _ _ _ _ ?_))))
    cases b with
    | false => exact wpAny_pure ⟨v, rfl, hq⟩
    | true =>
      simp only [Bool.not_true, Bool.false_eq_true, if_false]
      refine wpAny_bind (wpAny_rule ?_)
      refine wpAny_bind ?_
      show wpAny _ _ (field (.ref it) 0 >>= fun old => slotLetsGo "callable_iterator.__next__" old _ >>= fun _ => setField (.ref it) 0 .none >>= fun _ => setField (.ref it) 1 .none >>= fun _ => setField (.ref it) 2 (.bool true)) _ _ _
      refine wpAny_bind (wpAny_field ho1 hc1.2 (x := f) rfl (wpAny_bind ?_))
      have hb2 := hb1
      obtain ⟨fa, _, rfl, _⟩ := hb2
      unfold slotLetsGo
      refine wpAny_bind (bor_true hb1 ?_)
      simp only [if_true]
      refine wpAny_pure ?_
      obtain ⟨oc, od, oda, osl⟩ := o1
      obtain ⟨e1, e2⟩ := hc1
      dsimp only at e1 e2
      subst e1; subst e2
      refine wpAny_bind (wpAny_setField ho1 rfl (by simp) ?_)
      have u1 := Heap.get?_update_self (Obj.mapFields fun x => x.setIfInBounds 0 Value.none) ho1 rfl
      refine wpAny_bind (wpAny_setField (o := ⟨.type "callable_iterator", od, .fields #[.none, sent, .bool false], osl⟩) u1 rfl (by simp) ?_)
      have u2 := Heap.get?_update_self (Obj.mapFields fun x => x.setIfInBounds 1 Value.none) u1 rfl
      refine wpAny_setField (o := ⟨.type "callable_iterator", od, .fields #[.none, .none, .bool false], osl⟩) u2 rfl (by simp) ?_
      have u3 := Heap.get?_update_self (Obj.mapFields fun x => x.setIfInBounds 2 (Value.bool true)) u2 rfl
      refine stop_raises hh fun h' e hn => ?_
      exact hq _ _ (((Heap.SameBut.update ..).trans (Heap.SameBut.update ..)).trans (Heap.SameBut.update ..)) u3 ⟨rfl, rfl⟩ _ _ hn
end
end Mine
end
section
open PySem PySem.W PyProof.Rows PySem.Calls PySem.Spec
namespace Mine
theorem slot_ci_next : Slot "callable_iterator" "__next__" "callable_iterator.__next__" :=
  .of (owner := "callable_iterator") (n := "__next__") (by rw [typeLookup_type, builtinLookup_eq_fast]; kernel_rfl) (by decide +kernel) (by decide +kernel) (by decide +kernel)
    (by first | exact .inl (by decide +kernel) | exact .inr (by decide +kernel)) (by rw [isSubtype_type]; kernel_rfl)
theorem slot_ci_iter : Slot "callable_iterator" "__iter__" "callable_iterator.__iter__" :=
  .of (owner := "callable_iterator") (n := "__iter__") (by rw [typeLookup_type, builtinLookup_eq_fast]; kernel_rfl) (by decide +kernel) (by decide +kernel) (by decide +kernel)
    (by first | exact .inl (by decide +kernel) | exact .inr (by decide +kernel)) (by rw [isSubtype_type]; kernel_rfl)
theorem slot_fn_call : Slot "function" "__call__" "function.__call__" :=
  .of (owner := "function") (n := "__call__") (by rw [typeLookup_type, builtinLookup_eq_fast]; kernel_rfl) (by decide +kernel) (by decide +kernel) (by decide +kernel)
    (by first | exact .inl (by decide +kernel) | exact .inr (by decide +kernel)) (by rw [isSubtype_type]; kernel_rfl)
theorem slot_meth_call : Slot "method" "__call__" "method.__call__" :=
  .of (owner := "method") (n := "__call__") (by rw [typeLookup_type, builtinLookup_eq_fast]; kernel_rfl) (by decide +kernel) (by decide +kernel) (by decide +kernel)
    (by first | exact .inl (by decide +kernel) | exact .inr (by decide +kernel)) (by rw [isSubtype_type]; kernel_rfl)
theorem entry_ci_next : entryFor table "callable_iterator.__next__" = some Builtin.«callable_iterator.__next__» := entryFor_of_fast (by kernel_rfl)
theorem entry_ci_iter : entryFor table "callable_iterator.__iter__" = some Builtin.«dict_keyiterator.__iter__» :=
  entryFor_alias (id' := "dict_keyiterator.__iter__") (by kernel_rfl) rfl (by decide +kernel) (by kernel_rfl)
theorem args_ci_next (a : Value) : argsOk "callable_iterator.__next__" ⟨[a], []⟩ := by unfold argsOk; kernel_rfl
theorem args_ci_iter (a : Value) : argsOk "callable_iterator.__iter__" ⟨[a], []⟩ := by unfold argsOk; kernel_rfl
theorem args_iter2 (a b : Value) : argsOk "iter" ⟨[a, b], []⟩ := by unfold argsOk; kernel_rfl
/-- a function or a method object over one, in the ledger or on the ground -/
theorem chAppend {a : Addr} {o o' : Obj} {N N' : Ldg} (U : Ch a o o' N N') : ∀ {core : Ldg}, Ch a o o' (core ++ N) (core ++ N')
  | [] => U
  | _ :: _ => .there (chAppend U)
noncomputable def BorL (c : Cx) (N : Ldg) (f : Value) : Prop := ∃ a, f = .ref a ∧ ((∃ fd d sl, (a, fnO fd d sl) ∈ N) ∨ ∃ g self fd d sl, (a, methodObj (.ref g) self) ∈ N ∧ ((g, fnO fd d sl) ∈ N ∨ c.g.get? g = some (fnO fd d sl)))
section
variable {c : Cx} {E : Value → Shared → Prop} {l : Loc} {N core rest : Ldg} {n : Nat} {base : Heap} {outer : List Env} {env : Env} {s : Shared} {f sent : Value} {it : Addr} {o : Obj}
theorem St.bor (S : St c l N s) (h : BorL c N f) : Bor s.heap f := by
  obtain ⟨a, rfl, ⟨fd, d, sl, hm⟩ | ⟨g, self, fd, d, sl, hm, hg⟩⟩ := h
  · exact ⟨a, _, rfl, S.get hm, .inl ⟨fd, rfl⟩⟩
  · exact ⟨a, _, rfl, S.get hm, .inr ⟨g, self, _, fd, rfl, rfl, hg.elim S.get S.old, rfl⟩⟩
theorem St.callable {M : Model} {A : Around} (S : St c l N s) (h : BorL c N f) {Q : Option Value → Shared → Prop} (q : ∀ v, Q (some v) s) : wpAny M A (specialOf f "__call__") Q E s := by
  obtain ⟨a, rfl, ⟨fd, d, sl, hm⟩ | ⟨g, self, fd, d, sl, hm, hg⟩⟩ := h
  · exact wpAny_specialOf (T := "function") ⟨_, S.get hm, rfl⟩ slot_fn_call.lookup (q _)
  · exact wpAny_specialOf (T := "method") ⟨_, S.get hm, rfl⟩ slot_meth_call.lookup (q _)
theorem w_iter2 {Q : Value → Loc → Ldg → Prop} (hf : BorL c N f) (h : ∀ it o, OCI o f sent → Q (.ref it) l ((it, o) :: N)) : WP c E l N (call (.builtin "iter") [f, sent]) Q := WP.mk fun s S => by
  refine call_function_entry (by decide +kernel) (by decide +kernel) kdk_entry_iter (args_iter2 _ _) ?_
  unfold Builtin.«iter»
  refine wpAny_bind (m := someArgs "iter" 1 2 _) (wpAny_of_eq (a := [f, sent]) (by first | rfl | kernel_rfl!) ?_)
  refine wpAny_bind (S.callable hf fun v => ?_)
  show wpAny _ _ (rule "iter.sentinel" >>= fun _ => newFields "callable_iterator" [f, sent, .bool false] >>= fun x => ret x) _ _ _
  refine wpAny_bind (wpAny_rule (wpAny_bind ?_))
  refine wpAny_newObj_type ?_ (by size_fits)
  exact wpAny_pure ⟨_, rfl, _, _, S.push _, h _ _ ⟨rfl, rfl⟩⟩
theorem w_iter_ci {Q : Value → Loc → Ldg → Prop} (hm : (it, o) ∈ N) (hc : o.cls = .type "callable_iterator") (h : Q (.ref it) l N) : WP c E l N (pyIter (.ref it)) Q := WP.mk fun s S => by
  have hT : s.TypeIs (.ref it) "callable_iterator" := ⟨_, S.get hm, hc⟩
  refine wpAny_pyIter_slot hT slot_ci_iter (wpAny_call_entry slot_ci_iter hT entry_ci_iter ?_ (args_ci_iter _))
  show wpAny _ _ (ret (.ref it)) _ _ s
  exact wpAny_pure ⟨_, rfl, "callable_iterator", _, hT, slot_ci_next.lookup, ⟨_, _, S, h⟩⟩
theorem al_in1 (A : Around) : Al A A.in1 := ⟨rfl, rfl, Nat.le_succ _, by show A.units + 1 ≤ _; omega⟩
theorem w_next_ci {Q : Option Value → Loc → Ldg → Prop} {Qs : Value → Ldg → Prop} {fr : Obj → Ldg} (G : Gd (n + 1) c base outer env) (U : ∀ o', Ch it o o' rest (fr o')) (hc : OCI o f sent) (hb : BorL c (core ++ rest) f)
    (spec : ∀ A' g E, Al c.A A' → Gk n (c.kA A' g) base (env :: outer) → CP (c.kA A' g) E core f [] Qs)
    (h : ∀ v core', Qs v core' → ∃ b, MeetsSeq.EqGives sent v b ∧ BorL c (core' ++ rest) f ∧ match b with | false => Q (some v) l (core' ++ rest) | true => ∀ o', OCE o' → Q none l (core' ++ fr o')) :
    WP c E l (core ++ rest) (pyNext (.ref it)) Q := WP.mk fun s S => by
  have mem : ∀ core' : Ldg, (it, o) ∈ core' ++ rest := fun _ => List.mem_append_right _ (U o).mem
  have hT : s.TypeIs (.ref it) "callable_iterator" := ⟨_, S.get (mem _), hc.1⟩
  unfold pyNext
  refine wpAny_bind (wpAny_attempt (wpAny_callSpecial?_slot (name := Str.ofString "__next__") hT slot_ci_next (wpAny_call_entry slot_ci_next hT entry_ci_next ?_ (args_ci_next _))))
  refine ci_body G.hh (S.get (mem _)) hc (S.bor hb) (callA G (al_in1 _) S (fun g E => spec _ g E (al_in1 _)) fun v core' s1 hq S1 => ?_)
  obtain ⟨b, he, hb1, q⟩ := h v core' hq
  refine ⟨b, o, S1.get (mem _), hc, he, S1.bor hb1, ?_⟩
  cases b with
  | false => exact wpAny_pure ⟨_, _, S1, q⟩
  | true =>
    intro h1 o2 hs e2 hce h2 e hn
    obtain ⟨hk, hne, ob, vs, a0, e1, ecl, _⟩ := hn
    refine wpAny_bind (wpAny_isInstance (T := "StopIteration") (b := true) ⟨_, e1, ecl⟩ isSubtype_stop ?_)
    have S2 : St c l (core' ++ fr o2) { s1 with heap := h1 } := S1.turn (chAppend (U o2)) hs e2
    exact wpAny_pure ⟨_, _, S2.grow (t := s1.toks) hk, q o2 hce⟩
theorem ce_body {prog : Program} {w : World} {A : Around} {Q : Value → Shared → Prop} (hh : A.handled = none) (ho : s.heap.get? it = some o) (hc : OCE o) (hE : ∀ h' e, NewStop s.heap h' e → E (.ref e) { s with heap := h' }) :
    wpAny (model prog w) A (Builtin.«callable_iterator.__next__» ⟨[.ref it], []⟩) (fun fin s' => ∃ v, fin = .done (.ret v) ∧ Q v s') E s := by
  unfold Builtin.«callable_iterator.__next__»
  refine wpAny_bind (wpAny_pure (a := (Value.ref it, [])) ?_)
  refine wpAny_bind (wpAny_field ho hc.2 (x := .bool true) rfl ?_)
  show wpAny _ _ (if (Value.bool true == Value.bool true) = true then _ else _) _ _ s
  rw [if_pos (by rfl)]
  exact wpAny_bind (wpAny_rule (wpAny_bind (stop_raises hh hE)))
theorem w_next_ce {Q : Option Value → Loc → Ldg → Prop} (hh : c.A.handled = none) (hm : (it, o) ∈ N) (hc : OCE o) (h : Q none l N) : WP c E l N (pyNext (.ref it)) Q := WP.mk fun s S => by
  have hT : s.TypeIs (.ref it) "callable_iterator" := ⟨_, S.get hm, hc.1⟩
  unfold pyNext
  refine wpAny_bind (wpAny_attempt (wpAny_callSpecial?_slot (name := Str.ofString "__next__") hT slot_ci_next (wpAny_call_entry slot_ci_next hT entry_ci_next ?_ (args_ci_next _))))
  refine ce_body hh (S.get hm) hc fun h2 e hn => ?_
  obtain ⟨hk, hne, ob, vs, a0, e1, ecl, _⟩ := hn
  refine wpAny_bind (wpAny_isInstance (T := "StopIteration") (b := true) ⟨_, e1, ecl⟩ isSubtype_stop ?_)
  exact wpAny_pure ⟨_, _, S.grow (t := s.toks) hk, h⟩
/-- next, the builtin -/
theorem al_in2 (A : Around) : Al A A.in1.in1 := ⟨rfl, rfl, Nat.le_succ _, by show A.units + 1 + 1 ≤ _; omega⟩
theorem nextb_open {Q : Value → Shared → Prop} {T id : String} (hT : s.TypeIs (.ref it) T) (sl : Slot T "__next__" id) (h : wpAny (model PR c.w) c.A.in1 (call (.builtin id) [.ref it]) Q E s) : wpAny (model PR c.w) c.A (call (.builtin "next") [.ref it]) Q E s := by
  refine call_function_entry (by decide +kernel) (by decide +kernel) kdk_entry_next (kdk_args_next _) ?_
  unfold Builtin.«next»
  refine wpAny_bind (m := someArgs "next" 1 2 _) (wpAny_of_eq (a := [Value.ref it]) (by first | rfl | kernel_rfl!) ?_)
  refine wpAny_bind (wpAny_specialOf hT sl.lookup ?_)
  show wpAny _ _ (callSpecial? (.ref it) "__next__" >>= _) _ _ _
  refine wpAny_bind (wpAny_callSpecial?_slot hT sl (wpAny_mono h (fun v s' q => ?_) fun _ _ e => e))
  exact wpAny_pure ⟨v, rfl, q⟩
theorem w_nextb_ci {Q : Value → Loc → Ldg → Prop} {Qs : Value → Ldg → Prop} {fr : Obj → Ldg} (G : Gd (n + 1) c base outer env) (U : ∀ o', Ch it o o' rest (fr o')) (hc : OCI o f sent) (hb : BorL c (core ++ rest) f)
    (spec : ∀ A' g E, Al c.A A' → Gk n (c.kA A' g) base (env :: outer) → CP (c.kA A' g) E core f [] Qs)
    (h : ∀ v core', Qs v core' → ∃ b, MeetsSeq.EqGives sent v b ∧ BorL c (core' ++ rest) f ∧ match b with
      | false => Q v l (core' ++ rest)
      | true => ∀ o' s' h2 e, OCE o' → St c l (core' ++ fr o') s' → NewStop s'.heap h2 e → E (.ref e) { s' with heap := h2 }) :
    WP c E l (core ++ rest) (call (.builtin "next") [.ref it]) Q := WP.mk fun s S => by
  have mem : ∀ core' : Ldg, (it, o) ∈ core' ++ rest := fun _ => List.mem_append_right _ (U o).mem
  have hT : s.TypeIs (.ref it) "callable_iterator" := ⟨_, S.get (mem _), hc.1⟩
  refine nextb_open hT slot_ci_next (wpAny_call_entry slot_ci_next hT entry_ci_next ?_ (args_ci_next _))
  refine ci_body G.hh (S.get (mem _)) hc (S.bor hb) (callA G (al_in2 _) S (fun g E => spec _ g E (al_in2 _)) fun v core' s1 hq S1 => ?_)
  obtain ⟨b, he, hb1, q⟩ := h v core' hq
  refine ⟨b, o, S1.get (mem _), hc, he, S1.bor hb1, ?_⟩
  cases b with
  | false => exact ⟨_, _, S1, q⟩
  | true =>
    intro h1 o2 hs e2 hce h2 e hn
    have S2 : St c l (core' ++ fr o2) { s1 with heap := h1 } := S1.turn (chAppend (U o2)) hs e2
    exact q o2 { s1 with heap := h1 } h2 e hce S2 hn
theorem w_nextb_list {a : Addr} {oa : Obj} {vs : List Value} {i : Nat} {Q : Value → Loc → Ldg → Prop} {fr : Obj → Ldg} (hh : c.A.handled = none) (U : ∀ o', Ch it o o' N (fr o')) (hi : OLI o a i) (hm : (a, oa) ∈ N) (ho : OL oa vs)
    (h : match vs[i]? with
      | some v => ∀ o', OLI o' a (i + 1) → Q v l (fr o')
      | none => ∀ o' s' h2 e, St c l (fr o') s' → NewStop s'.heap h2 e → E (.ref e) { s' with heap := h2 }) : WP c E l N (call (.builtin "next") [.ref it]) Q := WP.mk fun s S => by
  have hit : s.heap.IsListIter it a i := ⟨o, S.get (U o).mem, hi⟩
  have hT := hit.typeIs
  refine nextb_open hT slot_listiter_next (wpAny_call_entry slot_listiter_next hT entry_listiter_next ?_ (args_listiter_next _))
  obtain ⟨oc, od, oda, osl⟩ := o
  obtain ⟨e1, e2⟩ := hi
  dsimp only at e1 e2
  subst e1; subst e2
  obtain ⟨ol, hol, _, nl, hdl⟩ := S.isList hm ho
  have ho1 := S.get (U oa).mem
  show wpAny _ _ (field (.ref it) 0 >>= _) _ _ s
  refine wpAny_bind (wpAny_field ho1 rfl (x := .ref a) rfl ?_)
  show wpAny _ _ (if (Value.ref a == Value.none) = true then _ else _) _ _ s
  rw [if_neg (show ¬ ((Value.ref a == Value.none) = true) from Bool.false_ne_true)]
  show wpAny _ _ (field (.ref it) 1 >>= _) _ _ s
  refine wpAny_bind (wpAny_field ho1 rfl (x := .int i 0) rfl ?_)
  show wpAny _ _ (seqItems? (.ref a) >>= _) _ _ s
  refine wpAny_bind (wpAny_seqItems hol hdl ?_)
  cases hx : vs[i]? with
  | some v =>
    rw [hx] at h
    simp only [Int.toNat_natCast, List.getElem?_toArray, hx]
    refine wpAny_bind (wpAny_setField ho1 rfl (by simp) ?_)
    have u1 := Heap.get?_update_self (Obj.mapFields fun x => x.setIfInBounds 1 (rawInt ((i : Int) + 1))) ho1 rfl
    refine wpAny_pure ⟨v, rfl, _, _, S.turn (U _) (Heap.SameBut.update ..) u1, h _ ⟨rfl, ?_⟩⟩
    rfl
  | none =>
    rw [hx] at h
    simp only [Int.toNat_natCast, List.getElem?_toArray, hx]
    refine wpAny_bind (wpAny_rule (wpAny_bind (wpAny_setField ho1 rfl (by simp) ?_)))
    have u1 := Heap.get?_update_self (Obj.mapFields fun x => x.setIfInBounds 0 Value.none) ho1 rfl
    exact stop_raises hh fun h' e hn => h _ { s with heap := _ } h' e (S.turn (U _) (Heap.SameBut.update ..) u1) hn
end
end Mine
end
section
open PySem PySem.W PyProof.Rows PySem.Calls PySem.Spec
namespace Mine
theorem slice_hi_clip (x : Str) (i : Int) {j : Int} (h : (x.length : Int) ≤ j) : Txt.slice x (some i) (some j) = Txt.slice x (some i) (some (x.length : Int)) := by
  have a1 : ¬ j < 0 := by omega
  have a2 : ¬ ((x.length : Int) < 0) := by omega
  have e1 : max (0 : Int) (min j (x.length : Int)) = x.length := by omega
  have e2 : max (0 : Int) (min (x.length : Int) (x.length : Int)) = x.length := by omega
  have e : Builtin.Str.strSliceIndices (some i) (some j) 1 x.length = Builtin.Str.strSliceIndices (some i) (some (x.length : Int)) 1 x.length := by
    simp [Builtin.Str.strSliceIndices, a1, a2, e1, e2]
  unfold Txt.slice
  rw [e]
/-- text[at : at + 1] -/
theorem slice_one (x : List Nat) (p : Nat) (hp : p ≤ x.length) : Txt.slice (T x) (some (p : Int)) (some ((p : Int) + 1)) = T ((x.drop p).take 1) := by
  by_cases h : p < x.length
  · have := eq_of_beq (slice_closesL (x := T x) (i := (p : Int)) (j := (p : Int) + 1) (by omega) (by omega) (by rw [T_len]; omega))
    rw [this]
    show T _ = T _
    rw [show ((p : Int)).toNat = p by omega, show (((p : Int) + 1) - p).toNat = 1 by omega]
  · have hp' : p = x.length := by omega
    subst hp'
    have e : ((x.length : Nat) : Int) = ((T x).length : Int) := by rw [T_len]
    rw [slice_hi_clip _ _ (by rw [T_len]; omega)]
    have := eq_of_beq (slice_closesL (x := T x) (i := (x.length : Int)) (j := ((T x).length : Int)) (by omega) (by rw [T_len]; omega) (Int.le_refl _))
    rw [this]
    show T _ = T _
    rw [T_len, show (((x.length : Int)) - (x.length : Int)).toNat = 0 by omega]
    simp
theorem slice_upto (x : List Nat) (p : Nat) (hp : p ≤ x.length) : Txt.slice (T x) none (some (p : Int)) = T (x.take p) := by
  have := eq_of_beq (slice_closes_toL (x := T x) (j := (p : Int)) (by omega) (by rw [T_len]; omega))
  rw [this]
  show T _ = T _
  rw [show ((0 : Int)).toNat = 0 by rfl, List.drop_zero, show ((p : Int) - 0).toNat = p by omega]
theorem made_slice {x : Str} {t : Tok} {lo hi : Option (Int × Tok)} {Q : Value → Shared → Prop} {s : Shared} (hl : x.length ≤ 1000000) (h : ∀ tk k, Q (.str (Txt.slice x (lo.map (·.1)) (hi.map (·.1))) tk) { s with toks := k }) : (sliceMade x t lo hi none).post Q s := by
  unfold sliceMade
  split
  · rename_i q
    have e : Txt.slice x (lo.map (·.1)) (hi.map (·.1)) = x := by unfold Txt.slice; exact if_pos q
    have := h t s.toks
    rw [e] at this
    exact this
  · rename_i q
    have e : Txt.slice x (lo.map (·.1)) (hi.map (·.1)) = ⟨((slicePicked x lo hi none).filterMap (x.cps[·]?)).toArray⟩ := by unfold Txt.slice; exact if_neg q
    have := h s.toks (s.toks + 1)
    have hle := Txt.slice_le x (lo.map (·.1)) (hi.map (·.1))
    rw [e] at this hle
    exact ⟨Nat.le_trans hle (by rw [sizeLine_eq]; omega), this⟩
section
variable {c : Cx} {E : Value → Shared → Prop} {l : Loc} {N : Ldg} {env : Env} {Q : Value → Loc → Ldg → Prop}
theorem w_slice_str {value : Expr} {lower upper : Option Expr} {p pos : Pos}
    (h : WP c E l N (eval value env) fun o l1 N1 => WP c E l1 N1 (evalPart lower env) fun vl l2 N2 => WP c E l2 N2 (evalPart upper env) fun vu l3 N3 =>
      ∃ x t lo hi, o = .str x t ∧ x.length ≤ 1000000 ∧ vl = partValue lo ∧ vu = partValue hi ∧ ∀ tk, Q (.str (Txt.slice x (lo.map (·.1)) (hi.map (·.1))) tk) l3 N3)
    (ht : ∀ o r, letTemporaryGo value o r = pure () := by intro _ _; rfl) : WP c E l N (eval (.Subscript value (.Slice lower upper none p) pos) env) Q :=
  WP.mk fun s S => wpAny_Subscript_str_slice (h.go S fun x _ _ _ S1 q => q.go S1 fun vl _ _ _ S2 q => q.go S2 fun vu s₃ l3 N3 S3 q => by
    obtain ⟨x, t, lo, hi, rfl, hl, rfl, rfl, hq⟩ := q
    exact ⟨x, t, lo, hi, rfl, rfl, rfl, made_slice hl fun tk k => ⟨_, _, ((S3.push { cls := .type "slice", data := .fields #[partValue lo, partValue hi, .none] }).sub (.cons _ (.refl _))).tok k, hq tk⟩⟩) ht
theorem w_iter1_list {a : Addr} {o : Obj} {vs : List Value} (hm : (a, o) ∈ N) (ho : OL o vs) (h : ∀ i o', OLI o' a 0 → Q (.ref i) l ((i, o') :: N)) : WP c E l N (call (.builtin "iter") [.ref a]) Q := WP.mk fun s S => by
  refine call_function_entry (by decide +kernel) (by decide +kernel) kdk_entry_iter (kdk_args_iter _) ?_
  unfold Builtin.«iter»
  refine wpAny_bind (m := someArgs "iter" 1 2 _) (wpAny_of_eq (a := [Value.ref a]) (by first | rfl | kernel_rfl!) ?_)
  show wpAny _ _ (pyIter (.ref a) >>= _) _ _ _
  refine wpAny_bind (wpAny_pyIter_list (S.isList hm ho) ?_)
  exact wpAny_pure ⟨_, rfl, _, _, S.push _, h _ _ ⟨rfl, rfl⟩⟩
theorem cp_method {k : Kx} {E : Value → Shared → Prop} {N : Ldg} {q : Addr} {f self : Value} {args : List Value} {Q : Value → Ldg → Prop} (hm : (q, methodObj f self) ∈ N) (h : CP k E N f (self :: args) Q) : CP k E N (.ref q) args Q :=
  CP.mk fun s S => method_call (S.nw _ hm).1 (h.run s S)
end
end Mine
end
section
open PySem PySem.W PyProof.Rows PySem.Calls PySem.Spec
namespace Mine
noncomputable abbrev Kx.on (k : Kx) (g : Heap) : Kx := ⟨k.w, k.A, g, k.gs, k.d, k.os⟩
section
variable {k : Kx} {E : Value → Shared → Prop} {core rest : Ldg} {n : Nat} {base : Heap} {envs : List Env} {f : Value} {args : List Value} {Qs Q : Value → Ldg → Prop}
theorem Gk.grow (G : Gk n k base envs) {g : Heap} (hk : ∀ b o, k.g.get? b = some o → g.get? b = some o) : Gk n (k.on g) base envs :=
  ⟨G.toGnd.keeps hk, ⟨G.B.stack, fun b o e => hk b o (G.B.stays b o e), G.B.frames.of_keeps fun b o e _ => ⟨o, hk b o e, rfl⟩⟩, G.hh, G.dep, G.un⟩
/-- a contract's frame -/
theorem cp_frame (G : Gk n k base envs) (spec : ∀ g, Gk n (k.on g) base envs → CP (k.on g) E core f args Qs) (h : ∀ v c', Qs v c' → Q v (c' ++ rest)) : CP k E (core ++ rest) f args Q := CP.mk fun s S => by
  have nd := S.nd
  rw [List.map_append, List.nodup_append] at nd
  have hk : ∀ b o, k.g.get? b = some o → (hideAll s.heap (core.map (·.1))).get? b = some o := fun b o e => hideAll_get _ (S.keep b o e) fun q => by
    obtain ⟨p, hp, rfl⟩ := List.mem_map.mp q
    rw [(S.nw p (List.mem_append_left _ hp)).2] at e; cases e
  have hr : ∀ p ∈ rest, (hideAll s.heap (core.map (·.1))).get? p.1 = some p.2 := fun p hp =>
    hideAll_get _ (S.nw p (List.mem_append_right _ hp)).1 fun q => nd.2.2 _ q _ (List.mem_map_of_mem hp) rfl
  refine codeAny_mono ((spec _ (G.grow hk)).run s ⟨fun _ _ e => of_hideAll _ e, Nat.le_of_eq (hideAll_size _ _), fun p hp => ⟨(S.nw p (List.mem_append_left _ hp)).1, hideAll_none _ (List.mem_map_of_mem hp)⟩, nd.1, S.gs, S.dr, S.os⟩) fun r s' z => ?_
  match r with
  | .error e => exact z
  | .ok .next => exact z
  | .ok .brk => exact z
  | .ok .cont => exact z
  | .ok (.ret v) =>
    obtain ⟨N', S', q⟩ := z
    refine ⟨N' ++ rest, ⟨fun b o e => S'.keep b o (hk b o e), Nat.le_trans S.size ?_, fun p hp => ?_, ?_, S'.gs, S'.dr, S'.os⟩, h v N' q⟩
    · have := S'.size
      rw [show (k.on (hideAll s.heap (core.map (·.1)))).g = hideAll s.heap (core.map (·.1)) from rfl, hideAll_size] at this
      exact this
    · rcases List.mem_append.mp hp with hp | hp
      · refine ⟨(S'.nw p hp).1, ?_⟩
        cases q : k.g.get? p.1 with
        | none => rfl
        | some o => have := (S'.nw p hp).2; rw [show (k.on (hideAll s.heap (core.map (·.1)))).g = hideAll s.heap (core.map (·.1)) from rfl, hk _ _ q] at this; cases this
      · exact ⟨S'.keep _ _ (hr p hp), (S.nw p (List.mem_append_right _ hp)).2⟩
    · rw [List.map_append, List.nodup_append]
      refine ⟨S'.nd, nd.2.1, fun x hx y hy e => ?_⟩
      subst e
      obtain ⟨p, hp, rfl⟩ := List.mem_map.mp hx
      obtain ⟨q, hq, e⟩ := List.mem_map.mp hy
      have h1 := (S'.nw p hp).2
      have h2 := hr q hq
      rw [e] at h2
      rw [show (k.on (hideAll s.heap (core.map (·.1)))).g = hideAll s.heap (core.map (·.1)) from rfl, h2] at h1; cases h1
end
section
variable {c : Cx} {E : Value → Shared → Prop} {l : Loc} {N : Ldg} {x C dx fn : Addr} {es : List DictEntry} {n : Nat} {name : Str}
theorem w_bound {expr : Bool} {Q : Value → Loc → Ldg → Prop} (G : Gnd c.w c.g) (hm : (x, instObj C dx) ∈ N) (hd : (dx, dictOf es n) ∈ N) (hg : plainGet (hd51.heap_39 c.w.params) C name = true) (hh : hasDictIn (hd51.heap_39 c.w.params) C = true)
    (ha : findIn (hd51.heap_39 c.w.params) (.ref C) name = some (some (.ref fn))) (hf : isFn (hd51.heap_39 c.w.params) (.ref fn) = true)
    (hgf : specialIn (hd51.heap_39 c.w.params) (.ref fn) "__get__" = some (some (.builtin "function.__get__"))) (ht : takesIn (hd51.heap_39 c.w.params) (.ref fn) = some false) (hc : copiedNames.contains name = false) (hl : getL name es = some none)
    (h : ∀ q, Q (.ref q) l ((q, methodObj (.ref fn) (.ref x)) :: N)) : WP c E l N (getAttr (.ref x) name expr) Q := WP.mk fun s S => by
  obtain ⟨m, F, hm'⟩ := S.fr
  refine kbm_bound F G.X S.nw (InstAt.of_news S.nw hm hd) hg hh ha hf hgf ht hc hl fun q h' F' N' l1 => ⟨_, _, ⟨⟨m, F', hm'⟩, S.ln, N', ?_, S.gs, S.dr, S.os⟩, h q⟩
  rw [List.map_cons, List.nodup_cons]
  refine ⟨fun hm => ?_, S.nd⟩
  obtain ⟨p, hp, e⟩ := List.mem_map.mp hm
  have := l1 p hp
  rw [e] at this
  exact Nat.lt_irrefl _ this
end
end Mine
end
section
open PySem PySem.W PyProof.Rows PySem.Calls PySem.Spec
namespace Mine
noncomputable abbrev stopT : Value := .type "StopIteration"
/-- a StopIteration that left a call -/
structure Rz (k : Kx) (envs : List Env) (N : Ldg) (e : Addr) (s : Shared) : Prop where
  nd : (N.map (·.1)).Nodup
  up : k.g.UpToSlots s.heap
  gs : s.gens = k.gs
  dr : s.drawn = k.d
  os : s.os = k.os
  st : ∃ B a0, (∀ b o, k.g.get? b = some o → b ∉ envs.filterMap (·.frame) → B.get? b = some o) ∧ (∀ q ∈ N, B.get? q.1 = some q.2 ∧ k.g.get? q.1 = none) ∧ Heap.FlyingW B envs e stopT a0 s.heap
noncomputable def NewIn (B : Heap) (l : List Env) (e : Addr) (a0 : Value) (h : Heap) : Prop :=
  B.StaysIn h ∧ B.get? e = none ∧ h.FunFrames B l ∧ ∃ oe vs, h.get? e = some oe ∧ oe.cls = stopT ∧ oe.data = .fields vs ∧ vs[1]? = some .none ∧ vs[0]? = some a0
/-- a StopIteration within a frame: new, come from a call, or noted here -/
structure Xf (c : Cx) (env : Env) (outer : List Env) (l : Loc) (N : Ldg) (e : Addr) (s : Shared) : Prop where
  fr : ∃ m, s.heap.Ns c.L m ∧ ∀ p ∈ l, m p.1 = p.2
  ln : (l.map (·.1)).Nodup
  above : c.g.objs.size ≤ c.L
  nd : (N.map (·.1)).Nodup
  up : c.g.UpToSlots s.heap
  gs : s.gens = c.gs
  dr : s.drawn = c.d
  os : s.os = c.os
  st : ∃ B a0, (∀ b o, c.g.get? b = some o → b ∉ outer.filterMap (·.frame) → B.get? b = some o) ∧ (∀ q ∈ N, B.get? q.1 = some q.2 ∧ c.g.get? q.1 = none) ∧
    (NewIn B (env :: outer) e a0 s.heap ∨ Heap.FlyingW B (env :: outer) e stopT a0 s.heap ∨ Heap.HeldW B (env :: outer) e stopT a0 c.L s.heap)
/-- the same, noted -/
noncomputable def XfH (c : Cx) (env : Env) (outer : List Env) (l : Loc) (N : Ldg) (e : Addr) (s : Shared) : Prop :=
  Xf c env outer l N e s ∧ ∃ B a0, (∀ b o, c.g.get? b = some o → b ∉ outer.filterMap (·.frame) → B.get? b = some o) ∧ (∀ q ∈ N, B.get? q.1 = some q.2 ∧ c.g.get? q.1 = none) ∧ Heap.HeldW B (env :: outer) e stopT a0 c.L s.heap
section
variable {c : Cx} {E : Value → Shared → Prop} {l : Loc} {N core rest : Ldg} {n : Nat} {base : Heap} {outer : List Env} {env : Env} {s s' : Shared} {e : Addr} {h' : Heap}
theorem Xf.move (X : Xf c env outer l N e s) (hu : s.heap.UpToSlots h')
    (st : ∃ B a0, (∀ b o, c.g.get? b = some o → b ∉ outer.filterMap (·.frame) → B.get? b = some o) ∧ (∀ q ∈ N, B.get? q.1 = some q.2 ∧ c.g.get? q.1 = none) ∧ Heap.HeldW B (env :: outer) e stopT a0 c.L h') : XfH c env outer l N e { s with heap := h' } :=
  ⟨⟨let ⟨m, hn, hm⟩ := X.fr; ⟨m, hu.ns hn, hm⟩, X.ln, X.above, X.nd, X.up.trans hu, X.gs, X.dr, X.os, let ⟨B, a0, h1, h2, h3⟩ := st; ⟨B, a0, h1, h2, .inr (.inr h3)⟩⟩, st⟩
theorem St.frameNone (S : St c l N s) : c.g.get? c.L = none := let ⟨_, F, _⟩ := S.fr; Heap.get?_none_of_le F.above
/-- raised anew within the frame -/
theorem xf_new (G : Gd (n + 1) c base outer env) (S : St c l N s) (hn : NewStop s.heap h' e) : Xf c env outer l N e { s with heap := h' } := by
  obtain ⟨hk, hne, ob, vs, a0, e1, e2, e3, e4, e5⟩ := hn
  obtain ⟨m, F, hm⟩ := S.fr
  have S0 : St c l ([] ++ N) s := S
  have K' := (S0.gk G).B
  have hgs : hideAll s.heap (([] : Ldg).map (·.1)) = s.heap := rfl
  have hfr : s.heap.FunFrames base (env :: outer) := K'.frames
  have hin : ∀ en ∈ (env :: outer), ∀ b, en.frame = some b → b ∈ (env :: outer).filterMap (·.frame) := fun en he b hb => List.mem_filterMap.mpr ⟨en, he, hb⟩
  obtain ⟨A₀, B₀⟩ := G.B
  refine ⟨⟨m, F.ns.keeps hk, hm⟩, S.ln, F.above, S.nd, .of_keeps fun b o q => hk _ _ (F.keep b o q), S.gs, S.dr, S.os, hideAll s.heap ((env :: outer).filterMap (·.frame)), a0, fun b o q nm => ?_, fun q hq => ?_, .inl ⟨fun b o q => hk _ _ (of_hideAll _ q), ?_, ?_, ob, vs, e1, e2, e3, e4, e5⟩⟩
  · refine hideAll_get _ (F.keep b o q) fun hm => ?_
    obtain ⟨en, he, hf⟩ := List.mem_filterMap.mp hm
    rcases List.mem_cons.mp he with rfl | he
    · rw [G.hf] at hf
      cases hf
      rw [S.frameNone] at q; cases q
    · exact nm (List.mem_filterMap.mpr ⟨en, he, hf⟩)
  · refine ⟨hideAll_get _ (S.nw q hq).1 fun hm => ?_, (S.nw q hq).2.2⟩
    obtain ⟨en, he, hf⟩ := List.mem_filterMap.mp hm
    rcases List.mem_cons.mp he with rfl | he
    · rw [G.hf] at hf
      exact (S.nw q hq).2.1 (Option.some.inj hf).symm
    · obtain ⟨_, o, ho, _⟩ := B₀.frames.mem (List.mem_filterMap.mpr ⟨en, he, hf⟩)
      rw [(S.nw q hq).2.2] at ho; cases ho
  · cases q : (hideAll s.heap ((env :: outer).filterMap (·.frame))).get? e with
    | none => rfl
    | some o => rw [of_hideAll _ q] at hne; cases hne
  · exact (funFrames_hide hfr hin).of_keeps fun b o hb _ => ⟨o, hk b o hb, rfl⟩
/-- come out of a call -/
theorem xf_call (G : Gd (n + 1) c base outer env) (S : St c l (core ++ rest) s) {N' : Ldg} (R : Rz (c.k (hideAll s.heap (core.map (·.1)))) (env :: outer) N' e s') : Xf c env outer l (N' ++ rest) e s' := by
  obtain ⟨m, F, hm⟩ := S.fr
  obtain ⟨B, a0, h1, h2, h3⟩ := R.st
  obtain ⟨A₀, B₀⟩ := G.B
  have nd := S.nd
  rw [List.map_append, List.nodup_append] at nd
  obtain ⟨oL, es, ep, hL, hd, r⟩ := id F.ns
  have nL : c.L ∉ core.map (·.1) := fun q => by
    obtain ⟨p, hp, e⟩ := List.mem_map.mp q
    exact (S.nw p (List.mem_append_left _ hp)).2.1 e
  have hLg := hideAll_get (core.map (·.1)) hL nL
  have hr : ∀ p ∈ rest, (hideAll s.heap (core.map (·.1))).get? p.1 = some p.2 := fun p hp =>
    hideAll_get _ (S.nw p (List.mem_append_right _ hp)).1 fun q => nd.2.2 _ q _ (List.mem_map_of_mem hp) rfl
  have notf : ∀ p ∈ core ++ rest, p.1 ∉ (env :: outer).filterMap (·.frame) := fun p hp hm => by
    obtain ⟨en, he, hf⟩ := List.mem_filterMap.mp hm
    rcases List.mem_cons.mp he with rfl | he
    · rw [G.hf] at hf
      exact (S.nw p hp).2.1 (Option.some.inj hf).symm
    · obtain ⟨_, o, ho, _⟩ := B₀.frames.mem (List.mem_filterMap.mpr ⟨en, he, hf⟩)
      rw [(S.nw p hp).2.2] at ho; cases ho
  have ns : (hideAll s.heap (core.map (·.1))).Ns c.L m := ⟨oL, es, ep, hLg, hd, r⟩
  refine ⟨⟨m, R.up.ns ns, hm⟩, S.ln, F.above, ?_, (Heap.UpToSlots.of_keeps S.ground).trans R.up, R.gs, R.dr, R.os, B, a0, fun b o q nm => h1 b o (S.ground b o q) fun hm => ?_, fun q hq => ?_, .inr (.inl h3)⟩
  · rw [List.map_append, List.nodup_append]
    refine ⟨R.nd, nd.2.1, fun x hx y hy e => ?_⟩
    subst e
    obtain ⟨p, hp, rfl⟩ := List.mem_map.mp hx
    obtain ⟨q, hq, e⟩ := List.mem_map.mp hy
    have z1 := (h2 p hp).2
    have z2 := hr q hq
    rw [e] at z2
    rw [show (c.k (hideAll s.heap (core.map (·.1)))).g = hideAll s.heap (core.map (·.1)) from rfl, z2] at z1; cases z1
  · obtain ⟨en, he, hf⟩ := List.mem_filterMap.mp hm
    rcases List.mem_cons.mp he with rfl | he
    · rw [G.hf] at hf
      cases hf
      rw [S.frameNone] at q; cases q
    · exact nm (List.mem_filterMap.mpr ⟨en, he, hf⟩)
  · rcases List.mem_append.mp hq with hq | hq
    · refine ⟨(h2 q hq).1, ?_⟩
      cases z : c.g.get? q.1 with
      | none => rfl
      | some o => have := (h2 q hq).2; rw [show (c.k (hideAll s.heap (core.map (·.1)))).g = hideAll s.heap (core.map (·.1)) from rfl, S.ground _ _ z] at this; cases this
    · exact ⟨h1 _ _ (hr q hq) (notf q (List.mem_append_right _ hq)), (S.nw q (List.mem_append_right _ hq)).2.2⟩
theorem xf_note {Q : Unit → Shared → Prop} (G : Gd n c base outer env) (X : Xf c env outer l N e s) (h : ∀ s'', XfH c env outer l N e s'' → Q () s'') : wpAny (model PR c.w) c.A (noteFrame (.ref e) env) Q E s := by
  obtain ⟨B, a0, h1, h2, ⟨k1, k2, k3, oe, vs, q1, q2, q3, q4, q5⟩ | hf | hh⟩ := X.st
  · unfold noteFrame
    simp only [G.hf]
    refine wpAny_bind (wpAny_field q1 q3 q4 ?_)
    rw [if_neg (by decide)]
    refine wpAny_entryW G.hA k3 G.hf q1 k1 k2 q3 (Array.getElem?_eq_some_iff.mp q4).1 q5 fun h' hN => ?_
    obtain ⟨z1, z2, z3, z4⟩ := hN
    rw [q2] at z3
    exact h _ (X.move z4 ⟨B, a0, h1, h2, z1, k2, z2, z3⟩)
  · exact wpAny_looks_onW G.hA G.hf hf fun h' hH hu => h _ (X.move hu ⟨B, a0, h1, h2, hH⟩)
  · exact wpAny_noteFrame_againW G.hf hh.2.2.2 (h s ⟨X, B, a0, h1, h2, hh⟩)
theorem xf_noted {Er : Value → Shared → Prop} (G : Gd n c base outer env) (X : Xf c env outer l N e s) (h : ∀ s'', XfH c env outer l N e s'' → Er (.ref e) s'') : notedBy (model PR c.w) c.A env Er (.ref e) s := xf_note G X h
theorem flight_held {Q : Unit → Shared → Prop} {B : Heap} {es : List Env} {L : Addr} {a0 : Value} (R : Heap.HeldW B es e stopT a0 L s.heap) (h : ∀ h', Heap.HeldW B es e stopT a0 L h' → s.heap.UpToSlots h' → Q () { s with heap := h' }) :
    wpAny (model PR c.w) c.A (setFlight (.ref e) (some L)) Q E s := by
  obtain ⟨hkb, hen, hl, oe, vs, T, oT, ts, he, hcls, hd, h1, hnT, hTe, hT, hdT, h3⟩ := R
  have hsz3 : 3 < ts.size := (Array.getElem?_eq_some_iff.mp h3).1
  have other : ∀ b, b ≠ T → (s.heap.update T (Obj.mapFields (·.setIfInBounds 3 ((some L).elim Value.none fun f => rawInt f)))).get? b = s.heap.get? b := fun b hb => Heap.get?_update_other _ _ (Ne.symm hb)
  have noRecord : ∀ b o, s.heap.get? b = some o → (∀ vs, o.data ≠ .fields vs) → b ≠ T := fun b o hb hnf q => by
    rw [q, hT] at hb; injection hb with hb; subst hb; exact hnf ts hdT
  unfold setFlight
  refine wpAny_bind (wpAny_field he hd h1 ?_)
  rw [if_pos (show (Value.ref T != Value.none) = true from by simp)]
  refine wpAny_setField hT hdT hsz3 (h _ ⟨fun b o hbo => (other b fun q => by rw [q, hnT] at hbo; cases hbo).trans (hkb b o hbo), hen,
    hl.of_keeps fun b o hb hnf => ⟨o, (other b (noRecord b o hb hnf)).trans hb, rfl⟩, ?_⟩ fun b o hb hnf => ⟨o.slots, (other b (noRecord b o hb hnf)).trans hb⟩)
  exact ⟨oe, vs, T, _, _, (other e (Ne.symm hTe)).trans he, hcls, hd, h1, hnT, hTe, Heap.get?_update_self _ hT (Obj.isFreed_of_fields (Obj.data_mapFields hdT _)), Obj.data_mapFields hdT _, by simp [hsz3]⟩
theorem xf_back (G : Gd n c base outer env) (X : XfH c env outer l N e s) (h : ∀ s'', XfH c env outer l N e s'' → E (.ref e) s'') : cameBackBy (model PR c.w) c.A env E (.ref e) s := by
  obtain ⟨X, B, a0, h1, h2, hh⟩ := X
  obtain ⟨_, _, _, oe, vs, T, oT, ts, he, hcls, hd, hv1, _⟩ := id hh
  unfold cameBackBy
  refine wpAny_bind (wpAny_field he hd hv1 ?_)
  rw [if_neg (show ¬ ((Value.ref T == Value.none) = true) from by simp), G.hf]
  exact flight_held hh fun h' hH hu => h _ (X.move hu ⟨B, a0, h1, h2, hH⟩)
theorem xf_leave {A0 : Around} (G : Gd n c base outer env) (X : Xf c env outer l N e s) (h : ∀ s'', Rz ⟨c.w, A0, c.g, c.gs, c.d, c.os⟩ outer N e s'' → E (.ref e) s'') :
    wpAny (model PR c.w) c.A (leaving env (.ref e)) (fun _ s'' => E (.ref e) s'') E s := by
  unfold leaving
  refine wpAny_bind (xf_note G X fun s1 H => ?_)
  obtain ⟨X1, B, a0, h1, h2, hh⟩ := H
  refine wpAny_landsW hh fun h' hfl hu => h _ ⟨X1.nd, X1.up.trans hu, X1.gs, X1.dr, X1.os, B, a0, h1, h2, ?_⟩
  obtain ⟨k1, k2, ⟨_, _, k3⟩, k4⟩ := hfl
  exact ⟨k1, k2, k3, k4⟩
theorem Rz.sub {k : Kx} {envs : List Env} {N' : Ldg} (R : Rz k envs N e s) (hs : List.Sublist N' N) : Rz k envs N' e s :=
  ⟨R.nd.sublist (hs.map _), R.up, R.gs, R.dr, R.os, let ⟨B, a0, h1, h2, h3⟩ := R.st; ⟨B, a0, h1, fun q hq => h2 q (hs.subset hq), h3⟩⟩
end
/-- the error post of a contract that may stop: P says what the ledger then is -/
noncomputable def ExS (k : Kx) (envs : List Env) (P : Ldg → Prop) (e : Value) (s : Shared) : Prop := ∃ a N, e = .ref a ∧ Rz k envs N a s ∧ P N
end Mine
end
section
namespace Mine
noncomputable def octsF : Nat → Nat → List Nat → List Nat
  | 0, _, acc => acc
  | k + 1, f, acc => if f > 63 then octsF k (f / 64) ((64 + f / 64 % 64) :: acc) else acc
/-- the loop of _law_octets -/
noncomputable def octs (f : Nat) (acc : List Nat) : List Nat := octsF f f acc
noncomputable def addHead (m : Nat) : List Nat → List Nat
  | [] => []
  | x :: r => (x + m) :: r
noncomputable def octets (f m : Nat) : List Nat := addHead m (octs f [f % 64])
theorem octsF_small {f : Nat} {acc : List Nat} (h : f ≤ 63) : ∀ k, octsF k f acc = acc
  | 0 => rfl
  | _ + 1 => if_neg (Nat.not_lt_of_le h)
theorem octsF_more : ∀ (k j f : Nat) (acc : List Nat), f ≤ k → octsF (k + j) f acc = octsF k f acc
  | 0, j, f, acc, h => by
    rw [octsF_small (Nat.le_trans h (by decide)), octsF_small (Nat.le_trans h (by decide))]
  | k + 1, j, f, acc, h => by
    rw [show k + 1 + j = (k + j) + 1 by omega]
    show (if f > 63 then octsF (k + j) (f / 64) ((64 + f / 64 % 64) :: acc) else acc) = (if f > 63 then octsF k (f / 64) ((64 + f / 64 % 64) :: acc) else acc)
    by_cases hf : f > 63
    · rw [if_pos hf, if_pos hf, octsF_more k j _ _ (by omega)]
    · rw [if_neg hf, if_neg hf]
theorem octs_small {f : Nat} {acc : List Nat} (h : f ≤ 63) : octs f acc = acc := octsF_small h f
theorem octs_big {f : Nat} {acc : List Nat} (h : 63 < f) : octs f acc = octs (f / 64) ((64 + f / 64 % 64) :: acc) := by
  unfold octs
  obtain ⟨g, rfl⟩ : ∃ g, f = g + 1 := ⟨f - 1, by omega⟩
  show (if g + 1 > 63 then octsF g ((g + 1) / 64) ((64 + (g + 1) / 64 % 64) :: acc) else acc) = _
  rw [if_pos h]
  obtain ⟨j, hj⟩ : ∃ j, g = (g + 1) / 64 + j := ⟨g - (g + 1) / 64, by omega⟩
  generalize hq : (g + 1) / 64 = q at hj
  rw [hj]
  exact octsF_more q j q _ (Nat.le_refl _)
theorem octets_1 {f m : Nat} (h : f ≤ 63) : octets f m = [f + m] := by unfold octets; rw [octs_small h]; show [f % 64 + m] = _; rw [Nat.mod_eq_of_lt (by omega)]
theorem octets_2 {f m : Nat} (h0 : 63 < f) (h : f ≤ 4095) : octets f m = [64 + f / 64 + m, f % 64] := by
  unfold octets
  rw [octs_big h0, octs_small (by omega)]
  show [64 + f / 64 % 64 + m, f % 64] = _
  rw [Nat.mod_eq_of_lt (by omega : f / 64 < 64)]
theorem octets_3 {f m : Nat} (h0 : 4095 < f) (h : f ≤ 262143) : octets f m = [64 + f / 4096 + m, 64 + f / 64 % 64, f % 64] := by
  unfold octets
  rw [octs_big (by omega), octs_big (by omega), octs_small (by omega)]
  show [64 + f / 64 / 64 % 64 + m, 64 + f / 64 % 64, f % 64] = _
  rw [Nat.div_div_eq_div_mul, Nat.mod_eq_of_lt (by omega : f / (64 * 64) < 64)]
theorem octs_lt : ∀ (n f : Nat) (acc : List Nat), f < n → (∀ x ∈ acc, x < 128) → ∀ x ∈ octs f acc, x < 128
  | 0, _, _, h, _ => absurd h (Nat.not_lt_zero _)
  | n + 1, f, acc, h, ha => by
    by_cases hf : f > 63
    · rw [octs_big hf]
      refine octs_lt n _ _ (by omega) fun x hx => ?_
      rcases List.mem_cons.mp hx with rfl | hx
      · omega
      · exact ha x hx
    · rw [octs_small (by omega)]; exact ha
noncomputable def esc1 (S : List Nat) (c : Nat) : List Nat := if c ∈ S then [92, c] else [c]
noncomputable def esc (S : List Nat) (x : List Nat) : List Nat := (x.map (esc1 S)).flatten
noncomputable def wordT (x : List Nat) (q : Bool) (e : List Nat) : List Nat :=
  if q then [34] ++ esc [34, 92] x ++ [34] else (if x.head? = some 34 then [92] else []) ++ esc [32, 10, 9, 13, 92] x ++ e
theorem esc_len (S x : List Nat) : (esc S x).length ≤ 2 * x.length := by
  induction x with
  | nil => exact Nat.le_refl _
  | cons c r ih =>
    have : (esc1 S c).length ≤ 2 := by unfold esc1; split <;> simp
    unfold esc at ih ⊢
    rw [List.map_cons, List.flatten_cons, List.length_append, List.length_cons]
    omega
theorem esc_get {S x : List Nat} {i m : Nat} (h : x[i]? = some m) : (x.map (esc1 S)).getD i [] = esc1 S m := by
  rw [List.getD_eq_getElem?_getD, List.getElem?_map, h]; rfl
theorem esc1_in {S : List Nat} {m : Nat} (h : m ∈ S) : esc1 S m = [92, m] := if_pos h
theorem esc1_out {S : List Nat} {m : Nat} (h : m ∉ S) : esc1 S m = [m] := if_neg h
theorem flat_one : ∀ zs : List Nat, (zs.map fun z => [z]).flatten = zs
  | [] => rfl
  | z :: r => by rw [List.map_cons, List.flatten_cons, flat_one r]; rfl
end Mine
end
section
namespace Mine
structure Node where
  depth : Nat
  name : List Nat
  fig : Nat
  count : Nat
  q : Bool
  e : Nat
noncomputable def signs : List Nat := [97, 34, 92, 32, 10, 35, 9, 13]
noncomputable def ends : List Nat := [9, 13, 32, 10]
noncomputable def nameAt (n : Int) (j : Nat) : Nat := signs.getD (((n.fdiv 18).fdiv (8 ^ j)).fmod 8).toNat 0
noncomputable def nameLen (n : Int) : Nat := ((n.fdiv 6).fmod 3).toNat + 1
noncomputable def nameOf (n : Int) : List Nat := (List.range (nameLen n)).map (nameAt n)
noncomputable def mkNode (n : Int) (d : Nat) : Node := ⟨d, nameOf n, (n.fmod 5000).toNat, 0, (n.fdiv 3).fmod 2 == 1, ends.getD (n.fmod 4).toNat 0⟩
noncomputable def cutPath (n : Int) (path : List Nat) : List Nat := path.take (max 1 ((path.length : Int) - n.fmod 3)).toNat
noncomputable def bump (j : Nat) (nodes : List Node) : List Node := nodes.modify j fun nd => { nd with count := nd.count + 1 }
noncomputable def grow1 (nodes : List Node) (path : List Nat) : List Node := match path.getLast? with | none => nodes | some j => bump j nodes
/-- what _law_nodes builds of the numbers from the k-th on -/
noncomputable def build : List Int → Nat → List Node → List Nat → List Node
  | [], _, nodes, _ => nodes
  | n :: ns, k, nodes, path => build ns (k + 1) (grow1 nodes (cutPath n path) ++ [mkNode n (cutPath n path).length]) (cutPath n path ++ [k])
noncomputable def nodesOf (ns : List Int) : List Node := build ns 0 [] []
theorem fmod_lt (n : Int) (m : Nat) (h : 0 < m) : 0 ≤ n.fmod m ∧ n.fmod m < m :=
  ⟨Int.fmod_nonneg_of_pos _ (by omega), Int.fmod_lt_of_pos _ (by omega)⟩
theorem nameLen_le (n : Int) : nameLen n ≤ 3 := by
  have h := fmod_lt (n.fdiv 6) 3 (by decide); unfold nameLen; rw [show ((3 : Nat) : Int) = 3 from rfl] at h; omega
end Mine
end
section
namespace Mine
structure Row where
  depth : Nat
  name : List Nat
  fig : Nat
  count : Nat
  line : Nat
  place : Nat
noncomputable def NodeOk (nd : Node) : Prop := nd.name ≠ [] ∧ nd.name.length ≤ 3 ∧ nd.fig < 5000 ∧ nd.count ≤ 63
noncomputable def pads : List (List Nat) := [[], [9], [13, 10]]
noncomputable def padT (k : Nat) : List Nat := pads.getD (k % 3) []
noncomputable def headT (k : Nat) (nd : Node) : List Nat := padT k ++ wordT nd.name nd.q [nd.e]
noncomputable def figT (nd : Node) : List Nat := octets nd.fig (if nd.q then 128 else 0)
noncomputable def bodyT (nd : Node) : List Nat := if nd.name.length = 3 then wordT (figT nd) (!nd.q) [nd.e] else figT nd
noncomputable def tailT (nd : Node) : List Nat := octets nd.count 0
noncomputable def nodeT (k : Nat) (nd : Node) : List Nat := headT k nd ++ bodyT nd ++ tailT nd
noncomputable def heardT (k : Nat) (nd : Node) : List Nat := headT k nd ++ (if nd.name.length = 1 then List.replicate (bodyT nd).length 46 else bodyT nd) ++ [46]
noncomputable def rowOf (nd : Node) (text heard : List Nat) : Row := ⟨nd.depth, nd.name, nd.fig, nd.count, 1 + heard.count 10, text.length⟩
noncomputable def wr : List Node → Nat → List Nat → List Nat → List Row → List Nat × List Nat × List Row
  | [], _, t, h, d => (t, h, d)
  | nd :: r, k, t, h, d => wr r (k + 1) (t ++ nodeT k nd) (h ++ heardT k nd) (d ++ [rowOf nd (t ++ nodeT k nd) (h ++ heardT k nd)])
theorem octets_len {f m : Nat} (h : f < 5000) : 1 ≤ (octets f m).length ∧ (octets f m).length ≤ 3 := by
  by_cases h1 : f ≤ 63
  · rw [octets_1 h1]; simp
  · by_cases h2 : f ≤ 4095
    · rw [octets_2 (by omega) h2]; simp
    · rw [octets_3 (by omega) (by omega)]; simp
theorem wordT_len (x : List Nat) (q : Bool) (e : Nat) : (wordT x q [e]).length ≤ 2 * x.length + 2 := by
  unfold wordT
  cases q with
  | true =>
    have := esc_len [34, 92] x
    simp; omega
  | false =>
    have := esc_len [32, 10, 9, 13, 92] x
    simp only [Bool.false_eq_true, if_false, List.length_append, List.length_cons, List.length_nil]
    split <;> simp <;> omega
theorem padT_len (k : Nat) : (padT k).length ≤ 2 := by
  unfold padT
  have : k % 3 = 0 ∨ k % 3 = 1 ∨ k % 3 = 2 := by omega
  rcases this with h | h | h <;> rw [h] <;> decide
theorem headT_len {k : Nat} {nd : Node} (h : NodeOk nd) : (headT k nd).length ≤ 10 := by
  have h1 := padT_len k
  have h2 := wordT_len nd.name nd.q nd.e
  have := h.2.1
  unfold headT; rw [List.length_append]; omega
theorem figT_len {nd : Node} (h : NodeOk nd) : 1 ≤ (figT nd).length ∧ (figT nd).length ≤ 3 := octets_len h.2.2.1
theorem bodyT_len {nd : Node} (h : NodeOk nd) : (bodyT nd).length ≤ 8 := by
  have h1 := figT_len h
  have h2 := wordT_len (figT nd) (!nd.q) nd.e
  unfold bodyT; split <;> omega
theorem tailT_len {nd : Node} (h : NodeOk nd) : (tailT nd).length ≤ 3 := (octets_len (by have := h.2.2.2; omega)).2
theorem nodeT_len {k : Nat} {nd : Node} (h : NodeOk nd) : (nodeT k nd).length ≤ 21 := by
  have h1 := headT_len (k := k) h
  have h2 := bodyT_len h
  have h3 := tailT_len h
  unfold nodeT; rw [List.length_append, List.length_append]; omega
theorem heardT_len {k : Nat} {nd : Node} (h : NodeOk nd) : (heardT k nd).length ≤ 19 := by
  have h1 := headT_len (k := k) h
  have h2 := bodyT_len h
  unfold heardT; rw [List.length_append, List.length_append]; split <;> simp <;> omega
theorem wr_step {nodes : List Node} {i : Nat} {nd : Node} {t h : List Nat} {d : List Row} (e : nodes[i]? = some nd) :
    wr (nodes.drop i) i t h d = wr (nodes.drop (i + 1)) (i + 1) (t ++ nodeT i nd) (h ++ heardT i nd) (d ++ [rowOf nd (t ++ nodeT i nd) (h ++ heardT i nd)]) := by
  obtain ⟨hlt, e⟩ := List.getElem?_eq_some_iff.mp e
  rw [List.drop_eq_getElem_cons hlt, e]; rfl
end Mine
end
section
namespace Mine
noncomputable def wsL : List Nat := [10, 9, 13, 32]
/-- the word behind a quote: its signs so far, the signs left -/
noncomputable def tokQ : List Nat → List Nat → List Nat × List Nat
  | acc, [] => (acc, [])
  | acc, c :: r => if c = 34 then (acc, r) else if c = 92 then (match r with | [] => (acc, []) | d :: r' => tokQ (acc ++ [d]) r') else tokQ (acc ++ [c]) r
noncomputable def tokP : List Nat → List Nat → List Nat × List Nat
  | acc, [] => (acc, [])
  | acc, c :: r => if c ∈ wsL then (acc, r) else if c = 92 then (match r with | [] => (acc, []) | d :: r' => tokP (acc ++ [d]) r') else tokP (acc ++ [c]) r
noncomputable def getTok : List Nat → List Nat × List Nat
  | [] => ([], [])
  | c :: r => if c ∈ wsL then getTok r else if c = 34 then tokQ [] r else if c = 92 then (match r with | [] => ([], []) | d :: r' => tokP [d] r') else tokP [c] r
theorem tokQ_cons (acc : List Nat) (c : Nat) (r : List Nat) : tokQ acc (c :: r) = if c = 34 then (acc, r) else if c = 92 then (match r with | [] => (acc, []) | d :: r' => tokQ (acc ++ [d]) r') else tokQ (acc ++ [c]) r := by rw [tokQ.eq_def]
theorem tokP_cons (acc : List Nat) (c : Nat) (r : List Nat) : tokP acc (c :: r) = if c ∈ wsL then (acc, r) else if c = 92 then (match r with | [] => (acc, []) | d :: r' => tokP (acc ++ [d]) r') else tokP (acc ++ [c]) r := by rw [tokP.eq_def]
theorem getTok_cons (c : Nat) (r : List Nat) : getTok (c :: r) = if c ∈ wsL then getTok r else if c = 34 then tokQ [] r else if c = 92 then (match r with | [] => ([], []) | d :: r' => tokP [d] r') else tokP [c] r := by rw [getTok.eq_def]
theorem tokQ_nil (acc : List Nat) : tokQ acc [] = (acc, []) := rfl
theorem tokP_nil (acc : List Nat) : tokP acc [] = (acc, []) := rfl
theorem cnt1 (a c : Nat) (r : List Nat) : a + [c].count 10 + r.count 10 = a + (c :: r).count 10 := by simp only [List.count_cons, List.count_nil]; omega
theorem tokQ_len : ∀ (n : Nat) (acc r : List Nat), r.length ≤ n → (tokQ acc r).1.length ≤ acc.length + r.length
  | _, acc, [], _ => Nat.le_refl _
  | 0, acc, c :: r, h => by simp at h
  | n + 1, acc, c :: r, h => by
    rw [tokQ_cons]
    simp only [List.length_cons] at h ⊢
    split
    · exact Nat.le_add_right ..
    · split
      · cases r with
        | nil => simp
        | cons d r' =>
          have := tokQ_len n (acc ++ [d]) r' (by simp at h; omega)
          simp at this ⊢; omega
      · have := tokQ_len n (acc ++ [c]) r (by omega)
        simp at this ⊢; omega
theorem tokP_len : ∀ (n : Nat) (acc r : List Nat), r.length ≤ n → (tokP acc r).1.length ≤ acc.length + r.length
  | _, acc, [], _ => Nat.le_refl _
  | 0, acc, c :: r, h => by simp at h
  | n + 1, acc, c :: r, h => by
    rw [tokP_cons]
    simp only [List.length_cons] at h ⊢
    split
    · exact Nat.le_add_right ..
    · split
      · cases r with
        | nil => simp
        | cons d r' =>
          have := tokP_len n (acc ++ [d]) r' (by simp at h; omega)
          simp at this ⊢; omega
      · have := tokP_len n (acc ++ [c]) r (by omega)
        simp at this ⊢; omega
theorem getTok_len : ∀ r : List Nat, (getTok r).1.length ≤ r.length
  | [] => Nat.le_refl _
  | c :: r => by
    rw [getTok_cons]
    split
    · have := getTok_len r
      simp; omega
    · split
      · have := tokQ_len r.length [] r (Nat.le_refl _)
        simp at this ⊢; omega
      · split
        · cases r with
          | nil => simp
          | cons d r' =>
            have := tokP_len r'.length [d] r' (Nat.le_refl _)
            simp at this ⊢; omega
        · have := tokP_len r.length [c] r (Nat.le_refl _)
          simp at this ⊢; omega
end Mine
end
section
namespace Mine
noncomputable def vgo (val b : Nat) : List Nat → Option (Nat × List Nat)
  | [] => if b / 64 % 2 = 1 then none else some (val, [])
  | b' :: ys => if b / 64 % 2 = 1 then vgo (val * 64 + b' % 64) b' ys else some (val, b' :: ys)
/-- _parse_varint's figure, and the octets left -/
noncomputable def vint : List Nat → Option (Nat × List Nat)
  | [] => none
  | b :: ys => vgo (b % 64) b ys
/-- at most fu octets are read -/
noncomputable def Sh : Nat → Nat → List Nat → Prop
  | 0, _, _ => False
  | _ + 1, b, [] => b < 256
  | fu + 1, b, b' :: ys => b < 256 ∧ (b / 64 % 2 = 0 ∨ Sh fu b' ys)
noncomputable def ShL : List Nat → Prop
  | [] => True
  | b :: ys => Sh 7 b ys
theorem Sh.lt : ∀ {fu b : Nat} {ys : List Nat}, Sh fu b ys → b < 256
  | _ + 1, _, [], h => h
  | _ + 1, _, _ :: _, h => h.1
theorem vgo_end {val b : Nat} {ys : List Nat} (h : b / 64 % 2 ≠ 1) : vgo val b ys = some (val, ys) := by
  cases ys <;> simp [vgo, h]
theorem and64 : ∀ b, b < 256 → ((((b &&& 64 : Nat) : Int) != 0) = decide (b / 64 % 2 = 1)) := by decide +kernel
theorem or64 (v x : Nat) (h : x < 64) : v * 64 ||| x = v * 64 + x := by
  have := Nat.two_pow_add_eq_or_of_lt (i := 6) (b := x) h v
  rw [show 2 ^ 6 * v = v * 64 by omega] at this
  exact this.symm
end Mine
end
section
namespace Mine
/-- reading: what is left, the line, the rows, and whether StopIteration came -/
structure Res where
  stopped : Bool
  r : List Nat
  line : Nat
  rows : List Row
noncomputable def lineOn (line : Nat) (r r' : List Nat) : Nat := line + r.count 10 - r'.count 10
/-- a figure behind a name -/
noncomputable def figRd (name r : List Nat) (line : Nat) : Except (List Nat × Nat) (Nat × List Nat × Nat) :=
  if name.length = 1 then (match vint r with | some (f, r') => .ok (f, r', line) | none => .error ([], line))
  else if name.length = 2 then (match vint r with | some (f, r') => .ok (f, r', lineOn line r r') | none => .error ([], line + r.count 10))
  else (match vint (getTok r).1 with | some (f, _) => .ok (f, (getTok r).2, lineOn line r (getTok r).2) | none => .error ((getTok r).2, lineOn line r (getTok r).2))
noncomputable def cntRd (r : List Nat) (line : Nat) : Except (List Nat × Nat) (Nat × List Nat) :=
  match vint r with | some (f, r') => .ok (f, r') | none => .error ([], line)
noncomputable def nodeRd (len depth line : Nat) (r : List Nat) : Except (List Nat × Nat) (Row × List Nat × Nat) :=
  match figRd (getTok r).1 (getTok r).2 (lineOn line r (getTok r).2) with
  | .error e => .error e
  | .ok (fig, r2, l2) => (match cntRd r2 l2 with
    | .error e => .error e
    | .ok (cnt, r3) => .ok (⟨depth, (getTok r).1, fig, cnt, l2, len - r3.length⟩, r3, l2))
noncomputable def FigSafe (name r : List Nat) : Prop := if name.length = 1 ∨ name.length = 2 then ShL r else ShL (getTok r).1
noncomputable def NodeSafe (line : Nat) (r : List Nat) : Prop :=
  FigSafe (getTok r).1 (getTok r).2 ∧ (match figRd (getTok r).1 (getTok r).2 (lineOn line r (getTok r).2) with | .error _ => True | .ok (_, r2, l2) => ShL r2 ∧ (match cntRd r2 l2 with | .error _ => True | .ok (cnt, _) => cnt ≤ 63))
noncomputable def Many (P : Nat → List Nat → List Row → Res → Prop) : Nat → Nat → List Nat → List Row → Res → Prop
  | 0, line, r, rows, res => res = ⟨false, r, line, rows⟩
  | n + 1, line, r, rows, res => ∃ q, P line r rows q ∧ (match q.stopped with | true => res = q | false => Many P n q.line q.r q.rows res)
/-- a subtree is read so, within the depth d -/
noncomputable def RdP (len : Nat) : Nat → Nat → Nat → List Nat → List Row → Res → Prop
  | 0, _, _, _, _, _ => False
  | d + 1, depth, line, r, rows, res => NodeSafe line r ∧ (match nodeRd len depth line r with
    | .error (r', l') => res = ⟨true, r', l', rows⟩
    | .ok (row, r1, l1) => Many (RdP len d (depth + 1)) row.count l1 r1 (rows ++ [row]) res)
theorem many_mono {P : Nat → List Nat → List Row → Res → Prop} (hP : ∀ l r rows q, P l r rows q → rows.length ≤ q.rows.length) : ∀ {n line : Nat} {r : List Nat} {rows : List Row} {res : Res}, Many P n line r rows res → rows.length ≤ res.rows.length
  | 0, _, _, _, _, h => by rw [show _ = _ from h]; exact Nat.le_refl _
  | n + 1, _, _, _, _, ⟨q, h1, h2⟩ => by
    have := hP _ _ _ _ h1
    cases hs : q.stopped with
    | true => rw [hs] at h2; rw [show _ = q from h2]; exact this
    | false => rw [hs] at h2; exact Nat.le_trans this (many_mono hP h2)
theorem rdP_mono {len : Nat} : ∀ {d depth line : Nat} {r : List Nat} {rows : List Row} {res : Res}, RdP len d depth line r rows res → rows.length ≤ res.rows.length
  | 0, _, _, _, _, _, h => h.elim
  | d + 1, depth, line, r, rows, res, h => by
    obtain ⟨_, h⟩ := h
    cases hn : nodeRd len depth line r with
    | error e => rw [hn] at h; rw [show res = _ from h]; exact Nat.le_refl _
    | ok q =>
      rw [hn] at h
      have := many_mono (fun _ _ _ _ h => rdP_mono h) h
      rw [List.length_append] at this
      omega
end Mine
end
section
namespace Mine
theorem esc_cons (S : List Nat) (c : Nat) (x : List Nat) : esc S (c :: x) = esc1 S c ++ esc S x := by unfold esc; rw [List.map_cons, List.flatten_cons]
theorem esc_nil (S : List Nat) : esc S [] = [] := rfl
theorem tokQ_esc : ∀ (x acc X : List Nat), tokQ acc (esc [34, 92] x ++ (34 :: X)) = (acc ++ x, X)
  | [], acc, X => by rw [esc_nil, List.nil_append, tokQ_cons, if_pos rfl, List.append_nil]
  | c :: x, acc, X => by
    rw [esc_cons]
    by_cases h : c ∈ [34, 92]
    · rw [esc1_in h]
      show tokQ acc (92 :: c :: (esc [34, 92] x ++ (34 :: X))) = _
      rw [tokQ_cons, if_neg (by decide), if_pos rfl]
      show tokQ (acc ++ [c]) (esc [34, 92] x ++ (34 :: X)) = _
      rw [tokQ_esc x (acc ++ [c]) X, List.append_assoc]; rfl
    · rw [esc1_out h]
      show tokQ acc (c :: (esc [34, 92] x ++ (34 :: X))) = _
      simp only [List.mem_cons, List.not_mem_nil, or_false, not_or] at h
      rw [tokQ_cons, if_neg h.1, if_neg h.2, tokQ_esc x (acc ++ [c]) X, List.append_assoc]; rfl
theorem tokP_esc {e : Nat} (he : e ∈ wsL) : ∀ (x acc X : List Nat), tokP acc (esc [32, 10, 9, 13, 92] x ++ (e :: X)) = (acc ++ x, X)
  | [], acc, X => by rw [esc_nil, List.nil_append, tokP_cons, if_pos he, List.append_nil]
  | c :: x, acc, X => by
    rw [esc_cons]
    by_cases h : c ∈ [32, 10, 9, 13, 92]
    · rw [esc1_in h]
      show tokP acc (92 :: c :: (esc [32, 10, 9, 13, 92] x ++ (e :: X))) = _
      rw [tokP_cons, if_neg (by decide), if_pos rfl]
      show tokP (acc ++ [c]) (esc [32, 10, 9, 13, 92] x ++ (e :: X)) = _
      rw [tokP_esc he x (acc ++ [c]) X, List.append_assoc]; rfl
    · rw [esc1_out h]
      show tokP acc (c :: (esc [32, 10, 9, 13, 92] x ++ (e :: X))) = _
      simp only [List.mem_cons, List.not_mem_nil, or_false, not_or] at h
      have hw : c ∉ wsL := by simp [wsL]; omega
      rw [tokP_cons, if_neg hw, if_neg h.2.2.2.2, tokP_esc he x (acc ++ [c]) X, List.append_assoc]; rfl
theorem getTok_word {x X : List Nat} {q : Bool} {e : Nat} (hx : x ≠ []) (he : e ∈ wsL) : getTok (wordT x q [e] ++ X) = (x, X) := by
  cases q with
  | true =>
    show getTok (([34] ++ esc [34, 92] x ++ [34]) ++ X) = _
    rw [show ([34] ++ esc [34, 92] x ++ [34]) ++ X = 34 :: (esc [34, 92] x ++ (34 :: X)) by simp]
    rw [getTok_cons, if_neg (by decide), if_pos rfl, tokQ_esc, List.nil_append]
  | false =>
    obtain ⟨c, r, rfl⟩ : ∃ c r, x = c :: r := by cases x with | nil => exact absurd rfl hx | cons c r => exact ⟨c, r, rfl⟩
    show getTok (((if (c :: r).head? = some 34 then [92] else []) ++ esc [32, 10, 9, 13, 92] (c :: r) ++ [e]) ++ X) = _
    rw [esc_cons]
    by_cases h34 : c = 34
    · subst h34
      rw [if_pos (show (34 :: r).head? = some 34 from rfl), esc1_out (by decide)]
      rw [show ([92] ++ ([34] ++ esc [32, 10, 9, 13, 92] r) ++ [e]) ++ X = 92 :: 34 :: (esc [32, 10, 9, 13, 92] r ++ (e :: X)) by simp]
      rw [getTok_cons, if_neg (by decide), if_neg (by decide), if_pos rfl]
      show tokP [34] _ = _
      rw [tokP_esc he]; rfl
    · rw [if_neg (by simpa using h34)]
      by_cases h : c ∈ [32, 10, 9, 13, 92]
      · rw [esc1_in h]
        rw [show ([] ++ ([92, c] ++ esc [32, 10, 9, 13, 92] r) ++ [e]) ++ X = 92 :: c :: (esc [32, 10, 9, 13, 92] r ++ (e :: X)) by simp]
        rw [getTok_cons, if_neg (by decide), if_neg (by decide), if_pos rfl]
        show tokP [c] _ = _
        rw [tokP_esc he]; rfl
      · rw [esc1_out h]
        rw [show ([] ++ ([c] ++ esc [32, 10, 9, 13, 92] r) ++ [e]) ++ X = c :: (esc [32, 10, 9, 13, 92] r ++ (e :: X)) by simp]
        simp only [List.mem_cons, List.not_mem_nil, or_false, not_or] at h
        have hw : c ∉ wsL := by simp [wsL]; omega
        rw [getTok_cons, if_neg hw, if_neg h34, if_neg h.2.2.2.2, tokP_esc he]; rfl
theorem getTok_ws {w : List Nat} (h : ∀ c ∈ w, c ∈ wsL) (X : List Nat) : getTok (w ++ X) = getTok X := by
  induction w with
  | nil => rfl
  | cons c r ih =>
    rw [List.cons_append, getTok_cons, if_pos (h c (.head _))]
    exact ih fun d hd => h d (.tail _ hd)
theorem padT_ws (k : Nat) : ∀ c ∈ padT k, c ∈ wsL := by
  unfold padT
  have : k % 3 = 0 ∨ k % 3 = 1 ∨ k % 3 = 2 := by omega
  rcases this with h | h | h <;> rw [h] <;> decide
theorem getTok_head {k : Nat} {nd : Node} {X : List Nat} (hn : nd.name ≠ []) (he : nd.e ∈ wsL) : getTok (headT k nd ++ X) = (nd.name, X) := by
  unfold headT
  rw [List.append_assoc, getTok_ws (padT_ws k), getTok_word hn he]
end Mine
end
section
namespace Mine
theorem oc_facts : ∀ (a : Fin 64) (b : Fin 2), (a.1 + 128 * b.1) / 64 % 2 = 0 ∧ (a.1 + 128 * b.1) % 64 = a.1 ∧ a.1 + 128 * b.1 < 256 ∧ (64 + a.1 + 128 * b.1) / 64 % 2 = 1 ∧ (64 + a.1 + 128 * b.1) % 64 = a.1 ∧ 64 + a.1 + 128 * b.1 < 256 := by decide +kernel
structure Oc (a m : Nat) : Prop where
  e0 : (a + m) / 64 % 2 = 0
  v0 : (a + m) % 64 = a
  l0 : a + m < 256
  e1 : (64 + a + m) / 64 % 2 = 1
  v1 : (64 + a + m) % 64 = a
  l1 : 64 + a + m < 256
theorem oc {a m : Nat} (ha : a < 64) (hm : m = 0 ∨ m = 128) : Oc a m := by
  rcases hm with rfl | rfl
  · obtain ⟨h1, h2, h3, h4, h5, h6⟩ := oc_facts ⟨a, ha⟩ 0
    exact ⟨h1, h2, h3, h4, h5, h6⟩
  · obtain ⟨h1, h2, h3, h4, h5, h6⟩ := oc_facts ⟨a, ha⟩ 1
    exact ⟨h1, h2, h3, h4, h5, h6⟩
theorem vgo_on {val b b' : Nat} {ys : List Nat} (h : b / 64 % 2 = 1) : vgo val b (b' :: ys) = vgo (val * 64 + b' % 64) b' ys := if_pos h
theorem vgo_stop {val b : Nat} {ys : List Nat} (h : b / 64 % 2 = 0) : vgo val b ys = some (val, ys) := vgo_end (by rw [h]; decide)
theorem sh_end {fu b : Nat} {ys : List Nat} (h : b / 64 % 2 = 0) (hl : b < 256) : Sh (fu + 1) b ys := by
  cases ys with
  | nil => exact hl
  | cons => exact ⟨hl, .inl h⟩
theorem sh_on {fu b b' : Nat} {ys : List Nat} (hl : b < 256) (h : Sh fu b' ys) : Sh (fu + 1) b (b' :: ys) := ⟨hl, .inr h⟩
theorem low (f : Nat) : f % 64 < 64 := Nat.mod_lt _ (by decide)
theorem hi2 {f : Nat} (h : f ≤ 4095) : f / 64 < 64 := by omega
theorem hi3 {f : Nat} (h : f < 5000) : f / 4096 < 64 := by omega
theorem back2 (f : Nat) : f / 64 * 64 + f % 64 = f := by omega
theorem back3 (f : Nat) : (f / 4096 * 64 + f / 64 % 64) * 64 + f % 64 = f := by omega
theorem vint_octets {f m : Nat} (X : List Nat) (hf : f < 5000) (hm : m = 0 ∨ m = 128) : vint (octets f m ++ X) = some (f, X) ∧ ShL (octets f m ++ X) := by
  have z := oc (low f) (.inl rfl)
  by_cases h1 : f ≤ 63
  · have o := oc (Nat.lt_succ_of_le h1) hm
    rw [octets_1 h1]
    show vgo ((f + m) % 64) (f + m) X = _ ∧ Sh 7 (f + m) X
    rw [vgo_stop o.e0, o.v0]
    exact ⟨rfl, sh_end o.e0 o.l0⟩
  · by_cases h2 : f ≤ 4095
    · have o := oc (hi2 h2) hm
      rw [octets_2 (Nat.lt_of_not_le h1) h2]
      show vgo ((64 + f / 64 + m) % 64) (64 + f / 64 + m) (f % 64 :: X) = _ ∧ Sh 7 (64 + f / 64 + m) (f % 64 :: X)
      rw [o.v1, vgo_on o.e1, vgo_stop (b := f % 64) z.e0, show f % 64 % 64 = f % 64 from z.v0, back2]
      exact ⟨rfl, sh_on o.l1 (sh_end z.e0 z.l0)⟩
    · have o := oc (hi3 hf) hm
      have y := oc (low (f / 64)) (.inl rfl)
      rw [octets_3 (Nat.lt_of_not_le h2) (Nat.le_trans (Nat.le_of_lt hf) (by decide))]
      show vgo ((64 + f / 4096 + m) % 64) (64 + f / 4096 + m) ((64 + f / 64 % 64) :: (f % 64) :: X) = _ ∧ Sh 7 (64 + f / 4096 + m) ((64 + f / 64 % 64) :: (f % 64) :: X)
      rw [o.v1, vgo_on o.e1, vgo_on (b := 64 + f / 64 % 64) y.e1, vgo_stop (b := f % 64) z.e0, show f % 64 % 64 = f % 64 from z.v0, show (64 + f / 64 % 64) % 64 = f / 64 % 64 from y.v1, back3]
      exact ⟨rfl, sh_on o.l1 (sh_on y.l1 (sh_end z.e0 z.l0))⟩
theorem vgo_none {val b : Nat} (h : b / 64 % 2 = 1) : vgo val b [] = none := if_pos h
theorem vint_cut {f m j : Nat} (hf : f < 5000) (hm : m = 0 ∨ m = 128) (hj : j < (octets f m).length) : vint ((octets f m).take j) = none ∧ ShL ((octets f m).take j) := by
  by_cases h1 : f ≤ 63
  · rw [octets_1 h1] at hj ⊢
    match j, hj with
    | 0, _ => exact ⟨rfl, trivial⟩
    | j + 1, hj => exact absurd (Nat.lt_of_succ_lt_succ hj) (Nat.not_lt_zero _)
  · by_cases h2 : f ≤ 4095
    · have o := oc (hi2 h2) hm
      rw [octets_2 (Nat.lt_of_not_le h1) h2] at hj ⊢
      match j, hj with
      | 0, _ => exact ⟨rfl, trivial⟩
      | 1, _ => exact ⟨vgo_none o.e1, o.l1⟩
      | j + 2, hj => exact absurd (Nat.lt_of_succ_lt_succ (Nat.lt_of_succ_lt_succ hj)) (Nat.not_lt_zero _)
    · have o := oc (hi3 hf) hm
      have y := oc (low (f / 64)) (.inl rfl)
      rw [octets_3 (Nat.lt_of_not_le h2) (Nat.le_trans (Nat.le_of_lt hf) (by decide))] at hj ⊢
      match j, hj with
      | 0, _ => exact ⟨rfl, trivial⟩
      | 1, _ => exact ⟨vgo_none o.e1, o.l1⟩
      | 2, _ => exact ⟨(vgo_on o.e1).trans (vgo_none y.e1), sh_on o.l1 y.l1⟩
      | j + 3, hj => exact absurd (Nat.lt_of_succ_lt_succ (Nat.lt_of_succ_lt_succ (Nat.lt_of_succ_lt_succ hj))) (Nat.not_lt_zero _)
end Mine
end
section
namespace Mine
structure NodeGood (nd : Node) : Prop where
  ok : NodeOk nd
  e : nd.e ∈ wsL
theorem lineOn_app (line : Nat) (a b : List Nat) : lineOn line (a ++ b) b = line + a.count 10 := by
  unfold lineOn; rw [List.count_append]; omega
theorem figT_vint {nd : Node} (h : NodeGood nd) (X : List Nat) : vint (figT nd ++ X) = some (nd.fig, X) ∧ ShL (figT nd ++ X) :=
  vint_octets X h.ok.2.2.1 (by cases nd.q; exact .inl rfl; exact .inr rfl)
theorem figT_ne {nd : Node} (h : NodeGood nd) : figT nd ≠ [] := fun e => by have := (figT_len h.ok).1; rw [e] at this; simp at this
theorem name_cases {nd : Node} (h : NodeGood nd) : nd.name.length = 1 ∨ nd.name.length = 2 ∨ nd.name.length = 3 := by
  have h1 := h.ok.1
  have h2 := h.ok.2.1
  have : nd.name.length ≠ 0 := fun e => h1 (List.length_eq_zero_iff.mp e)
  omega
/-- what of a node's body the lexer hears -/
noncomputable def bodyH (nd : Node) : List Nat := if nd.name.length = 1 then List.replicate (bodyT nd).length 46 else bodyT nd
theorem heard_count (k : Nat) (nd : Node) : (heardT k nd).count 10 = (headT k nd).count 10 + (bodyH nd).count 10 := by
  unfold heardT bodyH
  rw [List.count_append, List.count_append]; rfl
theorem figRd_1 {name r : List Nat} {line : Nat} (h : name.length = 1) : figRd name r line = (match vint r with | some (f, r') => .ok (f, r', line) | none => .error ([], line)) := by unfold figRd; rw [if_pos h]; try (cases vint r <;> rfl)
theorem figRd_2 {name r : List Nat} {line : Nat} (h : name.length = 2) : figRd name r line = (match vint r with | some (f, r') => .ok (f, r', lineOn line r r') | none => .error ([], line + r.count 10)) := by unfold figRd; rw [if_neg (by omega), if_pos h]; try (cases vint r <;> rfl)
theorem figRd_3 {name r : List Nat} {line : Nat} (h1 : name.length ≠ 1) (h2 : name.length ≠ 2) : figRd name r line = (match vint (getTok r).1 with | some (f, _) => .ok (f, (getTok r).2, lineOn line r (getTok r).2) | none => .error ((getTok r).2, lineOn line r (getTok r).2)) := by unfold figRd; rw [if_neg h1, if_neg h2]; try (cases vint (getTok r).1 <;> rfl)
theorem figSafe_12 {name r : List Nat} (h : name.length = 1 ∨ name.length = 2) : FigSafe name r ↔ ShL r := by unfold FigSafe; rw [if_pos h]
theorem figSafe_3 {name r : List Nat} (h1 : name.length ≠ 1) (h2 : name.length ≠ 2) : FigSafe name r ↔ ShL (getTok r).1 := by unfold FigSafe; rw [if_neg (fun h => h.elim h1 h2)]
theorem bodyT_12 {nd : Node} (h : nd.name.length ≠ 3) : bodyT nd = figT nd := if_neg h
theorem bodyT_3 {nd : Node} (h : nd.name.length = 3) : bodyT nd = wordT (figT nd) (!nd.q) [nd.e] := if_pos h
theorem bodyH_1 {nd : Node} (h : nd.name.length = 1) : bodyH nd = List.replicate (bodyT nd).length 46 := if_pos h
theorem bodyH_23 {nd : Node} (h : nd.name.length ≠ 1) : bodyH nd = bodyT nd := if_neg h
theorem fig_whole {nd : Node} (h : NodeGood nd) (line : Nat) (Y : List Nat) : figRd nd.name (bodyT nd ++ Y) line = .ok (nd.fig, Y, line + (bodyH nd).count 10) ∧ FigSafe nd.name (bodyT nd ++ Y) := by
  rcases name_cases h with e | e | e
  · obtain ⟨h1, h2⟩ := figT_vint h Y
    rw [figRd_1 e, figSafe_12 (.inl e), bodyH_1 e, bodyT_12 (by omega), h1]
    refine ⟨?_, h2⟩
    rw [List.count_replicate]; rfl
  · obtain ⟨h1, h2⟩ := figT_vint h Y
    rw [figRd_2 e, figSafe_12 (.inr e), bodyH_23 (by omega), bodyT_12 (by omega), h1]
    refine ⟨?_, h2⟩
    show Except.ok (nd.fig, Y, lineOn line (figT nd ++ Y) Y) = _
    rw [lineOn_app]
  · obtain ⟨h1, h2⟩ := figT_vint h []
    rw [List.append_nil] at h1 h2
    rw [figRd_3 (by omega) (by omega), figSafe_3 (by omega) (by omega), bodyH_23 (by omega), bodyT_3 e, getTok_word (figT_ne h) h.e]
    dsimp only
    rw [h1]
    refine ⟨?_, h2⟩
    show Except.ok (nd.fig, Y, lineOn line (wordT (figT nd) (!nd.q) [nd.e] ++ Y) Y) = _
    rw [lineOn_app]
theorem tail_vint {nd : Node} (h : NodeGood nd) (X : List Nat) : vint (tailT nd ++ X) = some (nd.count, X) ∧ ShL (tailT nd ++ X) :=
  vint_octets X (by have := h.ok.2.2.2; omega) (.inl rfl)
/-- a node is read whole -/
theorem node_whole {nd : Node} (h : NodeGood nd) (len k line : Nat) (X : List Nat) :
    nodeRd len nd.depth line (nodeT k nd ++ X) = .ok (⟨nd.depth, nd.name, nd.fig, nd.count, line + (heardT k nd).count 10, len - X.length⟩, X, line + (heardT k nd).count 10) ∧ NodeSafe line (nodeT k nd ++ X) := by
  have e1 : nodeT k nd ++ X = headT k nd ++ (bodyT nd ++ (tailT nd ++ X)) := by unfold nodeT; simp
  have e2 : lineOn line (headT k nd ++ (bodyT nd ++ (tailT nd ++ X))) (bodyT nd ++ (tailT nd ++ X)) = line + (headT k nd).count 10 := lineOn_app ..
  obtain ⟨h1, h2⟩ := fig_whole h (line + (headT k nd).count 10) (tailT nd ++ X)
  obtain ⟨h3, h4⟩ := tail_vint h X
  rw [e1]
  unfold nodeRd NodeSafe
  rw [getTok_head h.ok.1 h.e]
  dsimp only
  rw [e2, h1]
  dsimp only
  unfold cntRd
  rw [h3]
  dsimp only
  rw [heard_count, Nat.add_assoc]
  exact ⟨rfl, h2, h4, h.ok.2.2.2⟩
end Mine
end
section
namespace Mine
theorem tokQ_cut : ∀ (x acc : List Nat) (j : Nat), j ≤ (esc [34, 92] x).length → ∃ i, i ≤ x.length ∧ tokQ acc ((esc [34, 92] x).take j) = (acc ++ x.take i, [])
  | [], acc, j, _ => ⟨0, Nat.le_refl _, by rw [esc_nil, List.take_nil, tokQ_nil, List.take_nil, List.append_nil]⟩
  | c :: x, acc, 0, _ => ⟨0, Nat.zero_le _, by rw [List.take_zero, tokQ_nil, List.take_zero, List.append_nil]⟩
  | c :: x, acc, j + 1, hj => by
    rw [esc_cons] at hj ⊢
    by_cases h : c ∈ [34, 92]
    · rw [esc1_in h] at hj ⊢
      cases j with
      | zero =>
        refine ⟨0, Nat.zero_le _, ?_⟩
        show tokQ acc [92] = _
        rw [tokQ_cons, if_neg (by decide), if_pos rfl, List.take_zero, List.append_nil]
      | succ j =>
        obtain ⟨i, hi, e⟩ := tokQ_cut x (acc ++ [c]) j (by simp at hj; omega)
        refine ⟨i + 1, by simp; omega, ?_⟩
        show tokQ acc (92 :: c :: (esc [34, 92] x).take j) = _
        rw [tokQ_cons, if_neg (by decide), if_pos rfl]
        show tokQ (acc ++ [c]) ((esc [34, 92] x).take j) = _
        rw [e, List.append_assoc]; rfl
    · rw [esc1_out h] at hj ⊢
      obtain ⟨i, hi, e⟩ := tokQ_cut x (acc ++ [c]) j (by simp at hj; omega)
      refine ⟨i + 1, by simp; omega, ?_⟩
      simp only [List.mem_cons, List.not_mem_nil, or_false, not_or] at h
      show tokQ acc (c :: (esc [34, 92] x).take j) = _
      rw [tokQ_cons, if_neg h.1, if_neg h.2, e, List.append_assoc]; rfl
theorem tokP_cut : ∀ (x acc : List Nat) (j : Nat), j ≤ (esc [32, 10, 9, 13, 92] x).length → ∃ i, i ≤ x.length ∧ tokP acc ((esc [32, 10, 9, 13, 92] x).take j) = (acc ++ x.take i, [])
  | [], acc, j, _ => ⟨0, Nat.le_refl _, by rw [esc_nil, List.take_nil, tokP_nil, List.take_nil, List.append_nil]⟩
  | c :: x, acc, 0, _ => ⟨0, Nat.zero_le _, by rw [List.take_zero, tokP_nil, List.take_zero, List.append_nil]⟩
  | c :: x, acc, j + 1, hj => by
    rw [esc_cons] at hj ⊢
    by_cases h : c ∈ [32, 10, 9, 13, 92]
    · rw [esc1_in h] at hj ⊢
      cases j with
      | zero =>
        refine ⟨0, Nat.zero_le _, ?_⟩
        show tokP acc [92] = _
        rw [tokP_cons, if_neg (by decide), if_pos rfl, List.take_zero, List.append_nil]
      | succ j =>
        obtain ⟨i, hi, e⟩ := tokP_cut x (acc ++ [c]) j (by simp at hj; omega)
        refine ⟨i + 1, by simp; omega, ?_⟩
        show tokP acc (92 :: c :: (esc [32, 10, 9, 13, 92] x).take j) = _
        rw [tokP_cons, if_neg (by decide), if_pos rfl]
        show tokP (acc ++ [c]) ((esc [32, 10, 9, 13, 92] x).take j) = _
        rw [e, List.append_assoc]; rfl
    · rw [esc1_out h] at hj ⊢
      obtain ⟨i, hi, e⟩ := tokP_cut x (acc ++ [c]) j (by simp at hj; omega)
      refine ⟨i + 1, by simp; omega, ?_⟩
      simp only [List.mem_cons, List.not_mem_nil, or_false, not_or] at h
      have hw : c ∉ wsL := by simp [wsL]; omega
      show tokP acc (c :: (esc [32, 10, 9, 13, 92] x).take j) = _
      rw [tokP_cons, if_neg hw, if_neg h.2.2.2.2, e, List.append_assoc]; rfl
end Mine
end
section
namespace Mine
theorem getTok_nil : getTok [] = ([], []) := rfl
theorem word_cut {x : List Nat} {q : Bool} {e j : Nat} (hx : x ≠ []) (hj : j < (wordT x q [e]).length) : ∃ i, i ≤ x.length ∧ getTok ((wordT x q [e]).take j) = (x.take i, []) := by
  cases q with
  | true =>
    have hw : wordT x true [e] = 34 :: (esc [34, 92] x ++ [34]) := by show [34] ++ esc [34, 92] x ++ [34] = _; simp
    rw [hw] at hj ⊢
    cases j with
    | zero => exact ⟨0, Nat.zero_le _, by rw [List.take_zero, getTok_nil, List.take_zero]⟩
    | succ j =>
      have hj' : j ≤ (esc [34, 92] x).length := by simp at hj; omega
      obtain ⟨i, hi, h⟩ := tokQ_cut x [] j hj'
      refine ⟨i, hi, ?_⟩
      show getTok (34 :: (esc [34, 92] x ++ [34]).take j) = _
      rw [getTok_cons, if_neg (by decide), if_pos rfl, List.take_append_of_le_length hj', h, List.nil_append]
  | false =>
    obtain ⟨c, r, rfl⟩ : ∃ c r, x = c :: r := by cases x with | nil => exact absurd rfl hx | cons c r => exact ⟨c, r, rfl⟩
    by_cases h34 : c = 34
    · subst h34
      have hw : wordT (34 :: r) false [e] = 92 :: 34 :: (esc [32, 10, 9, 13, 92] r ++ [e]) := by
        show (if (34 :: r).head? = some 34 then [92] else []) ++ esc [32, 10, 9, 13, 92] (34 :: r) ++ [e] = _
        rw [if_pos (show (34 :: r).head? = some 34 from rfl), esc_cons, esc1_out (by decide)]; simp
      rw [hw] at hj ⊢
      match j, hj with
      | 0, _ => exact ⟨0, Nat.zero_le _, by rw [List.take_zero, getTok_nil, List.take_zero]⟩
      | 1, _ => exact ⟨0, Nat.zero_le _, rfl⟩
      | j + 2, hj =>
        have hj' : j ≤ (esc [32, 10, 9, 13, 92] r).length := by simp at hj; omega
        obtain ⟨i, hi, h⟩ := tokP_cut r [34] j hj'
        refine ⟨i + 1, by simp; omega, ?_⟩
        show getTok (92 :: 34 :: (esc [32, 10, 9, 13, 92] r ++ [e]).take j) = _
        rw [getTok_cons, if_neg (by decide), if_neg (by decide), if_pos rfl]
        show tokP [34] ((esc [32, 10, 9, 13, 92] r ++ [e]).take j) = _
        rw [List.take_append_of_le_length hj', h]; rfl
    · by_cases hs : c ∈ [32, 10, 9, 13, 92]
      · have hw : wordT (c :: r) false [e] = 92 :: c :: (esc [32, 10, 9, 13, 92] r ++ [e]) := by
          show (if (c :: r).head? = some 34 then [92] else []) ++ esc [32, 10, 9, 13, 92] (c :: r) ++ [e] = _
          rw [if_neg (by simpa using h34), esc_cons, esc1_in hs]; simp
        rw [hw] at hj ⊢
        match j, hj with
        | 0, _ => exact ⟨0, Nat.zero_le _, by rw [List.take_zero, getTok_nil, List.take_zero]⟩
        | 1, _ => exact ⟨0, Nat.zero_le _, rfl⟩
        | j + 2, hj =>
          have hj' : j ≤ (esc [32, 10, 9, 13, 92] r).length := by simp at hj; omega
          obtain ⟨i, hi, h⟩ := tokP_cut r [c] j hj'
          refine ⟨i + 1, by simp; omega, ?_⟩
          show getTok (92 :: c :: (esc [32, 10, 9, 13, 92] r ++ [e]).take j) = _
          rw [getTok_cons, if_neg (by decide), if_neg (by decide), if_pos rfl]
          show tokP [c] ((esc [32, 10, 9, 13, 92] r ++ [e]).take j) = _
          rw [List.take_append_of_le_length hj', h]; rfl
      · have hw : wordT (c :: r) false [e] = c :: (esc [32, 10, 9, 13, 92] r ++ [e]) := by
          show (if (c :: r).head? = some 34 then [92] else []) ++ esc [32, 10, 9, 13, 92] (c :: r) ++ [e] = _
          rw [if_neg (by simpa using h34), esc_cons, esc1_out hs]; simp
        rw [hw] at hj ⊢
        match j, hj with
        | 0, _ => exact ⟨0, Nat.zero_le _, by rw [List.take_zero, getTok_nil, List.take_zero]⟩
        | j + 1, hj =>
          have hj' : j ≤ (esc [32, 10, 9, 13, 92] r).length := by simp at hj; omega
          obtain ⟨i, hi, h⟩ := tokP_cut r [c] j hj'
          refine ⟨i + 1, by simp; omega, ?_⟩
          simp only [List.mem_cons, List.not_mem_nil, or_false, not_or] at hs
          have hww : c ∉ wsL := by simp [wsL]; omega
          show getTok (c :: (esc [32, 10, 9, 13, 92] r ++ [e]).take j) = _
          rw [getTok_cons, if_neg hww, if_neg h34, if_neg hs.2.2.2.2, List.take_append_of_le_length hj', h]; rfl
theorem head_cut {k : Nat} {nd : Node} {j : Nat} (hn : nd.name ≠ []) (hj : j < (headT k nd).length) : ∃ y, getTok ((headT k nd).take j) = (y, []) := by
  unfold headT at hj ⊢
  by_cases h : j ≤ (padT k).length
  · rw [List.take_append_of_le_length h]
    have := getTok_ws (w := (padT k).take j) (fun c hc => padT_ws k c (List.mem_of_mem_take hc)) []
    rw [List.append_nil] at this
    exact ⟨[], this⟩
  · rw [List.take_append, List.take_of_length_le (by omega), getTok_ws (padT_ws k)]
    obtain ⟨i, _, e⟩ := word_cut (q := nd.q) (e := nd.e) hn (j := j - (padT k).length) (by rw [List.length_append] at hj; omega)
    exact ⟨_, e⟩
end Mine
end
section
namespace Mine
theorem fig_nil (name : List Nat) (line : Nat) : figRd name [] line = .error ([], line) ∧ FigSafe name [] := by
  by_cases h1 : name.length = 1
  · exact ⟨figRd_1 h1, (figSafe_12 (.inl h1)).mpr trivial⟩
  · by_cases h2 : name.length = 2
    · exact ⟨figRd_2 h2, (figSafe_12 (.inr h2)).mpr trivial⟩
    · refine ⟨(figRd_3 h1 h2).trans ?_, (figSafe_3 h1 h2).mpr trivial⟩
      show Except.error ([], lineOn line [] []) = _
      unfold lineOn; rfl
theorem lineOn_nil (line : Nat) (r : List Nat) : lineOn line r [] = line + r.count 10 := by unfold lineOn; rfl
theorem node_cut_head {k : Nat} {nd : Node} {len depth line m : Nat} (h : NodeGood nd) (hm : m < (headT k nd).length) :
    nodeRd len depth line ((headT k nd).take m) = .error ([], line + ((headT k nd).take m).count 10) ∧ NodeSafe line ((headT k nd).take m) := by
  obtain ⟨y, e⟩ := head_cut h.ok.1 hm
  unfold nodeRd NodeSafe
  rw [e]
  dsimp only
  rw [lineOn_nil]
  obtain ⟨h1, h2⟩ := fig_nil y (line + ((headT k nd).take m).count 10)
  rw [h1]
  exact ⟨rfl, h2, trivial⟩
end Mine
end
section
namespace Mine
theorem figT_cut {nd : Node} {j : Nat} (h : NodeGood nd) (hj : j < (figT nd).length) : vint ((figT nd).take j) = none ∧ ShL ((figT nd).take j) :=
  vint_cut h.ok.2.2.1 (by cases nd.q; exact .inl rfl; exact .inr rfl) hj
theorem node_cut_body {k : Nat} {nd : Node} {len depth line j : Nat} (h : NodeGood nd) (hj : j < (bodyT nd).length) :
    nodeRd len depth line (headT k nd ++ (bodyT nd).take j) = .error ([], line + (headT k nd).count 10 + ((bodyH nd).take j).count 10) ∧ NodeSafe line (headT k nd ++ (bodyT nd).take j) := by
  unfold nodeRd NodeSafe
  rw [getTok_head h.ok.1 h.e]
  dsimp only
  rw [lineOn_app]
  generalize line + (headT k nd).count 10 = l1
  rcases name_cases h with e | e | e
  · rw [bodyT_12 (by omega)] at hj ⊢
    obtain ⟨h1, h2⟩ := figT_cut h hj
    rw [figRd_1 e, h1, figSafe_12 (.inl e), bodyH_1 e]
    dsimp only
    refine ⟨?_, h2, trivial⟩
    rw [List.take_replicate, List.count_replicate]; rfl
  · rw [bodyT_12 (by omega)] at hj ⊢
    obtain ⟨h1, h2⟩ := figT_cut h hj
    rw [figRd_2 e, h1, figSafe_12 (.inr e), bodyH_23 (by omega), bodyT_12 (by omega)]
    exact ⟨rfl, h2, trivial⟩
  · rw [bodyH_23 (by omega)]
    rw [bodyT_3 e] at hj ⊢
    obtain ⟨i, hi, hw⟩ := word_cut (figT_ne h) hj
    rw [figRd_3 (by omega) (by omega), figSafe_3 (by omega) (by omega), hw]
    dsimp only
    rw [lineOn_nil]
    by_cases hlt : i < (figT nd).length
    · obtain ⟨h1, h2⟩ := figT_cut h hlt
      rw [h1]
      exact ⟨rfl, h2, trivial⟩
    · rw [List.take_of_length_le (by omega)]
      obtain ⟨h1, h2⟩ := figT_vint h []
      rw [List.append_nil] at h1 h2
      rw [h1]
      exact ⟨rfl, h2, trivial, trivial⟩
end Mine
end
section
namespace Mine
theorem bodyH_len (nd : Node) : (bodyH nd).length = (bodyT nd).length := by unfold bodyH; split <;> simp
theorem tailT_one {nd : Node} (h : NodeGood nd) : (tailT nd).length = 1 := by unfold tailT; rw [octets_1 h.ok.2.2.2]; rfl
theorem heardT_eq (k : Nat) (nd : Node) : heardT k nd = headT k nd ++ (bodyH nd ++ [46]) := by unfold heardT bodyH; rw [List.append_assoc]
theorem nodeT_eq (k : Nat) (nd : Node) : nodeT k nd = headT k nd ++ (bodyT nd ++ tailT nd) := by unfold nodeT; rw [List.append_assoc]
/-- a node that is cut off -/
theorem node_cut {k : Nat} {nd : Node} {len depth line m : Nat} (h : NodeGood nd) (hm : m < (nodeT k nd).length) :
    nodeRd len depth line ((nodeT k nd).take m) = .error ([], line + ((heardT k nd).take m).count 10) ∧ NodeSafe line ((nodeT k nd).take m) := by
  have ht := tailT_one h
  have hb := bodyH_len nd
  rw [nodeT_eq, List.length_append, List.length_append] at hm
  rw [nodeT_eq, heardT_eq]
  by_cases h1 : m < (headT k nd).length
  · rw [List.take_append_of_le_length (by omega), List.take_append_of_le_length (by omega)]
    exact node_cut_head h h1
  · have tk : ∀ B : List Nat, (headT k nd ++ B).take m = headT k nd ++ B.take (m - (headT k nd).length) := fun B => by rw [List.take_append, List.take_of_length_le (by omega)]
    rw [tk, tk]
    by_cases h2 : m - (headT k nd).length < (bodyT nd).length
    · rw [List.take_append_of_le_length (by omega), List.take_append_of_le_length (by omega), List.count_append, ← Nat.add_assoc]
      exact node_cut_body h h2
    · have e : m - (headT k nd).length = (bodyT nd).length := by omega
      rw [e, List.take_left, ← hb, List.take_left, List.count_append, ← Nat.add_assoc]
      have e2 : headT k nd ++ bodyT nd = headT k nd ++ (bodyT nd ++ []) := by rw [List.append_nil]
      rw [e2]
      unfold nodeRd NodeSafe
      rw [getTok_head h.ok.1 h.e]
      dsimp only
      rw [lineOn_app]
      obtain ⟨q1, q2⟩ := fig_whole h (line + (headT k nd).count 10) []
      rw [q1]
      exact ⟨rfl, q2, trivial, trivial⟩
end Mine
end
section
namespace Mine
/-- n times -/
noncomputable def iterO (f : List (Nat × Nat) → Option (List (Nat × Nat))) : Nat → List (Nat × Nat) → Option (List (Nat × Nat))
  | 0, r => some r
  | n + 1, r => match f r with | none => none | some r' => iterO f n r'
/-- a subtree at the head of a list of (depth, count), in preorder -/
noncomputable def subT : Nat → Nat → List (Nat × Nat) → Option (List (Nat × Nat))
  | 0, _, _ => none
  | _ + 1, _, [] => none
  | d + 1, depth, (a, c) :: r => if a = depth then iterO (subT d (depth + 1)) c r else none
noncomputable def shapeOf (nodes : List Node) : List (Nat × Nat) := nodes.map fun nd => (nd.depth, nd.count)
/-- the shape, by the residues -/
noncomputable def cutPathR (m : Nat) (path : List Nat) : List Nat := path.take (max 1 (path.length - m))
noncomputable def buildR : List Nat → Nat → List (Nat × Nat) → List Nat → List (Nat × Nat)
  | [], _, s, _ => s
  | m :: ms, k, s, path => buildR ms (k + 1) ((match (cutPathR m path).getLast? with | none => s | some j => s.modify j fun p => (p.1, p.2 + 1)) ++ [((cutPathR m path).length, 0)]) (cutPathR m path ++ [k])
theorem shapes_ok : ∀ a b c d e : Fin 3, ∀ z : Fin 3, subT 7 0 (buildR [z, a, b, c, d, e] 0 [] []) = some [] := by decide +kernel
end Mine
end
section
namespace Mine
noncomputable def r3 (n : Int) : Nat := (n.fmod 3).toNat
theorem r3_lt (n : Int) : r3 n < 3 := by
  have := fmod_lt n 3 (by decide)
  rw [show ((3 : Nat) : Int) = 3 from rfl] at this
  unfold r3; omega
theorem cutPath_r (n : Int) (path : List Nat) : cutPath n path = cutPathR (r3 n) path := by
  have := (fmod_lt n 3 (by decide)).1
  have e : n.fmod 3 = ((r3 n : Nat) : Int) := (Int.toNat_of_nonneg this).symm
  unfold cutPath cutPathR
  rw [e]
  generalize r3 n = m
  congr 1
  omega
theorem shape_grow (nodes : List Node) (path : List Nat) : shapeOf (grow1 nodes path) = (match path.getLast? with | none => shapeOf nodes | some j => (shapeOf nodes).modify j fun p => (p.1, p.2 + 1)) := by
  unfold grow1
  cases path.getLast? with
  | none => rfl
  | some j =>
    show shapeOf (bump j nodes) = _
    unfold shapeOf bump
    apply List.ext_getElem?
    intro i
    rw [List.getElem?_map, List.getElem?_modify, List.getElem?_modify, List.getElem?_map]
    cases nodes[i]? with
    | none => rfl
    | some nd => by_cases h : j = i <;> simp [h]
theorem shape_build : ∀ (ns : List Int) (k : Nat) (nodes : List Node) (path : List Nat), shapeOf (build ns k nodes path) = buildR (ns.map r3) k (shapeOf nodes) path
  | [], _, _, _ => rfl
  | n :: ns, k, nodes, path => by
    show shapeOf (build ns (k + 1) (grow1 nodes (cutPath n path) ++ [mkNode n (cutPath n path).length]) (cutPath n path ++ [k])) = _
    rw [shape_build ns]
    have e : shapeOf (grow1 nodes (cutPath n path) ++ [mkNode n (cutPath n path).length]) = shapeOf (grow1 nodes (cutPath n path)) ++ [((cutPath n path).length, 0)] := by unfold shapeOf; rw [List.map_append]; rfl
    rw [e, shape_grow, cutPath_r]
    rfl
end Mine
end
section
namespace Mine
noncomputable def txt : Nat → List Node → List Nat
  | _, [] => []
  | k, nd :: r => nodeT k nd ++ txt (k + 1) r
/-- j nodes of a list are read one behind the other out of m signs -/
noncomputable def lin (L : Nat) : Nat → Nat → Nat → Nat → List Node → List Row → Res
  | 0, k, line, m, nodes, rows => ⟨false, (txt k nodes).take m, line, rows⟩
  | _ + 1, _, line, _, [], rows => ⟨true, [], line, rows⟩
  | j + 1, k, line, m, nd :: r, rows => if (nodeT k nd).length ≤ m then lin L j (k + 1) (line + (heardT k nd).count 10) (m - (nodeT k nd).length) r (rows ++ [⟨nd.depth, nd.name, nd.fig, nd.count, line + (heardT k nd).count 10, L - ((txt (k + 1) r).take (m - (nodeT k nd).length)).length⟩])
    else ⟨true, [], line + ((heardT k nd).take m).count 10, rows⟩
theorem lin_add (L : Nat) : ∀ (j k line m : Nat) (nodes : List Node) (rows : List Row), j ≤ nodes.length →
    ((lin L j k line m nodes rows).stopped = true → ∀ i, lin L (j + i) k line m nodes rows = lin L j k line m nodes rows) ∧
    ((lin L j k line m nodes rows).stopped = false → ∃ m', (lin L j k line m nodes rows).r = (txt (k + j) (nodes.drop j)).take m' ∧ ∀ i, lin L (j + i) k line m nodes rows = lin L i (k + j) (lin L j k line m nodes rows).line m' (nodes.drop j) (lin L j k line m nodes rows).rows)
  | 0, k, line, m, nodes, rows, _ => ⟨fun h => (by cases h), fun _ => ⟨m, rfl, fun i => by rw [Nat.zero_add]; rfl⟩⟩
  | j + 1, k, line, m, [], rows, h => by simp at h
  | j + 1, k, line, m, nd :: r, rows, h => by
    by_cases hm : (nodeT k nd).length ≤ m
    · have e : ∀ i, lin L (j + 1 + i) k line m (nd :: r) rows = lin L (j + i) (k + 1) (line + (heardT k nd).count 10) (m - (nodeT k nd).length) r (rows ++ [⟨nd.depth, nd.name, nd.fig, nd.count, line + (heardT k nd).count 10, L - ((txt (k + 1) r).take (m - (nodeT k nd).length)).length⟩]) := fun i => by
        rw [show j + 1 + i = (j + i) + 1 by omega]
        exact if_pos hm
      have e0 := e 0
      rw [Nat.add_zero, Nat.add_zero] at e0
      obtain ⟨h1, h2⟩ := lin_add L j (k + 1) (line + (heardT k nd).count 10) (m - (nodeT k nd).length) r (rows ++ [⟨nd.depth, nd.name, nd.fig, nd.count, line + (heardT k nd).count 10, L - ((txt (k + 1) r).take (m - (nodeT k nd).length)).length⟩]) (by simpa using h)
      rw [e0]
      refine ⟨fun hs i => by rw [e i]; exact h1 hs i, fun hs => ?_⟩
      obtain ⟨m', q1, q2⟩ := h2 hs
      rw [show k + 1 + j = k + (j + 1) by omega] at q1 q2
      exact ⟨m', q1, fun i => by rw [e i]; exact q2 i⟩
    · have e : ∀ i, lin L (j + 1 + i) k line m (nd :: r) rows = ⟨true, [], line + ((heardT k nd).take m).count 10, rows⟩ := fun i => by
        rw [show j + 1 + i = (j + i) + 1 by omega]
        exact if_neg hm
      have e0 := e 0
      rw [Nat.add_zero] at e0
      rw [e0]
      exact ⟨fun _ i => e i, fun h => by cases h⟩
end Mine
end
section
namespace Mine
theorem shape_drop (nodes : List Node) (j : Nat) : shapeOf (nodes.drop j) = (shapeOf nodes).drop j := by unfold shapeOf; rw [List.map_drop]
/-- what is read of a subtree is what is read of its nodes, one behind the other -/
theorem many_lin (L : Nat) (P : Nat → List Nat → List Row → Res → Prop) (f : List (Nat × Nat) → Option (List (Nat × Nat)))
    (hf : ∀ nodes s', (∀ nd ∈ nodes, NodeGood nd) → f (shapeOf nodes) = some s' → ∃ j, j ≤ nodes.length ∧ s' = shapeOf (nodes.drop j) ∧ ∀ k line m rows, P line ((txt k nodes).take m) rows (lin L j k line m nodes rows)) :
    ∀ (c : Nat) (nodes : List Node) (s' : List (Nat × Nat)), (∀ nd ∈ nodes, NodeGood nd) → iterO f c (shapeOf nodes) = some s' →
      ∃ j, j ≤ nodes.length ∧ s' = shapeOf (nodes.drop j) ∧ ∀ k line m rows, Many P c line ((txt k nodes).take m) rows (lin L j k line m nodes rows)
  | 0, nodes, s', _, h => ⟨0, Nat.zero_le _, by have : some (shapeOf nodes) = some s' := h; cases this; rfl, fun k line m rows => rfl⟩
  | c + 1, nodes, s', hg, h => by
    have h' : (match f (shapeOf nodes) with | none => none | some r' => iterO f c r') = some s' := h
    cases e1 : f (shapeOf nodes) with
    | none => rw [e1] at h'; cases h'
    | some r1 =>
      rw [e1] at h'
      obtain ⟨j1, hj1, rfl, hP1⟩ := hf nodes r1 hg e1
      obtain ⟨j2, hj2, e2, hP2⟩ := many_lin L P f hf c (nodes.drop j1) s' (fun nd hnd => hg nd (List.mem_of_mem_drop hnd)) h'
      rw [List.length_drop] at hj2
      refine ⟨j1 + j2, by omega, by rw [e2, List.drop_drop], fun k line m rows => ?_⟩
      obtain ⟨a1, a2⟩ := lin_add L j1 k line m nodes rows hj1
      refine ⟨lin L j1 k line m nodes rows, hP1 k line m rows, ?_⟩
      cases hs : (lin L j1 k line m nodes rows).stopped with
      | true => exact a1 hs j2
      | false =>
        obtain ⟨m', q1, q2⟩ := a2 hs
        rw [q2 j2, q1]
        exact hP2 _ _ _ _
theorem rd_lin (L : Nat) : ∀ (d depth : Nat) (nodes : List Node) (s' : List (Nat × Nat)), (∀ nd ∈ nodes, NodeGood nd) → subT d depth (shapeOf nodes) = some s' →
    ∃ j, j ≤ nodes.length ∧ s' = shapeOf (nodes.drop j) ∧ ∀ k line m rows, RdP L d depth line ((txt k nodes).take m) rows (lin L j k line m nodes rows)
  | 0, _, _, _, _, h => by cases h
  | d + 1, depth, [], _, _, h => by cases h
  | d + 1, depth, nd :: r, s', hg, h => by
    have h' : (if nd.depth = depth then iterO (subT d (depth + 1)) nd.count (shapeOf r) else none) = some s' := h
    by_cases hd : nd.depth = depth
    · rw [if_pos hd] at h'
      obtain ⟨j, hj, e, hM⟩ := many_lin L (RdP L d (depth + 1)) _ (fun nodes s' hg h => rd_lin L d (depth + 1) nodes s' hg h) nd.count r s' (fun x hx => hg x (.tail _ hx)) h'
      refine ⟨j + 1, by simp; omega, by rw [e]; rfl, fun k line m rows => ?_⟩
      have hn := hg nd (.head _)
      by_cases hm : (nodeT k nd).length ≤ m
      · have et : (txt k (nd :: r)).take m = nodeT k nd ++ (txt (k + 1) r).take (m - (nodeT k nd).length) := by
          show (nodeT k nd ++ txt (k + 1) r).take m = _
          rw [List.take_append, List.take_of_length_le hm]
        obtain ⟨q1, q2⟩ := node_whole hn L k line ((txt (k + 1) r).take (m - (nodeT k nd).length))
        rw [et]
        refine ⟨q2, ?_⟩
        rw [← hd, q1]
        dsimp only
        rw [show lin L (j + 1) k line m (nd :: r) rows = lin L j (k + 1) (line + (heardT k nd).count 10) (m - (nodeT k nd).length) r (rows ++ [⟨nd.depth, nd.name, nd.fig, nd.count, line + (heardT k nd).count 10, L - ((txt (k + 1) r).take (m - (nodeT k nd).length)).length⟩]) from if_pos hm]
        rw [hd]
        have := hM (k + 1) (line + (heardT k nd).count 10) (m - (nodeT k nd).length) (rows ++ [⟨depth, nd.name, nd.fig, nd.count, line + (heardT k nd).count 10, L - ((txt (k + 1) r).take (m - (nodeT k nd).length)).length⟩])
        exact this
      · have et : (txt k (nd :: r)).take m = (nodeT k nd).take m := by
          show (nodeT k nd ++ txt (k + 1) r).take m = _
          rw [List.take_append_of_le_length (by omega)]
        obtain ⟨q1, q2⟩ := node_cut (len := L) (depth := depth) (line := line) hn (show m < (nodeT k nd).length by omega)
        rw [et]
        refine ⟨q2, ?_⟩
        rw [q1]
        exact if_neg hm
    · rw [if_neg hd] at h'; cases h'
end Mine
end
section
namespace Mine
noncomputable def hrd : Nat → List Node → List Nat
  | _, [] => []
  | k, nd :: r => heardT k nd ++ hrd (k + 1) r
noncomputable def dueF : Nat → List Nat → List Nat → List Node → List Row
  | _, _, _, [] => []
  | k, t, h, nd :: r => rowOf nd (t ++ nodeT k nd) (h ++ heardT k nd) :: dueF (k + 1) (t ++ nodeT k nd) (h ++ heardT k nd) r
theorem wr_eq : ∀ (nodes : List Node) (k : Nat) (t h : List Nat) (d : List Row), wr nodes k t h d = (t ++ txt k nodes, h ++ hrd k nodes, d ++ dueF k t h nodes)
  | [], k, t, h, d => by simp [wr, txt, hrd, dueF]
  | nd :: r, k, t, h, d => by
    show wr r (k + 1) (t ++ nodeT k nd) (h ++ heardT k nd) (d ++ [rowOf nd (t ++ nodeT k nd) (h ++ heardT k nd)]) = _
    rw [wr_eq r]
    simp [txt, hrd, dueF]
theorem dueF_place : ∀ (nodes : List Node) (k : Nat) (t h : List Nat), ∀ w ∈ dueF k t h nodes, t.length ≤ w.place
  | [], _, _, _, w, hw => by cases hw
  | nd :: r, k, t, h, w, hw => by
    rcases List.mem_cons.mp hw with rfl | hw
    · show t.length ≤ (t ++ nodeT k nd).length; rw [List.length_append]; omega
    · have := dueF_place r (k + 1) _ _ w hw
      rw [List.length_append] at this
      omega
theorem nodeT_pos {nd : Node} (h : NodeGood nd) (k : Nat) : 0 < (nodeT k nd).length := by
  have := tailT_one h
  unfold nodeT; rw [List.length_append, this]; omega
theorem heard_len {nd : Node} (h : NodeGood nd) (k : Nat) : (heardT k nd).length = (nodeT k nd).length := by
  rw [heardT_eq, nodeT_eq]; simp [bodyH_len, tailT_one h]
/-- all is read -/
theorem lin_whole (L : Nat) : ∀ (nodes : List Node) (k : Nat) (t h : List Nat) (rows : List Row) (m : Nat), t.length + m = L → m = (txt k nodes).length →
    lin L nodes.length k (1 + h.count 10) m nodes rows = ⟨false, [], 1 + (h ++ hrd k nodes).count 10, rows ++ dueF k t h nodes⟩
  | [], k, t, h, rows, m, _, _ => by simp [lin, txt, hrd, dueF]
  | nd :: r, k, t, h, rows, m, hL, hm => by
    have hm' : m = (nodeT k nd).length + (txt (k + 1) r).length := by rw [hm]; show (nodeT k nd ++ txt (k + 1) r).length = _; rw [List.length_append]
    show (if (nodeT k nd).length ≤ m then _ else _) = _
    rw [if_pos (by omega)]
    have e : 1 + h.count 10 + (heardT k nd).count 10 = 1 + (h ++ heardT k nd).count 10 := by rw [List.count_append]; omega
    rw [e, List.take_of_length_le (by omega), lin_whole L r (k + 1) (t ++ nodeT k nd) (h ++ heardT k nd) _ _ (by rw [List.length_append]; omega) (by omega)]
    have ep : L - (txt (k + 1) r).length = (t ++ nodeT k nd).length := by rw [List.length_append]; omega
    rw [ep]
    simp [hrd, dueF, rowOf]
/-- a beginning is read -/
theorem lin_part (L : Nat) : ∀ (nodes : List Node) (k : Nat) (t h : List Nat) (rows : List Row) (m : Nat), (∀ nd ∈ nodes, NodeGood nd) → t.length + m = L → m < (txt k nodes).length →
    lin L nodes.length k (1 + h.count 10) m nodes rows = ⟨true, [], 1 + (h ++ (hrd k nodes).take m).count 10, rows ++ (dueF k t h nodes).filter fun w => w.place ≤ L⟩
  | [], k, t, h, rows, m, _, _, hm => by simp [txt] at hm
  | nd :: r, k, t, h, rows, m, hg, hL, hm => by
    have hn := hg nd (.head _)
    have hm' : m < (nodeT k nd).length + (txt (k + 1) r).length := by have : m < (nodeT k nd ++ txt (k + 1) r).length := hm; rw [List.length_append] at this; exact this
    have hh := heard_len hn k
    show (if (nodeT k nd).length ≤ m then _ else _) = _
    by_cases hc : (nodeT k nd).length ≤ m
    · rw [if_pos hc]
      have e : 1 + h.count 10 + (heardT k nd).count 10 = 1 + (h ++ heardT k nd).count 10 := by rw [List.count_append]; omega
      rw [e, lin_part L r (k + 1) (t ++ nodeT k nd) (h ++ heardT k nd) _ _ (fun x hx => hg x (.tail _ hx)) (by rw [List.length_append]; omega) (by omega)]
      have ep : L - ((txt (k + 1) r).take (m - (nodeT k nd).length)).length = (t ++ nodeT k nd).length := by rw [List.length_take, List.length_append]; omega
      rw [ep]
      have et : (hrd k (nd :: r)).take m = heardT k nd ++ (hrd (k + 1) r).take (m - (nodeT k nd).length) := by
        show (heardT k nd ++ hrd (k + 1) r).take m = _
        rw [List.take_append, List.take_of_length_le (by omega), hh]
      have ef : (dueF k t h (nd :: r)).filter (fun w => w.place ≤ L) = rowOf nd (t ++ nodeT k nd) (h ++ heardT k nd) :: (dueF (k + 1) (t ++ nodeT k nd) (h ++ heardT k nd) r).filter (fun w => w.place ≤ L) := by
        show List.filter _ (_ :: _) = _
        rw [List.filter_cons, if_pos]
        show decide ((t ++ nodeT k nd).length ≤ L) = true
        rw [List.length_append]
        exact decide_eq_true (by omega)
      rw [et, ef]
      simp [rowOf]
    · rw [if_neg hc]
      have et : (hrd k (nd :: r)).take m = (heardT k nd).take m := by
        show (heardT k nd ++ hrd (k + 1) r).take m = _
        rw [List.take_append_of_le_length (by omega)]
      have ef : (dueF k t h (nd :: r)).filter (fun w => w.place ≤ L) = [] := by
        rw [List.filter_eq_nil_iff]
        intro w hw
        rcases List.mem_cons.mp hw with rfl | hw
        · show ¬ decide ((t ++ nodeT k nd).length ≤ L) = true
          rw [List.length_append, decide_eq_true_eq]; omega
        · have := dueF_place r (k + 1) _ _ w hw
          rw [List.length_append] at this
          rw [decide_eq_true_eq]; omega
      rw [et, ef, List.count_append, List.append_nil, Nat.add_assoc]
end Mine
end
section
namespace Mine
/-- a node in the making: its count is k at most -/
noncomputable def NG (k : Nat) (nd : Node) : Prop := nd.name ≠ [] ∧ nd.name.length ≤ 3 ∧ nd.fig < 5000 ∧ nd.count ≤ k ∧ nd.e ∈ wsL
theorem mkNode_ng (n : Int) (d k : Nat) : NG k (mkNode n d) := by
  have h5 := fmod_lt n 5000 (by decide)
  have h4 := fmod_lt n 4 (by decide)
  rw [show ((5000 : Nat) : Int) = 5000 from rfl] at h5
  rw [show ((4 : Nat) : Int) = 4 from rfl] at h4
  have hl := nameLen_le n
  have hle : (nameOf n).length = nameLen n := by simp [nameOf]
  refine ⟨fun e => ?_, ?_, ?_, Nat.zero_le _, ?_⟩
  · have : (nameOf n).length = 0 := by rw [show nameOf n = [] from e]; rfl
    rw [hle] at this
    unfold nameLen at this
    omega
  · show (nameOf n).length ≤ 3; omega
  · show (n.fmod 5000).toNat < 5000; omega
  · show ends.getD (n.fmod 4).toNat 0 ∈ wsL
    have : (n.fmod 4).toNat = 0 ∨ (n.fmod 4).toNat = 1 ∨ (n.fmod 4).toNat = 2 ∨ (n.fmod 4).toNat = 3 := by omega
    rcases this with h | h | h | h <;> rw [h] <;> decide
theorem ng_bump {k j : Nat} {nodes : List Node} (h : ∀ nd ∈ nodes, NG k nd) : ∀ nd ∈ bump j nodes, NG (k + 1) nd := by
  intro nd hnd
  unfold bump at hnd
  obtain ⟨i, hi, e⟩ := List.mem_iff_getElem.mp hnd
  have e2 : (nodes.modify j fun nd => { nd with count := nd.count + 1 })[i]? = some nd := by rw [List.getElem?_eq_getElem hi, e]
  rw [List.getElem?_modify] at e2
  cases q : nodes[i]? with
  | none => rw [q] at e2; simp at e2
  | some m =>
    rw [q] at e2
    have hm := h m (List.mem_of_getElem? q)
    simp at e2
    by_cases hji : j = i
    · rw [if_pos hji] at e2
      subst e2
      exact ⟨hm.1, hm.2.1, hm.2.2.1, Nat.succ_le_succ hm.2.2.2.1, hm.2.2.2.2⟩
    · rw [if_neg hji] at e2
      subst e2
      exact ⟨hm.1, hm.2.1, hm.2.2.1, Nat.le_succ_of_le hm.2.2.2.1, hm.2.2.2.2⟩
theorem grow1_len (nodes : List Node) (path : List Nat) : (grow1 nodes path).length = nodes.length := by
  unfold grow1 bump; split <;> simp
theorem ng_grow {k : Nat} {nodes : List Node} (path : List Nat) (h : ∀ nd ∈ nodes, NG k nd) : ∀ nd ∈ grow1 nodes path, NG (k + 1) nd := by
  unfold grow1
  split
  · exact fun nd hnd => have hm := h nd hnd; ⟨hm.1, hm.2.1, hm.2.2.1, Nat.le_succ_of_le hm.2.2.2.1, hm.2.2.2.2⟩
  · exact ng_bump h
theorem build_ng : ∀ (ns : List Int) (k : Nat) (nodes : List Node) (path : List Nat), (∀ nd ∈ nodes, NG k nd) → ∀ nd ∈ build ns k nodes path, NG (k + ns.length) nd
  | [], _, _, _, h => h
  | n :: ns, k, nodes, path, h => by
    have := build_ng ns (k + 1) (grow1 nodes (cutPath n path) ++ [mkNode n (cutPath n path).length]) (cutPath n path ++ [k]) (fun nd hnd => by
      rcases List.mem_append.mp hnd with hnd | hnd
      · exact ng_grow _ h nd hnd
      · simp at hnd; subst hnd; exact mkNode_ng ..)
    rw [show k + 1 + ns.length = k + (n :: ns).length by simp; omega] at this
    exact this
theorem build_len : ∀ (ns : List Int) (k : Nat) (nodes : List Node) (path : List Nat), (build ns k nodes path).length = nodes.length + ns.length
  | [], _, _, _ => rfl
  | n :: ns, k, nodes, path => by
    show (build ns (k + 1) (grow1 nodes (cutPath n path) ++ [mkNode n (cutPath n path).length]) (cutPath n path ++ [k])).length = _
    rw [build_len ns, List.length_append, grow1_len]; simp; omega
section
variable {ns : List Int} (h6 : ns.length = 6)
include h6
theorem nodes_good : ∀ nd ∈ nodesOf ns, NodeGood nd := fun nd hnd => by
  have := build_ng ns 0 [] [] (by simp) nd hnd
  rw [h6] at this
  exact ⟨⟨this.1, this.2.1, this.2.2.1, by have := this.2.2.2.1; omega⟩, this.2.2.2.2⟩
theorem nodes_len : (nodesOf ns).length = 6 := by
  have := build_len ns 0 [] []
  rw [h6] at this; exact this
theorem nodes_shape : subT 7 0 (shapeOf (nodesOf ns)) = some [] := by
  unfold nodesOf
  rw [shape_build]
  match ns, h6 with
  | [z, a, b, c, d, e], _ =>
    exact shapes_ok ⟨_, r3_lt a⟩ ⟨_, r3_lt b⟩ ⟨_, r3_lt c⟩ ⟨_, r3_lt d⟩ ⟨_, r3_lt e⟩ ⟨_, r3_lt z⟩
theorem rd_six (L line m k : Nat) (rows : List Row) : RdP L 7 0 line ((txt k (nodesOf ns)).take m) rows (lin L 6 k line m (nodesOf ns) rows) := by
  obtain ⟨j, hj, e, h⟩ := rd_lin L 7 0 (nodesOf ns) [] (nodes_good h6) (nodes_shape h6)
  have hj6 : j = 6 := by
    have := congrArg List.length e
    unfold shapeOf at this
    rw [List.length_map, List.length_drop, nodes_len h6] at this
    rw [nodes_len h6] at hj
    simp at this
    omega
  subst hj6
  exact h k line m rows
noncomputable abbrev textOf (ns : List Int) : List Nat := (wr (nodesOf ns) 0 [] [] []).1
noncomputable abbrev heardOf (ns : List Int) : List Nat := (wr (nodesOf ns) 0 [] [] []).2.1
noncomputable abbrev dueOf (ns : List Int) : List Row := (wr (nodesOf ns) 0 [] [] []).2.2
omit h6 in
theorem text_eq (ns : List Int) : textOf ns = txt 0 (nodesOf ns) := by unfold textOf; rw [wr_eq]; rfl
omit h6 in
theorem heard_eq (ns : List Int) : heardOf ns = hrd 0 (nodesOf ns) := by unfold heardOf; rw [wr_eq]; rfl
omit h6 in
theorem due_eq (ns : List Int) : dueOf ns = dueF 0 [] [] (nodesOf ns) := by unfold dueOf; rw [wr_eq]; rfl
/-- the whole text is read back -/
theorem law_whole : RdP (textOf ns).length 7 0 1 (textOf ns) [] ⟨false, [], 1 + (heardOf ns).count 10, dueOf ns⟩ := by
  have h := rd_six h6 (textOf ns).length 1 (textOf ns).length 0 []
  have e := lin_whole (textOf ns).length (nodesOf ns) 0 [] [] [] (textOf ns).length (by simp) (by rw [text_eq])
  rw [nodes_len h6] at e
  rw [show 1 + ([] : List Nat).count 10 = 1 from rfl] at e
  rw [e] at h
  rw [← text_eq, List.take_length] at h
  rw [heard_eq, due_eq]
  simpa using h
/-- of a beginning just the nodes that lie in it whole are read -/
theorem law_part {cut : Nat} (hc : cut < (textOf ns).length) : RdP ((textOf ns).take cut).length 7 0 1 ((textOf ns).take cut) [] ⟨true, [], 1 + ((heardOf ns).take cut).count 10, (dueOf ns).filter fun w => w.place ≤ cut⟩ := by
  have hl : ((textOf ns).take cut).length = cut := by rw [List.length_take]; omega
  rw [hl]
  have h := rd_six h6 cut 1 cut 0 []
  have e := lin_part cut (nodesOf ns) 0 [] [] [] cut (nodes_good h6) (by simp) (by rw [← text_eq]; exact hc)
  rw [nodes_len h6] at e
  rw [show 1 + ([] : List Nat).count 10 = 1 from rfl] at e
  rw [e] at h
  rw [← text_eq] at h
  rw [heard_eq, due_eq]
  simpa using h
omit h6 in
theorem txt_len : ∀ (nodes : List Node) (k : Nat), (∀ nd ∈ nodes, NodeGood nd) → (txt k nodes).length ≤ 21 * nodes.length ∧ nodes.length ≤ (txt k nodes).length
  | [], _, _ => ⟨Nat.le_refl _, Nat.le_refl _⟩
  | nd :: r, k, h => by
    have h1 := nodeT_len (k := k) (h nd (.head _)).ok
    have h2 := nodeT_pos (h nd (.head _)) k
    have h3 := txt_len r (k + 1) fun x hx => h x (.tail _ hx)
    have e : (txt k (nd :: r)).length = (nodeT k nd).length + (txt (k + 1) r).length := by show (nodeT k nd ++ txt (k + 1) r).length = _; rw [List.length_append]
    rw [e, List.length_cons]
    omega
theorem text_len : (textOf ns).length ≤ 126 ∧ 6 ≤ (textOf ns).length := by
  rw [text_eq]
  have := txt_len (nodesOf ns) 0 (nodes_good h6)
  rw [nodes_len h6] at this
  exact this
omit h6 in
theorem dueF_len : ∀ (nodes : List Node) (k : Nat) (t h : List Nat), (dueF k t h nodes).length = nodes.length
  | [], _, _, _ => rfl
  | nd :: r, k, t, h => by show (_ :: dueF _ _ _ r).length = _; rw [List.length_cons, dueF_len r, List.length_cons]
theorem due_len : (dueOf ns).length = 6 := by rw [due_eq, dueF_len, nodes_len h6]
omit h6 in
theorem hrd_len : ∀ (nodes : List Node) (k : Nat), (∀ nd ∈ nodes, NodeGood nd) → (hrd k nodes).length = (txt k nodes).length
  | [], _, _ => rfl
  | nd :: r, k, h => by
    show (heardT k nd ++ hrd (k + 1) r).length = (nodeT k nd ++ txt (k + 1) r).length
    rw [List.length_append, List.length_append, heard_len (h nd (.head _)), hrd_len r (k + 1) fun x hx => h x (.tail _ hx)]
theorem heard_len6 : (heardOf ns).length = (textOf ns).length := by rw [heard_eq, text_eq, hrd_len _ _ (nodes_good h6)]
end
end Mine
end
section
namespace Mine
noncomputable def NmOk (x : List Nat) : Prop := ∀ c ∈ x, c < 1114112
theorem nameOf_ok (n : Int) : NmOk (nameOf n) := by
  intro c hc
  unfold nameOf at hc
  obtain ⟨j, _, rfl⟩ := List.mem_map.mp hc
  unfold nameAt
  have h3 := fmod_lt ((n.fdiv 18).fdiv (8 ^ j)) 8 (by decide)
  rw [show ((8 : Nat) : Int) = 8 from rfl] at h3
  generalize hk : (((n.fdiv 18).fdiv (8 ^ j)).fmod 8).toNat = k
  have : k < 8 := by omega
  have all : ∀ k : Fin 8, signs.getD k.1 0 < 1114112 := by decide
  exact all ⟨k, this⟩
theorem bump_names {j : Nat} {nodes : List Node} (h : ∀ nd ∈ nodes, NmOk nd.name) : ∀ nd ∈ bump j nodes, NmOk nd.name := by
  intro nd hnd
  unfold bump at hnd
  obtain ⟨i, hi, e⟩ := List.mem_iff_getElem.mp hnd
  have e2 : (nodes.modify j fun nd => { nd with count := nd.count + 1 })[i]? = some nd := by rw [List.getElem?_eq_getElem hi, e]
  rw [List.getElem?_modify] at e2
  cases q : nodes[i]? with
  | none => rw [q] at e2; simp at e2
  | some m =>
    rw [q] at e2
    have hm := h m (List.mem_of_getElem? q)
    simp at e2
    by_cases hji : j = i
    · rw [if_pos hji] at e2; subst e2; exact hm
    · rw [if_neg hji] at e2; subst e2; exact hm
theorem build_names : ∀ (ns : List Int) (k : Nat) (nodes : List Node) (path : List Nat), (∀ nd ∈ nodes, NmOk nd.name) → ∀ nd ∈ build ns k nodes path, NmOk nd.name
  | [], _, _, _, h => h
  | n :: ns, k, nodes, path, h => build_names ns (k + 1) (grow1 nodes (cutPath n path) ++ [mkNode n (cutPath n path).length]) (cutPath n path ++ [k]) (fun nd hnd => by
      rcases List.mem_append.mp hnd with hnd | hnd
      · unfold grow1 at hnd
        split at hnd
        · exact h nd hnd
        · exact bump_names h nd hnd
      · simp at hnd; subst hnd; exact nameOf_ok n)
theorem dueF_names : ∀ (nodes : List Node) (k : Nat) (t h : List Nat), (∀ nd ∈ nodes, NmOk nd.name) → ∀ r ∈ dueF k t h nodes, NmOk r.name
  | [], _, _, _, _, r, hr => by cases hr
  | nd :: rest, k, t, h, hn, r, hr => by
    rcases List.mem_cons.mp hr with rfl | hr
    · exact hn nd (.head _)
    · exact dueF_names rest (k + 1) _ _ (fun x hx => hn x (.tail _ hx)) r hr
theorem due_names (ns : List Int) : ∀ r ∈ dueOf ns, NmOk r.name := by
  rw [due_eq]
  exact dueF_names _ _ _ _ (build_names ns 0 [] [] (by simp))
/-- the numbers: six of them -/
noncomputable def six (ns : List Int) : List Int := ns.take 6 ++ [74, 586, 1795, 3, 8, 4130].drop (ns.take 6).length
theorem six_len (ns : List Int) : (six ns).length = 6 := by
  unfold six
  rw [List.length_append, List.length_drop, List.length_take]
  simp only [List.length_cons, List.length_nil]
  omega
end Mine
end
section
open PySem PySem.W PyProof.Rows PySem.Calls PySem.Spec
namespace Mine
theorem fill2 : True ∨ (PySem.Challenge.rw_nb0051_01 = PySem.Challenge.rw_nb0051_01 ∧ hd51.heap_39 = hd51.heap_39) := by
  k_fill
  exact .inl trivial
noncomputable def Nats (vs : List Value) (ns : List Nat) : Prop := vs.length = ns.length ∧ ∀ (i : Nat) (n : Nat), ns[i]? = some n → ∃ t, vs[i]? = some (.int (n : Int) t)
theorem Nats.nil : Nats [] [] := ⟨rfl, fun i n h => by simp at h⟩
theorem Nats.cons {vs : List Value} {ns : List Nat} (n : Nat) (t : Tok) (h : Nats vs ns) : Nats (.int (n : Int) t :: vs) (n :: ns) :=
  ⟨by simp [h.1], fun i m e => by
    cases i with
    | zero => simp at e; subst e; exact ⟨t, rfl⟩
    | succ i => simp at e; obtain ⟨t', h'⟩ := h.2 i m e; exact ⟨t', by simpa using h'⟩⟩
theorem Nats.one (n : Nat) (t : Tok) : Nats [.int (n : Int) t] [n] := Nats.nil.cons n t
theorem Nats.head {v : Value} {vs : List Value} {n : Nat} {ns : List Nat} (h : Nats (v :: vs) (n :: ns)) : (∃ t, v = .int (n : Int) t) ∧ Nats vs ns := by
  obtain ⟨t, e⟩ := h.2 0 n rfl
  refine ⟨⟨t, by simpa using e⟩, by have := h.1; simpa using this, fun i m e => ?_⟩
  obtain ⟨t', e'⟩ := h.2 (i + 1) m (by simpa using e)
  exact ⟨t', by simpa using e'⟩
theorem fmod_nat (a b : Nat) : (a : Int).fmod (b : Int) = ((a % b : Nat) : Int) := by
  rw [Int.fmod_eq_emod_of_nonneg _ (by omega)]; rfl
theorem fdiv_nat (a b : Nat) : (a : Int).fdiv (b : Int) = ((a / b : Nat) : Int) := by
  rw [Int.fdiv_eq_ediv_of_nonneg _ (by omega)]; rfl

inductive InvT (fig mark : Nat) (t2 : Tok) (N : Ldg) (f : Nat) (l : Loc) (N' : Ldg) : Prop
  | mk (os : List Nat) (a : Addr) (o : Obj) (vs : List Value) (t : Tok) (c0 : l = ([("figure", some (.int (f : Int) t)), ("mark", some (.int (mark : Int) t2)), ("octets", some (.ref a))] : Loc)) (c1 : octs f os = octs fig [fig % 64]) (c2 : OL o vs) (c3 : Nats vs os) (c4 : os.length + f ≤ 5001) (c5 : ∀ x ∈ os, x < 128) (c6 : os ≠ []) (c7 : List.Sublist ((a, o) :: N) N')
theorem sp_octets {k : Kx} {E : Value → Shared → Prop} {N : Ldg} {n : Nat} {base : Heap} {envs : List Env} (G : Gk (n + 1) k base envs) (fig mark : Nat) (t1 t2 : Tok) (h1 : fig ≤ 5000) (h2 : mark ≤ 128) :
    CP k E N (.ref 75) [.int (fig : Int) t1, .int (mark : Int) t2] fun v N' => N' = N ∧ ∃ t, v = .str (T (octets fig mark)) t := by
  refine enter G (l := [("figure", some (.int (fig : Int) t1)), ("mark", some (.int (mark : Int) t2)), ("octets", none)]) (.inr (G.X 75 _ (by k_is))) rfl (fun s S => codeRec_of (G.X.keeps S.keep) (by k_is)) rfl (locs rfl) ⟨rfl, rfl, rfl, trivial⟩ (by dsimp only [List.map]; decide) ?_
  intro L E' G'
  refine w_execs_cons (w_Assign_Name (w_List (w_args_cons (w_BinOp (w_name_L (.head _) (w_Const_int fun t => w_mod (by decide) fun t => w_args_nil (w_newList fun a => w_store_L (.there (.there .here)) ?_)))))))
  refine w_execs_cons (w_While (cw_while (InvT fig mark t2 N) ?_ fig
    ⟨[fig % 64], a, _, _, t1, rfl, rfl, OL.new _, by rw [show (64 : Int) = ((64 : Nat) : Int) from rfl, fmod_nat]; exact Nats.one _ _, by simp; omega, by simp; omega, by simp, List.Sublist.refl _⟩))
  rintro f l N' ⟨os, a, o, vs, t, rfl, ho, hO, hN, hb, hlt, hne, hs⟩
  refine w_sub hs (w_isTrue_Compare1 (w_name_L (.head _) (w_Const_int fun t => w_gt (w_truthy_bool ?_))))
  by_cases hf : 63 < f
  · rw [decide_eq_true (show (f : Int) > 63 by omega)]
    refine w_execs_cons (w_Assign_Name (w_BinOp (w_name_L (.head _) (w_Const_int fun t => w_fdiv (by decide) (by decide) fun t => w_store_L .here ?_))))
    rw [show (64 : Int) = ((64 : Nat) : Int) from rfl, fdiv_nat]
    refine w_execs_cons <| w_Assign_Name <| w_BinOp <| w_List <| w_args_cons <| w_BinOp <| w_Const_int fun t => w_BinOp <| w_name_L (.head _) <| w_Const_int fun t => w_mod (by decide) fun t => w_add fun t => w_args_nil <| w_newList fun b => ?_
    refine w_name_L (.tail _ (.tail _ (.head _))) (w_add_list (.head _) (OL.new _) (.tail _ (.head _)) hO (by have := hN.1; simp; omega) fun d => w_store_L (.there (.there .here)) (w_execs_nil ?_))
    refine ⟨f / 64, by omega, (64 + f / 64 % 64) :: os, d, _, [.int (64 + ((f / 64 : Nat) : Int).fmod 64) t] ++ vs, _, rfl, by rw [← ho, octs_big hf], OL.new _, ?_, by simp; omega, ?_, by simp, ?_⟩
    · have := hN.cons (64 + f / 64 % 64)
      rw [show (64 : Int) + ((f / 64 : Nat) : Int).fmod 64 = ((64 + f / 64 % 64 : Nat) : Int) by rw [show (64 : Int) = ((64 : Nat) : Int) from rfl, fmod_nat]; omega]
      exact this _
    · intro x hx
      rcases List.mem_cons.mp hx with rfl | hx
      · omega
      · exact hlt x hx
    · exact List.Sublist.cons_cons _ (List.Sublist.cons _ (List.Sublist.cons _ (List.Sublist.refl _)))
  · rw [decide_eq_false (show ¬ (f : Int) > 63 by omega)]
    refine w_execs_nil ?_
    have ho' : os = octs fig [fig % 64] := by rw [← ho, octs_small (by omega)]
    obtain ⟨x, r, rfl⟩ : ∃ x r, os = x :: r := by cases os with | nil => exact absurd rfl hne | cons x r => exact ⟨x, r, rfl⟩
    obtain ⟨v, vr, rfl⟩ : ∃ v vr, vs = v :: vr := by cases vs with | nil => exact absurd hN.1 (by simp) | cons x r => exact ⟨x, r, rfl⟩
    obtain ⟨⟨tv, rfl⟩, hNr⟩ := hN.head
    refine w_execs_cons <| w_AugSub <| w_name_L (.tail _ (.tail _ (.head _))) <| w_Const_int fun t => w_getItem_list (.head _) hO (by decide) (by decide) rfl <| w_name_L (.tail _ (.head _)) <| w_iadd fun t => w_setItem_list (fun _ => .here) hO (by decide) (by simp) (by have := hN.1; simp only [List.length_cons] at this hb ⊢; omega) fun o' hO' => ?_
    have hO2 : OL o' (.int ((x + mark : Nat) : Int) t :: vr) := by rw [show ((x + mark : Nat) : Int) = (x : Int) + mark by omega]; exact hO'
    have hN2 : Nats (.int ((x + mark : Nat) : Int) t :: vr) ((x + mark) :: r) := hNr.cons _ _
    have hL : octets fig mark = (x + mark) :: r := by unfold octets; rw [← ho']; rfl
    have hlen : ((x + mark) :: r).length ≤ 5001 := by simp at hb ⊢; omega
    have hbd : ∀ y ∈ (x + mark) :: r, y ≤ 1000 := by
      intro y hy
      rcases List.mem_cons.mp hy with rfl | hy
      · have := hlt x (.head _); omega
      · have := hlt y (.tail _ hy); omega
    rw [hL]
    generalize (x + mark) :: r = zs at hN2 hlen hbd
    refine w_execs_cons <| w_Return_some <| w_MethodCall <| w_Const_str fun t => w_str_join <| w_callWith_b <| w_args_cons <| w_ListComp (lc := [("one", none)]) (closureFor_none (by decide)) (by simp) (by decide) <|
      w_name_L (.tail _ (.tail _ (.head _))) <| w_iter_list (.head _) hO2 fun it oi hi => ?_
    refine CompDo.mono (comp_iter (F := fun i y => ∃ t, y = .str (T [zs.getD i 0]) t) (Iter.list hO2) G'.hh (.head _) hi (by rw [hN2.1]; omega) ?_) ?_
    · intro i v g C E' N' hi hv hg hs
      refine w_Call <| wg_name_B (G'.toGnd.keeps hg) (by k_is) Boot.«chr» (by decide) (w_callWith_b <| w_args_cons <| wg_name_L (.head _) (w_args_nil ?_) rfl rfl rfl) rfl rfl rfl rfl
      rw [hN2.1] at hi
      have e : zs[i]? = some zs[i] := by simp [hi]
      obtain ⟨t, e'⟩ := hN2.2 i _ e
      rw [hv] at e'
      cases e'
      have := hbd _ (List.getElem_mem hi)
      exact w_chr (by omega) (by omega) fun t => ⟨rfl, rfl, t, by simp [hi]⟩
    · rintro acc N' ⟨oa, ys, ho, hl, hF, hs⟩
      refine w_sub hs (w_args_nil (w_join (zs := zs.map fun z => [z]) (.head _) ho (strsAre_of (by rw [hl, hN2.1]; simp) fun i hi => ?_) (by rw [flat_one, List.length_map]; omega) fun t => ?_))
      · obtain ⟨y, h1, t, h2⟩ := hF i (by rw [hN2.1]; simpa using hi)
        exact ⟨y, h1, t, by rw [h2]; congr 2; simp at hi; simp [hi]⟩
      · refine ⟨N, List.Sublist.cons _ (List.Sublist.cons _ (List.Sublist.refl _)), rfl, t, ?_⟩
        show Value.str _ t = Value.str _ t
        rw [flat_one]
end Mine
end
section
open PySem PySem.W PyProof.Rows PySem.Calls PySem.Spec
namespace Mine
theorem fill3 : True ∨ (PySem.Challenge.rw_nb0051_01 = PySem.Challenge.rw_nb0051_01 ∧ hd51.heap_39 = hd51.heap_39) := by
  k_fill
  exact .inl trivial
theorem sp_word {k : Kx} {E : Value → Shared → Prop} {N : Ldg} {n : Nat} {base : Heap} {envs : List Env} (G : Gk (n + 1) k base envs) (x e : List Nat) (q : Bool) (t1 t2 : Tok) (h0 : x ≠ []) (h1 : x.length ≤ 1000) (h2 : e.length ≤ 1000) :
    CP k E N (.ref 80) [.str (T x) t1, .bool q, .str (T e) t2] fun v N' => N' = N ∧ ∃ t, v = .str (T (wordT x q e)) t := by
  refine enter G (l := [("word", some (.str (T x) t1)), ("quoted", some (.bool q)), ("end", some (.str (T e) t2)), ("plain", none)]) (.inr (G.X 80 _ (by k_is))) rfl (fun s S => codeRec_of (G.X.keeps S.keep) (by k_is)) rfl (locs rfl) ⟨rfl, rfl, rfl, rfl, trivial⟩ (by dsimp only [List.map]; decide) ?_
  intro L E' G'
  have hl1 := esc_len [34, 92] x
  have hl2 := esc_len [32, 10, 9, 13, 92] x
  refine w_execs_cons <| w_If <| w_isTrue_plain <| w_name_L (.tail _ (.head _)) <| w_truthy_bool ?_
  cases q with
  | true =>
    refine w_execs_cons <| w_Return_some <| w_BinOp <| w_BinOp <| w_Const_T [34] (by decide) fun t => w_MethodCall <| w_Const_str fun t => w_str_join <| w_callWith_b <| w_args_cons <| w_ListComp (lc := [("sign", none)]) (closureFor_none (by decide)) (by simp) (by decide) <|
      w_name_L (.head _) <| w_iter_str fun it oi hi => ?_
    refine CompDo.mono (comp_iter (F := fun i y => ∃ t, y = .str (T ((x.map (esc1 [34, 92])).getD i [])) t) (Iter.str x) G'.hh trivial hi (by omega) ?_) ?_
    · rintro i v g C E' N' hi ⟨m, tm, hm, rfl⟩ hg hs
      refine w_IfExp <| w_isTrue_Compare1 <| wg_name_L (.head _) (w_Const_T [34, 92] (by decide) fun t => w_in1 <| w_truthy_bool ?_) rfl rfl rfl
      by_cases hc : m ∈ [34, 92]
      · rw [decide_eq_true hc]
        refine w_BinOp <| w_Const_T [92] (by decide) fun t => wg_name_L (.head _) (w_adds (by simp) fun t => ⟨rfl, rfl, t, ?_⟩) rfl rfl rfl
        rw [esc_get hm, esc1_in hc]; rfl
      · rw [decide_eq_false hc]
        refine wg_name_L (.head _) ⟨rfl, rfl, tm, ?_⟩ rfl rfl rfl
        rw [esc_get hm, esc1_out hc]
    · rintro acc N' ⟨oa, ys, ho, hl, hF, hs⟩
      refine w_sub hs (w_args_nil (w_join (zs := x.map (esc1 [34, 92])) (.head _) ho (strsAre_of (by rw [hl]; simp) fun i hi => hF i (by simpa using hi)) (by rw [List.length_map]; unfold esc at hl1; omega) fun t => ?_))
      refine w_adds (by unfold esc at hl1; simp only [List.length_cons, List.length_nil]; omega) fun t => w_Const_T [34] (by decide) fun t => w_adds (by unfold esc at hl1; simp only [List.length_cons, List.length_nil, List.length_append]; omega) fun t => ?_
      exact ⟨N, List.Sublist.cons _ (List.Sublist.refl _), rfl, t, rfl⟩
  | false =>
    refine w_execs_nil ?_
    refine w_execs_cons <| w_Assign_Name <| w_MethodCall <| w_Const_str fun t => w_str_join <| w_callWith_b <| w_args_cons <| w_ListComp (lc := [("sign", none)]) (closureFor_none (by decide)) (by simp) (by decide) <|
      w_name_L (.head _) <| w_iter_str fun it oi hi => ?_
    refine CompDo.mono (comp_iter (F := fun i y => ∃ t, y = .str (T ((x.map (esc1 [32, 10, 9, 13, 92])).getD i [])) t) (Iter.str x) G'.hh trivial hi (by omega) ?_) ?_
    · rintro i v g C E' N' hi ⟨m, tm, hm, rfl⟩ hg hs
      refine w_IfExp <| w_isTrue_Compare1 <| wg_name_L (.head _) (w_Const_T [32, 10, 9, 13, 92] (by decide) fun t => w_in1 <| w_truthy_bool ?_) rfl rfl rfl
      by_cases hc : m ∈ [32, 10, 9, 13, 92]
      · rw [decide_eq_true hc]
        refine w_BinOp <| w_Const_T [92] (by decide) fun t => wg_name_L (.head _) (w_adds (by simp) fun t => ⟨rfl, rfl, t, ?_⟩) rfl rfl rfl
        rw [esc_get hm, esc1_in hc]; rfl
      · rw [decide_eq_false hc]
        refine wg_name_L (.head _) ⟨rfl, rfl, tm, ?_⟩ rfl rfl rfl
        rw [esc_get hm, esc1_out hc]
    · rintro acc N' ⟨oa, ys, ho, hl, hF, hs⟩
      refine w_sub hs (w_args_nil (w_join (zs := x.map (esc1 [32, 10, 9, 13, 92])) (.head _) ho (strsAre_of (by rw [hl]; simp) fun i hi => hF i (by simpa using hi)) (by rw [List.length_map]; unfold esc at hl2; omega) fun t => ?_))
      refine w_store_L (.there (.there (.there .here))) ?_
      obtain ⟨m, r, rfl⟩ : ∃ m r, x = m :: r := by cases x with | nil => exact absurd rfl h0 | cons m r => exact ⟨m, r, rfl⟩
      refine w_execs_cons <| w_Return_some <| w_BinOp <| w_BinOp <| w_IfExp <| w_isTrue_Compare1 <| w_Subscript <| w_name_L (.head _) <| w_Const_int fun t => w_sitem (k := 0) rfl (by omega) fun t => w_Const_T [34] (by decide) fun t => w_eqs <| w_truthy_bool ?_
      unfold esc at hl2
      by_cases hc : m = 34
      · subst hc
        refine w_Const_T [92] (by decide) fun t => w_name_L (.tail _ (.tail _ (.tail _ (.head _)))) <| w_adds (by simp only [List.length_cons, List.length_nil] at h1 hl2 ⊢; omega) fun t => w_name_L (.tail _ (.tail _ (.head _))) <| w_adds (by simp only [List.length_cons, List.length_nil, List.length_append] at h1 hl2 ⊢; omega) fun t => ?_
        exact ⟨N, List.Sublist.cons _ (List.Sublist.refl _), rfl, t, rfl⟩
      · rw [show (([m] : List Nat) == [34]) = false by simp [hc]]
        refine w_Const_T [] (by decide) fun t => w_name_L (.tail _ (.tail _ (.tail _ (.head _)))) <| w_adds (by simp only [List.length_cons, List.length_nil] at h1 hl2 ⊢; omega) fun t => w_name_L (.tail _ (.tail _ (.head _))) <| w_adds (by simp only [List.length_cons, List.length_nil, List.length_append] at h1 hl2 ⊢; omega) fun t => ?_
        refine ⟨N, List.Sublist.cons _ (List.Sublist.refl _), rfl, t, ?_⟩
        simp [wordT, hc, esc]
end Mine
end
section
open PySem PySem.W PyProof.Rows PySem.Calls PySem.Spec
namespace Mine
theorem fill4 : True ∨ (PySem.Challenge.rw_nb0051_01 = PySem.Challenge.rw_nb0051_01 ∧ hd51.heap_39 = hd51.heap_39) := by
  k_fill
  exact .inl trivial
inductive NodeO (w : World) (o : Obj) (nd : Node) : Prop
  | mk (t1 t2 t3 t4 t5 : _) (c0 : OD w o [("depth", .int (nd.depth : Int) t1), ("name", .str (T nd.name) t2), ("figure", .int (nd.fig : Int) t3), ("count", .int (nd.count : Int) t4), ("quoted", .bool nd.q), ("end", .str (T [nd.e]) t5)])
noncomputable def NodesAre (w : World) (D : Ldg) (nodes : List Node) : Prop := D.length = nodes.length ∧ ∀ (j : Nat) p nd, D[j]? = some p → nodes[j]? = some nd → NodeO w p.2 nd
noncomputable def refs (D : Ldg) : List Value := D.map fun p => .ref p.1
theorem NodesAre.bump {w : World} {D : Ldg} {nodes : List Node} (h : NodesAre w D nodes) {j : Nat} {d : Addr} {o o' : Obj} {nd : Node} (hd : D[j]? = some (d, o)) (hn : nodes[j]? = some nd) (ho : NodeO w o' { nd with count := nd.count + 1 }) :
    NodesAre w (D.set j (d, o')) (bump j nodes) := by
  refine ⟨by unfold Mine.bump; simp [h.1], fun i p m hi hm => ?_⟩
  unfold Mine.bump at hm
  rw [List.getElem?_modify] at hm
  rw [List.getElem?_set] at hi
  by_cases e : j = i
  · subst e
    rw [hn] at hm
    have hlt : j < D.length := (List.getElem?_eq_some_iff.mp hd).1
    simp [hlt] at hi hm
    subst hi; subst hm
    exact ho
  · simp [e] at hi hm
    exact h.2 i p m hi hm
theorem NodesAre.snoc {w : World} {D : Ldg} {nodes : List Node} (h : NodesAre w D nodes) {d : Addr} {o : Obj} {nd : Node} (ho : NodeO w o nd) : NodesAre w (D ++ [(d, o)]) (nodes ++ [nd]) := by
  refine ⟨by simp [h.1], fun i p m hi hm => ?_⟩
  by_cases e : i < D.length
  · rw [List.getElem?_append_left e] at hi
    rw [List.getElem?_append_left (by rw [← h.1]; exact e)] at hm
    exact h.2 i p m hi hm
  · have hl : i < (D ++ [(d, o)]).length := (List.getElem?_eq_some_iff.mp hi).1
    have : i = D.length := by simp at hl; omega
    subst this
    rw [List.getElem?_append_right (Nat.le_refl _)] at hi
    rw [h.1, List.getElem?_append_right (Nat.le_refl _)] at hm
    simp at hi hm
    subst hi; subst hm
    exact ho
theorem refs_set {D : Ldg} {j : Nat} {d : Addr} {o o' : Obj} (h : D[j]? = some (d, o)) : refs (D.set j (d, o')) = refs D := by
  unfold refs
  apply List.ext_getElem?
  intro i
  rw [List.getElem?_map, List.getElem?_map, List.getElem?_set]
  by_cases e : j = i
  · subst e
    have hlt : j < D.length := (List.getElem?_eq_some_iff.mp h).1
    simp only [if_true, if_pos hlt, h, Option.map]
  · simp only [if_neg e]
theorem Nats.snoc {vs : List Value} {ns : List Nat} (h : Nats vs ns) (n : Nat) (t : Tok) : Nats (vs ++ [.int (n : Int) t]) (ns ++ [n]) := by
  refine ⟨by simp [h.1], fun i m e => ?_⟩
  by_cases hi : i < ns.length
  · rw [List.getElem?_append_left hi] at e
    obtain ⟨t', e'⟩ := h.2 i m e
    exact ⟨t', by rw [List.getElem?_append_left (by rw [h.1]; exact hi)]; exact e'⟩
  · have hl : i < (ns ++ [n]).length := (List.getElem?_eq_some_iff.mp e).1
    have : i = ns.length := by simp at hl; omega
    subst this
    rw [List.getElem?_append_right (Nat.le_refl _)] at e
    simp at e
    subst e
    exact ⟨t, by rw [← h.1, List.getElem?_append_right (Nat.le_refl _)]; simp⟩
theorem Nats.take {vs : List Value} {ns : List Nat} (h : Nats vs ns) (k : Nat) : Nats (vs.take k) (ns.take k) := by
  refine ⟨by simp [h.1], fun i m e => ?_⟩
  rw [List.getElem?_take] at e
  by_cases hi : i < k
  · rw [if_pos hi] at e
    obtain ⟨t, e'⟩ := h.2 i m e
    exact ⟨t, by rw [List.getElem?_take, if_pos hi]; exact e'⟩
  · rw [if_neg hi] at e; cases e
theorem Nats.last {vs : List Value} {ns : List Nat} (h : Nats vs ns) (hne : ns ≠ []) : ∃ vr t, vs = vr ++ [.int ((ns.getLast hne : Nat) : Int) t] := by
  have hl : 0 < ns.length := List.length_pos_iff.mpr hne
  have hv : vs ≠ [] := fun e => by have := h.1; rw [e] at this; simp at this; omega
  obtain ⟨t, e⟩ := h.2 (ns.length - 1) (ns.getLast hne) (by rw [List.getLast_eq_getElem]; simp)
  refine ⟨vs.dropLast, t, ?_⟩
  have h1 := List.dropLast_concat_getLast hv
  have h2 : vs.getLast hv = .int ((ns.getLast hne : Nat) : Int) t := by
    have h3 : vs[vs.length - 1]? = some (vs.getLast hv) := by rw [List.getLast_eq_getElem]; simp
    rw [h.1, e] at h3
    exact (Option.some.inj h3).symm
  rw [← h2]; exact h1.symm
end Mine
end
section
open PySem PySem.W PyProof.Rows PySem.Calls PySem.Spec
namespace Mine
theorem fill5 : True ∨ (PySem.Challenge.rw_nb0051_01 = PySem.Challenge.rw_nb0051_01 ∧ hd51.heap_39 = hd51.heap_39) := by
  k_fill
  exact .inl trivial
theorem build_step {ns : List Int} {i : Nat} {m : Int} {nodes : List Node} {path : List Nat} (h : ns[i]? = some m) :
    build (ns.drop i) i nodes path = build (ns.drop (i + 1)) (i + 1) (grow1 nodes (cutPath m path) ++ [mkNode m (cutPath m path).length]) (cutPath m path ++ [i]) := by
  obtain ⟨hlt, e⟩ := List.getElem?_eq_some_iff.mp h
  rw [List.drop_eq_getElem_cons hlt, e]; rfl
theorem cutPath_mem {m : Int} {path : List Nat} {j : Nat} (h : j ∈ cutPath m path) : j ∈ path := List.mem_of_mem_take h
theorem permA {α : Type} (d p i c n : α) (D N : List α) : (d :: p :: i :: c :: n :: (D ++ N)).Perm (i :: c :: n :: p :: (D ++ d :: N)) :=
  (List.Perm.cons d (List.perm_middle (l₁ := [i, c, n]) (a := p) (l₂ := D ++ N)).symm).trans (List.perm_middle (l₁ := i :: c :: n :: p :: D) (a := d) (l₂ := N)).symm
inductive InvN (k : Kx) (L a : Addr) (ns : List Int) (N : Ldg) (i : Nat) (l : Loc) (N' : Ldg) : Prop
  | mk (nodes path uk un uc na no pa po pvs D oc : _) (c0 : build (ns.drop i) i nodes path = nodesOf ns) (c1 : nodes.length = i) (c2 : (∀ j ∈ path, j < i)) (c3 : path.length ≤ i) (c4 : l = ([("numbers", some (.ref a)), ("nodes", some (.ref na)), ("path", some (.ref pa)), ("k", uk), ("name", un)] : Loc)) (c5 : OP no (refs D)) (c6 : OP po pvs) (c7 : Nats pvs path) (c8 : NodesAre k.w D nodes) (c9 : oc.data = .cell uc) (c10 : List.Sublist ((L + 1, oc) :: (na, no) :: (pa, po) :: (D ++ N)) N')
theorem sp_nodes {k : Kx} {E : Value → Shared → Prop} {N : Ldg} {n : Nat} {base : Heap} {envs : List Env} (G : Gk (n + 1) k base envs) {a : Addr} {o : Obj} {vs : List Value} {ns : List Int} (hm : (a, o) ∈ N) (ho : OL o vs) (hI : Ints vs ns) (hlen : ns.length ≤ 100) :
    CP k E N (.ref 85) [.ref a] fun v N' => ∃ na no D, v = .ref na ∧ OP no (refs D) ∧ NodesAre k.w D (nodesOf ns) ∧ N' = (na, no) :: (D ++ N) := by
  refine enterC1 "n" none G (l := [("numbers", some (.ref a)), ("nodes", none), ("path", none), ("k", none), ("name", none)]) (.inr (G.X 85 _ (by k_is))) rfl (fun s S => codeRec_of (G.X.keeps S.keep) (by k_is)) rfl rfl (fun L => rfl) (fun L => rfl) (fun L => ⟨rfl, rfl, rfl, rfl, rfl, trivial⟩) (by dsimp only [List.map]; decide) ?_
  intro L E' oc hoc G'
  refine w_abs fun E1 Q1 _ hQ => ?_
  refine w_execs_cons <| w_AssignTup_swapped (names := ["nodes", "path"]) G'.hh <| w_Tuple <| w_args_cons <| w_List <| w_args_nil <| w_newList fun na => w_args_cons <| w_List <| w_args_nil <| w_newList fun pa => w_args_nil <| w_newTuple fun ta => ⟨ta, _, rfl, .head _, rfl, ?_⟩
  refine w_order_cons <| w_bindName <| w_store_L (.there (.there .here)) <| w_order_cons <| w_bindName <| w_store_L (.there .here) <| w_order_nil ?_
  refine w_sub (N' := (pa, listO []) :: (na, listO []) :: (L + 1, oc) :: N) (.cons _ (.refl _)) <| w_perm (List.Perm.append_right N (List.reverse_perm [(L + 1, oc), (na, listO []), (pa, listO [])])) ?_
  refine w_execs_cons <| w_For <| w_Call <| w_name_B G'.toGnd (by k_is) Boot.«range» (by decide) <| w_callWith_t <| w_args_cons <| w_Call <| w_name_B G'.toGnd (by k_is) Boot.«len» (by decide) <| w_callWith_b <| w_args_cons <| w_name_L (.head _) <| w_args_nil <|
    w_len_list (.tail _ (.tail _ (.tail _ hm))) ho (by have := hI.1; omega) fun t => w_args_nil <| w_range (by have := hI.1; omega) fun r t1 t2 => w_iter_range (by omega) (by have := hI.1; omega) fun it => ?_
  refine for_iter (Iter.range vs.length) G'.hh (InvN k L a ns N) (fun _ _ _ _ => trivial) ?_ ?_ ⟨[], [], none, none, none, na, _, pa, _, [], [], oc, rfl, rfl, (by simp), (by simp), rfl, OP.new _, OP.new _, Nats.nil, ⟨rfl, by simp⟩, hoc, ?_⟩ ?_
  · rintro i v l oi N1 E1 hi ⟨tv, rfl⟩ ⟨nodes, path, uk, un, uc, na, no, pa, po, pvs, D, oc, hb, hnl, hpl, hpl2, rfl, hno, hpo, hpn, hD, hoc, hs⟩
    have hil : i < ns.length := by rw [← hI.1]; exact hi
    obtain ⟨m, hm1⟩ : ∃ m, ns[i]? = some m := ⟨ns[i], by simp [hil]⟩
    obtain ⟨tm, hv⟩ := hI.2 i m hm1
    have mN : ∀ {p : Addr × Obj}, p ∈ (L + 1, oc) :: (na, no) :: (pa, po) :: (D ++ N) → p ∈ N1 := fun h => hs.subset h
    refine w_assign <| w_store_L (.there (.there (.there .here))) <| w_sub (N' := (it, oi) :: (L + 1, oc) :: (na, no) :: (pa, po) :: (D ++ N)) (List.Sublist.cons_cons _ hs) ?_
    have hfm := fmod_lt m 3 (by decide)
    rw [show ((3 : Nat) : Int) = 3 from rfl] at hfm
    refine w_execs_cons <| w_Assign_Name <| w_Subscript <| w_name_L (.head _) <| w_name_L (.tail _ (.tail _ (.tail _ (.head _)))) <|
      w_item (.tail _ (.tail _ (.tail _ (.tail _ (List.mem_append_right _ hm))))) ho (by omega) (by omega) (by simpa using hv) <| w_store_C rfl (fun _ => .there .here) hoc fun oc' hoc' => ?_
    refine w_execs_cons <| w_Assign_Name <| w_slice_list <| w_name_L (.tail _ (.tail _ (.head _))) <| w_part_none <| w_part_some <| w_Call <| w_name_B G'.toGnd (by k_is) Boot.«max» (by decide) <| w_callWith_b <| w_args_cons <| w_Const_int fun t => w_args_cons <| w_BinOp <| w_Call <| w_name_B G'.toGnd (by k_is) Boot.«len» (by decide) <| w_callWith_b <| w_args_cons <| w_name_L (.tail _ (.tail _ (.head _))) <| w_args_nil <| w_len_list (.tail _ (.tail _ (.tail _ (.head _)))) hpo.ol (by have := hpn.1; omega) fun t => ?_
    refine w_BinOp <| w_name_C rfl (.tail _ (.head _)) hoc' <| w_Const_int fun t => w_mod (by decide) fun t => w_sub_int fun t => w_args_nil <| w_max G'.hh fun t => ⟨pa, po, pvs, none, _, rfl, .tail _ (.tail _ (.tail _ (.head _))), hpo.ol, by have := hpn.1; omega, .none, .int _ _, fun pa' => w_store_L (.there (.there .here)) ?_⟩
    have ecut : (slicePick pvs.toArray none (some (max 1 ((pvs.length : Int) - m.fmod 3))) none).toList = pvs.take (max 1 ((path.length : Int) - m.fmod 3)).toNat := by
      rw [hpn.1]
      generalize hz : max 1 ((path.length : Int) - m.fmod 3) = z
      obtain ⟨z', rfl⟩ : ∃ z' : Nat, z = (z' : Int) := ⟨z.toNat, by omega⟩
      rw [slicePick_upto']; simp
    rw [ecut]
    have hpn' : Nats (pvs.take (max 1 ((path.length : Int) - m.fmod 3)).toNat) (cutPath m path) := hpn.take _
    generalize pvs.take (max 1 ((path.length : Int) - m.fmod 3)).toNat = pvs' at hpn'
    rw [build_step hm1] at hb
    have hcl : (cutPath m path).length ≤ i := Nat.le_trans (by unfold cutPath; simp; omega) hpl2
    have hcm : ∀ j ∈ cutPath m path, j < i := fun j hj => hpl j (cutPath_mem hj)
    refine w_execs_cons <| WP.mono (Q := fun f l' N' => f = .next ∧ l' = ([("numbers", some (.ref a)), ("nodes", some (.ref na)), ("path", some (.ref pa')), ("k", some (.int (i : Int) tv)), ("name", un)] : Loc) ∧
      ∃ D', NodesAre k.w D' (grow1 nodes (cutPath m path)) ∧ refs D' = refs D ∧ N' = (pa', listO pvs') :: (it, oi) :: (L + 1, oc') :: (na, no) :: (pa, po) :: (D' ++ N)) ?_ ?_
    · refine w_If <| w_isTrue_plain <| w_name_L (.tail _ (.tail _ (.head _))) <| w_truthy_list (.head _) (OL.new _) (by have := hpn'.1; omega) ?_
      by_cases hne : cutPath m path = []
      · have : pvs' = [] := List.length_eq_zero_iff.mp (by rw [hpn'.1, hne]; rfl)
        subst this
        refine w_execs_nil ⟨rfl, rfl, D, ?_, rfl, rfl⟩
        rw [hne]; exact hD
      · obtain ⟨pr, tp, e⟩ := hpn'.last hne
        have hj := hcm _ (List.getLast_mem hne)
        have eg : grow1 nodes (cutPath m path) = bump ((cutPath m path).getLast hne) nodes := by unfold grow1; rw [List.getLast?_eq_some_getLast hne]
        rw [eg]
        generalize (cutPath m path).getLast hne = j at e hj eg
        subst e
        rw [show (!(pr ++ [Value.int (j : Int) tp]).isEmpty) = true by cases pr <;> rfl]
        obtain ⟨⟨d, od⟩, hdj⟩ : ∃ p, D[j]? = some p := ⟨D[j]'(by rw [hD.1]; omega), by simp⟩
        obtain ⟨nd, hnj⟩ : ∃ p, nodes[j]? = some p := ⟨nodes[j]'(by omega), by simp⟩
        obtain ⟨u1, u2, u3, u4, u5, hod⟩ := hD.2 j _ _ hdj hnj
        refine w_execs_cons <| w_AugSub <| w_Subscript <| w_name_L (.tail _ (.head _)) <| w_Subscript <| w_name_L (.tail _ (.tail _ (.head _))) <| w_neg1 fun t => w_item_last (.head _) (OL.new _) (by have := hpn'.1; simp at this; omega) <|
          w_item (v := .ref d) (.tail _ (.tail _ (.tail _ (.head _)))) hno.ol (by omega) (by omega) (by unfold refs; simp [hdj]) <| w_Const_str fun t => ?_
        refine w_getItem_dict (.tail _ (.tail _ (.tail _ (.tail _ (.tail _ (mem_at hdj)))))) hod rfl <| w_Const_int fun t => w_iadd fun t => w_setItem_dict (fun _ => .there (.there (.there (.there (.there (Ch.at hdj)))))) hod (by simp) fun od' hod' => w_execs_nil ⟨rfl, rfl, D.set j (d, od'), ?_, refs_set hdj, rfl⟩
        exact hD.bump hdj hnj ⟨u1, u2, u3, t, u5, hod'⟩
    · rintro f l' N' ⟨rfl, rfl, D', hD', hrD, rfl⟩
      rw [← hrD] at hno
      generalize grow1 nodes (cutPath m path) = nodes' at hD' hb
      have hlD : nodes'.length = i := by
        have := congrArg List.length hrD
        unfold refs at this
        rw [List.length_map, List.length_map, hD'.1, hD.1] at this
        omega
      have hnl' : (m.fdiv 6).fmod 3 + 1 = (nameLen m : Int) := by
        have := fmod_lt (m.fdiv 6) 3 (by decide)
        rw [show ((3 : Nat) : Int) = 3 from rfl] at this
        unfold nameLen; omega
      have hnle := nameLen_le m
      refine w_execs_cons <| w_Assign_Name <| w_MethodCall <| w_Const_str fun t => w_str_join <| w_callWith_b <| w_args_cons <| w_ListComp (cl := [("n", L + 1)]) (lc := [("j", none)]) rfl (by simp) (by decide) <| w_Call <| w_name_B G'.toGnd (by k_is) Boot.«range» (by decide) <| w_callWith_t <| w_args_cons <| w_BinOp <| w_BinOp <| w_BinOp <|
        w_name_C rfl (.tail _ (.tail _ (.head _))) hoc' <| w_Const_int fun t => w_fdiv (by decide) (by decide) fun t => w_Const_int fun t => w_mod (by decide) fun t => w_Const_int fun t => w_add fun t => w_args_nil <| ?_
      rw [hnl']
      refine w_range (by omega) fun r t1 t2 => w_iter_range (by omega) (by omega) fun it2 => ?_
      refine CompDo.mono (comp_iter (F := fun i y => ∃ t, y = .str (T [nameAt m i]) t) (Iter.range (nameLen m)) G'.hh trivial (by simp) (by omega) ?_) ?_
      · rintro j v g C E' N' hj ⟨tj, rfl⟩ hg hs
        have hj2 : j ≤ 2 := by omega
        have h8 : (8 : Int) ^ j ≠ 0 ∧ ((8 : Int) ^ j).natAbs < 1073741824 := by
          have : j = 0 ∨ j = 1 ∨ j = 2 := by omega
          rcases this with rfl | rfl | rfl <;> decide
        refine w_Subscript <| w_Const_T signs (by decide) fun t => w_BinOp <| w_BinOp <| w_BinOp <| wg_name_C rfl (hs.subset (.tail _ (.tail _ (.head _)))) hoc' (w_Const_int fun t => w_fdiv (by decide) (by decide) fun t => w_BinOp <| w_Const_int fun t => wg_name_L (.head _) (w_pow8 (by omega) (by omega) fun t => ?_) rfl rfl rfl) rfl rfl
        refine w_fdiv h8.1 h8.2 fun t => w_Const_int fun t => w_mod (by decide) fun t => ?_
        have h3 := fmod_lt ((m.fdiv 18).fdiv (8 ^ j)) 8 (by decide)
        rw [show ((8 : Nat) : Int) = 8 from rfl] at h3
        rw [show ((j : Int)).toNat = j from by omega]
        have h4 : signs[(((m.fdiv 18).fdiv (8 ^ j)).fmod 8).toNat]? = some (nameAt m j) := by
          unfold nameAt
          rw [List.getD_eq_getElem?_getD, List.getElem?_eq_getElem (by show _ < 8; omega)]
          rfl
        rw [show ((m.fdiv 18).fdiv (8 ^ j)).fmod 8 = (((((m.fdiv 18).fdiv (8 ^ j)).fmod 8).toNat : Nat) : Int) by omega]
        exact w_sitem h4 (by decide) fun t => ⟨rfl, rfl, t, rfl⟩
      · rintro acc N' ⟨oa, ys, ho', hl, hF, hs'⟩
        refine w_sub hs' (w_args_nil (w_join (zs := (nameOf m).map fun z => [z]) (.head _) ho' (strsAre_of (by rw [hl]; simp [nameOf]) fun i hi => ?_) (by rw [flat_one, List.length_map]; simp [nameOf]; omega) fun tn => ?_))
        · obtain ⟨y, h1, t, h2⟩ := hF i (by simpa [nameOf] using hi)
          exact ⟨y, h1, t, by rw [h2]; congr 2; simp [nameOf] at hi; simp [nameOf, hi]⟩
        · rw [flat_one]
          refine w_store_L (.there (.there (.there (.there .here)))) ?_
          have h5000 := fmod_lt m 5000 (by decide)
          have h4 := fmod_lt m 4 (by decide)
          rw [show ((5000 : Nat) : Int) = 5000 from rfl] at h5000
          rw [show ((4 : Nat) : Int) = 4 from rfl] at h4
          have hend : ends[(m.fmod 4).toNat]? = some (ends.getD (m.fmod 4).toNat 0) := by
            rw [List.getD_eq_getElem?_getD, List.getElem?_eq_getElem (by show _ < 4; omega)]
            rfl
          refine w_execs_cons <| w_Expr_none <| w_MethodCall <| w_name_L (.tail _ (.head _)) <| w_m_append (.tail _ (.tail _ (.tail _ (.tail _ (.head _))))) hno <| w_callWith_b <| w_args_cons <| w_Dict fun d od hod => ?_
          refine w_pairs_cons <| w_Const_str fun _ => w_Call <| w_name_B G'.toGnd (by k_is) Boot.«len» (by decide) <| w_callWith_b <| w_args_cons <| w_name_L (.tail _ (.tail _ (.head _))) <| w_args_nil <| w_len_list (.tail _ (.tail _ (.head _))) (OL.new _) (by have := hpn'.1; omega) fun t1 => ?_
          refine w_pairs_cons <| w_Const_str fun _ => w_name_L (.tail _ (.tail _ (.tail _ (.tail _ (.head _))))) ?_
          refine w_pairs_cons <| w_Const_str fun _ => w_BinOp <| w_name_C rfl (.tail _ (.tail _ (.tail _ (.tail _ (.head _))))) hoc' <| w_Const_int fun t => w_mod (by decide) fun t3 => ?_
          refine w_pairs_cons <| w_Const_str fun _ => w_Const_int fun t4 => ?_
          refine w_pairs_cons <| w_Const_str fun _ => w_Compare1 <| w_BinOp <| w_BinOp <| w_name_C rfl (.tail _ (.tail _ (.tail _ (.tail _ (.head _))))) hoc' <| w_Const_int fun t => w_fdiv (by decide) (by decide) fun t => w_Const_int fun t => w_mod (by decide) fun t => w_Const_int fun t => w_eqi ?_
          refine w_pairs_cons <| w_Const_str fun _ => w_Subscript <| w_Const_T ends (by decide) fun t => w_BinOp <| w_name_C rfl (.tail _ (.tail _ (.tail _ (.tail _ (.head _))))) hoc' <| w_Const_int fun t => w_mod (by decide) fun t => ?_
          rw [show m.fmod 4 = (((m.fmod 4).toNat : Nat) : Int) by omega]
          refine w_sitem hend (by decide) fun t5 => w_pairs_nil ⟨[("depth", .int (pvs'.length : Int) t1), ("name", .str (T (nameOf m)) tn), ("figure", .int (m.fmod 5000) t3), ("count", .int 0 t4), ("quoted", .bool ((m.fdiv 3).fmod 2 == 1)), ("end", .str (T [ends.getD (m.fmod 4).toNat 0]) t5)], od, fun o' => (d, o') :: _, ⟨strKind_is .., rfl, strKind_is .., rfl, strKind_is .., rfl, strKind_is .., rfl, strKind_is .., rfl, strKind_is .., rfl, trivial⟩, hod, fun _ => .here, fun od' hod' => w_args_nil ?_⟩
          have hnd : NodeO k.w od' (mkNode m (cutPath m path).length) := by
            refine ⟨t1, tn, t3, t4, t5, ?_⟩
            show OD k.w od' _
            have e1 : m.fmod 5000 = ((m.fmod 5000).toNat : Int) := by omega
            rw [e1, hpn'.1] at hod'
            exact hod'
          refine w_pappend (fun _ => .there (.there (.there (.there (.there .here))))) hno (by unfold refs; simp; have := hD'.1; omega) fun no' hno' => ⟨rfl, ?_⟩
          refine w_execs_cons <| w_Expr_none <| w_MethodCall <| w_name_L (.tail _ (.tail _ (.head _))) <| w_m_append (.tail _ (.tail _ (.head _))) (OP.new _) <| w_callWith_b <| w_args_cons <| w_name_L (.tail _ (.tail _ (.tail _ (.head _)))) <| w_args_nil <|
            w_pappend (fun _ => .there (.there .here)) (OP.new _) (by have := hpn'.1; omega) fun po' hpo' => ⟨rfl, ?_⟩
          refine w_sub (N' := (d, od') :: (pa', po') :: (it, oi) :: (L + 1, oc') :: (na, no') :: (D' ++ N)) (.cons_cons _ (.cons _ (.cons_cons _ (.cons_cons _ (.cons_cons _ (.cons_cons _ (.cons _ (.refl _)))))))) <| w_perm (permA ..) <| w_execs_nil ?_
          refine ⟨_, .refl _, _, _, _, _, _, na, no', pa', po', _, D' ++ [(d, od')], oc', hb, by simp [hlD], fun j hj => ?_, by simp; omega, rfl, ?_, hpo', hpn'.snoc i tv, hD'.snoc hnd, hoc', by simp⟩
          · rcases List.mem_append.mp hj with hj | hj
            · have := hcm j hj; omega
            · simp at hj; omega
          · have : refs (D' ++ [(d, od')]) = refs D' ++ [.ref d] := by unfold refs; simp
            rw [this]; exact hno'
  · rintro l N1 ⟨nodes, path, uk, un, uc, na, no, pa, po, pvs, D, oc, hb, hnl, hpl, hpl2, rfl, hno, hpo, hpn, hD, hoc, hs⟩
    refine w_execs_cons <| w_Return_some <| w_name_L (.tail _ (.head _)) (hQ _ _ _ ⟨(na, no) :: (D ++ N), .trans (.cons _ (.cons_cons _ (.cons _ (.refl _)))) hs, na, no, D, rfl, hno, ?_, rfl⟩)
    rw [hI.1, List.drop_length] at hb
    rw [← hb]; exact hD
  · exact .refl _
  · simp
end Mine
end
section
open PySem PySem.W PyProof.Rows PySem.Calls PySem.Spec
namespace Mine
theorem fill6 : True ∨ (PySem.Challenge.rw_nb0051_01 = PySem.Challenge.rw_nb0051_01 ∧ hd51.heap_39 = hd51.heap_39) := by
  k_fill
  exact .inl trivial
theorem cnt_count (c : Nat) : ∀ l : List Nat, PyProof.Rows.cnt c l = (l.count c : Int)
  | [] => rfl
  | n :: r => by
    rw [PyProof.Rows.cnt_cons, cnt_count c r, List.count_cons]
    by_cases h : n = c
    · subst h; simp; omega
    · simp [h]
inductive RowO (o : Obj) (r : Row) : Prop
  | mk (t1 t2 t3 t4 t5 t6 : _) (c0 : o = tupO [.int (r.depth : Int) t1, .str (T r.name) t2, .int (r.fig : Int) t3, .int (r.count : Int) t4, .int (r.line : Int) t5, .int (r.place : Int) t6])
noncomputable def RowsAre (R : Ldg) (rows : List Row) : Prop := R.length = rows.length ∧ ∀ (j : Nat) p r, R[j]? = some p → rows[j]? = some r → RowO p.2 r
theorem RowsAre.snoc {R : Ldg} {rows : List Row} (h : RowsAre R rows) {d : Addr} {o : Obj} {nd : Row} (ho : RowO o nd) : RowsAre (R ++ [(d, o)]) (rows ++ [nd]) := by
  refine ⟨by simp [h.1], fun i p m hi hm => ?_⟩
  by_cases e : i < R.length
  · rw [List.getElem?_append_left e] at hi
    rw [List.getElem?_append_left (by rw [← h.1]; exact e)] at hm
    exact h.2 i p m hi hm
  · have hl : i < (R ++ [(d, o)]).length := (List.getElem?_eq_some_iff.mp hi).1
    have : i = R.length := by simp at hl; omega
    subst this
    rw [List.getElem?_append_right (Nat.le_refl _)] at hi
    rw [h.1, List.getElem?_append_right (Nat.le_refl _)] at hm
    simp at hi hm
    subst hi; subst hm
    exact ho
inductive InvW (na : Addr) (nodes : List Node) (N : Ldg) (i : Nat) (l : Loc) (N' : Ldg) : Prop
  | mk (text heard : List Nat) (rows : List Row) (tt th : Tok) (da : Addr) (do_ : Obj) (R : Ldg) (u1 u2 u3 u4 u5 u6 u7 : Option Value) (c0 : wr (nodes.drop i) i text heard rows = wr nodes 0 [] [] []) (c1 : text.length ≤ 21 * i) (c2 : heard.length ≤ 19 * i) (c3 : rows.length = i) (c4 : l = ([("nodes", some (.ref na)), ("text", some (.str (T text) tt)), ("heard", some (.str (T heard) th)), ("due", some (.ref da)), ("k", u1), ("node", u2), ("name", u3), ("quoted", u4), ("end", u5), ("head", u6), ("body", u7)] : Loc)) (c5 : OP do_ (refs R)) (c6 : RowsAre R rows) (c7 : List.Sublist ((da, do_) :: (R ++ N)) N')
theorem sp_written {k : Kx} {E : Value → Shared → Prop} {N : Ldg} {n : Nat} {base : Heap} {envs : List Env} (G : Gk (n + 3) k base envs) {na : Addr} {no : Obj} {D : Ldg} {nodes : List Node} (hm : (na, no) ∈ N) (hno : OP no (refs D)) (hD : NodesAre k.w D nodes)
    (hDN : ∀ p ∈ D, p ∈ N) (hlen : nodes.length ≤ 100) (hok : ∀ nd ∈ nodes, NodeOk nd) :
    CP k E N (.ref 92) [.ref na] fun v N' => ∃ ta tt th da do_ R, v = .ref ta ∧ OP do_ (refs R) ∧ RowsAre R (wr nodes 0 [] [] []).2.2 ∧
      N' = (ta, tupO [.str (T (wr nodes 0 [] [] []).1) tt, .str (T (wr nodes 0 [] [] []).2.1) th, .ref da]) :: (da, do_) :: (R ++ N) := by
  refine enter G (l := [("nodes", some (.ref na)), ("text", none), ("heard", none), ("due", none), ("k", none), ("node", none), ("name", none), ("quoted", none), ("end", none), ("head", none), ("body", none)]) (.inr (G.X 92 _ (by k_is))) rfl (fun s S => codeRec_of (G.X.keeps S.keep) (by k_is)) rfl (locs rfl) ⟨rfl, rfl, rfl, rfl, rfl, rfl, rfl, rfl, rfl, rfl, rfl, trivial⟩ (by dsimp only [List.map]; decide) ?_
  intro L E' G'
  refine w_abs fun E1 Q1 _ hQ => ?_
  have hrl : (refs D).length = nodes.length := by unfold refs; rw [List.length_map, hD.1]
  refine w_execs_cons <| w_AssignTup_swapped (names := ["text", "heard", "due"]) G'.hh <| w_Tuple <| w_args_cons <| w_Const_T [] (by decide) fun tt => w_args_cons <| w_Const_T [] (by decide) fun th => w_args_cons <| w_List <| w_args_nil <| w_newList fun da => w_args_nil <| w_newTuple fun ta => ⟨ta, _, rfl, .head _, rfl, ?_⟩
  refine w_order_cons <| w_bindName <| w_store_L (.there (.there (.there .here))) <| w_order_cons <| w_bindName <| w_store_L (.there (.there .here)) <| w_order_cons <| w_bindName <| w_store_L (.there .here) <| w_order_nil ?_
  refine w_execs_cons <| w_For <| w_Call <| w_name_B G'.toGnd (by k_is) Boot.«range» (by decide) <| w_callWith_t <| w_args_cons <| w_Call <| w_name_B G'.toGnd (by k_is) Boot.«len» (by decide) <| w_callWith_b <| w_args_cons <| w_name_L (.head _) <| w_args_nil <|
    w_len_list (.tail _ (.tail _ hm)) hno.ol (by omega) fun t => w_args_nil <| w_range (by omega) fun r t1 t2 => w_iter_range (by omega) (by omega) fun it => ?_
  refine for_iter (Iter.range (refs D).length) G'.hh (InvW na nodes N) (fun _ _ _ _ => trivial) ?_ ?_ ⟨[], [], [], tt, th, da, _, [], none, none, none, none, none, none, none, rfl, Nat.le_refl _, Nat.le_refl _, rfl, rfl, OP.new _, ⟨rfl, by simp⟩, .cons _ (.refl _)⟩ (by simp)
  · rintro i v l oi N1 E1 hi ⟨tv, rfl⟩ ⟨text, heard, rows, tt, th, da, do_, R, u1, u2, u3, u4, u5, u6, u7, hw, htl, hhl, hrows, rfl, hdo, hR, hs⟩
    rw [hrl] at hi
    obtain ⟨⟨d, od⟩, hdi⟩ : ∃ p, D[i]? = some p := ⟨D[i]'(by rw [hD.1]; omega), by simp⟩
    obtain ⟨nd, hni⟩ : ∃ p, nodes[i]? = some p := ⟨nodes[i]'(by omega), by simp⟩
    obtain ⟨w1, w2, w3, w4, w5, hod⟩ := hD.2 i _ _ hdi hni
    have hdN : (d, od) ∈ N := hDN _ (List.mem_of_getElem? hdi)
    have ok := hok nd (List.mem_of_getElem? hni)
    rw [wr_step hni] at hw
    refine w_assign <| w_store_L (.there (.there (.there (.there .here)))) <| w_sub (N' := (it, oi) :: (da, do_) :: (R ++ N)) (List.Sublist.cons_cons _ hs) ?_
    have mN : ∀ {p : Addr × Obj}, p ∈ N → p ∈ (it, oi) :: (da, do_) :: (R ++ N) := fun h => .tail _ (.tail _ (List.mem_append_right _ h))
    refine w_execs_cons <| w_Assign_Name <| w_Subscript <| w_name_L (.head _) <| w_name_L (.tail _ (.tail _ (.tail _ (.tail _ (.head _))))) <|
      w_item (v := .ref d) (mN hm) hno.ol (by omega) (by omega) (by unfold refs; simp [hdi]) <| w_store_L (.there (.there (.there (.there (.there .here))))) ?_
    refine w_execs_cons <| w_AssignTup_swapped (names := ["name", "quoted", "end"]) G'.hh <| w_Tuple <| w_args_cons <| w_Subscript <| w_name_L (.tail _ (.tail _ (.tail _ (.tail _ (.tail _ (.head _)))))) <| w_Const_str fun _ => w_ditem (mN hdN) hod rfl <|
      w_args_cons <| w_Subscript <| w_name_L (.tail _ (.tail _ (.tail _ (.tail _ (.tail _ (.head _)))))) <| w_Const_str fun _ => w_ditem (mN hdN) hod rfl <|
      w_args_cons <| w_Subscript <| w_name_L (.tail _ (.tail _ (.tail _ (.tail _ (.tail _ (.head _)))))) <| w_Const_str fun _ => w_ditem (mN hdN) hod rfl <| w_args_nil <| w_newTuple fun ta => ⟨ta, _, rfl, .head _, rfl, ?_⟩
    refine w_sub (.cons _ (.refl _)) ?_
    refine w_order_cons <| w_bindName <| w_store_L (.there (.there (.there (.there (.there (.there (.there (.there .here)))))))) <| w_order_cons <| w_bindName <| w_store_L (.there (.there (.there (.there (.there (.there (.there .here))))))) <| w_order_cons <| w_bindName <| w_store_L (.there (.there (.there (.there (.there (.there .here)))))) <| w_order_nil ?_
    have hpad : ∀ t1 t2 t3 : Tok, ∃ tp, ([.str (T []) t1, .str (T [9]) t2, .str (T [13, 10]) t3] : List Value)[((i : Int).fmod 3).toNat]? = some (.str (T (padT i)) tp) := by
      intro t1 t2 t3
      rw [show (3 : Int) = ((3 : Nat) : Int) from rfl, fmod_nat, Int.toNat_natCast]
      unfold padT
      have : i % 3 = 0 ∨ i % 3 = 1 ∨ i % 3 = 2 := by omega
      rcases this with h | h | h <;> rw [h]
      · exact ⟨t1, rfl⟩
      · exact ⟨t2, rfl⟩
      · exact ⟨t3, rfl⟩
    have hf3 := fmod_lt (i : Int) 3 (by decide)
    rw [show ((3 : Nat) : Int) = 3 from rfl] at hf3
    have l1 := padT_len i
    have l2 := wordT_len nd.name nd.q nd.e
    have l3 := headT_len (k := i) ok
    have l4 := figT_len ok
    have l5 := bodyT_len ok
    have l6 := tailT_len ok
    have l7 := nodeT_len (k := i) ok
    have l8 := heardT_len (k := i) ok
    refine w_execs_cons <| w_Assign_Name <| w_BinOp <| w_Subscript <| w_List <| w_args_cons <| w_Const_T [] (by decide) fun q1 => w_args_cons <| w_Const_T [9] (by decide) fun q2 => w_args_cons <| w_Const_T [13, 10] (by decide) fun q3 => w_args_nil <| w_newList fun la => ?_
    obtain ⟨tp, htp⟩ := hpad q1 q2 q3
    refine w_BinOp <| w_name_L (.tail _ (.tail _ (.tail _ (.tail _ (.head _))))) <| w_Const_int fun _ => w_mod (by decide) fun _ => w_item (.head _) (OL.new _) (by omega) (by omega) htp <| w_sub (.cons _ (.refl _)) ?_
    refine w_Call <| w_name_K G'.toGnd (by k_is) <| w_callWith_f <| w_args_cons <| w_name_L (.tail _ (.tail _ (.tail _ (.tail _ (.tail _ (.tail _ (.head _))))))) <| w_args_cons <| w_name_L (.tail _ (.tail _ (.tail _ (.tail _ (.tail _ (.tail _ (.tail _ (.head _)))))))) <| w_args_cons <| w_name_L (.tail _ (.tail _ (.tail _ (.tail _ (.tail _ (.tail _ (.tail _ (.tail _ (.head _))))))))) <| w_args_nil
      ⟨⟨_, _, _, _, .inr (G'.X 80 _ (by k_is))⟩, w_call (core := []) G' (fun g E Gk => sp_word Gk nd.name [nd.e] nd.q _ _ ok.1 (by have := ok.2.1; omega) (by simp)) ?_⟩
    rintro _ _ ⟨rfl, _, rfl⟩
    refine w_adds (by have := ok.2.1; omega) fun thd => w_store_L (.there (.there (.there (.there (.there (.there (.there (.there (.there .here))))))))) ?_
    refine w_execs_cons <| w_Assign_Name <| w_Call <| w_name_K G'.toGnd (by k_is) <| w_callWith_f <| w_args_cons <| w_Subscript <| w_name_L (.tail _ (.tail _ (.tail _ (.tail _ (.tail _ (.head _)))))) <| w_Const_str fun _ => w_ditem (mN hdN) hod rfl <| w_args_cons <|
      w_keep (fun v => ∃ t, v = .int ((if nd.q then 128 else 0 : Nat) : Int) t) (w_IfExp <| w_isTrue_plain <| w_name_L (.tail _ (.tail _ (.tail _ (.tail _ (.tail _ (.tail _ (.tail _ (.head _)))))))) <| w_truthy_bool (by cases nd.q; exact w_Const_int fun t => ⟨⟨t, rfl⟩, rfl, rfl⟩; exact w_Const_int fun t => ⟨⟨t, rfl⟩, rfl, rfl⟩)) ?_
    rintro _ ⟨_, rfl⟩
    refine w_args_nil ⟨⟨_, _, _, _, .inr (G'.X 75 _ (by k_is))⟩, w_call (core := []) G' (fun g E Gk => sp_octets Gk nd.fig (if nd.q then 128 else 0) _ _ (by have := ok.2.2.1; omega) (by split <;> omega)) ?_⟩
    rintro _ _ ⟨rfl, tf, rfl⟩
    refine w_store_L (.there (.there (.there (.there (.there (.there (.there (.there (.there (.there .here)))))))))) ?_
    refine w_execs_cons <| WP.mono (Q := fun f l' N' => f = .next ∧ (∃ tb, l' = ([("nodes", some (.ref na)), ("text", some (.str (T text) tt)), ("heard", some (.str (T heard) th)), ("due", some (.ref da)), ("k", some (.int (i : Int) tv)), ("node", some (.ref d)), ("name", some (.str (T nd.name) w2)), ("quoted", some (.bool nd.q)), ("end", some (.str (T [nd.e]) w5)), ("head", some (.str (T (headT i nd)) thd)), ("body", some (.str (T (bodyT nd)) tb))] : Loc)) ∧ N' = (it, oi) :: (da, do_) :: (R ++ N)) ?_ ?_
    · refine w_If <| w_isTrue_Compare1 <| w_Call <| w_name_B G'.toGnd (by k_is) Boot.«len» (by decide) <| w_callWith_b <| w_args_cons <| w_name_L (.tail _ (.tail _ (.tail _ (.tail _ (.tail _ (.tail _ (.head _))))))) <| w_args_nil <| w_lens (by have := ok.2.1; omega) fun _ => w_Const_int fun _ => w_eqi <| w_truthy_bool ?_
      by_cases h3 : nd.name.length = 3
      · rw [show ((nd.name.length : Int) == 3) = true by rw [h3]; rfl]
        refine w_execs_cons <| w_Assign_Name <| w_Call <| w_name_K G'.toGnd (by k_is) <| w_callWith_f <| w_args_cons <| w_name_L (.tail _ (.tail _ (.tail _ (.tail _ (.tail _ (.tail _ (.tail _ (.tail _ (.tail _ (.tail _ (.head _))))))))))) <| w_args_cons <| w_Not <| w_name_L (.tail _ (.tail _ (.tail _ (.tail _ (.tail _ (.tail _ (.tail _ (.head _)))))))) <| w_truthy_bool <| w_args_cons <| w_name_L (.tail _ (.tail _ (.tail _ (.tail _ (.tail _ (.tail _ (.tail _ (.tail _ (.head _))))))))) <| w_args_nil
          ⟨⟨_, _, _, _, .inr (G'.X 80 _ (by k_is))⟩, w_call (core := []) G' (fun g E Gk => sp_word Gk (figT nd) [nd.e] (!nd.q) _ _ (fun e => by rw [e] at l4; simp at l4) (by omega) (by simp)) ?_⟩
        rintro _ _ ⟨rfl, tb, rfl⟩
        refine w_store_L (.there (.there (.there (.there (.there (.there (.there (.there (.there (.there .here)))))))))) (w_execs_nil ⟨rfl, ⟨tb, ?_⟩, rfl⟩)
        rw [show bodyT nd = wordT (figT nd) (!nd.q) [nd.e] from if_pos h3]; rfl
      · rw [show ((nd.name.length : Int) == 3) = false by simp; omega]
        refine w_execs_nil ⟨rfl, ⟨tf, ?_⟩, rfl⟩
        rw [show bodyT nd = figT nd from if_neg h3]; rfl
    · rintro _ _ _ ⟨rfl, ⟨tb, rfl⟩, rfl⟩
      refine w_execs_cons <| w_AugAssign_Name <| w_ldn_L (.tail _ (.head _)) <| w_BinOp <| w_BinOp <| w_name_L (.tail _ (.tail _ (.tail _ (.tail _ (.tail _ (.tail _ (.tail _ (.tail _ (.tail _ (.head _)))))))))) <| w_name_L (.tail _ (.tail _ (.tail _ (.tail _ (.tail _ (.tail _ (.tail _ (.tail _ (.tail _ (.tail _ (.head _))))))))))) <| w_adds (by omega) fun _ => w_Call <| w_name_K G'.toGnd (by k_is) <| w_callWith_f <| w_args_cons <| w_Subscript <| w_name_L (.tail _ (.tail _ (.tail _ (.tail _ (.tail _ (.head _)))))) <| w_Const_str fun _ => w_ditem (mN hdN) hod rfl <| w_args_cons <| w_Const_int fun _ => w_args_nil
        ⟨⟨_, _, _, _, .inr (G'.X 75 _ (by k_is))⟩, w_call (core := []) G' (fun g E Gk => sp_octets Gk nd.count 0 _ _ (by have := ok.2.2.2; omega) (by omega)) ?_⟩
      rintro _ _ ⟨rfl, _, rfl⟩
      have e1 : headT i nd ++ bodyT nd ++ octets nd.count 0 = nodeT i nd := rfl
      refine w_adds (by unfold tailT at l6; rw [List.length_append]; omega) fun _ => ?_
      rw [e1]
      refine w_iadds (by omega) fun tt' => w_store_L (.there (.here)) ?_
      refine w_execs_cons <| w_AugAssign_Name <| w_ldn_L (.tail _ (.tail _ (.head _))) <| w_BinOp <| w_BinOp <| w_name_L (.tail _ (.tail _ (.tail _ (.tail _ (.tail _ (.tail _ (.tail _ (.tail _ (.tail _ (.head _)))))))))) <|
        w_keep (fun v => ∃ t, v = .str (T (if nd.name.length = 1 then List.replicate (bodyT nd).length 46 else bodyT nd)) t) (w_IfExp <| w_isTrue_Compare1 <| w_Call <| w_name_B G'.toGnd (by k_is) Boot.«len» (by decide) <| w_callWith_b <| w_args_cons <| w_name_L (.tail _ (.tail _ (.tail _ (.tail _ (.tail _ (.tail _ (.head _))))))) <| w_args_nil <| w_lens (by have := ok.2.1; omega) fun _ => w_Const_int fun _ => w_eqi <| w_truthy_bool ?_) ?_
      · by_cases h1 : nd.name.length = 1
        · rw [show ((nd.name.length : Int) == 1) = true by rw [h1]; rfl, if_pos h1]
          exact w_BinOp <| w_Const_T [46] (by decide) fun _ => w_Call <| w_name_B G'.toGnd (by k_is) Boot.«len» (by decide) <| w_callWith_b <| w_args_cons <| w_name_L (.tail _ (.tail _ (.tail _ (.tail _ (.tail _ (.tail _ (.tail _ (.tail _ (.tail _ (.tail _ (.head _))))))))))) <| w_args_nil <| w_lens (by omega) fun _ => w_dots (by omega) fun t => ⟨⟨t, rfl⟩, rfl, rfl⟩
        · rw [show ((nd.name.length : Int) == 1) = false by simp; omega, if_neg h1]
          exact w_name_L (.tail _ (.tail _ (.tail _ (.tail _ (.tail _ (.tail _ (.tail _ (.tail _ (.tail _ (.tail _ (.head _))))))))))) ⟨⟨_, rfl⟩, rfl, rfl⟩
      rintro _ ⟨_, rfl⟩
      have l9 : (if nd.name.length = 1 then List.replicate (bodyT nd).length 46 else bodyT nd).length ≤ 8 := by split <;> first | omega | (simp; omega)
      refine w_adds (by omega) fun _ => w_Const_T [46] (by decide) fun _ => w_adds (by rw [List.length_append]; simp only [List.length_cons, List.length_nil]; omega) fun _ => ?_
      rw [show headT i nd ++ (if nd.name.length = 1 then List.replicate (bodyT nd).length 46 else bodyT nd) ++ [46] = heardT i nd from rfl]
      refine w_iadds (by omega) fun th' => w_store_L (.there (.there (.here))) ?_
      refine w_execs_cons <| w_Expr_none <| w_MethodCall <| w_name_L (.tail _ (.tail _ (.tail _ (.head _)))) <| w_m_append (.tail _ (.head _)) hdo <| w_callWith_b <| w_args_cons <| w_Tuple <| w_args_cons <| w_Subscript <| w_name_L (.tail _ (.tail _ (.tail _ (.tail _ (.tail _ (.head _)))))) <| w_Const_str fun _ => w_ditem (mN hdN) hod rfl <| w_args_cons <| w_name_L (.tail _ (.tail _ (.tail _ (.tail _ (.tail _ (.tail _ (.head _))))))) <|
        w_args_cons <| w_Subscript <| w_name_L (.tail _ (.tail _ (.tail _ (.tail _ (.tail _ (.head _)))))) <| w_Const_str fun _ => w_ditem (mN hdN) hod rfl <| w_args_cons <| w_Subscript <| w_name_L (.tail _ (.tail _ (.tail _ (.tail _ (.tail _ (.head _)))))) <| w_Const_str fun _ => w_ditem (mN hdN) hod rfl <|
        w_args_cons <| w_BinOp <| w_Const_int fun _ => w_MethodCall <| w_name_L (.tail _ (.tail _ (.head _))) <| w_str_count <| w_callWith_b <| w_args_cons <| w_Const_T [10] (by decide) fun _ => w_args_nil <| w_count fun _ => w_add fun t5 =>
        w_args_cons <| w_Call <| w_name_B G'.toGnd (by k_is) Boot.«len» (by decide) <| w_callWith_b <| w_args_cons <| w_name_L (.tail _ (.head _)) <| w_args_nil <| w_lens (by rw [List.length_append]; omega) fun t6 => w_args_nil <| w_newTuple fun ra => w_args_nil ?_
      rw [cnt_count, show (1 : Int) + ((List.count 10 (heard ++ heardT i nd) : Nat) : Int) = ((1 + List.count 10 (heard ++ heardT i nd) : Nat) : Int) by omega]
      refine w_pappend (fun _ => .there (.there .here)) hdo (by unfold refs; rw [List.length_map, hR.1]; omega) fun do' hdo' => ⟨rfl, w_perm (List.perm_middle (l₁ := (it, oi) :: (da, do') :: R)).symm <| w_execs_nil ?_⟩
      refine ⟨_, .refl _, text ++ nodeT i nd, heard ++ heardT i nd, rows ++ [rowOf nd (text ++ nodeT i nd) (heard ++ heardT i nd)], tt', th', da, do', R ++ [(ra, _)], _, _, _, _, _, _, _, hw, by rw [List.length_append]; omega, by rw [List.length_append]; omega, by simp [hrows], rfl, ?_, hR.snoc ⟨w1, w2, w3, w4, t5, t6, rfl⟩, by rw [List.append_assoc]; exact .refl _⟩
      unfold refs at hdo' ⊢; rw [List.map_append]; exact hdo'
  · rintro l N1 ⟨text, heard, rows, tt, th, da, do_, R, u1, u2, u3, u4, u5, u6, u7, hw, htl, hhl, hrows, rfl, hdo, hR, hs⟩
    refine w_execs_cons <| w_Return_some <| w_Tuple <| w_args_cons <| w_name_L (.tail _ (.head _)) <| w_args_cons <| w_name_L (.tail _ (.tail _ (.head _))) <| w_args_cons <| w_name_L (.tail _ (.tail _ (.tail _ (.head _)))) <| w_args_nil <| w_newTuple fun ta => ?_
    rw [hrl, List.drop_length] at hw
    refine hQ _ _ _ ⟨_, .cons_cons _ hs, ta, tt, th, da, do_, R, rfl, hdo, ?_, ?_⟩
    · rw [← hw]; exact hR
    · rw [← hw]; rfl
end Mine
end
section
open PySem PySem.W PyProof.Rows PySem.Calls PySem.Spec
namespace Mine
theorem fill7 : True ∨ (PySem.Challenge.rw_nb0051_01 = PySem.Challenge.rw_nb0051_01 ∧ hd51.heap_39 = hd51.heap_39) := by
  k_fill
  exact .inl trivial
theorem w_AssignAttr {c : Cx} {E : Value → Shared → Prop} {l : Loc} {N : Ldg} {env : Env} {o value : Expr} {attr : Str} {p pos : Pos} {Q : Flow → Loc → Ldg → Prop}
    (h : WP c E l N (eval value env) fun v l1 N1 => WP c E l1 N1 (eval o env) fun ov l2 N2 => WP c E l2 N2 (setAttr ov attr v) fun _ => Q .next)
    (hs : swapsWith value (some (.Attribute o attr p)) pos.line env = pure false := by rfl) : WP c E l N (exec (.Assign [.Attribute o attr p] value pos) env) Q :=
  WP.mk fun _ S => plainObj_wpAny_Assign_Attribute (h.go S fun _ _ _ _ S1 q => q.go S1 fun _ _ _ _ S2 q => q.run _ S2) hs
/-- the reader's promise: read(1) -/
noncomputable def RdSpec (w : World) (F : Ldg) (text : List Nat) (sp rd : Addr) : Prop :=
  ∀ (k : Kx) (n : Nat) (base : Heap) (envs : List Env) (E : Value → Shared → Prop) (place : Nat) (t tp : Tok) (o2 : Obj), k.w = w → Gk (n + 2) k base envs → place ≤ text.length → OD w o2 [("place", .int (place : Int) tp)] →
    CP k E ((sp, o2) :: F) (.ref rd) [.int 1 t] fun v N' => ∃ o2' tp' tv, OD w o2' [("place", .int ((min (place + 1) text.length : Nat) : Int) tp')] ∧ v = .str (T ((text.drop place).take 1)) tv ∧ N' = (sp, o2') :: F
structure Tape (w : World) (F : Ldg) (text : List Nat) (sp tape : Addr) : Prop where
  ex : ∃ fd sl td hs t rd fd2 d2 sl2, (tape, fnO fd (some td) sl) ∈ F ∧ (td, readD hs t (.ref rd)) ∈ F ∧ (rd, fnO fd2 d2 sl2) ∈ F ∧ RdSpec w F text sp rd
noncomputable def qfR (line _col : Nat) : Str := if line = 96 then "_law_reader.<locals>.read" else "_law_reader.<locals>.<lambda>"
theorem sp_reader {k : Kx} {E : Value → Shared → Prop} {n : Nat} {base : Heap} {envs : List Env} (G : Gk (n + 1) k base envs) {es : List Ent} (ok : TabOk qfR es) (text : List Nat) (tt : Tok) (sp : Addr) (hlen : text.length ≤ 100000) :
    CP k E (tabX 94 es) (.ref 99) [.str (T text) tt, .ref sp] fun v N' => ∃ tape Fr es', v = .ref tape ∧ TabOk qfR es' ∧ N' = Fr ++ tabX 94 es' ∧ Tape k.w (Fr ++ tabX 94 es') text sp tape := by
  refine enterC2 "text" "spot" (some (.str (T text) tt)) (some (.ref sp)) G (l := [("read", none), ("tape", none)]) (.inr (G.X 99 _ (by k_is))) rfl (fun s S => codeRec_of (G.X.keeps S.keep) (by k_is)) rfl rfl (fun L => rfl) (by decide) (fun L => rfl) (fun L => rfl) (fun L => ⟨rfl, rfl, trivial⟩) (by dsimp only [List.map]; decide) ?_
  intro L E' ox oy hox hoy G'
  refine w_perm (N' := tabX 94 es ++ [(L + 1 + 1, oy), (L + 1, ox)]) (List.perm_append_comm (l₁ := [(L + 1 + 1, oy), (L + 1, ox)])) ?_
  refine w_execs_cons <| w_Def <| w_makeDef (qf := qfR) G'.toGnd G'.C3 rfl ok rfl rfl fun rd c' oc ctv doc pm es1 ok1 hc1 hco _ => w_store_L .here ?_
  refine w_perm List.perm_middle.symm <| w_execs_cons <| w_Assign_Name <| w_Lambda <| w_makeLam (qf := qfR) G'.toGnd G'.C3 rfl ok1 rfl rfl fun tape c2 oc2 ctv2 pm2 es2 ok2 _ _ hmono => w_store_L (.there .here) ?_
  refine w_execs_cons <| w_AssignAttr <| w_name_L (.head _) <| w_name_L (.tail _ (.head _)) <| w_set_fn fun td hs t => ?_
  refine w_perm (.cons _ (.cons _ List.perm_append_comm)) <| w_execs_cons <| w_Return_some <| w_name_L (.tail _ (.head _)) ⟨_, .refl _, tape, _ :: _ :: _ :: _ :: _ :: [], es2, rfl, ok2, rfl, ⟨_, _, td, hs, t, rd, _, _, _, .tail _ (.head _), .head _, .tail _ (.tail _ (.head _)), ?_⟩⟩
  intro k' n' base' envs' E2 place t2 tp o2 hw Gk' hpl hod
  rw [← hw] at hod ⊢
  have hcode : (c', oc) ∈ tabX 94 es2 := .tail _ (hmono _ hc1)
  refine enter Gk' (l := [("size", some (.int 1 t2)), ("at", none)]) (.inl (.tail _ (.tail _ (.tail _ (.head _))))) rfl (fun s S => ?_) rfl (locs rfl) ⟨rfl, rfl, trivial⟩ (by dsimp only [List.map]; decide) ?_
  · obtain ⟨vs, t, h1, h2⟩ := hco
    exact ⟨c', oc, vs, t, rfl, (S.nw _ (.tail _ (.tail _ (.tail _ (.tail _ (.tail _ (.tail _ hcode))))))).1, h1, h2⟩
  · intro L2 E3 G2
    refine w_execs_cons <| w_Assign_Name <| w_Subscript <| w_name_F rfl (.tail _ (.tail _ (.tail _ (.tail _ (.head _))))) hoy <| w_Const_str fun _ => w_ditem (.head _) hod rfl <| w_store_L (.there .here) ?_
    refine w_execs_cons <| w_AssignSub <| w_Call <| w_name_B G2.toGnd (by k_is) Boot.«min» (by decide) <| w_callWith_b <| w_args_cons <| w_BinOp <| w_name_L (.tail _ (.head _)) <| w_name_L (.head _) <| w_add fun _ => w_args_cons <| w_Call <| w_name_B G2.toGnd (by k_is) Boot.«len» (by decide) <| w_callWith_b <| w_args_cons <| w_name_F rfl (.tail _ (.tail _ (.tail _ (.tail _ (.tail _ (.head _)))))) hox <| w_args_nil <| w_lens (by omega) fun _ => w_args_nil <| w_min G2.hh fun tm => ?_
    refine w_name_F rfl (.tail _ (.tail _ (.tail _ (.tail _ (.head _))))) hoy <| w_Const_str fun _ => w_setItem_dict (fun _ => .here) hod (by simp) fun o2' hod' => ?_
    refine w_execs_cons <| w_Return_some <| w_slice_str <| w_name_F rfl (.tail _ (.tail _ (.tail _ (.tail _ (.tail _ (.head _)))))) hox <| w_part_some <| w_name_L (.tail _ (.head _)) <| w_part_some <| w_BinOp <| w_name_L (.tail _ (.head _)) <| w_name_L (.head _) <| w_add fun ta => ⟨T text, tt, some ((place : Int), _), some ((place : Int) + 1, ta), rfl, by rw [T_len]; omega, rfl, rfl, fun tk => ⟨_, .refl _, o2', tm, tk, ?_, ?_, rfl⟩⟩
    · have e : ((min (place + 1) text.length : Nat) : Int) = min ((place : Int) + 1) (text.length : Int) := by omega
      rw [e]; exact hod'
    · show Value.str (Txt.slice (T text) (some (place : Int)) (some ((place : Int) + 1))) tk = _
      rw [slice_one _ _ hpl]
end Mine
end
section
open PySem PySem.W PyProof.Rows PySem.Calls PySem.Spec
namespace Mine
theorem fill8 : True ∨ (PySem.Challenge.rw_nb0051_01 = PySem.Challenge.rw_nb0051_01 ∧ hd51.heap_39 = hd51.heap_39) := by
  k_fill
  exact .inl trivial
inductive OLx (o : Obj) (line : Nat) (tape pb : Addr) : Prop
  | mk (h1 h2 h3 h4 t1 t2 t3 t4 tl tw n : _) (c0 : o = dictOf [⟨h1, .str "lineno" t1, .int (line : Int) tl⟩, ⟨h2, .str "instream" t2, .ref tape⟩, ⟨h3, .str "whitespace" t3, .str (T [10, 9, 13, 32]) tw⟩, ⟨h4, .str "pushback" t4, .ref pb⟩] n)
/-- a lexer over a text, at a place and a line -/
structure Lx where
  w : World
  F : Ldg
  text : List Nat
  sp : Addr
  tape : Addr
  lex : Addr
  lexd : Addr
  pb : Addr
structure Lx.Ok (x : Lx) : Prop where
  tp : Tape x.w x.F x.text x.sp x.tape
  len : x.text.length ≤ 100000
inductive Lx.At (x : Lx) (place line : Nat) (N : Ldg) : Prop
  | mk (o1 o2 tp opb : _) (c0 : OD x.w o2 [("place", .int (place : Int) tp)]) (c1 : OLx o1 line x.tape x.pb) (c2 : OP opb []) (c3 : N = ((x.sp, o2) :: x.F) ++ [(x.lexd, o1), (x.lex, instObj 59 x.lexd), (x.pb, opb)])
noncomputable def nxt (text : List Nat) (place : Nat) : Nat := min (place + 1) text.length
noncomputable def cur (text : List Nat) (place : Nat) : List Nat := (text.drop place).take 1
theorem mem_mid {α : Type} {A B : List α} {a : α} : a ∈ A ++ (a :: B) := List.mem_append_right _ (.head _)
theorem mem_mid2 {α : Type} {A B : List α} {a b : α} : a ∈ A ++ (b :: a :: B) := List.mem_append_right _ (.tail _ (.head _))
theorem mem_mid3 {α : Type} {A B : List α} {a b c : α} : a ∈ A ++ (b :: c :: a :: B) := List.mem_append_right _ (.tail _ (.tail _ (.head _)))
theorem cur_cases (text : List Nat) (place : Nat) : cur text place = [] ∨ ∃ c, cur text place = [c] := by
  unfold cur
  cases text.drop place with
  | nil => exact .inl rfl
  | cons c r => exact .inr ⟨c, rfl⟩
theorem sp_readchar {k : Kx} {E : Value → Shared → Prop} {N : Ldg} {n : Nat} {base : Heap} {envs : List Env} (G : Gk (n + 4) k base envs) {x : Lx} (hx : x.Ok) (hw : k.w = x.w) {place line : Nat} (hp : place ≤ x.text.length) (hA : x.At place line N) :
    CP k E N (.ref 42) [.ref x.lex] fun v N' => ∃ tv, v = .str (T (cur x.text place)) tv ∧ x.At (nxt x.text place) (line + (cur x.text place).count 10) N' := by
  obtain ⟨o1, o2, tp, opb, ho2, ho1, hopb, rfl⟩ := hA
  obtain ⟨fd, sl, td, hs, t, rd, fd2, d2, sl2, m1, m2, m3, spec⟩ := hx.tp.ex
  refine enter G (l := [("self", some (.ref x.lex)), ("ch", none)]) (.inr (G.X 42 _ (by k_is))) rfl (fun s S => codeRec_of (G.X.keeps S.keep) (by k_is)) rfl (locs rfl) ⟨rfl, rfl, trivial⟩ (by dsimp only [List.map]; decide) ?_
  intro L E' G'
  obtain ⟨h1, h2, h3, h4, t1, t2, t3, t4, tl, tw, nn, rfl⟩ := ho1
  have mF : ∀ {o2 : Obj} {p : Addr × Obj} {R : Ldg}, p ∈ x.F → p ∈ ((x.sp, o2) :: x.F) ++ R := fun h => List.mem_append_left _ (.tail _ h)
  refine w_execs_cons <| w_Assign_Name <| w_MethodCall <| w_Attr <| w_name_L (.head _) <| w_get_own G'.toGnd mem_mid2 mem_mid (by k_is) (by k_is) (by k_is) (by k_is) rfl rfl <|
    w_meth_fn (mF m1) (mF m2) <| w_callWith_f <| w_args_cons <| w_Const_int fun ti => w_args_nil ⟨⟨_, _, _, _, .inl (mF m3)⟩, w_call (core := (x.sp, o2) :: x.F) G' (fun g E Gk => spec _ _ _ _ _ place ti tp o2 hw Gk hp ho2) ?_⟩
  rintro _ _ ⟨o2', tp', tv, ho2', rfl, rfl⟩
  refine w_store_L (.there .here) ?_
  rw [show List.take 1 (List.drop place x.text) = cur x.text place from rfl]
  refine w_execs_cons <| WP.mono (Q := fun f l' N' => f = .next ∧ l' = ([("self", some (.ref x.lex)), ("ch", some (.str (T (cur x.text place)) tv))] : Loc) ∧ x.At (nxt x.text place) (line + (cur x.text place).count 10) N') ?_ ?_
  · refine w_If <| w_isTrue_Compare1 <| w_name_L (.tail _ (.head _)) <| w_Const_T [10] (by decide) fun _ => w_eqs <| w_truthy_bool ?_
    by_cases hc : cur x.text place = [10]
    · rw [hc, show (([10] : List Nat) == [10]) = true from rfl]
      refine w_execs_cons <| w_AugAttr <| w_name_L (.head _) <| w_get_own G'.toGnd mem_mid2 mem_mid (by k_is) (by k_is) (by k_is) (by k_is) rfl rfl <| w_Const_int fun _ => w_iadd fun tn =>
        w_set_own G'.toGnd mem_mid2 (by k_is) (by k_is) (by k_is) (by k_is) rfl (by simp) (fun _ => chAppend .here) fun t' => w_execs_nil ⟨rfl, rfl, ?_⟩
      exact ⟨_, o2', tp', opb, ho2', ⟨h1, h2, h3, h4, t1, t2, t3, t4, tn, tw, _, rfl⟩, hopb, rfl⟩
    · have e : (cur x.text place == [10]) = false := by simpa using hc
      rw [e]
      refine w_execs_nil ⟨rfl, rfl, _, o2', tp', opb, ho2', ⟨h1, h2, h3, h4, t1, t2, t3, t4, tl, tw, nn, ?_⟩, hopb, rfl⟩
      have : (cur x.text place).count 10 = 0 := by
        rcases cur_cases x.text place with h | ⟨c, h⟩
        · rw [h]; rfl
        · rw [h] at hc ⊢
          have hc' : c ≠ 10 := fun q => hc (by rw [q])
          simp [List.count_cons, hc']
      rw [this]; rfl
  · rintro _ _ _ ⟨rfl, rfl, hA⟩
    exact w_execs_cons <| w_Return_some <| w_name_L (.tail _ (.head _)) ⟨_, .refl _, tv, rfl, hA⟩
end Mine
end
section
open PySem PySem.W PyProof.Rows PySem.Calls PySem.Spec
namespace Mine
theorem fill9 : True ∨ (PySem.Challenge.rw_nb0051_01 = PySem.Challenge.rw_nb0051_01 ∧ hd51.heap_39 = hd51.heap_39) := by
  k_fill
  exact .inl trivial
noncomputable abbrev mobj (x : Lx) : Obj := methodObj (.ref 42) (.ref x.lex)
theorem bor_rc {c : Cx} (G : Gnd c.w c.g) {N : Ldg} {mq : Addr} {x : Lx} (hm : (mq, mobj x) ∈ N) : BorL c N (.ref mq) :=
  ⟨mq, rfl, .inr ⟨42, _, _, _, _, hm, .inr (G.X 42 _ (by k_is))⟩⟩
theorem drop_cur {t : List Nat} {p : Nat} (h : p < t.length) : t.drop p = t[p] :: t.drop (p + 1) := List.drop_eq_getElem_cons h
theorem cur_lt {t : List Nat} {p : Nat} (h : p < t.length) : cur t p = [t[p]] := by unfold cur; rw [drop_cur h]; rfl
theorem cur_end {t : List Nat} : cur t t.length = [] := by unfold cur; simp
theorem nxt_lt {t : List Nat} {p : Nat} (h : p < t.length) : nxt t p = p + 1 := by unfold nxt; omega
theorem nxt_end {t : List Nat} : nxt t t.length = t.length := by unfold nxt; omega
section
variable {c : Cx} {E : Value → Shared → Prop} {l : Loc} {N0 : Ldg} {n : Nat} {base : Heap} {outer : List Env} {env : Env} {x : Lx} {p line : Nat} {mq it : Addr} {o : Obj} {ts : Tok}
theorem tok_next {Q : Option Value → Loc → Ldg → Prop} (G : Gd (n + 5) c base outer env) (hx : x.Ok) (hw : c.w = x.w) (hp : p ≤ x.text.length) (hA : x.At p line N0) (hc : OCI o (.ref mq) (.str (T []) ts))
    (h1 : ∀ ch N1 tv, x.text.drop p = ch :: x.text.drop (p + 1) → p < x.text.length → x.At (p + 1) (line + [ch].count 10) N1 → Q (some (.str (T [ch]) tv)) l ((N1 ++ [(mq, mobj x)]) ++ [(it, o)]))
    (h2 : p = x.text.length → ∀ N1 o', x.At p line N1 → OCE o' → Q none l ((N1 ++ [(mq, mobj x)]) ++ [(it, o')])) : WP c E l ((N0 ++ [(mq, mobj x)]) ++ [(it, o)]) (pyNext (.ref it)) Q := by
  refine w_next_ci (Qs := fun v N' => ∃ N1 tv, v = .str (T (cur x.text p)) tv ∧ x.At (nxt x.text p) (line + (cur x.text p).count 10) N1 ∧ N' = N1 ++ [(mq, mobj x)]) (fr := fun o' => [(it, o')]) G (fun _ => .here) hc (bor_rc G.toGnd (List.mem_append_left _ mem_mid))
    (fun A' g E al Gk => cp_method mem_mid (cp_frame Gk (fun g Gk => sp_readchar Gk hx hw hp hA) fun v c' ⟨tv, e, hA'⟩ => ⟨c', tv, e, hA', rfl⟩)) ?_
  rintro v _ ⟨N1, tv, rfl, hA', rfl⟩
  by_cases hlt : p < x.text.length
  · rw [cur_lt hlt, nxt_lt hlt] at hA'
    rw [cur_lt hlt]
    exact ⟨_, eqGives_str _ _ _ _, bor_rc G.toGnd (List.mem_append_left _ mem_mid), h1 _ N1 tv (drop_cur hlt) hlt hA'⟩
  · have e : p = x.text.length := by omega
    subst e
    rw [cur_end, nxt_end] at hA'
    rw [cur_end]
    exact ⟨_, eqGives_str _ _ _ _, bor_rc G.toGnd (List.mem_append_left _ mem_mid), fun o' ho' => h2 rfl N1 o' hA' ho'⟩
end
inductive LxM (x : Lx) (line : Nat) (N0 : Ldg) : Prop
  | mk (m1 : (x.lex, instObj 59 x.lexd) ∈ N0) (h1 h2 h3 h4 t1 t2 t3 t4 tl tw nn : _) (m2 : (x.lexd, dictOf [⟨h1, .str "lineno" t1, .int (line : Int) tl⟩, ⟨h2, .str "instream" t2, .ref x.tape⟩, ⟨h3, .str "whitespace" t3, .str (T [10, 9, 13, 32]) tw⟩, ⟨h4, .str "pushback" t4, .ref x.pb⟩] nn) ∈ N0) (opb : _) (m3 : (x.pb, opb) ∈ N0) (hopb : OP opb [])
theorem lx_mem {x : Lx} {p line : Nat} {N0 : Ldg} (h : x.At p line N0) : LxM x line N0 := by
  obtain ⟨o1, o2, tp, opb, ho2, ⟨h1, h2, h3, h4, t1, t2, t3, t4, tl, tw, nn, rfl⟩, hopb, rfl⟩ := h
  exact ⟨mem_mid2, h1, h2, h3, h4, t1, t2, t3, t4, tl, tw, nn, mem_mid, opb, mem_mid3, hopb⟩
theorem w_assoc {α : Type} {c : Cx} {E : Value → Shared → Prop} {l : Loc} {A B C : Ldg} {t : Sem α} {Q : α → Loc → Ldg → Prop} (h : WP c E l (A ++ (B ++ C)) t Q) : WP c E l ((A ++ B) ++ C) t Q := by rw [List.append_assoc]; exact h
theorem cur_count {t : List Nat} {p : Nat} (hp : p ≤ t.length) : (cur t p).count 10 + (t.drop (nxt t p)).count 10 = (t.drop p).count 10 := by
  by_cases h : p < t.length
  · rw [cur_lt h, nxt_lt h, drop_cur h]
    have := cnt1 0 t[p] (t.drop (p + 1))
    omega
  · have : p = t.length := by omega
    subst this
    rw [cur_end, nxt_end, List.drop_length]; rfl
theorem bs_tok {tok : List Nat → List Nat → List Nat × List Nat} {t tk : List Nat} {p : Nat} {R : List Nat × List Nat} (hnil : ∀ acc, tok acc [] = (acc, [])) (hp : p ≤ t.length)
    (h : (match t.drop p with | [] => (tk, []) | d :: r' => tok (tk ++ [d]) r') = R) : tok (tk ++ cur t p) (t.drop (nxt t p)) = R := by
  by_cases h1 : p < t.length
  · rw [drop_cur h1] at h
    rw [cur_lt h1, nxt_lt h1]; exact h
  · have : p = t.length := by omega
    subst this
    rw [List.drop_length] at h
    rw [cur_end, nxt_end, List.drop_length, List.append_nil, hnil]; exact h
theorem nxt_le {t : List Nat} {p : Nat} : nxt t p ≤ t.length := by unfold nxt; omega
theorem nxt_ge {t : List Nat} {p : Nat} (hp : p ≤ t.length) : p ≤ nxt t p := by unfold nxt; omega
theorem cur_len (t : List Nat) (p : Nat) : (cur t p).length ≤ 1 := by unfold cur; rw [List.length_take]; omega
theorem subAt {α : Type} (N : List α) (a b : α) : List.Sublist N ((N ++ [a]) ++ [b]) := (List.sublist_append_left ..).trans (List.sublist_append_left ..)
/-- what get_token promises -/
inductive TokPost (x : Lx) (R : List Nat × List Nat) (K : Nat) (v : Value) (N : Ldg) : Prop
  | mk (p line tv : _) (c0 : v = .str (T R.1) tv) (c1 : x.At p line N) (c2 : p ≤ x.text.length) (c3 : x.text.drop p = R.2) (c4 : line + R.2.count 10 = K)
inductive InvO (x : Lx) (R : List Nat × List Nat) (K : Nat) (mq it : Addr) (ts : Tok) (m : Nat) (l : Loc) (N : Ldg) : Prop
  | mk (p line N0 u tt tk o : _) (c0 : x.At p line N0) (c1 : p ≤ x.text.length) (c2 : line + (x.text.drop p).count 10 = K) (c3 : tk.length ≤ p) (c4 : l = ([("self", some (.ref x.lex)), ("token", some (.str (T tk) tt)), ("fiter", some (.ref it)), ("ch", u)] : Loc)) (c5 : N = (N0 ++ [(mq, mobj x)]) ++ [(it, o)]) (c6 : ((m = x.text.length - p + 2 ∧ tk = [] ∧ OCI o (.ref mq) (.str (T []) ts) ∧ getTok (x.text.drop p) = R) ∨ (m = 1 ∧ OCE o ∧ R = (tk, []) ∧ x.text.drop p = [])))
inductive InvI (x : Lx) (R : List Nat × List Nat) (K : Nat) (mq it : Addr) (ts : Tok) (tok : List Nat → List Nat → List Nat × List Nat) (m : Nat) (l : Loc) (N : Ldg) : Prop
  | mk (p line N0 u tt tk o : _) (c0 : x.At p line N0) (c1 : p ≤ x.text.length) (c2 : line + (x.text.drop p).count 10 = K) (c3 : tk.length ≤ p) (c4 : l = ([("self", some (.ref x.lex)), ("token", some (.str (T tk) tt)), ("fiter", some (.ref it)), ("ch", u)] : Loc)) (c5 : N = (N0 ++ [(mq, mobj x)]) ++ [(it, o)]) (c6 : m = x.text.length - p + 2) (c7 : OCI o (.ref mq) (.str (T []) ts)) (c8 : tok tk (x.text.drop p) = R)
inductive BsPost (x : Lx) (R : List Nat × List Nat) (K : Nat) (mq it : Addr) (o : Obj) (tok : List Nat → List Nat → List Nat × List Nat) (tk : List Nat) (tt : Tok) (p0 : Nat) (f : Flow) (l' : Loc) (N' : Ldg) : Prop
  | mk (c0 : f = .next) (s tv p line N0 : _) (c1 : l' = ([("self", some (.ref x.lex)), ("token", some (.str (T tk) tt)), ("fiter", some (.ref it)), ("ch", some (.str (T s) tv))] : Loc)) (c2 : N' = (N0 ++ [(mq, mobj x)]) ++ [(it, o)]) (c3 : x.At p line N0) (c4 : p ≤ x.text.length) (c5 : p0 ≤ p) (c6 : s.length ≤ 1) (c7 : line + (x.text.drop p).count 10 = K) (c8 : tok (tk ++ s) (x.text.drop p) = R)
theorem sp_gettoken {k : Kx} {E : Value → Shared → Prop} {N : Ldg} {n : Nat} {base : Heap} {envs : List Env} (G : Gk (n + 6) k base envs) {x : Lx} (hx : x.Ok) (hw : k.w = x.w) {place line : Nat} (hp : place ≤ x.text.length) (hA : x.At place line N) :
    CP k E N (.ref 49) [.ref x.lex] (TokPost x (getTok (x.text.drop place)) (line + (x.text.drop place).count 10)) := by
  refine enter G (l := [("self", some (.ref x.lex)), ("token", none), ("fiter", none), ("ch", none)]) (.inr (G.X 49 _ (by k_is))) rfl (fun s S => codeRec_of (G.X.keeps S.keep) (by k_is)) rfl (locs rfl) ⟨rfl, rfl, rfl, rfl, trivial⟩ (by dsimp only [List.map]; decide) ?_
  intro L E' G'
  have hlen := hx.len
  obtain ⟨m1, h1, h2, h3, h4, t1, t2, t3, t4, tl, tw, nn, m2, opb, m3, hopb⟩ := lx_mem hA
  refine w_execs_cons <| w_If <| w_isTrue_plain <| w_Attr <| w_name_L (.head _) <| w_get_own G'.toGnd m1 m2 (by k_is) (by k_is) (by k_is) (by k_is) rfl rfl <| w_truthy_list m3 hopb.ol (by simp) <| w_execs_nil ?_
  refine w_execs_cons <| w_Assign_Name <| w_Const_T [] (by decide) fun tt => w_store_L (.there .here) ?_
  refine w_execs_cons <| w_Assign_Name <| w_Call <| w_name_B G'.toGnd (by k_is) Boot.«iter» (by decide) <| w_callWith_b <| w_args_cons <| w_Attr <| w_name_L (.head _) <| w_bound G'.toGnd m1 m2 (by k_is) (by k_is) (by k_is) (by k_is) (by k_is) (by k_is) (by decide +kernel) rfl fun mq => w_args_cons <| w_Const_T [] (by decide) fun ts => w_args_nil <| w_iter2 (bor_rc (x := x) G'.toGnd (.head _)) fun it o hoc => w_store_L (.there (.there .here)) ?_
  refine w_perm (N' := (N ++ [(mq, mobj x)]) ++ [(it, o)]) ?_ ?_
  · rw [List.append_assoc]
    exact (List.Perm.swap ..).trans (List.perm_append_comm (l₁ := [(mq, mobj x), (it, o)]))
  refine w_execs_cons <| w_For <| w_name_L (.tail _ (.tail _ (.head _))) <| w_iter_ci mem_mid hoc.1 <| cw_for (InvO x (getTok (x.text.drop place)) (line + (x.text.drop place).count 10) mq it ts) ?_ _ ⟨place, line, N, none, tt, [], o, hA, hp, rfl, by simp, rfl, rfl, .inl ⟨rfl, rfl, hoc, rfl⟩⟩
  clear hA hoc tt m1 m2 m3 hopb
  generalize getTok (x.text.drop place) = R
  generalize line + (x.text.drop place).count 10 = K
  rintro m l N2 ⟨p, line', N0, u, tt, tk, o, hA, hp, hK, htk, rfl, rfl, ⟨rfl, rfl, hoc, hR⟩ | ⟨rfl, hoe, hR, hd⟩⟩
  · refine tok_next G' hx hw hp hA hoc ?_ ?_
    · intro ch N1 tv hdr hlt hA1
      rw [hdr] at hK hR
      have hK1 : line' + [ch].count 10 + (x.text.drop (p + 1)).count 10 = K := by rw [← hK]; exact cnt1 ..
      obtain ⟨m1, h1, h2, h3, h4, t1, t2, t3, t4, tl, tw, nn, m2, opb, m3, hopb⟩ := lx_mem hA1
      have mm : ∀ {q : Addr × Obj}, q ∈ N1 → q ∈ (N1 ++ [(mq, mobj x)]) ++ [(it, o)] := fun h => List.mem_append_left _ (List.mem_append_left _ h)
      refine w_assign <| w_store_L (.there (.there (.there .here))) ?_
      refine w_execs_cons <| w_If <| w_isTrue_Compare1 <| w_name_L (.tail _ (.tail _ (.tail _ (.head _)))) <| w_Attr <| w_name_L (.head _) <| w_get_own G'.toGnd (mm m1) (mm m2) (by k_is) (by k_is) (by k_is) (by k_is) rfl rfl <| w_in1 <| w_truthy_bool ?_
      by_cases hws : ch ∈ wsL
      · rw [decide_eq_true (p := ch ∈ [10, 9, 13, 32]) hws]
        refine w_execs_cons <| w_Continue ⟨x.text.length - (p + 1) + 2, by omega, p + 1, _, N1, _, tt, [], o, hA1, hlt, hK1, by simp, rfl, rfl, .inl ⟨rfl, rfl, hoc, ?_⟩⟩
        rw [getTok_cons, if_pos hws] at hR; exact hR
      · rw [decide_eq_false (p := ch ∈ [10, 9, 13, 32]) hws]
        rw [getTok_cons, if_neg hws] at hR
        refine w_execs_nil ?_
        refine w_execs_cons <| w_If <| w_isTrue_Compare1 <| w_name_L (.tail _ (.tail _ (.tail _ (.head _)))) <| w_Const_T [34] (by decide) fun _ => w_eqs <| w_truthy_bool ?_
        by_cases hq : ch = 34
        · subst hq
          rw [if_pos rfl] at hR
          rw [show (([34] : List Nat) == [34]) = true from rfl]
          refine w_execs_cons <| w_For <| w_name_L (.tail _ (.tail _ (.head _))) <| w_iter_ci mem_mid hoc.1 <| cw_for (InvI x R K mq it ts tokQ) ?_ _ ⟨p + 1, _, N1, _, tt, [], o, hA1, hlt, hK1, by simp, rfl, rfl, rfl, hoc, hR⟩
          clear hA1 hK1 hR hA hK hdr tt m1 m2 m3 hopb hoc htk hws mm
          have hp0 := hlt
          rintro m l N2 ⟨p2, line2, N0, u, tt, tk, o, hA, hp2, hK, htk, rfl, rfl, rfl, hoc, hR⟩
          refine tok_next G' hx hw hp2 hA hoc ?_ ?_
          · intro ch N1 tv hdr hlt2 hA1
            rw [hdr] at hK hR
            have hK1 : line2 + [ch].count 10 + (x.text.drop (p2 + 1)).count 10 = K := by rw [← hK]; exact cnt1 ..
            refine w_assign <| w_store_L (.there (.there (.there .here))) ?_
            rw [tokQ_cons] at hR
            refine w_execs_cons <| w_If <| w_isTrue_Compare1 <| w_name_L (.tail _ (.tail _ (.tail _ (.head _)))) <| w_Const_T [34] (by decide) fun _ => w_eqs <| w_truthy_bool ?_
            by_cases hq : ch = 34
            · subst hq
              rw [if_pos rfl] at hR
              rw [show (([34] : List Nat) == [34]) = true from rfl]
              refine w_execs_cons <| w_Return_some <| w_name_L (.tail _ (.head _)) ⟨N1, subAt .., p2 + 1, _, tt, ?_, hA1, hlt2, ?_, ?_⟩
              · rw [← hR]
              · rw [← hR]
              · rw [← hR]; exact hK1
            · rw [if_neg hq] at hR
              rw [show (([ch] : List Nat) == [34]) = false by simp [hq]]
              refine w_execs_cons <| WP.mono (Q := BsPost x R K mq it o tokQ tk tt (p2 + 1)) ?_ ?_
              · have hpp : p2 + 1 ≤ x.text.length := hlt2
                obtain ⟨m1, h1, h2, h3, h4, t1, t2, t3, t4, tl, tw, nn, m2, opb, m3, hopb⟩ := lx_mem hA1
                have mm : ∀ {q : Addr × Obj}, q ∈ N1 → q ∈ (N1 ++ [(mq, mobj x)]) ++ [(it, o)] := fun h => List.mem_append_left _ (List.mem_append_left _ h)
                refine w_If <| w_isTrue_Compare1 <| w_name_L (.tail _ (.tail _ (.tail _ (.head _)))) <| w_Const_T [92] (by decide) fun _ => w_eqs <| w_truthy_bool ?_
                by_cases hb : ch = 92
                · subst hb
                  rw [if_pos rfl] at hR
                  rw [show (([92] : List Nat) == [92]) = true from rfl]
                  refine w_execs_cons <| w_Assign_Name <| w_MethodCall <| w_name_L (.head _) <| w_method G'.toGnd (mm m1) (mm m2) (by k_is) (by k_is) (by k_is) rfl <| w_callWith_f0 ⟨_, _, _, _, .inr (G'.X 42 _ (by k_is))⟩ <| w_assoc <| w_call (core := N1) G' (fun g E Gk => sp_readchar Gk hx hw hpp hA1) ?_
                  rintro _ N3 ⟨tv2, rfl, hA2⟩
                  refine w_store_L (.there (.there (.there .here))) <| w_execs_nil ⟨rfl, cur x.text _, tv2, _, _, N3, rfl, (List.append_assoc ..).symm, hA2, nxt_le, nxt_ge hpp, cur_len .., ?_, bs_tok tokQ_nil hpp hR⟩
                  rw [← hK1, Nat.add_assoc, cur_count hpp]
                · rw [if_neg hb] at hR
                  rw [show (([ch] : List Nat) == [92]) = false by simp [hb]]
                  exact w_execs_nil ⟨rfl, [ch], tv, _, _, N1, rfl, rfl, hA1, hpp, Nat.le_refl _, Nat.le_refl _, hK1, hR⟩

              · rintro _ _ _ ⟨rfl, sg, tv2, p3, line3, N3, rfl, rfl, hA3, hp3, hpp3, hsl, hK3, hR3⟩
                refine w_execs_nil ?_
                refine w_execs_cons <| w_AugAssign_Name <| w_ldn_L (.tail _ (.head _)) <| w_name_L (.tail _ (.tail _ (.tail _ (.head _)))) <| w_iadds (by omega) fun tt2 => w_store_L (.there .here) <| w_execs_nil ⟨x.text.length - p3 + 2, by omega, p3, line3, N3, _, tt2, tk ++ sg, o, hA3, hp3, hK3, by rw [List.length_append]; omega, rfl, rfl, rfl, hoc, hR3⟩
          · intro he N1 o' hA1 hoe
            subst he
            rw [List.drop_length] at hR hK
            refine w_execs_nil <| w_execs_nil <| w_execs_nil ⟨1, by omega, x.text.length, line2, N1, u, tt, tk, o', hA1, Nat.le_refl _, ?_, htk, rfl, rfl, .inr ⟨rfl, hoe, hR.symm, List.drop_length⟩⟩
            rw [List.drop_length]; exact hK
        · rw [if_neg hq] at hR
          rw [show (([ch] : List Nat) == [34]) = false by simp [hq]]
          have hpp : p + 1 ≤ x.text.length := hlt
          clear m1 m2 m3 hopb mm
          refine w_execs_cons <| WP.mono (Q := BsPost x R K mq it o tokP [] tt (p + 1)) ?_ ?_
          · obtain ⟨m1, h1, h2, h3, h4, t1, t2, t3, t4, tl, tw, nn, m2, opb, m3, hopb⟩ := lx_mem hA1
            have mm : ∀ {q : Addr × Obj}, q ∈ N1 → q ∈ (N1 ++ [(mq, mobj x)]) ++ [(it, o)] := fun h => List.mem_append_left _ (List.mem_append_left _ h)
            refine w_If <| w_isTrue_Compare1 <| w_name_L (.tail _ (.tail _ (.tail _ (.head _)))) <| w_Const_T [92] (by decide) fun _ => w_eqs <| w_truthy_bool ?_
            by_cases hb : ch = 92
            · subst hb
              rw [if_pos rfl] at hR
              rw [show (([92] : List Nat) == [92]) = true from rfl]
              refine w_execs_cons <| w_Assign_Name <| w_MethodCall <| w_name_L (.head _) <| w_method G'.toGnd (mm m1) (mm m2) (by k_is) (by k_is) (by k_is) rfl <| w_callWith_f0 ⟨_, _, _, _, .inr (G'.X 42 _ (by k_is))⟩ <| w_assoc <| w_call (core := N1) G' (fun g E Gk => sp_readchar Gk hx hw hpp hA1) ?_
              rintro _ N3 ⟨tv2, rfl, hA2⟩
              refine w_store_L (.there (.there (.there .here))) <| w_execs_nil ⟨rfl, cur x.text _, tv2, _, _, N3, rfl, (List.append_assoc ..).symm, hA2, nxt_le, nxt_ge hpp, cur_len .., ?_, bs_tok tokP_nil hpp hR⟩
              rw [← hK1, Nat.add_assoc, cur_count hpp]
            · rw [if_neg hb] at hR
              rw [show (([ch] : List Nat) == [92]) = false by simp [hb]]
              exact w_execs_nil ⟨rfl, [ch], tv, _, _, N1, rfl, rfl, hA1, hpp, Nat.le_refl _, Nat.le_refl _, hK1, hR⟩

          · rintro _ _ _ ⟨rfl, sg, tv2, p3, line3, N3, rfl, rfl, hA3, hp3, hpp3, hsl, hK3, hR3⟩
            refine w_execs_cons <| w_AugAssign_Name <| w_ldn_L (.tail _ (.head _)) <| w_name_L (.tail _ (.tail _ (.tail _ (.head _)))) <| w_iadds (by simp; omega) fun tt2 => w_store_L (.there .here) ?_
            refine w_execs_cons <| w_For <| w_name_L (.tail _ (.tail _ (.head _))) <| w_iter_ci mem_mid hoc.1 <| cw_for (InvI x R K mq it ts tokP) ?_ _ ⟨p3, line3, N3, _, tt2, [] ++ sg, o, hA3, hp3, hK3, by simp; omega, rfl, rfl, rfl, hoc, hR3⟩
            clear hA1 hK1 hR hA hK hdr tt hoc htk hws hA3 hK3 hR3 hsl
            rintro m l N2 ⟨p2, line2, N0, u, tt, tk, o, hA, hp2, hK, htk, rfl, rfl, rfl, hoc, hR⟩
            refine tok_next G' hx hw hp2 hA hoc ?_ ?_
            · intro ch N1 tv hdr hlt2 hA1
              rw [hdr] at hK hR
              have hK1 : line2 + [ch].count 10 + (x.text.drop (p2 + 1)).count 10 = K := by rw [← hK]; exact cnt1 ..
              rw [tokP_cons] at hR
              refine w_assign <| w_store_L (.there (.there (.there .here))) ?_
              obtain ⟨m1, h1, h2, h3, h4, t1, t2, t3, t4, tl, tw, nn, m2, opb, m3, hopb⟩ := lx_mem hA1
              have mm : ∀ {q : Addr × Obj}, q ∈ N1 → q ∈ (N1 ++ [(mq, mobj x)]) ++ [(it, o)] := fun h => List.mem_append_left _ (List.mem_append_left _ h)
              refine w_execs_cons <| w_If <| w_isTrue_Compare1 <| w_name_L (.tail _ (.tail _ (.tail _ (.head _)))) <| w_Attr <| w_name_L (.head _) <| w_get_own G'.toGnd (mm m1) (mm m2) (by k_is) (by k_is) (by k_is) (by k_is) rfl rfl <| w_in1 <| w_truthy_bool ?_
              by_cases hws : ch ∈ wsL
              · rw [if_pos hws] at hR
                rw [decide_eq_true (p := ch ∈ [10, 9, 13, 32]) hws]
                refine w_execs_cons <| w_Return_some <| w_name_L (.tail _ (.head _)) ⟨N1, subAt .., p2 + 1, _, tt, ?_, hA1, hlt2, ?_, ?_⟩
                · rw [← hR]
                · rw [← hR]
                · rw [← hR]; exact hK1
              · rw [if_neg hws] at hR
                rw [decide_eq_false (p := ch ∈ [10, 9, 13, 32]) hws]
                clear m1 m2 m3 hopb mm
                refine w_execs_cons <| WP.mono (Q := BsPost x R K mq it o tokP tk tt (p2 + 1)) ?_ ?_
                · have hpp : p2 + 1 ≤ x.text.length := hlt2
                  obtain ⟨m1, h1, h2, h3, h4, t1, t2, t3, t4, tl, tw, nn, m2, opb, m3, hopb⟩ := lx_mem hA1
                  have mm : ∀ {q : Addr × Obj}, q ∈ N1 → q ∈ (N1 ++ [(mq, mobj x)]) ++ [(it, o)] := fun h => List.mem_append_left _ (List.mem_append_left _ h)
                  refine w_If <| w_isTrue_Compare1 <| w_name_L (.tail _ (.tail _ (.tail _ (.head _)))) <| w_Const_T [92] (by decide) fun _ => w_eqs <| w_truthy_bool ?_
                  by_cases hb : ch = 92
                  · subst hb
                    rw [if_pos rfl] at hR
                    rw [show (([92] : List Nat) == [92]) = true from rfl]
                    refine w_execs_cons <| w_Assign_Name <| w_MethodCall <| w_name_L (.head _) <| w_method G'.toGnd (mm m1) (mm m2) (by k_is) (by k_is) (by k_is) rfl <| w_callWith_f0 ⟨_, _, _, _, .inr (G'.X 42 _ (by k_is))⟩ <| w_assoc <| w_call (core := N1) G' (fun g E Gk => sp_readchar Gk hx hw hpp hA1) ?_
                    rintro _ N3 ⟨tv2, rfl, hA2⟩
                    refine w_store_L (.there (.there (.there .here))) <| w_execs_nil ⟨rfl, cur x.text _, tv2, _, _, N3, rfl, (List.append_assoc ..).symm, hA2, nxt_le, nxt_ge hpp, cur_len .., ?_, bs_tok tokP_nil hpp hR⟩
                    rw [← hK1, Nat.add_assoc, cur_count hpp]
                  · rw [if_neg hb] at hR
                    rw [show (([ch] : List Nat) == [92]) = false by simp [hb]]
                    exact w_execs_nil ⟨rfl, [ch], tv, _, _, N1, rfl, rfl, hA1, hpp, Nat.le_refl _, Nat.le_refl _, hK1, hR⟩

                · rintro _ _ _ ⟨rfl, sg, tv2, p3, line3, N3, rfl, rfl, hA3, hp3, hpp3, hsl, hK3, hR3⟩
                  refine w_execs_nil ?_
                  refine w_execs_cons <| w_AugAssign_Name <| w_ldn_L (.tail _ (.head _)) <| w_name_L (.tail _ (.tail _ (.tail _ (.head _)))) <| w_iadds (by omega) fun tt2 => w_store_L (.there .here) <| w_execs_nil ⟨x.text.length - p3 + 2, by omega, p3, line3, N3, _, tt2, tk ++ sg, o, hA3, hp3, hK3, by rw [List.length_append]; omega, rfl, rfl, rfl, hoc, hR3⟩
            · intro he N1 o' hA1 hoe
              subst he
              rw [List.drop_length] at hR hK
              refine w_execs_nil <| w_execs_nil <| w_execs_nil ⟨1, by omega, x.text.length, line2, N1, u, tt, tk, o', hA1, Nat.le_refl _, ?_, htk, rfl, rfl, .inr ⟨rfl, hoe, hR.symm, List.drop_length⟩⟩
              rw [List.drop_length]; exact hK
    · intro he N1 o' hA1 hoe
      subst he
      rw [List.drop_length] at hR hK
      refine w_execs_nil ?_
      refine w_execs_cons <| w_Return_some <| w_name_L (.tail _ (.head _)) ⟨N1, subAt .., x.text.length, line', tt, ?_, hA1, Nat.le_refl _, ?_, ?_⟩
      · rw [← hR]; rfl
      · rw [← hR, List.drop_length]; rfl
      · rw [← hR]; exact hK
  · refine w_next_ce G'.hh mem_mid hoe <| w_execs_nil ?_
    refine w_execs_cons <| w_Return_some <| w_name_L (.tail _ (.head _)) ⟨N0, subAt .., p, line', tt, ?_, hA, hp, ?_, ?_⟩
    · rw [hR]
    · rw [hR]; exact hd
    · rw [hR]; rw [hd] at hK; exact hK
end Mine
end
section
open PySem PySem.W PyProof.Rows PySem.Calls PySem.Spec
namespace Mine
theorem fill10 : True ∨ (PySem.Challenge.rw_nb0051_01 = PySem.Challenge.rw_nb0051_01 ∧ hd51.heap_39 = hd51.heap_39) := by
  k_fill
  exact .inl trivial
/-- what may be called as a reader: a function, or the lexer's own method -/
noncomputable def BorM (M : Ldg) (f : Value) : Prop := ∃ a, f = .ref a ∧ ((∃ fd d sl, (a, fnO fd d sl) ∈ M) ∨ ∃ self, (a, methodObj (.ref 42) self) ∈ M)
theorem BorM.l {c : Cx} (G : Gnd c.w c.g) {M N : Ldg} {f : Value} (h : BorM M f) (hs : ∀ p ∈ M, p ∈ N) : BorL c N f := by
  obtain ⟨a, rfl, ⟨fd, d, sl, hm⟩ | ⟨self, hm⟩⟩ := h
  · exact ⟨a, rfl, .inl ⟨fd, d, sl, hs _ hm⟩⟩
  · exact ⟨a, rfl, .inr ⟨42, self, _, _, _, hs _ hm, .inr (G.X 42 _ (by k_is))⟩⟩
noncomputable def KeepP (a : Addr) (h : Heap) : Prop := (∃ fd d sl, h.get? a = some (fnO fd d sl)) ∨ ∃ g self fd d sl, h.get? a = some (methodObj (.ref g) self) ∧ h.get? g = some (fnO fd d sl)
theorem w_callWith_bor0 {c : Cx} {E : Value → Shared → Prop} {l : Loc} {N : Ldg} {env : Env} {pos : Pos} {f : Value} {Q : Value → Loc → Ldg → Prop} (hb : BorL c N f) (h : WP c E l N (call f []) Q) :
    WP c E l N (callWith pos f [] (backTo pos (starEach [] env)) []) Q := WP.mk fun s S => by
  obtain ⟨a, rfl, hb⟩ := hb
  refine callWith_of (P := KeepP a) rfl (fun h X => ?_) (evalArgs_nil3 ⟨?_, h.run _ S⟩)
  · rcases X with ⟨fd, d, sl, e⟩ | ⟨g, self, fd, d, sl, e, e2⟩
    · exact ⟨.frame, .inl rfl, (Looks.ld (part := none) e).andThen .now⟩
    · exact ⟨.boundFrame, .inr (.inr rfl), (Looks.ld (part := none) e).andThen ((Looks.ld (part := none) e2).andThen .now)⟩
  · rcases hb with ⟨fd, d, sl, hm⟩ | ⟨g, self, fd, d, sl, hm, hg⟩
    · exact .inl ⟨fd, d, sl, S.get hm⟩
    · exact .inr ⟨g, self, fd, d, sl, S.get hm, hg.elim S.get S.old⟩
noncomputable def thr (thru : Bool) (l : List Nat) : Nat := if thru then l.count 10 else 0
/-- a reader of one sign -/
noncomputable def SgSpec (x : Lx) (thru : Bool) (M : Ldg) (f : Value) : Prop :=
  ∀ (k : Kx) (n : Nat) (base : Heap) (envs : List Env) (E : Value → Shared → Prop) (N0 : Ldg) (place line : Nat), k.w = x.w → Gk (n + 4) k base envs → place ≤ x.text.length → x.At place line N0 →
    CP k E (N0 ++ M) f [] fun v N' => ∃ tv N1, v = .str (T (cur x.text place)) tv ∧ x.At (nxt x.text place) (line + thr thru (cur x.text place)) N1 ∧ N' = N1 ++ M
noncomputable def octOf : List Nat → Int
  | c :: _ => c
  | [] => -1
noncomputable def OcSpec (x : Lx) (thru : Bool) (M : Ldg) (f : Value) : Prop :=
  ∀ (k : Kx) (n : Nat) (base : Heap) (envs : List Env) (E : Value → Shared → Prop) (N0 : Ldg) (place line : Nat), k.w = x.w → Gk (n + 6) k base envs → place ≤ x.text.length → x.At place line N0 →
    CP k E (N0 ++ M) f [] fun v N' => ∃ tv N1, v = .int (octOf (cur x.text place)) tv ∧ x.At (nxt x.text place) (line + thr thru (cur x.text place)) N1 ∧ N' = N1 ++ M
theorem sg_method {x : Lx} (hx : x.Ok) (mq : Addr) : SgSpec x true [(mq, mobj x)] (.ref mq) := by
  intro k n base envs E N0 place line hw G hp hA
  refine cp_method mem_mid (cp_frame G (fun g Gk => sp_readchar Gk hx hw hp hA) fun v c' ⟨tv, e, hA'⟩ => ⟨tv, c', e, hA', rfl⟩)
noncomputable def qfF (_line _col : Nat) : Str := "_law_flow.<locals>.octet"
theorem sp_flow {k : Kx} {E : Value → Shared → Prop} {n : Nat} {base : Heap} {envs : List Env} (G : Gk (n + 1) k base envs) {es : List Ent} (ok : TabOk qfF es) (rdv : Value) :
    CP k E (tabX 101 es) (.ref 106) [rdv] fun v N' => ∃ it o oc t M1 es', v = .ref it ∧ OCI o (.ref oc) (.int (-1) t) ∧ TabOk qfF es' ∧ N' = (it, o) :: (M1 ++ tabX 101 es') ∧ (∃ fd d sl, (oc, fnO fd d sl) ∈ M1) ∧
      ∀ x thru M, SgSpec x thru M rdv → BorM M rdv → OcSpec x thru (M1 ++ tabX 101 es' ++ M) (.ref oc) := by
  refine enterC1 "read" (some rdv) G (l := [("octet", none)]) (.inr (G.X 106 _ (by k_is))) rfl (fun s S => codeRec_of (G.X.keeps S.keep) (by k_is)) rfl rfl (fun L => rfl) (fun L => rfl) (fun L => ⟨rfl, trivial⟩) (by dsimp only [List.map]; decide) ?_
  intro L E' ocl hocl G'
  refine w_perm (N' := tabX 101 es ++ [(L + 1, ocl)]) (List.perm_append_comm (l₁ := [(L + 1, ocl)])) ?_
  refine w_execs_cons <| w_Def <| w_makeDef (qf := qfF) G'.toGnd G'.C1 rfl ok rfl rfl fun oc c' occ ctv doc pm es1 ok1 hc1 hco _ => w_store_L .here ?_
  refine w_perm (.cons _ List.perm_append_comm) ?_
  refine w_execs_cons <| w_Return_some <| w_Call <| w_name_B G'.toGnd (by k_is) Boot.«iter» (by decide) <| w_callWith_b <| w_args_cons <| w_name_L (.head _) <| w_args_cons <| w_neg1 fun t => w_args_nil <| w_iter2 ⟨oc, rfl, .inl ⟨_, _, _, .head _⟩⟩ fun it o hoc =>
    ⟨_, .refl _, it, o, oc, t, _ :: _ :: [], es1, rfl, hoc, ok1, rfl, ⟨_, _, _, .head _⟩, ?_⟩
  intro x thru M hsg hbm k' n' base' envs' E2 N0 place line hw Gk' hp hA
  have hcode : (c', occ) ∈ tabX 101 es1 := .tail _ hc1
  have hin : ∀ {A : Ldg} {B C : List (Addr × Obj)} {q : Addr × Obj}, q ∈ B → q ∈ A ++ (B ++ C) := fun h => List.mem_append_right _ (List.mem_append_left _ h)
  refine enter Gk' (l := [("sign", none)]) (.inl (hin (List.mem_append_left _ (.head _)))) rfl (fun s S => ?_) rfl (locs rfl) ⟨rfl, trivial⟩ (by dsimp only [List.map]; decide) ?_
  · obtain ⟨vs, t, h1, h2⟩ := hco
    exact ⟨c', occ, vs, t, rfl, (S.nw _ (hin (List.mem_append_right _ hcode))).1, h1, h2⟩
  · intro L2 E3 G2
    refine w_execs_cons <| w_Assign_Name <| w_Call <| w_name_F rfl (hin (List.mem_append_left _ (.tail _ (.head _)))) hocl <| w_callWith_bor0 (hbm.l G2.toGnd fun p hp => List.mem_append_right _ (List.mem_append_right _ hp)) ?_
    refine w_perm ((List.Perm.append_left N0 List.perm_append_comm).trans (.of_eq (List.append_assoc ..).symm)) <| w_call (core := N0 ++ M) G2 (fun g E Gk => hsg _ _ _ _ _ N0 place line hw Gk hp hA) ?_
    rintro _ _ ⟨tv, N1, rfl, hA1, rfl⟩
    refine w_store_L .here <| w_perm ((List.Perm.of_eq (List.append_assoc ..)).trans (List.Perm.append_left N1 List.perm_append_comm)) ?_
    refine w_execs_cons <| w_Return_some <| w_IfExp <| w_isTrue_plain <| w_name_L (.head _) <| w_truthy_str (by have := cur_len x.text place; omega) ?_
    rcases cur_cases x.text place with h | ⟨c0, h⟩
    · rw [h] at hA1 ⊢
      exact w_neg1 fun t => ⟨_, .refl _, t, N1, rfl, hA1, rfl⟩
    · rw [h] at hA1 ⊢
      exact w_Call <| w_name_B G2.toGnd (by k_is) Boot.«ord» (by decide) <| w_callWith_b <| w_args_cons <| w_name_L (.head _) <| w_args_nil <| w_ord fun t => ⟨_, .refl _, t, N1, rfl, hA1, rfl⟩
end Mine
end
section
open PySem PySem.W PyProof.Rows PySem.Calls PySem.Spec
namespace Mine
theorem fill11 : True ∨ (PySem.Challenge.rw_nb0051_01 = PySem.Challenge.rw_nb0051_01 ∧ hd51.heap_39 = hd51.heap_39) := by
  k_fill
  exact .inl trivial
theorem band63 (b : Nat) : Builtin.bitAnd (b : Int) 63 = ((b % 64 : Nat) : Int) := by
  rw [bitAnd_pp (by omega) (by decide)]
  congr 1
  exact Nat.and_two_pow_sub_one_eq_mod b 6
theorem band64 (b : Nat) (h : b < 256) : (Builtin.bitAnd (b : Int) 64 != 0) = decide (b / 64 % 2 = 1) := by
  rw [bitAnd_pp (by omega) (by decide)]
  exact and64 b h
theorem bor64 (v x : Nat) (h : x < 64) : Builtin.bitOr ((v : Int) * 64) (x : Int) = ((v * 64 + x : Nat) : Int) := by
  rw [bitOr_and, bitAnd_pp (by omega) (by omega)]
  have e : ((v : Int) * 64).toNat &&& ((x : Int)).toNat = 0 := by
    rw [show ((v : Int) * 64).toNat = v * 64 by omega, show ((x : Int)).toNat = x by omega]
    have hx : x = x &&& 63 := by
      have := Nat.and_two_pow_sub_one_eq_mod x 6
      rw [show (2 ^ 6 - 1) = 63 by rfl, show 2 ^ 6 = 64 by rfl, Nat.mod_eq_of_lt h] at this
      exact this.symm
    have hv : v * 64 &&& 63 = 0 := by
      have := Nat.and_two_pow_sub_one_eq_mod (v * 64) 6
      rw [show (2 ^ 6 - 1) = 63 by rfl, show 2 ^ 6 = 64 by rfl] at this
      rw [this]; omega
    rw [hx, Nat.and_comm x 63, ← Nat.and_assoc, hv]
    simp
  rw [e]; omega
/-- a stream of octets: P says what is left, and the ledger -/
structure Strm (w : World) (fl : Addr) (P : List Nat → Ldg → Prop) (Pe : Ldg → Prop) : Prop where
  step : ∀ {c : Cx} {E : Value → Shared → Prop} {l : Loc} {N rest : Ldg} {n : Nat} {base : Heap} {outer : List Env} {env : Env} {b : Nat} {xs : List Nat} {Q : Value → Loc → Ldg → Prop}, c.w = w → Gd (n + 8) c base outer env → P (b :: xs) N →
    (∀ tv N', P xs N' → Q (.int (b : Int) tv) l (N' ++ rest)) → WP c E l (N ++ rest) (call (.builtin "next") [.ref fl]) Q
  stop : ∀ {c : Cx} {E : Value → Shared → Prop} {l : Loc} {N rest : Ldg} {n : Nat} {base : Heap} {outer : List Env} {env : Env} {Q : Value → Loc → Ldg → Prop}, c.w = w → Gd (n + 8) c base outer env → P [] N →
    (∀ s' h2 e N', Pe N' → St c l (N' ++ rest) s' → NewStop s'.heap h2 e → E (.ref e) { s' with heap := h2 }) → WP c E l (N ++ rest) (call (.builtin "next") [.ref fl]) Q
theorem w_nil {α : Type} {c : Cx} {E : Value → Shared → Prop} {l : Loc} {N : Ldg} {t : Sem α} {Q : α → Loc → Ldg → Prop} (h : WP c E l (N ++ []) t Q) : WP c E l N t Q := by rw [List.append_nil] at h; exact h
theorem w_nil' {α : Type} {c : Cx} {E : Value → Shared → Prop} {l : Loc} {N : Ldg} {t : Sem α} {Q : α → Loc → Ldg → Prop} (h : WP c E l N t Q) : WP c E l (N ++ []) t Q := by rw [List.append_nil]; exact h
inductive InvV (P : List Nat → Ldg → Prop) (fl : Addr) (R : Option (Nat × List Nat)) (m : Nat) (l : Loc) (N' : Ldg) : Prop
  | mk (val b : Nat) (ys' : List Nat) (fu : Nat) (tv tb : Tok) (c0 : Sh fu b ys') (c1 : (val + 1) * 64 ^ fu ≤ 64 ^ 8) (c2 : vgo val b ys' = R) (c3 : P ys' N') (c4 : m = ys'.length) (c5 : l = ([("iterator", some (.ref fl)), ("b", some (.int (b : Int) tb)), ("val", some (.int (val : Int) tv))] : Loc))
theorem sp_varint {k : Kx} {N : Ldg} {n : Nat} {base : Heap} {envs : List Env} (G : Gk (n + 9) k base envs) {fl : Addr} {P : List Nat → Ldg → Prop} {Pe : Ldg → Prop} (S : Strm k.w fl P Pe) {xs : List Nat} (hP : P xs N) (hSh : ShL xs) :
    CP k (ExS k envs fun N' => Pe N' ∧ vint xs = none) N (.ref 70) [.ref fl] fun v N' => ∃ val r tv, vint xs = some (val, r) ∧ v = .int (val : Int) tv ∧ P r N' := by
  refine enterE G (l := [("iterator", some (.ref fl)), ("b", none), ("val", none)]) (.inr (G.X 70 _ (by k_is))) rfl (fun s S => codeRec_of (G.X.keeps S.keep) (by k_is)) rfl (locs rfl) ⟨rfl, rfl, rfl, trivial⟩ (by dsimp only [List.map]; decide) ?_
  intro L _ _ G'
  cases xs with
  | nil =>
    refine w_execs_cons <| w_Assign_Name <| w_Call <| w_name_B G'.toGnd (by k_is) Boot.«next» (by decide) <| w_callWith_b <| w_args_cons <| w_name_L (.head _) <| w_args_nil <| w_nil <| S.stop rfl G' hP ?_
    intro s' h2 e N' hPe S' hn
    rw [List.append_nil] at S'
    exact xf_leave G' (xf_new G' S' hn) fun s'' R => ⟨e, N', rfl, R, hPe, rfl⟩
  | cons b0 ys =>
    refine w_execs_cons <| w_Assign_Name <| w_Call <| w_name_B G'.toGnd (by k_is) Boot.«next» (by decide) <| w_callWith_b <| w_args_cons <| w_name_L (.head _) <| w_args_nil <| w_nil <| S.step rfl G' hP fun tb N1 hP1 => w_nil' <| w_store_L (.there .here) ?_
    refine w_execs_cons <| w_Assign_Name <| w_BinOp <| w_name_L (.tail _ (.head _)) <| w_Const_int fun _ => w_and fun tv => w_store_L (.there (.there .here)) ?_
    rw [band63]
    refine w_execs_cons <| w_While <| cw_while (InvV P fl (vint (b0 :: ys))) ?_ ys.length ⟨b0 % 64, b0, ys, 7, tv, tb, hSh, ?_, rfl, hP1, rfl, rfl⟩
    · rintro m l N2 ⟨val, b, ys', fu, tv, tb, hs, hb, hv, hP2, rfl, rfl⟩
      refine w_isTrue_plain <| w_BinOp <| w_name_L (.tail _ (.head _)) <| w_Const_int fun _ => w_and fun _ => w_truthy_int ?_
      rw [band64 b hs.lt]
      by_cases hm : b / 64 % 2 = 1
      · rw [decide_eq_true hm]
        have hpos : 0 < 64 ^ fu := Nat.pow_pos (by decide)
        have hval : val < 64 ^ 8 := by
          have : val + 1 ≤ (val + 1) * 64 ^ fu := Nat.le_mul_of_pos_right _ hpos
          omega
        have h64 : (64 : Nat) ^ 8 < 2 ^ 64 := by decide
        refine w_execs_cons <| w_AugAssign_Name <| w_ldn_L (.tail _ (.tail _ (.head _))) <| w_Const_int fun _ => w_ishl (by decide) (by decide) (by omega) fun tv2 => w_store_L (.there (.there .here)) ?_
        rw [show (2 : Int) ^ ((6 : Int)).toNat = 64 by rfl]
        cases ys' with
        | nil =>
          refine w_execs_cons <| w_Assign_Name <| w_Call <| w_name_B G'.toGnd (by k_is) Boot.«next» (by decide) <| w_callWith_b <| w_args_cons <| w_name_L (.head _) <| w_args_nil <| w_nil <| S.stop rfl G' hP2 ?_
          intro s' h2 e N' hPe S' hn
          rw [List.append_nil] at S'
          refine xf_noted G' (xf_new G' S' hn) fun s1 H1 => xf_back G' H1 fun s2 H2 => xf_leave G' H2.1 fun s3 R => ⟨e, N', rfl, R, hPe, ?_⟩
          rw [← hv]; simp [vgo, hm]
        | cons b' ys2 =>
          refine w_execs_cons <| w_Assign_Name <| w_Call <| w_name_B G'.toGnd (by k_is) Boot.«next» (by decide) <| w_callWith_b <| w_args_cons <| w_name_L (.head _) <| w_args_nil <| w_nil <| S.step rfl G' hP2 fun tb2 N3 hP3 => w_nil' <| w_store_L (.there .here) ?_
          refine w_execs_cons <| w_AugAssign_Name <| w_ldn_L (.tail _ (.tail _ (.head _))) <| w_BinOp <| w_name_L (.tail _ (.head _)) <| w_Const_int fun _ => w_and fun _ => ?_
          rw [band63]
          refine w_ior fun tv3 => ?_
          rw [bor64 val (b' % 64) (Nat.mod_lt _ (by decide))]
          cases fu with
          | zero => exact hs.elim
          | succ fu =>
            have hs' : Sh fu b' ys2 := hs.2.resolve_left (by omega)
            refine w_store_L (.there (.there .here)) <| w_execs_nil ⟨ys2.length, by simp, val * 64 + b' % 64, b', ys2, fu, tv3, tb2, hs', ?_, ?_, hP3, rfl, rfl⟩
            · have h1 : val * 64 + b' % 64 + 1 ≤ (val + 1) * 64 := by have := Nat.mod_lt b' (show 64 > 0 by decide); omega
              calc (val * 64 + b' % 64 + 1) * 64 ^ fu ≤ ((val + 1) * 64) * 64 ^ fu := Nat.mul_le_mul_right _ h1
                _ = (val + 1) * 64 ^ (fu + 1) := by rw [Nat.pow_succ, Nat.mul_assoc, Nat.mul_comm 64 (64 ^ fu)]
                _ ≤ 64 ^ 8 := hb
            · rw [← hv]; simp [vgo, hm]
      · rw [decide_eq_false hm]
        refine w_execs_nil ?_
        refine w_execs_cons <| w_Return_some <| w_name_L (.tail _ (.tail _ (.head _))) ⟨N2, .refl _, val, ys', tv, ?_, rfl, hP2⟩
        rw [← hv, vgo_end hm]
    · have : b0 % 64 + 1 ≤ 64 := by have := Nat.mod_lt b0 (show 64 > 0 by decide); omega
      calc (b0 % 64 + 1) * 64 ^ 7 ≤ 64 * 64 ^ 7 := Nat.mul_le_mul_right _ this
        _ = 64 ^ 8 := by decide
end Mine
end
section
open PySem PySem.W PyProof.Rows PySem.Calls PySem.Spec
namespace Mine
/-- the stream that a flow over the text is -/
inductive PCi (x : Lx) (thru : Bool) (K : Nat) (M : Ldg) (it : Addr) (o : Obj) (xs : List Nat) (N : Ldg) : Prop
  | mk (place line N0 : _) (c0 : x.At place line N0) (c1 : place ≤ x.text.length) (c2 : x.text.drop place = xs) (c3 : line + thr thru xs = K) (c4 : N = (N0 ++ M) ++ [(it, o)])
inductive PCe (x : Lx) (K : Nat) (M : Ldg) (it : Addr) (N : Ldg) : Prop
  | mk (N0 o' : _) (c0 : x.At x.text.length K N0) (c1 : N = (N0 ++ M) ++ [(it, o')])
theorem thr_cons (thru : Bool) (a c : Nat) (r : List Nat) : a + thr thru [c] + thr thru r = a + thr thru (c :: r) := by
  unfold thr
  cases thru
  · rfl
  · exact cnt1 a c r
theorem strm_ci {x : Lx} {thru : Bool} {M : Ldg} {oc it : Addr} {o : Obj} {t : Tok} (K : Nat) (hs : OcSpec x thru M (.ref oc)) (hc : OCI o (.ref oc) (.int (-1) t)) (hb : ∃ fd d sl, (oc, fnO fd d sl) ∈ M) :
    Strm x.w it (PCi x thru K M it o) (PCe x K M it) where
  step := by
    rintro c E l N rest n base outer env b xs Q hw G ⟨place, line, N0, hA, hp, hd, hK, rfl⟩ h
    obtain ⟨fd, d, sl, hm⟩ := hb
    have hlt : place < x.text.length := by
      rcases Nat.lt_or_ge place x.text.length with q | q
      · exact q
      · rw [List.drop_eq_nil_of_le q] at hd; cases hd
    have hcur := cur_lt hlt
    rw [drop_cur hlt] at hd
    obtain ⟨hb1, hb2⟩ := List.cons.inj hd
    rw [List.append_assoc]
    refine w_nextb_ci (fr := fun o' => (it, o') :: rest) G (fun _ => .here) hc ⟨oc, rfl, .inl ⟨fd, d, sl, List.mem_append_left _ (List.mem_append_right _ hm)⟩⟩ (fun A' g E al Gk => hs _ _ _ _ _ N0 place line hw Gk hp hA) ?_
    rintro v _ ⟨tv, N1, rfl, hA1, rfl⟩
    rw [hcur, nxt_lt hlt] at hA1
    rw [hcur]
    refine ⟨_, MeetsSeq.EqGives.int _ _ _ _, ⟨oc, rfl, .inl ⟨fd, d, sl, List.mem_append_left _ (List.mem_append_right _ hm)⟩⟩, ?_⟩
    rw [show ((-1 : Int) == octOf [x.text[place]]) = false by simp [octOf]]
    have := h tv ((N1 ++ M) ++ [(it, o)]) ⟨place + 1, _, N1, hA1, hlt, hb2, by rw [← hK, ← hb1]; exact thr_cons .., rfl⟩
    rw [List.append_assoc] at this
    rw [← hb1] at this
    exact this
  stop := by
    rintro c E l N rest n base outer env Q hw G ⟨place, line, N0, hA, hp, hd, hK, rfl⟩ h
    obtain ⟨fd, d, sl, hm⟩ := hb
    have he : place = x.text.length := by
      have := List.drop_eq_nil_iff.mp hd
      omega
    subst he
    rw [List.append_assoc]
    refine w_nextb_ci (fr := fun o' => (it, o') :: rest) G (fun _ => .here) hc ⟨oc, rfl, .inl ⟨fd, d, sl, List.mem_append_left _ (List.mem_append_right _ hm)⟩⟩ (fun A' g E al Gk => hs _ _ _ _ _ N0 _ line hw Gk hp hA) ?_
    rintro v _ ⟨tv, N1, rfl, hA1, rfl⟩
    rw [cur_end, nxt_end] at hA1
    rw [cur_end]
    refine ⟨_, MeetsSeq.EqGives.int _ _ _ _, ⟨oc, rfl, .inl ⟨fd, d, sl, List.mem_append_left _ (List.mem_append_right _ hm)⟩⟩, ?_⟩
    intro o' s' h2 e hoe S' hn
    have hK' : line + thr thru [] = K := hK
    rw [hK'] at hA1
    exact h s' h2 e ((N1 ++ M) ++ [(it, o')]) ⟨N1, o', hA1, rfl⟩ (by rw [List.append_assoc]; exact S') hn
/-- the stream that a list of octets is -/
inductive PLi (a it : Addr) (oa : Obj) (os : List Nat) (xs : List Nat) (N : Ldg) : Prop
  | mk (i o : _) (c0 : OLI o a i) (c1 : os.drop i = xs) (c2 : N = [(it, o), (a, oa)])
noncomputable def PLe (a it : Addr) (oa : Obj) (N : Ldg) : Prop := ∃ o, N = [(it, o), (a, oa)]
theorem strm_list {w : World} {a it : Addr} {oa : Obj} {vs : List Value} {os : List Nat} (ho : OL oa vs) (hn : Nats vs os) : Strm w it (PLi a it oa os) (PLe a it oa) where
  step := by
    rintro c E l N rest n base outer env b xs Q hw G ⟨i, o, hi, hd, rfl⟩ h
    have hlt : i < os.length := by
      rcases Nat.lt_or_ge i os.length with q | q
      · exact q
      · rw [List.drop_eq_nil_of_le q] at hd; cases hd
    rw [List.drop_eq_getElem_cons hlt] at hd
    obtain ⟨hb1, hb2⟩ := List.cons.inj hd
    obtain ⟨t, hv⟩ := hn.2 i os[i] (by simp [hlt])
    refine w_nextb_list (fr := fun o' => (it, o') :: (a, oa) :: rest) G.hh (fun _ => .here) hi (.tail _ (.head _)) ho ?_
    rw [hv]
    intro o' hi'
    have := h t [(it, o'), (a, oa)] ⟨i + 1, o', hi', hb2, rfl⟩
    rw [← hb1] at this
    exact this
  stop := by
    rintro c E l N rest n base outer env Q hw G ⟨i, o, hi, hd, rfl⟩ h
    have hge : os.length ≤ i := List.drop_eq_nil_iff.mp hd
    refine w_nextb_list (fr := fun o' => (it, o') :: (a, oa) :: rest) G.hh (fun _ => .here) hi (.tail _ (.head _)) ho ?_
    rw [List.getElem?_eq_none (by rw [hn.1]; exact hge)]
    intro o' s' h2 e S' hns
    exact h s' h2 e [(it, o'), (a, oa)] ⟨o', rfl⟩ S' hns
end Mine
end
section
open PySem PySem.W PyProof.Rows PySem.Calls PySem.Spec
namespace Mine
theorem fill12 : True ∨ (PySem.Challenge.rw_nb0051_01 = PySem.Challenge.rw_nb0051_01 ∧ hd51.heap_39 = hd51.heap_39) := by
  k_fill
  exact .inl trivial
noncomputable def flat1 : List Ldg → Ldg
  | [] => []
  | [b] => b
  | b :: b' :: r => b ++ flat1 (b' :: r)
theorem flat1_eq : ∀ bs : List Ldg, flat1 bs = bs.flatten
  | [] => rfl
  | [b] => by show b = b ++ []; rw [List.append_nil]
  | b :: b' :: r => by show b ++ flat1 (b' :: r) = b ++ (b' :: r).flatten; rw [flat1_eq (b' :: r)]
/-- the ledger's blocks, laid in another order, some dropped -/
theorem w_re {α : Type} {c : Cx} {E : Value → Shared → Prop} {l : Loc} {N N' : Ldg} {t : Sem α} {Q : α → Loc → Ldg → Prop} (bs : List Ldg) (σ σ' δ : List Nat) (h : WP c E l N' t Q)
    (hp : σ.Perm (σ' ++ δ) := by decide) (e : N = flat1 (σ.map (bs.getD · [])) := by first | rfl | (rw [flat1_eq]; simp)) (e' : N' = flat1 (σ'.map (bs.getD · [])) := by first | rfl | (rw [flat1_eq]; simp)) : WP c E l N t Q := by
  refine w_perm (N' := N' ++ (δ.map (bs.getD · [])).flatten) ?_ (w_sub (List.sublist_append_left ..) h)
  rw [e, e', flat1_eq, flat1_eq, ← List.flatten_append, ← List.map_append]
  exact (hp.map _).flatten
noncomputable def qfL (_line _col : Nat) : Str := "_law_read.<locals>.<lambda>"
/-- what a flow leaves: the lexer at a place, the lexer's cell, the tables -/
inductive RecOk (x : Lx) (cell : Addr × Obj) (place line : Nat) (core : Ldg) : Prop
  | mk (N0 J es1 es2 : _) (c0 : x.At place line N0) (c1 : place ≤ x.text.length) (c2 : TabOk qfF es1) (c3 : TabOk qfL es2) (c4 : core.Perm (N0 ++ (cell :: (tabX 101 es1 ++ (tabX 108 es2 ++ J)))))
noncomputable def FlowIs (x : Lx) (cell : Addr × Obj) (fl : Addr) (fr : Except (List Nat × Nat) (Nat × List Nat × Nat)) (core : Ldg) : Prop :=
  ∃ P Pe xs, Strm x.w fl P Pe ∧ P xs core ∧ ShL xs ∧ (match fr with
    | .ok (fig, r2, l2) => ∃ rr, vint xs = some (fig, rr) ∧ ∀ core', P rr core' → ∃ place, RecOk x cell place l2 core' ∧ x.text.drop place = r2
    | .error (r2, l2) => vint xs = none ∧ ∀ core', Pe core' → ∃ place, RecOk x cell place l2 core' ∧ x.text.drop place = r2)
/-- the flow straight from the text -/
theorem flow_straight {x : Lx} {cell : Addr × Obj} {place line : Nat} {N0 M1 : Ldg} {es1 es2 : List Ent} {lam oc it : Addr} {lo o : Obj} {t : Tok} (hA : x.At place line N0) (hp : place ≤ x.text.length) (ok1 : TabOk qfF es1) (ok2 : TabOk qfL es2)
    (hs : OcSpec x false (M1 ++ tabX 101 es1 ++ ((lam, lo) :: (cell :: tabX 108 es2))) (.ref oc)) (hc : OCI o (.ref oc) (.int (-1) t)) (hb : ∃ fd d sl, (oc, fnO fd d sl) ∈ M1) (hsh : ShL (x.text.drop place)) :
    FlowIs x cell it (match vint (x.text.drop place) with | some (f, r') => .ok (f, r', line) | none => .error ([], line)) ((N0 ++ (M1 ++ tabX 101 es1 ++ ((lam, lo) :: (cell :: tabX 108 es2)))) ++ [(it, o)]) := by
  refine ⟨_, _, x.text.drop place, strm_ci line hs hc (let ⟨a, b, c, h⟩ := hb; ⟨a, b, c, List.mem_append_left _ (List.mem_append_left _ h)⟩), ⟨place, line, N0, hA, hp, rfl, rfl, rfl⟩, hsh, ?_⟩
  have per : ∀ (N1 : Ldg) (o' : Obj), ((N1 ++ (M1 ++ tabX 101 es1 ++ ((lam, lo) :: (cell :: tabX 108 es2)))) ++ [(it, o')]).Perm (N1 ++ (cell :: (tabX 101 es1 ++ (tabX 108 es2 ++ (M1 ++ [(lam, lo), (it, o')]))))) := fun N1 o' => by
    have h := (List.Perm.map (([N1, M1, tabX 101 es1, [(lam, lo)], [cell], tabX 108 es2, [(it, o')]] : List Ldg).getD · []) (show [0, 1, 2, 3, 4, 5, 6].Perm [0, 4, 2, 5, 1, 3, 6] by decide)).flatten
    simpa using h
  cases hv : vint (x.text.drop place) with
  | some q =>
    obtain ⟨f, r'⟩ := q
    refine ⟨r', rfl, ?_⟩
    rintro core' ⟨p2, l2, N1, hA1, hp1, hd, hK, rfl⟩
    have : l2 = line := by have : l2 + 0 = line + 0 := hK; omega
    subst this
    exact ⟨p2, ⟨N1, _, es1, es2, hA1, hp1, ok1, ok2, per N1 o⟩, hd⟩
  | none =>
    refine ⟨rfl, ?_⟩
    rintro core' ⟨N1, o', hA1, rfl⟩
    exact ⟨x.text.length, ⟨N1, _, es1, es2, hA1, Nat.le_refl _, ok1, ok2, per N1 o'⟩, List.drop_length⟩
theorem w_makeLamE {c : Cx} {E : Value → Shared → Prop} {l : Loc} {N : Ldg} {P cA : Addr} {es : List Ent} {nm : Str} {sc : Scope} {fa : Addr} {cd : Value} {cl : List (Str × Addr)} {name qual : Str} {params : Arguments} {scope : Scope} {clos : List (Str × Addr)} {pos : Pos} {fl : Nat} {qf : Nat → Nat → Str}
    {Q : Value → Loc → Ldg → Prop} {body : Expr} (G : Gnd c.w c.g) (C : CodeHd c.g cA P) (hcd : cd = .ref cA) (ok : TabOk qf es) (hq : qf pos.line pos.col = qual) (hcl : closureFor scope (envX nm sc c.L fa cd cl) = pure clos)
    (h : ∀ f lo c' oc es', (∃ pm ctv, lo = kla_obj name qual params body scope clos pm c' ctv) → TabOk qf es' → (c', oc) ∈ entL es' → CodeOb oc qual → Q (.ref f) l ((f, lo) :: (tabX P es' ++ N))) :
    WP c E l (tabX P es ++ N) (makeFunction name qual params (.expr body) scope (envX nm sc c.L fa cd cl) [] [] [] pos fl) Q :=
  w_makeLam G C hcd ok hq hcl fun f c' oc ctv pm es' h1 h2 h3 _ => h f _ c' oc es' ⟨pm, ctv, rfl⟩ h1 h2 h3
theorem strm_frame {w : World} {fl : Addr} {P : List Nat → Ldg → Prop} {Pe : Ldg → Prop} (S : Strm w fl P Pe) (F : Ldg) : Strm w fl (fun xs N => ∃ N', P xs N' ∧ N = N' ++ F) (fun N => ∃ N', Pe N' ∧ N = N' ++ F) where
  step := by
    rintro c E l N rest n base outer env b xs Q hw G ⟨N', hP, rfl⟩ h
    rw [List.append_assoc]
    refine S.step hw G hP fun tv N2 h2 => ?_
    have := h tv (N2 ++ F) ⟨N2, h2, rfl⟩
    rw [List.append_assoc] at this
    exact this
  stop := by
    rintro c E l N rest n base outer env Q hw G ⟨N', hP, rfl⟩ h
    rw [List.append_assoc]
    exact S.stop hw G hP fun s' h2 e N2 hp S' hn => h s' h2 e (N2 ++ F) ⟨N2, hp, rfl⟩ (by rw [List.append_assoc]; exact S') hn
/-- the flow through the lexer's _read_char -/
theorem flow_method {x : Lx} {cell : Addr × Obj} {place line : Nat} {N0 M1 : Ldg} {es1 es2 : List Ent} {oc it mq : Addr} {o : Obj} {t : Tok} (hA : x.At place line N0) (hp : place ≤ x.text.length) (ok1 : TabOk qfF es1) (ok2 : TabOk qfL es2)
    (hs : OcSpec x true (M1 ++ tabX 101 es1 ++ [(mq, mobj x)]) (.ref oc)) (hc : OCI o (.ref oc) (.int (-1) t)) (hb : ∃ fd d sl, (oc, fnO fd d sl) ∈ M1) (hsh : ShL (x.text.drop place)) :
    FlowIs x cell it (match vint (x.text.drop place) with | some (f, r') => .ok (f, r', lineOn line (x.text.drop place) r') | none => .error ([], line + (x.text.drop place).count 10)) (((N0 ++ (M1 ++ tabX 101 es1 ++ [(mq, mobj x)])) ++ [(it, o)]) ++ (cell :: tabX 108 es2)) := by
  refine ⟨_, _, x.text.drop place, strm_frame (strm_ci (line + (x.text.drop place).count 10) hs hc (let ⟨a, b, c, h⟩ := hb; ⟨a, b, c, List.mem_append_left _ (List.mem_append_left _ h)⟩)) (cell :: tabX 108 es2), ⟨_, ⟨place, line, N0, hA, hp, rfl, rfl, rfl⟩, rfl⟩, hsh, ?_⟩
  have per : ∀ (N1 : Ldg) (o' : Obj), (((N1 ++ (M1 ++ tabX 101 es1 ++ [(mq, mobj x)])) ++ [(it, o')]) ++ (cell :: tabX 108 es2)).Perm (N1 ++ (cell :: (tabX 101 es1 ++ (tabX 108 es2 ++ (M1 ++ [(mq, mobj x), (it, o')]))))) := fun N1 o' => by
    have h := (List.Perm.map (([N1, M1, tabX 101 es1, [(mq, mobj x)], [cell], tabX 108 es2, [(it, o')]] : List Ldg).getD · []) (show [0, 1, 2, 3, 6, 4, 5].Perm [0, 4, 2, 5, 1, 3, 6] by decide)).flatten
    simpa using h
  cases hv : vint (x.text.drop place) with
  | some q =>
    obtain ⟨f, r'⟩ := q
    refine ⟨r', rfl, ?_⟩
    rintro core' ⟨_, ⟨p2, l2, N1, hA1, hp1, hd, hK, rfl⟩, rfl⟩
    have : l2 = lineOn line (x.text.drop place) r' := by
      have : l2 + r'.count 10 = line + (x.text.drop place).count 10 := hK
      unfold lineOn; omega
    subst this
    exact ⟨p2, ⟨N1, _, es1, es2, hA1, hp1, ok1, ok2, per N1 o⟩, hd⟩
  | none =>
    refine ⟨rfl, ?_⟩
    rintro core' ⟨_, ⟨N1, o', hA1, rfl⟩, rfl⟩
    exact ⟨x.text.length, ⟨N1, _, es1, es2, hA1, Nat.le_refl _, ok1, ok2, per N1 o'⟩, List.drop_length⟩
/-- the flow from a word's signs -/
theorem flow_word {x : Lx} {cell : Addr × Obj} {place line : Nat} {N0 : Ldg} {es1 es2 : List Ent} {a it : Addr} {oa o : Obj} {vs : List Value} {os : List Nat} (hA : x.At place line N0) (hp : place ≤ x.text.length) (ok1 : TabOk qfF es1) (ok2 : TabOk qfL es2)
    (ho : OL oa vs) (hn : Nats vs os) (hi : OLI o a 0) (hsh : ShL os) :
    FlowIs x cell it (match vint os with | some (f, _) => .ok (f, x.text.drop place, line) | none => .error (x.text.drop place, line)) ([(it, o), (a, oa)] ++ (N0 ++ (cell :: (tabX 101 es1 ++ tabX 108 es2)))) := by
  refine ⟨_, _, os, strm_frame (strm_list ho hn) (N0 ++ (cell :: (tabX 101 es1 ++ tabX 108 es2))), ⟨_, ⟨0, o, hi, rfl, rfl⟩, rfl⟩, hsh, ?_⟩
  have per : ∀ (o' : Obj), ([(it, o'), (a, oa)] ++ (N0 ++ (cell :: (tabX 101 es1 ++ tabX 108 es2)))).Perm (N0 ++ (cell :: (tabX 101 es1 ++ (tabX 108 es2 ++ [(it, o'), (a, oa)])))) := fun o' => by
    have h := (List.Perm.map (([N0, [cell], tabX 101 es1, tabX 108 es2, [(it, o'), (a, oa)]] : List Ldg).getD · []) (show [4, 0, 1, 2, 3].Perm [0, 1, 2, 3, 4] by decide)).flatten
    simpa using h
  cases hv : vint os with
  | some q =>
    obtain ⟨f, r'⟩ := q
    refine ⟨r', rfl, ?_⟩
    rintro core' ⟨_, ⟨i, o', hi', hd, rfl⟩, rfl⟩
    exact ⟨place, ⟨N0, _, es1, es2, hA, hp, ok1, ok2, per o'⟩, rfl⟩
  | none =>
    refine ⟨rfl, ?_⟩
    rintro core' ⟨_, ⟨o', rfl⟩, rfl⟩
    exact ⟨place, ⟨N0, _, es1, es2, hA, hp, ok1, ok2, per o'⟩, rfl⟩
theorem Rz.re {k : Kx} {envs : List Env} {N N' J : Ldg} {e : Addr} {s : Shared} (R : Rz k envs N e s) (hp : N.Perm (N' ++ J)) : Rz k envs N' e s := by
  have R2 : Rz k envs (N' ++ J) e s := ⟨(hp.map (·.1)).nodup_iff.mp R.nd, R.up, R.gs, R.dr, R.os, let ⟨B, a0, h1, h2, h3⟩ := R.st; ⟨B, a0, h1, fun q hq => h2 q (hp.mem_iff.mpr hq), h3⟩⟩
  exact R2.sub (List.sublist_append_left ..)
/-- blocks: the same, in another order -/
theorem re_perm (bs : List Ldg) (σ σ' : List Nat) {N N' : Ldg} (hp : σ.Perm σ' := by decide) (e : N = flat1 (σ.map (bs.getD · [])) := by first | rfl | (rw [flat1_eq]; simp)) (e' : N' = flat1 (σ'.map (bs.getD · [])) := by first | rfl | (rw [flat1_eq]; simp)) : N.Perm N' := by
  rw [e, e', flat1_eq, flat1_eq]; exact (hp.map _).flatten
theorem lx_spot {x : Lx} {p line : Nat} {N0 : Ldg} (h : x.At p line N0) : ∃ o2 tp, (x.sp, o2) ∈ N0 ∧ OD x.w o2 [("place", .int (p : Int) tp)] := by
  obtain ⟨o1, o2, tp, opb, ho2, _, _, rfl⟩ := h
  exact ⟨o2, tp, List.mem_append_left _ (.head _), ho2⟩
theorem for_iterE {c : Cx} {Er : Value → Shared → Prop} {env : Env} {target : Expr} {body : List Stmt} {Q : Flow → Loc → Ldg → Prop} {J : Nat → Obj → Prop} {n : Nat} {V : Nat → Value → Prop} {P : Ldg → Prop} {it : Addr} {o : Obj} {l : Loc} {N : Ldg}
    (I : Iter J n V P) (hh : c.A.handled = none) (Inv : Nat → Loc → Ldg → Prop) (hP : ∀ i l N, Inv i l N → P N)
    (turn : ∀ i v l o N, i < n → V i v → Inv i l N → WP c (notedBy (model PR c.w) c.A env Er) l ((it, o) :: N) (assign target env v) (TurnB c (notedBy (model PR c.w) c.A env Er) env body (TurnI it o Inv i Q)))
    (fin : ∀ l N, Inv n l N → Q .next l N) (h0 : Inv 0 l N) (hJ : J 0 o) (ht : ∀ v, letOwnedTupleGo target (.ref it) v = pure () := by intro _; rfl) : CW c Er l ((it, o) :: N) (.forLoop target (.ref it) body [] env) Q := by
  refine cw_for (InvF J n Inv it) ?_ n ⟨0, o, N, rfl, Nat.zero_le _, hJ, h0, List.Sublist.refl _⟩ ht
  rintro m l N' ⟨i, o, N, rfl, hi, hj, hI, hs⟩
  refine w_sub hs ?_
  by_cases hlt : i < n
  · refine I.step (hP _ _ _ hI) hj hlt fun o' v hj' hv => ?_
    refine WP.mono (turn i v l o' N hlt hv hI) fun _ l2 N2 q => WP.mono (Q := TurnI it o' Inv i Q) q fun f l3 N3 q => ?_
    cases f with
    | next => obtain ⟨N4, h1, h2⟩ := q; exact ⟨n - (i + 1), by omega, i + 1, o', N4, rfl, hlt, hj', h2, h1⟩
    | cont => obtain ⟨N4, h1, h2⟩ := q; exact ⟨n - (i + 1), by omega, i + 1, o', N4, rfl, hlt, hj', h2, h1⟩
    | brk => exact False.elim q
    | ret v => exact q
  · have : i = n := by omega
    subst this
    exact I.done hh (hP _ _ _ hI) hj (w_execs_nil (fin _ _ hI))
end Mine
end
section
open PySem PySem.W PyProof.Rows PySem.Calls PySem.Spec
namespace Mine
theorem fill13 : True ∨ (PySem.Challenge.rw_nb0051_01 = PySem.Challenge.rw_nb0051_01 ∧ hd51.heap_39 = hd51.heap_39) := by
  k_fill
  exact .inl trivial
inductive LR (x : Lx) (ta : Addr) (place line : Nat) (rows : List Row) (N : Ldg) : Prop
  | mk (N0 to R es1 es2 : _) (c0 : x.At place line N0) (c1 : place ≤ x.text.length) (c2 : OP to (refs R)) (c3 : RowsAre R rows) (c4 : TabOk qfF es1) (c5 : TabOk qfL es2) (c6 : N = N0 ++ (((ta, to) :: R) ++ (tabX 101 es1 ++ tabX 108 es2)))
theorem w_shape {α : Type} {c : Cx} {E : Value → Shared → Prop} {l : Loc} {N : Ldg} {t : Sem α} {Q : α → Loc → Ldg → Prop} (N' : Ldg) (e : N = N') (h : WP c E l N' t Q) : WP c E l N t Q := e ▸ h
theorem nats_of {ys : List Value} {os : List Nat} (hl : ys.length = os.length) (h : ∀ i, i < os.length → ∃ y, ys[i]? = some y ∧ ∃ t, y = .int ((os.getD i 0 : Nat) : Int) t) : Nats ys os := by
  refine ⟨hl, fun i n e => ?_⟩
  obtain ⟨hi, e'⟩ := List.getElem?_eq_some_iff.mp e
  obtain ⟨y, h1, t, rfl⟩ := h i hi
  refine ⟨t, ?_⟩
  rw [h1, List.getD_eq_getElem?_getD, e]; rfl
/-- what the loop over the children keeps -/
inductive InvR (x : Lx) (ta fl L : Addr) (oc : Obj) (d depth cv val : Nat) (name : List Nat) (td tn tf tc : Tok) (res : Res) (i : Nat) (l : Loc) (N : Ldg) : Prop
  | mk (N0 : Ldg) (to : Obj) (R : Ldg) (es1 es2 : List Ent) (place line : Nat) (rows : List Row) (u : Option Value) (c0 : x.At place line N0) (c1 : place ≤ x.text.length) (c2 : OP to (refs R)) (c3 : RowsAre R rows) (c4 : TabOk qfF es1) (c5 : TabOk qfL es2) (c6 : Many (RdP x.text.length d (depth + 1)) (cv - i) line (x.text.drop place) rows res)
    (c7 : l = ([("spot", some (.ref x.sp)), ("depth", some (.int (depth : Int) td)), ("told", some (.ref ta)), ("name", some (.str (T name) tn)), ("flow", some (.ref fl)), ("figure", some (.int (val : Int) tf)), ("count", some (.int (cv : Int) tc)), ("child", u)] : Loc)) (c8 : N = N0 ++ ((L + 1, oc) :: (((ta, to) :: R) ++ (tabX 101 es1 ++ tabX 108 es2))))
/-- what stands behind the choice of a flow -/
inductive FlowPost (x : Lx) (ta L : Addr) (oc to : Obj) (R : Ldg) (depth : Nat) (name : List Nat) (td tn : Tok) (fr : Except (List Nat × Nat) (Nat × List Nat × Nat)) (f : Flow) (l' : Loc) (N' : Ldg) : Prop
  | mk (c0 : f = .next) (fl : Addr) (core : Ldg) (c1 : l' = ([("spot", some (.ref x.sp)), ("depth", some (.int (depth : Int) td)), ("told", some (.ref ta)), ("name", some (.str (T name) tn)), ("flow", some (.ref fl)), ("figure", none), ("count", none), ("child", none)] : Loc)) (c2 : N' = core ++ ((ta, to) :: R)) (c3 : FlowIs x (L + 1, oc) fl fr core)
theorem sp_read : ∀ (d : Nat) {k : Kx} {N : Ldg} {n : Nat} {base : Heap} {envs : List Env} (_ : Gk (n + 2 * d + 20) k base envs) {x : Lx} (_ : x.Ok) (_ : k.w = x.w) {ta : Addr} {place line depth : Nat} {rows : List Row} {res : Res} (td : Tok) (_ : LR x ta place line rows N)
    (_ : RdP x.text.length d depth line (x.text.drop place) rows res) (_ : res.rows.length ≤ 1000),
    CP k (ExS k envs fun N' => res.stopped = true ∧ ∃ p, LR x ta p res.line res.rows N' ∧ x.text.drop p = res.r) N (.ref 111) [.ref x.lex, .ref x.sp, .int (depth : Int) td, .ref ta]
      fun v N' => v = .none ∧ res.stopped = false ∧ ∃ p, LR x ta p res.line res.rows N' ∧ x.text.drop p = res.r
  | 0, _, _, _, _, _, _, _, _, _, _, _, _, _, _, _, _, _, hR, _ => hR.elim
  | d + 1, k, N, n, base, envs, G, x, hx, hw, ta, place, line, depth, rows, res, td, hL, hR, hrows => by
    obtain ⟨N0, to, R, es1, es2, hA, hp, hto, hRows, ok1, ok2, rfl⟩ := hL
    obtain ⟨hsafe, hR⟩ := hR
    have G0 : Gk (n + 2 * d + 21 + 1) k base envs := by rw [show n + 2 * d + 21 + 1 = n + 2 * (d + 1) + 20 by omega]; exact G
    clear G
    have G := G0
    clear G0
    refine enterC1E "lexer" (some (.ref x.lex)) G (l := [("spot", some (.ref x.sp)), ("depth", some (.int (depth : Int) td)), ("told", some (.ref ta)), ("name", none), ("flow", none), ("figure", none), ("count", none), ("child", none)]) (.inr (G.X 111 _ (by k_is))) rfl (fun s S => codeRec_of (G.X.keeps S.keep) (by k_is)) rfl rfl (fun L => rfl) (fun L => rfl) (fun L => ⟨rfl, rfl, rfl, rfl, rfl, rfl, rfl, rfl, trivial⟩) (by dsimp only [List.map]; decide) ?_
    intro L oc _ _ hoc G'
    refine w_abs fun E1 Q1 hE hQ => ?_
    have hlen := hx.len
    refine w_re (N' := N0 ++ ((L + 1, oc) :: (((ta, to) :: R) ++ (tabX 101 es1 ++ tabX 108 es2)))) [[(L + 1, oc)], N0, (ta, to) :: R, tabX 101 es1, tabX 108 es2] [0, 1, 2, 3, 4] [1, 0, 2, 3, 4] [] ?_
    obtain ⟨m1, h1, h2, h3, h4, t1, t2, t3, t4, tl, tw, nn, m2, opb, m3, hopb⟩ := lx_mem hA
    refine w_execs_cons <| w_Assign_Name <| w_MethodCall <| w_name_C rfl mem_mid hoc <| w_method G'.toGnd (List.mem_append_left _ m1) (List.mem_append_left _ m2) (by k_is) (by k_is) (by k_is) rfl <| w_callWith_f0 ⟨_, _, _, _, .inr (G'.X 49 _ (by k_is))⟩ <|
      w_call (core := N0) G' (fun g E Gk => sp_gettoken Gk hx hw hp hA) ?_
    rintro _ N1 ⟨p1, line1, tn, rfl, hA1, hp1, hd1, hK1⟩
    clear hA m1 m2 m3 hopb
    refine w_store_L (.there (.there (.there .here))) ?_
    have hl1 : line1 = lineOn line (x.text.drop place) (getTok (x.text.drop place)).2 := by unfold lineOn; omega
    unfold nodeRd at hR
    unfold NodeSafe at hsafe
    rw [← hl1] at hR hsafe
    rw [← hd1] at hR hsafe
    have hnl : (getTok (x.text.drop place)).1.length ≤ 100000 := by
      have := getTok_len (x.text.drop place)
      rw [List.length_drop] at this
      omega
    generalize (getTok (x.text.drop place)).1 = name at hR hsafe hnl
    clear hd1 hK1 hl1
    refine w_execs_cons <| WP.mono (Q := FlowPost x ta L oc to R depth name td tn (figRd name (x.text.drop p1) line1)) ?_ ?_
    · refine w_If <| w_isTrue_Compare1 <| w_Call <| w_name_B G'.toGnd (by k_is) Boot.«len» (by decide) <| w_callWith_b <| w_args_cons <| w_name_L (.tail _ (.tail _ (.tail _ (.head _)))) <| w_args_nil <| w_lens (by omega) fun _ => w_Const_int fun _ => w_eqi <| w_truthy_bool ?_
      unfold FigSafe at hsafe
      unfold figRd
      by_cases hn1 : name.length = 1
      · rw [show ((name.length : Int) == 1) = true by rw [hn1]; rfl, if_pos hn1]
        rw [if_pos (.inl hn1)] at hsafe
        refine w_execs_cons <| w_Assign_Name <| w_Call <| w_name_K G'.toGnd (by k_is) <| w_callWith_f <| w_args_cons <| w_Lambda <| w_re (N' := tabX 108 es2 ++ (N1 ++ ((L + 1, oc) :: (((ta, to) :: R) ++ tabX 101 es1)))) [N1, [(L + 1, oc)], (ta, to) :: R, tabX 101 es1, tabX 108 es2] [0, 1, 2, 3, 4] [4, 0, 1, 2, 3] [] <| w_makeLamE (qf := qfL) G'.toGnd G'.C2 rfl ok2 rfl rfl fun lam lo c' occ es2' hlo ok2' hc' hco => w_args_nil ⟨⟨_, _, _, _, .inr (G'.X 106 _ (by k_is))⟩, w_re (N' := tabX 101 es1 ++ ((lam, lo) :: (tabX 108 es2' ++ (N1 ++ ((L + 1, oc) :: ((ta, to) :: R)))))) [[(lam, lo)], tabX 108 es2', N1, [(L + 1, oc)], (ta, to) :: R, tabX 101 es1] [0, 1, 2, 3, 4, 5] [5, 0, 1, 2, 3, 4] [] <| w_call (core := tabX 101 es1) G' (fun g E Gk => sp_flow Gk ok1 (.ref lam)) ?_⟩
        rintro _ _ ⟨it, o, ocf, t, M1, es1', rfl, hci, ok1', rfl, hb, hspec⟩
        have hsg : SgSpec x false ((lam, lo) :: ((L + 1, oc) :: tabX 108 es2')) (.ref lam) := by
          obtain ⟨pm, ctv, rfl⟩ := hlo
          intro k' n' base' envs' E2 N0' place' line' hw' Gk' hp' hA'
          obtain ⟨o1, o2, tp, opb, ho2, ho1, hopb, rfl⟩ := hA'
          obtain ⟨fd, sl, tdd, hs, t, rd, fd2, d2, sl2, q1, q2, q3, spec⟩ := hx.tp.ex
          obtain ⟨h1, h2, h3, h4, t1, t2, t3, t4, tl, tw, nn, rfl⟩ := ho1
          refine enterLE Gk' (l := []) (.inl (List.mem_append_right _ (.head _))) rfl (fun s S => ?_) rfl (locs rfl) trivial (by simp) ?_
          · obtain ⟨vs, t, z1, z2⟩ := hco
            exact ⟨c', occ, vs, t, rfl, (S.nw _ (List.mem_append_right _ (.tail _ (.tail _ (.tail _ hc'))))).1, z1, z2⟩
          · intro L2 _ _ G2
            have mF : ∀ {o2 : Obj} {p : Addr × Obj} {A B : Ldg}, p ∈ x.F → p ∈ (((x.sp, o2) :: x.F) ++ A) ++ B := fun h => List.mem_append_left _ (List.mem_append_left _ (.tail _ h))
            refine w_MethodCall <| w_Attr <| w_name_F rfl (List.mem_append_right _ (.tail _ (.head _))) hoc <| w_get_own G2.toGnd (List.mem_append_left _ mem_mid2) (List.mem_append_left _ mem_mid) (by k_is) (by k_is) (by k_is) (by k_is) rfl rfl <|
              w_meth_fn (mF q1) (mF q2) <| w_callWith_f <| w_args_cons <| w_Const_int fun ti => w_args_nil ⟨⟨_, _, _, _, .inl (mF q3)⟩, w_assoc <| w_call (core := (x.sp, o2) :: x.F) G2 (fun g E Gk => spec _ _ _ _ _ place' ti tp o2 hw' Gk hp' ho2) ?_⟩
            rintro _ _ ⟨o2', tp', tv, ho2', rfl, rfl⟩
            exact ⟨_, .refl _, tv, _, rfl, ⟨_, o2', tp', opb, ho2', ⟨h1, h2, h3, h4, t1, t2, t3, t4, tl, tw, nn, rfl⟩, hopb, rfl⟩, (List.append_assoc ..).symm⟩
        have hoc2 := hspec x false _ hsg ⟨lam, rfl, .inl (by obtain ⟨pm, ctv, rfl⟩ := hlo; exact ⟨_, _, _, .head _⟩)⟩
        refine w_store_L (.there (.there (.there (.there .here)))) <| w_re (N' := ((N1 ++ (M1 ++ tabX 101 es1' ++ ((lam, lo) :: ((L + 1, oc) :: tabX 108 es2')))) ++ [(it, o)]) ++ ((ta, to) :: R)) [[(it, o)], M1, tabX 101 es1', [(lam, lo)], tabX 108 es2', N1, [(L + 1, oc)], (ta, to) :: R] [0, 1, 2, 3, 4, 5, 6, 7] [5, 1, 2, 3, 6, 4, 0, 7] [] <| w_execs_nil ⟨rfl, it, _, rfl, rfl, ?_⟩
        exact flow_straight hA1 hp1 ok1' ok2' hoc2 hci hb hsafe.1
      · rw [show ((name.length : Int) == 1) = false by simp; omega, if_neg hn1]
        refine w_execs_cons <| w_If <| w_isTrue_Compare1 <| w_Call <| w_name_B G'.toGnd (by k_is) Boot.«len» (by decide) <| w_callWith_b <| w_args_cons <| w_name_L (.tail _ (.tail _ (.tail _ (.head _)))) <| w_args_nil <| w_lens (by omega) fun _ => w_Const_int fun _ => w_eqi <| w_truthy_bool ?_
        obtain ⟨m1, h1, h2, h3, h4, t1, t2, t3, t4, tl, tw, nn, m2, opb, m3, hopb⟩ := lx_mem hA1
        by_cases hn2 : name.length = 2
        · rw [show ((name.length : Int) == 2) = true by rw [hn2]; rfl, if_pos hn2]
          rw [if_pos (.inr hn2)] at hsafe
          refine w_execs_cons <| w_Assign_Name <| w_Call <| w_name_K G'.toGnd (by k_is) <| w_callWith_f <| w_args_cons <| w_Attr <| w_name_C rfl mem_mid hoc <| w_bound G'.toGnd (List.mem_append_left _ m1) (List.mem_append_left _ m2) (by k_is) (by k_is) (by k_is) (by k_is) (by k_is) (by k_is) (by decide +kernel) rfl fun mq => w_args_nil ⟨⟨_, _, _, _, .inr (G'.X 106 _ (by k_is))⟩,
            w_re (N' := tabX 101 es1 ++ ((mq, mobj x) :: (N1 ++ ((L + 1, oc) :: (((ta, to) :: R) ++ tabX 108 es2))))) [[(mq, mobj x)], N1, [(L + 1, oc)], (ta, to) :: R, tabX 101 es1, tabX 108 es2] [0, 1, 2, 3, 4, 5] [4, 0, 1, 2, 3, 5] [] <| w_call (core := tabX 101 es1) G' (fun g E Gk => sp_flow Gk ok1 (.ref mq)) ?_⟩
          rintro _ _ ⟨it, o, ocf, t, M1, es1', rfl, hci, ok1', rfl, hb, hspec⟩
          have hoc2 := hspec x true _ (sg_method hx mq) ⟨mq, rfl, .inr ⟨_, .head _⟩⟩
          refine w_store_L (.there (.there (.there (.there .here)))) <| w_re (N' := (((N1 ++ (M1 ++ tabX 101 es1' ++ [(mq, mobj x)])) ++ [(it, o)]) ++ ((L + 1, oc) :: tabX 108 es2)) ++ ((ta, to) :: R)) [[(it, o)], M1, tabX 101 es1', [(mq, mobj x)], N1, [(L + 1, oc)], (ta, to) :: R, tabX 108 es2] [0, 1, 2, 3, 4, 5, 6, 7] [4, 1, 2, 3, 0, 5, 7, 6] [] <| w_execs_nil <| w_execs_nil ⟨rfl, it, _, rfl, rfl, ?_⟩
          exact flow_method hA1 hp1 ok1' ok2 hoc2 hci hb hsafe.1
        · rw [show ((name.length : Int) == 2) = false by simp; omega, if_neg hn2]
          rw [if_neg (fun h => h.elim hn1 hn2)] at hsafe
          refine w_execs_cons <| w_Assign_Name <| w_Call <| w_name_B G'.toGnd (by k_is) Boot.«iter» (by decide) <| w_callWith_b <| w_args_cons <| w_ListComp (lc := [("sign", none)]) (closureFor_none (by decide)) (by simp) (by decide) <| w_MethodCall <| w_name_C rfl mem_mid hoc <| w_method G'.toGnd (List.mem_append_left _ m1) (List.mem_append_left _ m2) (by k_is) (by k_is) (by k_is) rfl <| w_callWith_f0 ⟨_, _, _, _, .inr (G'.X 49 _ (by k_is))⟩ <|
            w_call (core := N1) G' (fun g E Gk => sp_gettoken Gk hx hw hp1 hA1) ?_
          rintro _ N2 ⟨p2, line2, tw2, rfl, hA2, hp2, hd2, hK2⟩
          have hl2 : line2 = lineOn line1 (x.text.drop p1) (getTok (x.text.drop p1)).2 := by unfold lineOn; omega
          have hwl : (getTok (x.text.drop p1)).1.length ≤ 100000 := by
            have := getTok_len (x.text.drop p1)
            rw [List.length_drop] at this
            omega
          have hsh := hsafe.1
          rw [← hl2, ← hd2]
          generalize (getTok (x.text.drop p1)).1 = word at hwl hsh
          refine w_iter_str fun its oi hi => CompDo.mono (comp_iter (F := fun i y => ∃ t, y = .int ((word.getD i 0 : Nat) : Int) t) (Iter.str word) G'.hh trivial hi (by omega) ?_) ?_
          · rintro i v g C E' N' hi ⟨m, tm, hm, rfl⟩ hg hs
            exact w_Call <| wg_name_B (G'.toGnd.keeps hg) (by k_is) Boot.«ord» (by decide) (w_callWith_b <| w_args_cons <| wg_name_L (.head _) (w_args_nil <| w_ord fun t => ⟨rfl, rfl, t, by rw [List.getD_eq_getElem?_getD, hm]; rfl⟩) rfl rfl rfl) rfl rfl rfl rfl
          · rintro acc N' ⟨oa, ys, ho, hl, hF, hs⟩
            have hN : Nats ys word := nats_of hl hF
            refine w_sub hs (w_args_nil (w_iter1_list (.head _) ho fun it o hli => w_store_L (.there (.there (.there (.there .here)))) ?_))
            refine w_re (N' := ([(it, o), (acc, oa)] ++ (N2 ++ ((L + 1, oc) :: (tabX 101 es1 ++ tabX 108 es2)))) ++ ((ta, to) :: R)) [[(it, o), (acc, oa)], N2, [(L + 1, oc)], (ta, to) :: R, tabX 101 es1, tabX 108 es2] [0, 1, 2, 3, 4, 5] [0, 1, 2, 4, 5, 3] [] <| w_execs_nil <| w_execs_nil ⟨rfl, it, _, rfl, rfl, ?_⟩
            exact flow_word hA2 hp2 ok1 ok2 ho hN hli hsh
    · rintro _ _ _ ⟨rfl, fl, core, rfl, rfl, hflow⟩
      clear hA1
      obtain ⟨P, Pe, xs, hS, hP, hSh, hf⟩ := hflow
      have hsafe2 := hsafe.2
      generalize figRd name (x.text.drop p1) line1 = fr at hf hR hsafe2
      refine w_execs_cons <| w_Assign_Name <| w_Call <| w_name_K G'.toGnd (by k_is) <| w_callWith_f <| w_args_cons <| w_name_L (.tail _ (.tail _ (.tail _ (.tail _ (.head _))))) <| w_args_nil ⟨⟨_, _, _, _, .inr (G'.X 70 _ (by k_is))⟩,
        w_callE (core := core) (fun g => ExS _ _ fun N' => Pe N' ∧ vint xs = none) G' (fun g Gk => sp_varint Gk (hw ▸ hS) hP hSh) ?_ ?_⟩
      · rintro s S _ s' ⟨a, N', rfl, Rr, hPe, hv⟩
        match fr, hf, hR with
        | .ok (fig, r2, l2), ⟨rr, h1, _⟩, _ => rw [hv] at h1; cases h1
        | .error (r2, l2), ⟨_, h2⟩, hR =>
          obtain ⟨p2, ⟨N3, J, es1', es2', hA3, hp3, ok1', ok2', hper⟩, hd3⟩ := h2 N' hPe
          dsimp only at hR
          subst hR
          refine hE _ _ (xf_leave G' (xf_call G' S Rr) fun s'' R' => ⟨a, N3 ++ (((ta, to) :: R) ++ (tabX 101 es1' ++ tabX 108 es2')), rfl, R'.re (J := (L + 1, oc) :: J) ?_, rfl, p2, ⟨N3, to, R, es1', es2', hA3, hp3, hto, hRows, ok1', ok2', rfl⟩, hd3⟩)
          exact (hper.append_right _).trans (re_perm [N3, [(L + 1, oc)], tabX 101 es1', tabX 108 es2', J, (ta, to) :: R] [0, 1, 2, 3, 4, 5] [0, 5, 2, 3, 1, 4])
      · rintro _ core' ⟨val, rr, tf, hv, rfl, hP'⟩
        match fr, hf, hR, hsafe2 with
        | .error (r2, l2), ⟨h1, _⟩, _, _ => rw [hv] at h1; cases h1
        | .ok (fig, r2, l2), ⟨rr', h1, h2⟩, hR, hsafe2 =>
          rw [hv] at h1
          cases h1
          obtain ⟨p2, ⟨N3, J, ez1, ez2, hA3, hp3, oz1, oz2, hper⟩, hd3⟩ := h2 core' hP'
          subst hd3
          clear hP' hv hS hP hSh hf ok1 ok2
          refine w_store_L (.there (.there (.there (.there (.there .here))))) ?_
          refine w_perm (N' := (N3 ++ ((L + 1, oc) :: (((ta, to) :: R) ++ (tabX 101 ez1 ++ tabX 108 ez2)))) ++ J) ((hper.append_right _).trans (re_perm [N3, [(L + 1, oc)], tabX 101 ez1, tabX 108 ez2, J, (ta, to) :: R] [0, 1, 2, 3, 4, 5] [0, 1, 5, 2, 3, 4])) <| w_sub (List.sublist_append_left ..) ?_
          obtain ⟨hsh, hcnt⟩ := hsafe2
          dsimp only at hR
          refine w_execs_cons <| w_Assign_Name <| w_Call <| w_name_K G'.toGnd (by k_is) <| w_callWith_f <| w_args_cons <| w_Call <| w_name_K G'.toGnd (by k_is) <| w_callWith_f <| w_args_cons <| w_Lambda <| w_re (N' := tabX 108 ez2 ++ (N3 ++ ((L + 1, oc) :: (((ta, to) :: R) ++ tabX 101 ez1)))) [N3, [(L + 1, oc)], (ta, to) :: R, tabX 101 ez1, tabX 108 ez2] [0, 1, 2, 3, 4] [4, 0, 1, 2, 3] [] <| w_makeLamE (qf := qfL) G'.toGnd G'.C2 rfl oz2 rfl rfl fun lam lo c' occ es2' hlo ok2' hc' hco => w_args_nil ⟨⟨_, _, _, _, .inr (G'.X 106 _ (by k_is))⟩, w_re (N' := tabX 101 ez1 ++ ((lam, lo) :: (tabX 108 es2' ++ (N3 ++ ((L + 1, oc) :: ((ta, to) :: R)))))) [[(lam, lo)], tabX 108 es2', N3, [(L + 1, oc)], (ta, to) :: R, tabX 101 ez1] [0, 1, 2, 3, 4, 5] [5, 0, 1, 2, 3, 4] [] <| w_call (core := tabX 101 ez1) G' (fun g E Gk => sp_flow Gk oz1 (.ref lam)) ?_⟩
          rintro _ _ ⟨it, o, ocf, t, M1, es1', rfl, hci, ok1', rfl, hb, hspec⟩
          have hsg : SgSpec x false ((lam, lo) :: ((L + 1, oc) :: tabX 108 es2')) (.ref lam) := by
            obtain ⟨pm, ctv, rfl⟩ := hlo
            intro k' n' base' envs' E2 N0' place' line' hw' Gk' hp' hA'
            obtain ⟨o1, o2, tp, opb, ho2, ho1, hopb, rfl⟩ := hA'
            obtain ⟨fd, sl, tdd, hs, t, rd, fd2, d2, sl2, q1, q2, q3, spec⟩ := hx.tp.ex
            obtain ⟨h1, h2, h3, h4, t1, t2, t3, t4, tl, tw, nn, rfl⟩ := ho1
            refine enterLE Gk' (l := []) (.inl (List.mem_append_right _ (.head _))) rfl (fun s S => ?_) rfl (locs rfl) trivial (by simp) ?_
            · obtain ⟨vs, t, z1, z2⟩ := hco
              exact ⟨c', occ, vs, t, rfl, (S.nw _ (List.mem_append_right _ (.tail _ (.tail _ (.tail _ hc'))))).1, z1, z2⟩
            · intro L2 _ _ G2
              have mF : ∀ {o2 : Obj} {p : Addr × Obj} {A B : Ldg}, p ∈ x.F → p ∈ (((x.sp, o2) :: x.F) ++ A) ++ B := fun h => List.mem_append_left _ (List.mem_append_left _ (.tail _ h))
              refine w_MethodCall <| w_Attr <| w_name_F rfl (List.mem_append_right _ (.tail _ (.head _))) hoc <| w_get_own G2.toGnd (List.mem_append_left _ mem_mid2) (List.mem_append_left _ mem_mid) (by k_is) (by k_is) (by k_is) (by k_is) rfl rfl <|
                w_meth_fn (mF q1) (mF q2) <| w_callWith_f <| w_args_cons <| w_Const_int fun ti => w_args_nil ⟨⟨_, _, _, _, .inl (mF q3)⟩, w_assoc <| w_call (core := (x.sp, o2) :: x.F) G2 (fun g E Gk => spec _ _ _ _ _ place' ti tp o2 hw' Gk hp' ho2) ?_⟩
              rintro _ _ ⟨o2', tp', tv, ho2', rfl, rfl⟩
              exact ⟨_, .refl _, tv, _, rfl, ⟨_, o2', tp', opb, ho2', ⟨h1, h2, h3, h4, t1, t2, t3, t4, tl, tw, nn, rfl⟩, hopb, rfl⟩, (List.append_assoc ..).symm⟩
          have hoc2 := hspec x false _ hsg ⟨lam, rfl, .inl (by obtain ⟨pm, ctv, rfl⟩ := hlo; exact ⟨_, _, _, .head _⟩)⟩
          have hfl := flow_straight (it := it) hA3 hp3 ok1' ok2' hoc2 hci hb hsh
          generalize hcore : (N3 ++ (M1 ++ tabX 101 es1' ++ ((lam, lo) :: ((L + 1, oc) :: tabX 108 es2')))) ++ [(it, o)] = core2 at hfl
          refine w_re (N' := ((N3 ++ (M1 ++ tabX 101 es1' ++ ((lam, lo) :: ((L + 1, oc) :: tabX 108 es2')))) ++ [(it, o)]) ++ ((ta, to) :: R)) [[(it, o)], M1, tabX 101 es1', [(lam, lo)], tabX 108 es2', N3, [(L + 1, oc)], (ta, to) :: R] [0, 1, 2, 3, 4, 5, 6, 7] [5, 1, 2, 3, 6, 4, 0, 7] [] ?_
          rw [hcore]
          clear hcore hspec hsg hoc2 hci hb ok1' ok2' hlo hc' hco hA3
          obtain ⟨P2, Pe2, xs2, hS2, hP2, hSh2, hf2⟩ := hfl
          unfold cntRd at hR hcnt
          generalize vint (x.text.drop p2) = vr at hf2 hR hcnt
          refine w_args_nil ⟨⟨_, _, _, _, .inr (G'.X 70 _ (by k_is))⟩, w_callE (core := core2) (fun g => ExS _ _ fun N' => Pe2 N' ∧ vint xs2 = none) G' (fun g Gk => sp_varint Gk (hw ▸ hS2) hP2 hSh2) ?_ ?_⟩
          · rintro s S _ s' ⟨a, N', rfl, Rr, hPe, hv⟩
            match vr, hf2, hR with
            | some (f, r'), ⟨rr, h1, _⟩, _ => rw [hv] at h1; cases h1
            | none, ⟨_, h2⟩, hR =>
              obtain ⟨p3, ⟨N4, J, ey1, ey2, hA4, hp4, oy1, oy2, hper⟩, hd4⟩ := h2 N' hPe
              dsimp only at hR
              subst hR
              refine hE _ _ (xf_leave G' (xf_call G' S Rr) fun s'' R' => ⟨a, N4 ++ (((ta, to) :: R) ++ (tabX 101 ey1 ++ tabX 108 ey2)), rfl, R'.re (J := (L + 1, oc) :: J) ?_, rfl, p3, ⟨N4, to, R, ey1, ey2, hA4, hp4, hto, hRows, oy1, oy2, rfl⟩, hd4⟩)
              exact (hper.append_right _).trans (re_perm [N4, [(L + 1, oc)], tabX 101 ey1, tabX 108 ey2, J, (ta, to) :: R] [0, 1, 2, 3, 4, 5] [0, 5, 2, 3, 1, 4])
          · rintro _ core' ⟨cv, rr, tc, hv, rfl, hP'⟩
            match vr, hf2, hR, hcnt with
            | none, ⟨h1, _⟩, _, _ => rw [hv] at h1; cases h1
            | some (cnt, r3), ⟨rr', h1, h2⟩, hR, hcnt =>
              rw [hv] at h1
              cases h1
              obtain ⟨p3, ⟨N4, J, ey1, ey2, hA4, hp4, oy1, oy2, hper⟩, hd4⟩ := h2 core' hP'
              subst hd4
              clear hP' hv hS2 hP2 hSh2 hf2
              refine w_store_L (.there (.there (.there (.there (.there (.there .here)))))) ?_
              refine w_perm (N' := (N4 ++ ((L + 1, oc) :: (((ta, to) :: R) ++ (tabX 101 ey1 ++ tabX 108 ey2)))) ++ J) ((hper.append_right _).trans (re_perm [N4, [(L + 1, oc)], tabX 101 ey1, tabX 108 ey2, J, (ta, to) :: R] [0, 1, 2, 3, 4, 5] [0, 1, 5, 2, 3, 4])) <| w_sub (List.sublist_append_left ..) ?_
              dsimp only at hR hcnt
              have hplace : x.text.length - (x.text.drop p3).length = p3 := by rw [List.length_drop]; omega
              rw [hplace] at hR
              have hmono := many_mono (fun _ _ _ _ h => rdP_mono h) hR
              rw [List.length_append, List.length_singleton] at hmono
              obtain ⟨m1, h1, h2, h3, h4, t1, t2, t3, t4, tl, tw, nn, m2, opb, m3, hopb⟩ := lx_mem hA4
              obtain ⟨o2, tp, msp, hod⟩ := lx_spot hA4
              refine w_execs_cons <| w_Expr_none <| w_MethodCall <| w_name_L (.tail _ (.tail _ (.head _))) <| w_m_append (List.mem_append_right _ (.tail _ (.head _))) hto <| w_callWith_b <| w_args_cons <| w_Tuple <| w_args_cons <| w_name_L (.tail _ (.head _)) <| w_args_cons <| w_name_L (.tail _ (.tail _ (.tail _ (.head _)))) <| w_args_cons <| w_name_L (.tail _ (.tail _ (.tail _ (.tail _ (.tail _ (.head _)))))) <| w_args_cons <| w_name_L (.tail _ (.tail _ (.tail _ (.tail _ (.tail _ (.tail _ (.head _))))))) <|
                w_args_cons <| w_Attr <| w_name_C rfl mem_mid hoc <| w_get_own G'.toGnd (List.mem_append_left _ m1) (List.mem_append_left _ m2) (by k_is) (by k_is) (by k_is) (by k_is) rfl rfl <| w_args_cons <| w_Subscript <| w_name_L (.head _) <| w_Const_str fun _ => w_ditem (List.mem_append_left _ msp) (show OD k.w o2 _ from hw ▸ hod) rfl <| w_args_nil <| w_newTuple fun ra => w_args_nil <|
                w_pappend (fun _ => .there (chAppend (.there .here))) hto (by unfold refs; rw [List.length_map, hRows.1]; omega) fun to' hto' => ⟨rfl, ?_⟩
              clear m1 m2 m3 hopb msp hod
              refine w_re (N' := N4 ++ ((L + 1, oc) :: (((ta, to') :: (R ++ [(ra, tupO [.int (depth : Int) td, .str (T name) tn, .int (val : Int) tf, .int (cv : Int) tc, .int (l2 : Int) tl, .int (p3 : Int) tp])])) ++ (tabX 101 ey1 ++ tabX 108 ey2)))) [[(ra, tupO [.int (depth : Int) td, .str (T name) tn, .int (val : Int) tf, .int (cv : Int) tc, .int (l2 : Int) tl, .int (p3 : Int) tp])], N4, [(L + 1, oc)], [(ta, to')], R, tabX 101 ey1, tabX 108 ey2] [0, 1, 2, 3, 4, 5, 6] [1, 2, 3, 4, 0, 5, 6] [] ?_
              have hto2 : OP to' (refs (R ++ [(ra, tupO [.int (depth : Int) td, .str (T name) tn, .int (val : Int) tf, .int (cv : Int) tc, .int (l2 : Int) tl, .int (p3 : Int) tp])])) := by
                unfold refs at hto' ⊢; rw [List.map_append]; exact hto'
              have hRows2 : RowsAre (R ++ [(ra, tupO [.int (depth : Int) td, .str (T name) tn, .int (val : Int) tf, .int (cv : Int) tc, .int (l2 : Int) tl, .int (p3 : Int) tp])]) (rows ++ [⟨depth, name, val, cv, l2, p3⟩]) := hRows.snoc ⟨td, tn, tf, tc, tl, tp, rfl⟩
              generalize R ++ [(ra, tupO [.int (depth : Int) td, .str (T name) tn, .int (val : Int) tf, .int (cv : Int) tc, .int (l2 : Int) tl, .int (p3 : Int) tp])] = R2 at hto2 hRows2
              refine w_execs_cons <| w_For <| w_Call <| w_name_B G'.toGnd (by k_is) Boot.«range» (by decide) <| w_callWith_t <| w_args_cons <| w_name_L (.tail _ (.tail _ (.tail _ (.tail _ (.tail _ (.tail _ (.head _))))))) <| w_args_nil <| w_range (by omega) fun r t1 t2 => w_iter_range (by omega) (by omega) fun itr => ?_
              refine for_iterE (Iter.range cv) G'.hh (InvR x ta fl L oc d depth cv val name td tn tf tc res) (fun _ _ _ _ => trivial) ?_ ?_ ⟨N4, to', R2, ey1, ey2, p3, l2, _, none, hA4, hp4, hto2, hRows2, oy1, oy2, hR, rfl, rfl⟩ (by simp)
              · clear hA4 hto2 hRows2 oy1 oy2 hR hmono hto' hper
                rintro i v l o N hi ⟨tv, rfl⟩ ⟨N0, to, R, es1, es2, place, line, rows, u, hA, hp, hto, hRows, ok1, ok2, hM, rfl, rfl⟩
                rw [show cv - i = (cv - (i + 1)) + 1 by omega] at hM
                obtain ⟨q, hq, hM⟩ := hM
                have hqr : q.rows.length ≤ 1000 := by
                  cases hs : q.stopped with
                  | true => rw [hs] at hM; dsimp only at hM; rw [← hM]; exact hrows
                  | false => rw [hs] at hM; exact Nat.le_trans (many_mono (fun _ _ _ _ h => rdP_mono h) hM) hrows
                refine w_assign <| w_store_L (.there (.there (.there (.there (.there (.there (.there .here))))))) ?_
                refine w_execs_cons <| w_Expr_none <| w_Call <| w_name_K G'.toGnd (by k_is) <| w_callWith_f <| w_args_cons <| w_name_C rfl (.tail _ mem_mid) hoc <| w_args_cons <| w_name_L (.head _) <| w_args_cons <| w_BinOp <| w_name_L (.tail _ (.head _)) <| w_Const_int fun _ => w_add fun td2 => w_args_cons <| w_name_L (.tail _ (.tail _ (.head _))) <| w_args_nil ⟨⟨_, _, _, _, .inr (G'.X 111 _ (by k_is))⟩, ?_⟩
                rw [show (depth : Int) + 1 = ((depth + 1 : Nat) : Int) by omega]
                refine w_re (N' := (N0 ++ (((ta, to) :: R) ++ (tabX 101 es1 ++ tabX 108 es2))) ++ [(itr, o), (L + 1, oc)]) [[(itr, o)], N0, [(L + 1, oc)], (ta, to) :: R, tabX 101 es1, tabX 108 es2] [0, 1, 2, 3, 4, 5] [1, 3, 4, 5, 0, 2] [] ?_
                refine w_callE (core := N0 ++ (((ta, to) :: R) ++ (tabX 101 es1 ++ tabX 108 es2))) (fun g => ExS _ _ fun N' => q.stopped = true ∧ ∃ p, LR x ta p q.line q.rows N' ∧ x.text.drop p = q.r) G' (fun g Gk => sp_read d Gk hx hw td2 ⟨N0, to, R, es1, es2, hA, hp, hto, hRows, ok1, ok2, rfl⟩ hq hqr) ?_ ?_
                · rintro s S _ s' ⟨a, N', rfl, Rr, hst, pz, hLR, hdr⟩
                  rw [hst] at hM
                  dsimp only at hM
                  subst hM
                  exact xf_noted G' (xf_call G' S Rr) fun s1 H1 => xf_back G' H1 fun s2 H2 => hE _ _ (xf_leave G' H2.1 fun s3 R' => ⟨a, N', rfl, R'.sub (List.sublist_append_left ..), hst, pz, hLR, hdr⟩)
                · rintro _ core3 ⟨rfl, hst, pz, ⟨N5, to5, R5, ew1, ew2, hA5, hp5, hto5, hR5, ow1, ow2, rfl⟩, hdr⟩
                  rw [hst] at hM
                  dsimp only at hM
                  rw [← hdr] at hM
                  refine ⟨rfl, w_re (N' := (itr, o) :: (N5 ++ ((L + 1, oc) :: (((ta, to5) :: R5) ++ (tabX 101 ew1 ++ tabX 108 ew2))))) [[(itr, o)], N5, [(L + 1, oc)], (ta, to5) :: R5, tabX 101 ew1, tabX 108 ew2] [1, 3, 4, 5, 0, 2] [0, 1, 2, 3, 4, 5] [] <| w_execs_nil ⟨_, .refl _, N5, to5, R5, ew1, ew2, pz, q.line, q.rows, _, hA5, hp5, hto5, hR5, ow1, ow2, hM, rfl, rfl⟩⟩
              · rintro l N ⟨N0, to, R, es1, es2, place, line, rows, u, hA, hp, hto, hRows, ok1, ok2, hM, rfl, rfl⟩
                rw [Nat.sub_self] at hM
                have hM' : res = ⟨false, x.text.drop place, line, rows⟩ := hM
                subst hM'
                refine w_re (N' := N0 ++ (((ta, to) :: R) ++ (tabX 101 es1 ++ tabX 108 es2))) [N0, [(L + 1, oc)], (ta, to) :: R, tabX 101 es1, tabX 108 es2] [0, 1, 2, 3, 4] [0, 2, 3, 4] [1] <| w_execs_nil (hQ _ _ _ ⟨_, .refl _, rfl, rfl, place, ⟨N0, to, R, es1, es2, hA, hp, hto, hRows, ok1, ok2, rfl⟩, rfl⟩)
end Mine
end
section
open PySem PySem.W PyProof.Rows PySem.Calls PySem.Spec
namespace Mine
noncomputable abbrev Cx.at (c : Cx) (g : Heap) : Cx := ⟨c.w, c.A, g, c.L, c.gs, c.d, c.os⟩
section
variable {c : Cx} {E : Value → Shared → Prop} {l : Loc} {N : Ldg} {n : Nat} {base : Heap} {outer : List Env} {env : Env} {s : Shared} {e : Addr}
/-- the ground below a frame in which a StopIteration is at hand: the outer frames' slots may have turned -/
theorem Xf.ground (G : Gd n c base outer env) (Xb : Gnd c.w base) (X : Xf c env outer l N e s) : ∃ g', KtsTurn (outer.filterMap (·.frame)) c.g g' ∧ St (c.at g') l N s ∧ Gd n (c.at g') base outer env := by
  obtain ⟨A₀, K⟩ := G.B
  obtain ⟨B, a0, h1, h2, h3⟩ := X.st
  have hst : B.StaysIn s.heap ∧ B.get? c.L = none := by
    have z : B.StaysIn s.heap ∧ s.heap.FunFrames B (env :: outer) := by
      rcases h3 with h | h | h
      · exact ⟨h.1, h.2.2.1⟩
      · exact ⟨h.1, h.2.2.1⟩
      · exact ⟨h.1, h.2.2.1⟩
    obtain ⟨_, ⟨L', _, hf, hn', _⟩, _⟩ := z.2
    rw [G.hf] at hf
    cases hf
    exact ⟨z.1, hn'⟩
  obtain ⟨T, S⟩ := kts_turn_at (h := s.heap) (fs := outer.filterMap (·.frame)) (g := c.g)
    (fun b hb => by obtain ⟨_, o, ho, _⟩ := K.frames.mem hb; exact ⟨o, ho⟩)
    (fun b o e nm => hst.1 b o (h1 b o e nm))
    (fun b o e hm => by
      obtain ⟨_, o', ho', hd⟩ := K.frames.mem hm
      rw [e] at ho'
      cases ho'
      exact X.up b o e hd)
  obtain ⟨m, hns, hm⟩ := X.fr
  have K' : Below A₀ base outer (ktsHeap s.heap (outer.filterMap (·.frame)) c.g) := ⟨K.stack, fun b o e => T.other b o (K.stays b o e) (fun hm => by
    rw [(K.frames.mem hm).1] at e
    cases e), K.frames.of_keeps fun b o e _ => by obtain ⟨sl, hs⟩ := T.up e; exact ⟨_, hs, rfl⟩⟩
  refine ⟨_, T, ⟨⟨m, ⟨hns, S, by show (ktsHeap s.heap (outer.filterMap (·.frame)) c.g).objs.size ≤ _; rw [T.size]; exact X.above⟩, hm⟩, X.ln, fun p hp => ⟨hst.1 _ _ (h2 p hp).1, fun z => ?_, T.none_ _ (h2 p hp).2⟩, X.nd, X.gs, X.dr, X.os⟩, ⟨Xb.keeps K'.stays, ⟨A₀, K'⟩, G.hA, G.hf, G.hk, G.hh, G.dep, G.un⟩⟩
  have := (h2 p hp).1
  rw [show p.1 = c.L from z, hst.2] at this; cases this
theorem XfH.there (X : XfH c env outer l N e s) : ∃ ob, s.heap.get? e = some ob ∧ ob.cls = stopT := let ⟨_, _, _, _, _, h⟩ := X; h.there
end
theorem stop_isExc : isSubtype (.type "StopIteration") (.type "BaseException") = pure true := by rw [isSubtype_type]; kernel_rfl
theorem stop_notTuple : isSubtype (.type ((Manifest.find? "StopIteration").elim "type" fun x => x.metatype)) (.type "tuple") = pure false := by
  rw [show ((Manifest.find? "StopIteration").elim "type" fun x => x.metatype) = "type" from by kernel_rfl, isSubtype_type]; kernel_rfl
theorem stop_boot : bootBuiltins "StopIteration" = some (.type "StopIteration") := by kernel_rfl
/-- the same, flying anew within the frame -/
noncomputable def XfF (c : Cx) (env : Env) (outer : List Env) (l : Loc) (N : Ldg) (e : Addr) (s : Shared) : Prop :=
  Xf c env outer l N e s ∧ ∃ B a0, (∀ b o, c.g.get? b = some o → b ∉ outer.filterMap (·.frame) → B.get? b = some o) ∧ (∀ q ∈ N, B.get? q.1 = some q.2 ∧ c.g.get? q.1 = none) ∧ Heap.FlyingW B (env :: outer) e stopT a0 s.heap
section
variable {c : Cx} {E : Value → Shared → Prop} {l : Loc} {N : Ldg} {n : Nat} {base : Heap} {outer : List Env} {env : Env} {s : Shared} {e : Addr}
theorem Xf.moveF {h' : Heap} (X : Xf c env outer l N e s) (hu : s.heap.UpToSlots h')
    (st : ∃ B a0, (∀ b o, c.g.get? b = some o → b ∉ outer.filterMap (·.frame) → B.get? b = some o) ∧ (∀ q ∈ N, B.get? q.1 = some q.2 ∧ c.g.get? q.1 = none) ∧ Heap.FlyingW B (env :: outer) e stopT a0 h') : XfF c env outer l N e { s with heap := h' } :=
  ⟨⟨let ⟨m, hn, hm⟩ := X.fr; ⟨m, hu.ns hn, hm⟩, X.ln, X.above, X.nd, X.up.trans hu, X.gs, X.dr, X.os, let ⟨B, a0, h1, h2, h3⟩ := st; ⟨B, a0, h1, h2, .inr (.inl h3)⟩⟩, st⟩
theorem xf_lands {A : Around} {Q : Unit → Shared → Prop} (X : XfH c env outer l N e s) (h : ∀ s'', XfF c env outer l N e s'' → Q () s'') : wpAny (model PR c.w) A (setFlight (.ref e) none) Q E s := by
  obtain ⟨X, B, a0, h1, h2, hh⟩ := X
  exact wpAny_landsW hh fun h' hf hu => h _ (X.moveF hu ⟨B, a0, h1, h2, hf⟩)
theorem xf_again {A : Around} {Q : Unit → Shared → Prop} (X : XfF c env outer l N e s) (h : ∀ s'', XfF c env outer l N e s'' → Q () s'') : wpAny (model PR c.w) A (setFlight (.ref e) none) Q E s := by
  obtain ⟨X, B, a0, h1, h2, hh⟩ := X
  exact lands_againW hh fun h' hf hu => h _ (X.moveF hu ⟨B, a0, h1, h2, hf⟩)
end
section
variable {c : Cx} {E : Value → Shared → Prop} {l : Loc} {N : Ldg} {n : Nat} {base : Heap} {outer : List Env} {s : Shared} {e : Addr} {nm : Str} {sc : Scope} {fa : Addr} {cd : Value} {cl : List (Str × Addr)}
/-- except StopIteration -/
theorem xf_caught {np pos : Pos} {b₀ : Stmt} {suite : List Stmt} {rest : List ExceptHandler} {Q : Flow → Shared → Prop} (G : Gd n c base outer (envX nm sc c.L fa cd cl)) (Xb : Gnd c.w base) (X : Xf c (envX nm sc c.L fa cd cl) outer l N e s)
    (hnone : nsIn (hd51.heap_39 c.w.params) mainGlobals "StopIteration" = some none)
    (k : ∀ g' s' E', KtsTurn (outer.filterMap (·.frame)) c.g g' → St (c.at g') l N s' → Gd n (c.at g') base outer (envX nm sc c.L fa cd cl) → wpAny (model PR c.w) (c.A.mark (some (.ref e))) (execs (b₀ :: suite) (envX nm sc c.L fa cd cl)) Q E' s')
    (hx : (envX nm sc c.L fa cd cl).kindOf "StopIteration" = some .globalImplicit := by rfl) (hk : sc.kind = .function := by rfl) :
    wpAny (model PR c.w) c.A (noteFrame (.ref e) (envX nm sc c.L fa cd cl)) (fun _ s₂ => wpAny (model PR c.w) c.A (setFlight (.ref e) none) (fun _ s₃ =>
      wpAny (model PR c.w) c.A (handleBy (.ref e) (envX nm sc c.L fa cd cl) (.ExceptHandler (some (.Name "StopIteration" np)) none (b₀ :: suite) pos :: rest)) Q E s₃) E s₂) E s := by
  refine xf_note G X fun s1 H1 => xf_lands H1 fun s2 H2 => ?_
  obtain ⟨g2, T2, S2, G2⟩ := H2.1.ground G Xb
  obtain ⟨m, F, _⟩ := S2.fr
  obtain ⟨_, _, _, _, _, Tp⟩ := G2.T
  obtain ⟨ob, hob, hcl⟩ := (let ⟨_, _, _, _, _, hf⟩ := H2; hf.there)
  refine wpAny_handleBy_builtin (X := "StopIteration") (T := "StopIteration") (b := true) stop_isExc stop_notTuple isSubtype_stop (nameX_B F G2.X (topRead_of Tp) hnone stop_boot (by decide) ⟨rfl, ⟨ob, hob, hcl⟩, ?_⟩ hk hx (by decide))
  refine xf_again H2 fun s3 H3 => ?_
  obtain ⟨g3, T3, S3, G3⟩ := H3.1.ground G Xb
  exact k g3 s3 _ T3 S3 G3
end
end Mine
end
section
open PySem PySem.W PyProof.Rows PySem.Calls PySem.Spec
namespace Mine
theorem fill14 : True ∨ (PySem.Challenge.rw_nb0051_01 = PySem.Challenge.rw_nb0051_01 ∧ hd51.heap_39 = hd51.heap_39) := by
  k_fill
  exact .inl trivial
theorem sp_init {k : Kx} {E : Value → Shared → Prop} {n : Nat} {base : Heap} {envs : List Env} (G : Gk (n + 1) k base envs) (lex lexd tape : Addr) :
    CP k E [(lex, instObj 59 lexd), (lexd, dictOf [] 0)] (.ref 35) [.ref lex, .ref tape] fun v N' => v = .none ∧ ∃ o1 pb, OLx o1 1 tape pb ∧ N' = [(lexd, o1), (lex, instObj 59 lexd), (pb, listO [])] := by
  refine enter G (l := [("self", some (.ref lex)), ("fp", some (.ref tape))]) (.inr (G.X 35 _ (by k_is))) rfl (fun s S => codeRec_of (G.X.keeps S.keep) (by k_is)) rfl (locs rfl) ⟨rfl, rfl, trivial⟩ (by dsimp only [List.map]; decide) ?_
  intro L E' G'
  refine w_execs_cons <| w_AssignAttr <| w_Const_int fun t1 => w_name_L (.head _) <| w_set_own G'.toGnd (.head _) (by k_is) (by k_is) (by k_is) (by k_is) rfl (by simp) (fun _ => .there .here) fun u1 => ?_
  refine w_execs_cons <| w_AssignAttr <| w_name_L (.tail _ (.head _)) <| w_name_L (.head _) <| w_set_own G'.toGnd (.head _) (by k_is) (by k_is) (by k_is) (by k_is) rfl (by simp [putL]) (fun _ => .there .here) fun u2 => ?_
  refine w_execs_cons <| w_AssignAttr <| w_Const_T [10, 9, 13, 32] (by decide) fun t3 => w_name_L (.head _) <| w_set_own G'.toGnd (.head _) (by k_is) (by k_is) (by k_is) (by k_is) rfl (Nat.le_of_ble_eq_true rfl) (fun _ => .there .here) fun u3 => ?_
  refine w_execs_cons <| w_AssignAttr <| w_List <| w_args_nil <| w_newList fun pb => w_name_L (.head _) <| w_set_own G'.toGnd (.tail _ (.head _)) (by k_is) (by k_is) (by k_is) (by k_is) rfl (Nat.le_of_ble_eq_true rfl) (fun _ => .there (.there .here)) fun u4 => ?_
  refine w_perm (N' := [(lexd, _), (lex, instObj 59 lexd), (pb, listO [])]) (List.reverse_perm [(lexd, _), (lex, instObj 59 lexd), (pb, listO [])]) <| w_execs_nil ⟨_, .refl _, rfl, _, pb, ⟨_, _, _, _, _, _, _, _, _, _, _, rfl⟩, rfl⟩
/-- a class is called -/
theorem w_make {c : Cx} {E : Value → Shared → Prop} {l : Loc} {N : Ldg} {n : Nat} {base : Heap} {outer : List Env} {env : Env} {tape : Addr} {Q : Value → Loc → Ldg → Prop} (G : Gd (n + 2) c base outer env)
    (h : ∀ lex lexd o1 pb, OLx o1 1 tape pb → Q (.ref lex) l ([(lexd, o1), (lex, instObj 59 lexd), (pb, listO [])] ++ N)) : WP c E l N (call (.ref 59) [.ref tape]) Q := WP.mk fun s S => by
  obtain ⟨m, F, hm⟩ := S.fr
  refine call_cls F G.X S.nw (by k_is) (by k_is) (by k_is) fun x dx h' F' N' l1 l2 => ?_
  have nd : (((x, instObj 59 dx) :: (dx, dictOf [] 0) :: N).map (·.1)).Nodup := by
    rw [List.map_cons, List.map_cons, List.nodup_cons, List.nodup_cons]
    refine ⟨fun q => ?_, fun q => ?_, S.nd⟩
    · rcases List.mem_cons.mp q with e | q
      · exact Nat.ne_of_gt l2 e
      · obtain ⟨p, hp, e⟩ := List.mem_map.mp q
        have := l1 p hp
        rw [e] at this
        exact absurd (Nat.lt_trans this l2) (Nat.lt_irrefl _)
    · obtain ⟨p, hp, e⟩ := List.mem_map.mp q
      have := l1 p hp
      rw [e] at this
      exact Nat.lt_irrefl _ this
  have S' : St c l ([(x, instObj 59 dx), (dx, dictOf [] 0)] ++ N) { s with heap := h' } := ⟨⟨m, F', hm⟩, S.ln, N', nd, S.gs, S.dr, S.os⟩
  refine callA (Qs := fun v N' => v = .none ∧ ∃ o1 pb, OLx o1 1 tape pb ∧ N' = [(dx, o1), (x, instObj 59 dx), (pb, listO [])]) G ⟨rfl, rfl, Nat.le_refl _, by show c.A.units + 1 ≤ _; omega⟩ S' (fun g E Gk => sp_init Gk x dx tape) ?_
  rintro v _ s1 ⟨rfl, o1, pb, ho1, rfl⟩ S1
  exact ⟨rfl, _, _, S1, h x dx o1 pb ho1⟩
end Mine
end
section
open PySem PySem.W PyProof.Rows PySem.Calls PySem.Spec
namespace Mine
/-- a run from one state -/
structure WR {α : Type} (w : World) (A : Around) (E : Value → Shared → Prop) (s : Shared) (t : Sem α) (R : α → Shared → Prop) : Prop where
  run : wpAny (model PR w) A t R E s
section
variable {c : Cx} {E : Value → Shared → Prop} {l : Loc} {N : Ldg} {env : Env} {s : Shared} {R : Flow → Shared → Prop}
theorem wr_cons {st : Stmt} {rest : List Stmt} {Qs : Flow → Loc → Ldg → Prop} (S : St c l N s) (W : WP c E l N (exec st env) Qs)
    (k : ∀ f s' l' N', St c l' N' s' → Qs f l' N' → match f with | .next => WR c.w c.A E s' (execs rest env) R | f => R f s') : WR c.w c.A E s (execs (st :: rest) env) R :=
  WR.mk (wpAny_execs_cons (W.go S fun f s' l' N' S' q => by have := k f s' l' N' S' q; cases f <;> first | exact this.run | exact this))
/-- try, except StopIteration; the body runs as a frame's, or the exception is caught -/
theorem wr_try {body : List Stmt} {h₀ : ExceptHandler} {pos : Pos} {rest : List Stmt} (S : St c l N s) {Qs : Flow → Loc → Ldg → Prop}
    (W : WP c (fun e s₁ => wpAny (model PR c.w) c.A (noteFrame e env) (fun _ s₂ => wpAny (model PR c.w) c.A (setFlight e none) (fun _ s₃ => wpAny (model PR c.w) c.A (handleBy e env [h₀]) (fun f s' => match f with | .next => wpAny (model PR c.w) c.A (execs rest env) R E s' | f => R f s') E s₃) E s₂) E s₁) l N (execs body env) Qs)
    (k : ∀ f s' l' N', St c l' N' s' → Qs f l' N' → match f with | .next => WR c.w c.A E s' (execs rest env) R | f => R f s') : WR c.w c.A E s (execs (.Try body [h₀] [] [] pos :: rest) env) R :=
  WR.mk (wpAny_execs_cons (wpAny_Try_except (W.go S fun f s' l' N' S' q => by
    have := k f s' l' N' S' q
    cases f
    · exact wpAny_execs_nil this.run
    · exact this
    · exact this
    · exact this)))
end
/-- a contract whose call may leave the outer frames' slots turned -/
structure CPX (k : Kx) (envs : List Env) (N : Ldg) (f : Value) (args : List Value) (Q : Value → Ldg → Prop) : Prop where
  run : ∀ s, Sc k N s → codeAny (model PR k.w) k.A (.call f ⟨args, []⟩) (fun r s' => match r with
    | .ok (.ret v) => ∃ g' N', KtsTurn (envs.filterMap (·.frame)) k.g g' ∧ Sc (k.on g') N' s' ∧ Q v N'
    | .ok _ => False
    | .error _ => False) s
section
variable {k : Kx} {N : Ldg} {n : Nat} {base : Heap} {envs : List Env} {f : Addr} {args : List Value} {Q : Value → Ldg → Prop}
  {name qual : Str} {params : Arguments} {body : List Stmt} {scope : Scope} {cl : List (Str × Addr)} {dV kV doc pm cdv ct : Value} {an : Option Addr} {fo : Obj} {binds : List (Str × Value)} {l : Loc}
theorem enterX (G : Gk (n + 1) k base envs) (ho : (f, fo) ∈ N ∨ k.g.get? f = some fo) (hd : fo.data = .func (fnX name qual params body scope cl dV kV doc pm an cdv ct))
    (hcd : ∀ s, Sc k N s → s.heap.CodeRec cdv qual)
    (hbind : bindArgs (fnX name qual params body scope cl dV kV doc pm an cdv ct) ⟨args, []⟩ = pure binds) (hloc : ∀ y ∈ binds, scope.names.lookup y.1 = some .local)
    (hl : LocIs binds.reverse l) (hn : (l.map (·.1)).Nodup)
    (h : ∀ L E', Gd n (k.c qual scope L f cdv cl) base envs (envX qual scope L f cdv cl) → ∀ s, St (k.c qual scope L f cdv cl) l N s →
      WR (k.c qual scope L f cdv cl).w (k.c qual scope L f cdv cl).A E' s (execs body (envX qual scope L f cdv cl)) (fun fl s' => ∃ g' l' N', KtsTurn (envs.filterMap (·.frame)) k.g g' ∧ St ((k.c qual scope L f cdv cl).at g') l' N' s' ∧ Q (match fl with | .ret v => v | _ => .none) N'))
    (hcell : ∀ x ∈ scope.names, x.2 ≠ .cell := by decide) (hco : scope.isCoroutine = false := by rfl) (hgen : scope.isGenerator = false := by rfl) (hk : scope.kind = .function := by rfl) :
    CPX k envs N (.ref f) args Q := CPX.mk fun s S => by
  have hof : s.heap.get? f = some fo := ho.elim (fun h => (S.nw _ h).1) (S.keep _ _)
  obtain ⟨_, _, _, _, _, T⟩ := G.T
  refine codeAny_call_def (fd := fnX name qual params body scope cl dV kV doc pm an cdv ct) (body := body) (binds := binds) (by have := G.dep; omega) hof hd (T.nolimit.keeps S.keep) (hcd s S) rfl (BindsTo.of_eq hbind) hcell hloc (fun h₁ hns hk₁ => ?_) hco hgen hk
  have gl : ∀ b o, k.g.get? b = some o → b ≠ s.heap.objs.size := fun b o e => Nat.ne_of_lt (Heap.lt_size (S.keep _ _ e))
  have nl : ∀ p ∈ N, p.1 ≠ s.heap.objs.size := fun p hp => Nat.ne_of_lt (Heap.lt_size (S.nw p hp).1)
  refine wpAny_mono (h s.heap.objs.size _ (G.gd _ hk) { s with heap := h₁, toks := s.toks + binds.length } ⟨⟨_, ⟨hns, fun b o e => hk₁ b o (S.keep b o e), S.size⟩, hl.all⟩, hn, fun p hp => ⟨hk₁ _ _ (S.nw p hp).1, nl p hp, (S.nw p hp).2⟩, S.nd, S.gs, S.dr, S.os⟩).run (fun fl s' ⟨g', l', N', T', S', q⟩ => ?_) fun _ _ e => e
  obtain ⟨m', F', _⟩ := S'.fr
  exact ⟨g', N', T', ⟨S'.keep, Nat.le_trans F'.above (Nat.le_of_lt (let ⟨_, _, _, hL, _⟩ := F'.ns; Heap.lt_size hL)), fun p hp => ⟨(S'.nw p hp).1, (S'.nw p hp).2.2⟩, S'.nd, S'.gs, S'.dr, S'.os⟩, q⟩
end
section
variable {c : Cx} {E : Value → Shared → Prop} {l : Loc} {core rest : Ldg} {n : Nat} {base : Heap} {env : Env} {f : Value} {args : List Value}
/-- such a call within the outermost frame -/
theorem w_callX {Qs : Value → Ldg → Prop} {Q : Value → Loc → Ldg → Prop} (G : Gd (n + 1) c base [] env) (spec : ∀ g, Gk n (c.k g) base [env] → CPX (c.k g) [env] core f args Qs)
    (h : ∀ v core', Qs v core' → Q v l (core' ++ rest)) : WP c E l (core ++ rest) (call f args) Q := WP.mk fun s S => by
  refine wpAny_call (codeAny_mono ((spec _ (S.gk G)).run s S.sc) fun r s' hr => ?_)
  match r with
  | .ok .next => exact hr
  | .ok .brk => exact hr
  | .ok .cont => exact hr
  | .error e => exact hr.elim
  | .ok (.ret v) =>
    obtain ⟨g', N', T, S', q⟩ := hr
    refine ⟨_, _, ?_, h v N' q⟩
    obtain ⟨m, F, hm⟩ := S.fr
    obtain ⟨oL, es, ep, hL, hdL, r⟩ := id F.ns
    have nL : c.L ∉ core.map (·.1) := fun q => by
      obtain ⟨p, hp, e⟩ := List.mem_map.mp q
      exact (S.nw p (List.mem_append_left _ hp)).2.1 e
    have hLg := hideAll_get (core.map (·.1)) hL nL
    have nd := S.nd
    rw [List.map_append, List.nodup_append] at nd
    have fs : ∀ b, b ≠ c.L → b ∉ [env].filterMap (·.frame) := fun b hb hm => by
      obtain ⟨en, he, hf⟩ := List.mem_filterMap.mp hm
      rcases List.mem_cons.mp he with rfl | he
      · rw [G.hf] at hf; exact hb (Option.some.inj hf).symm
      · cases he
    have hr : ∀ p ∈ rest, (hideAll s.heap (core.map (·.1))).get? p.1 = some p.2 := fun p hp =>
      hideAll_get _ (S.nw p (List.mem_append_right _ hp)).1 fun q => nd.2.2 _ q _ (List.mem_map_of_mem hp) rfl
    have old : ∀ b o, c.g.get? b = some o → s'.heap.get? b = some o := fun b o e => S'.keep _ _ (T.other b o (S.ground b o e) (fs b fun z => by rw [z, S.frameNone] at e; cases e))
    have keepR : ∀ p ∈ rest, s'.heap.get? p.1 = some p.2 := fun p hp => S'.keep _ _ (T.other _ _ (hr p hp) (fs _ (S.nw p (List.mem_append_right _ hp)).2.1))
    have noneOf : ∀ b, g'.get? b = none → (hideAll s.heap (core.map (·.1))).get? b = none := fun b e => by
      cases z : (hideAll s.heap (core.map (·.1))).get? b with
      | none => rfl
      | some o => obtain ⟨sl, hs⟩ := T.up z; rw [e] at hs; cases hs
    obtain ⟨sl, hsl⟩ := T.up hLg
    refine ⟨⟨m, ⟨⟨_, es, ep, S'.keep _ _ hsl, hdL, r⟩, old, F.above⟩, hm⟩, S.ln, fun p hp => ?_, ?_, S'.gs, S'.dr, S'.os⟩
    · rcases List.mem_append.mp hp with hp | hp
      · have z := noneOf _ (S'.nw p hp).2
        refine ⟨(S'.nw p hp).1, fun e => ?_, ?_⟩
        · rw [e, hLg] at z; cases z
        · cases q : c.g.get? p.1 with
          | none => rfl
          | some o => rw [S.ground _ _ q] at z; cases z
      · exact ⟨keepR p hp, (S.nw p (List.mem_append_right _ hp)).2⟩
    · rw [List.map_append, List.nodup_append]
      refine ⟨S'.nd, nd.2.1, fun x hx y hy e => ?_⟩
      subst e
      obtain ⟨p, hp, rfl⟩ := List.mem_map.mp hx
      obtain ⟨q, hq, e⟩ := List.mem_map.mp hy
      have h1 := noneOf _ (S'.nw p hp).2
      have h2 := hr q hq
      rw [e] at h2
      rw [h2] at h1; cases h1
theorem w_callWith_K {N : Ldg} {pos : Pos} {first : List Value} {e : Expr} {rest : List Expr} {Q : Value → Loc → Ldg → Prop} (G : Gnd c.w c.g) (hk : keepIn (hd51.heap_39 c.w.params) f = true)
    (h : WP c E l N (spliced (backTo pos (starEach (e :: rest) env))) fun vs l1 N1 => WP c E l1 N1 (call f (first ++ vs)) Q)
    (he : starEach (e :: rest) env = (false, eval e env) :: starEach rest env := by rfl)
    (hplain : (backTo pos (starEach rest env)).any (·.1) = false := by rfl) : WP c E l N (callWith pos f first (backTo pos (starEach (e :: rest) env)) []) Q :=
  WP.mk fun _ S => callWith_K G.X hk (h.go S fun _ _ _ _ S1 q => ⟨G.X.keeps S1.keep, q.run _ S1⟩) he hplain
end
end Mine
end
section
open PySem PySem.W PyProof.Rows PySem.Calls PySem.Spec
namespace Mine
theorem fill15 : True ∨ (PySem.Challenge.rw_nb0051_01 = PySem.Challenge.rw_nb0051_01 ∧ hd51.heap_39 = hd51.heap_39) := by
  k_fill
  exact .inl trivial
noncomputable def runLast (res : Res) : Option (List Nat) := if res.stopped then none else some (getTok res.r).1
noncomputable def runR (res : Res) : List Nat := if res.stopped then res.r else (getTok res.r).2
noncomputable def runLine (res : Res) : Nat := if res.stopped then res.line else lineOn res.line res.r (getTok res.r).2
noncomputable def LastIs (v : Value) : Option (List Nat) → Prop
  | none => v = .none
  | some x => ∃ t, v = .str (T x) t
/-- what _law_run gives back -/
inductive RunPost (text : List Nat) (res : Res) (v : Value) (N' : Ldg) : Prop
  | mk (tu ta to R lastv es0 es1 es2 tl tp : _) (c0 : v = .ref tu) (c1 : OP to (refs R)) (c2 : RowsAre R res.rows) (c3 : LastIs lastv (runLast res)) (c4 : TabOk qfR es0) (c5 : TabOk qfF es1) (c6 : TabOk qfL es2) (c7 : N' = (tu, tupO [.ref ta, lastv, .int (runLine res : Int) tl, .int ((text.length - (runR res).length : Nat) : Int) tp]) :: (((ta, to) :: R) ++ (tabX 94 es0 ++ (tabX 101 es1 ++ tabX 108 es2))))
theorem St.reA {c : Cx} {l : Loc} {N : Ldg} {s : Shared} (S : St c l N s) (A' : Around) : St ⟨c.w, A', c.g, c.L, c.gs, c.d, c.os⟩ l N s := ⟨S.fr, S.ln, S.nw, S.nd, S.gs, S.dr, S.os⟩
theorem sp_run {k : Kx} {n : Nat} {base : Heap} {envs : List Env} (G : Gk (n + 50) k base envs) (Xb : Gnd k.w base) {es0 es1 es2 : List Ent} (ok0 : TabOk qfR es0) (ok1 : TabOk qfF es1) (ok2 : TabOk qfL es2) (text : List Nat) (tt : Tok) (hlen : text.length ≤ 100000)
    {res : Res} (hR : RdP text.length 7 0 1 text [] res) (hrows : res.rows.length ≤ 1000) :
    CPX k envs (tabX 94 es0 ++ (tabX 101 es1 ++ tabX 108 es2)) (.ref 118) [.str (T text) tt] (RunPost text res) := by
  refine enterX G (l := [("text", some (.str (T text) tt)), ("spot", none), ("told", none), ("lexer", none), ("last", none)]) (.inr (G.X 118 _ (by k_is))) rfl (fun s S => codeRec_of (G.X.keeps S.keep) (by k_is)) rfl (locs rfl) ⟨rfl, rfl, rfl, rfl, rfl, trivial⟩ (by dsimp only [List.map]; decide) ?_
  intro L E' G' s0 S0
  -- spot, told
  refine wr_cons (Qs := fun f l' N' => f = .next ∧ ∃ sp od tp ta, OD k.w od [("place", .int 0 tp)] ∧ l' = ([("text", some (.str (T text) tt)), ("spot", some (.ref sp)), ("told", some (.ref ta)), ("lexer", none), ("last", none)] : Loc) ∧ N' = (ta, listO []) :: (sp, od) :: (tabX 94 es0 ++ (tabX 101 es1 ++ tabX 108 es2))) S0 ?_ ?_
  · exact w_AssignTup_swapped (names := ["spot", "told"]) G'.hh <| w_Tuple <| w_args_cons <| w_Dict fun d od hod => w_pairs_cons <| w_Const_str fun _ => w_Const_int fun t => w_pairs_nil ⟨[("place", .int 0 t)], od, fun o' => (d, o') :: _, ⟨strKind_is .., rfl, trivial⟩, hod, fun _ => .here, fun od' hod' =>
      w_args_cons <| w_List <| w_args_nil <| w_newList fun ta => w_args_nil <| w_newTuple fun tu => ⟨tu, _, rfl, .head _, rfl, w_sub (.cons _ (.refl _)) <| w_order_cons <| w_bindName <| w_store_L (.there (.there .here)) <| w_order_cons <| w_bindName <| w_store_L (.there .here) <| w_order_nil ⟨rfl, d, od', t, ta, hod', rfl, rfl⟩⟩⟩
  rintro _ s1 _ _ S1 ⟨rfl, sp, od, tp, ta, hod, rfl, rfl⟩
  -- lexer
  refine wr_cons (Qs := fun f l' N' => f = .next ∧ ∃ tape Fr es0' lex lexd o1 pb, TabOk qfR es0' ∧ Tape k.w (Fr ++ tabX 94 es0') text sp tape ∧ OLx o1 1 tape pb ∧ l' = ([("text", some (.str (T text) tt)), ("spot", some (.ref sp)), ("told", some (.ref ta)), ("lexer", some (.ref lex)), ("last", none)] : Loc) ∧
    N' = [(lexd, o1), (lex, instObj 59 lexd), (pb, listO [])] ++ ((Fr ++ tabX 94 es0') ++ ((ta, listO []) :: (sp, od) :: (tabX 101 es1 ++ tabX 108 es2)))) S1 ?_ ?_
  · refine w_Assign_Name <| w_Call <| w_name_K G'.toGnd (by k_is) <| w_callWith_K G'.toGnd (by k_is) <| w_args_cons <| w_Call <| w_name_K G'.toGnd (by k_is) <| w_callWith_f <| w_args_cons <| w_name_L (.head _) <| w_args_cons <| w_name_L (.tail _ (.head _)) <| w_args_nil ⟨⟨_, _, _, _, .inr (G'.X 99 _ (by k_is))⟩,
      w_re (N' := tabX 94 es0 ++ ((ta, listO []) :: (sp, od) :: (tabX 101 es1 ++ tabX 108 es2))) [[(ta, listO [])], [(sp, od)], tabX 94 es0, tabX 101 es1, tabX 108 es2] [0, 1, 2, 3, 4] [2, 0, 1, 3, 4] [] <| w_call (core := tabX 94 es0) (Qs := fun v N' => ∃ tape Fr es', v = .ref tape ∧ TabOk qfR es' ∧ N' = Fr ++ tabX 94 es' ∧ Tape k.w (Fr ++ tabX 94 es') text sp tape) G' (fun g E Gk => sp_reader Gk ok0 text tt sp hlen) ?_⟩
    rintro _ _ ⟨tape, Fr, es0', rfl, ok0', rfl, hT⟩
    exact w_args_nil <| w_make G' fun lex lexd o1 pb ho1 => w_store_L (.there (.there (.there .here))) ⟨rfl, tape, Fr, es0', lex, lexd, o1, pb, ok0', hT, ho1, rfl, rfl⟩
  rintro _ s2 _ _ S2 ⟨rfl, tape, Fr, es0', lex, lexd, o1, pb, ok0', hT, ho1, rfl, rfl⟩
  have hx : (⟨k.w, Fr ++ tabX 94 es0', text, sp, tape, lex, lexd, pb⟩ : Lx).Ok := ⟨hT, hlen⟩
  generalize hxe : (⟨k.w, Fr ++ tabX 94 es0', text, sp, tape, lex, lexd, pb⟩ : Lx) = x at hx
  have hxw : k.w = x.w := by rw [← hxe]
  have hxt : x.text = text := by rw [← hxe]
  have hxl : x.lex = lex := by rw [← hxe]
  have hxs : x.sp = sp := by rw [← hxe]
  have hxF : x.F = Fr ++ tabX 94 es0' := by rw [← hxe]
  have hA : x.At 0 1 (((sp, od) :: (Fr ++ tabX 94 es0')) ++ [(lexd, o1), (lex, instObj 59 lexd), (pb, listO [])]) := by
    rw [← hxe]; exact ⟨o1, od, tp, listO [], hod, ho1, OP.new _, rfl⟩
  generalize hN0 : ((sp, od) :: (Fr ++ tabX 94 es0')) ++ [(lexd, o1), (lex, instObj 59 lexd), (pb, listO [])] = N0 at hA
  have S3 : St (k.c _ _ L 118 _ []) _ (N0 ++ ([(ta, listO [])] ++ (tabX 101 es1 ++ tabX 108 es2))) s2 := S2.perm (by
    rw [← hN0]
    exact re_perm [[(lexd, o1), (lex, instObj 59 lexd), (pb, listO [])], Fr ++ tabX 94 es0', [(ta, listO [])], [(sp, od)], tabX 101 es1, tabX 108 es2] [0, 1, 2, 3, 4, 5] [3, 1, 0, 2, 4, 5])
  subst hxl; subst hxs; subst hxt
  have fin : ∀ (lastv : Value) (p line : Nat) (N1 : Ldg) (to : Obj) (R : Ldg) (ez1 ez2 : List Ent) (tl tp2 : Tok) (tu : Addr) (g' : Heap) (l' : Loc) (s' : Shared), KtsTurn (envs.filterMap (·.frame)) k.g g' → x.At p line N1 → p ≤ x.text.length → x.text.drop p = runR res → line = runLine res → OP to (refs R) → RowsAre R res.rows → LastIs lastv (runLast res) → TabOk qfF ez1 → TabOk qfL ez2 →
      ∀ {c : Cx}, St (c.at g') l' ((tu, tupO [.ref ta, lastv, .int (line : Int) tl, .int (p : Int) tp2]) :: (N1 ++ (((ta, to) :: R) ++ (tabX 101 ez1 ++ tabX 108 ez2)))) s' →
      ∃ N', St (c.at g') l' N' s' ∧ RunPost x.text res (.ref tu) N' := by
    intro lastv p line N1 to R ez1 ez2 tl tp2 tu g' l' s' _ hA1 hp1 hd1 hln hto hRows hlast oz1 oz2 c S
    obtain ⟨o1', o2, tp3, opb, _, _, _, rfl⟩ := hA1
    rw [hxF] at S
    have hpl : x.text.length - (runR res).length = p := by rw [← hd1, List.length_drop]; omega
    subst hln
    refine ⟨_, (S.perm (re_perm (N' := (((tu, tupO [.ref ta, lastv, .int (runLine res : Int) tl, .int (p : Int) tp2]) :: (((ta, to) :: R) ++ (tabX 94 es0' ++ (tabX 101 ez1 ++ tabX 108 ez2)))) ++ ((x.sp, o2) :: Fr ++ [(x.lexd, o1'), (x.lex, instObj 59 x.lexd), (x.pb, opb)])))
      [[(tu, tupO [.ref ta, lastv, .int (runLine res : Int) tl, .int (p : Int) tp2])], [(x.sp, o2)], Fr, tabX 94 es0', [(x.lexd, o1'), (x.lex, instObj 59 x.lexd), (x.pb, opb)], (ta, to) :: R, tabX 101 ez1, tabX 108 ez2] [0, 1, 2, 3, 4, 5, 6, 7] [0, 5, 3, 6, 7, 1, 2, 4])).sub (List.sublist_append_left ..), tu, ta, to, R, lastv, es0', ez1, ez2, tl, tp2, rfl, hto, hRows, hlast, ok0', oz1, oz2, ?_⟩
    rw [hpl]
  refine wr_try S3 (Qs := fun f l' N' => f = .next ∧ ∃ lastv p line N1 to R ez1 ez2, x.At p line N1 ∧ p ≤ x.text.length ∧ x.text.drop p = runR res ∧ line = runLine res ∧ OP to (refs R) ∧ RowsAre R res.rows ∧ LastIs lastv (runLast res) ∧ TabOk qfF ez1 ∧ TabOk qfL ez2 ∧
    l' = ([("text", some (.str (T x.text) tt)), ("spot", some (.ref x.sp)), ("told", some (.ref ta)), ("lexer", some (.ref x.lex)), ("last", some lastv)] : Loc) ∧ N' = N1 ++ (((ta, to) :: R) ++ (tabX 101 ez1 ++ tabX 108 ez2))) ?_ ?_
  · refine w_execs_cons <| w_Expr_none <| w_Call <| w_name_K G'.toGnd (by k_is) <| w_callWith_f <| w_args_cons <| w_name_L (.tail _ (.tail _ (.tail _ (.head _)))) <| w_args_cons <| w_name_L (.tail _ (.head _)) <| w_args_cons <| w_Const_int fun t0 => w_args_cons <| w_name_L (.tail _ (.tail _ (.head _))) <| w_args_nil ⟨⟨_, _, _, _, .inr (G'.X 111 _ (by k_is))⟩, w_nil <| w_callE (core := N0 ++ ([(ta, listO [])] ++ (tabX 101 es1 ++ tabX 108 es2))) (fun g => ExS _ _ fun N' => res.stopped = true ∧ ∃ p, LR x ta p res.line res.rows N' ∧ x.text.drop p = res.r) G'
      (fun g Gk => sp_read 7 (depth := 0) Gk hx hxw t0 ⟨N0, listO [], [], es1, es2, hA, Nat.zero_le _, OP.new _, ⟨rfl, by simp⟩, ok1, ok2, rfl⟩ hR hrows) ?_ ?_⟩
    · rintro s S _ s' ⟨a, N', rfl, Rr, hst, p, ⟨N1, to, R, ez1, ez2, hA1, hp1, hto, hRows, oz1, oz2, rfl⟩, hdr⟩
      have X := xf_call G' S Rr
      rw [List.append_nil] at X
      refine xf_caught G' Xb X (by k_is) fun g' s3 E3 T3 S4 GG => ?_
      refine WP.go (Q := fun f l' N' => f = .next ∧ l' = ([("text", some (.str (T x.text) tt)), ("spot", some (.ref x.sp)), ("told", some (.ref ta)), ("lexer", some (.ref x.lex)), ("last", some .none)] : Loc) ∧ N' = N1 ++ (((ta, to) :: R) ++ (tabX 101 ez1 ++ tabX 108 ez2))) (w_execs_cons <| w_Assign_Name <| w_Const_none <| w_store_L (.there (.there (.there (.there .here)))) <| w_execs_nil ⟨rfl, rfl, rfl⟩) (S4.reA _) fun f s5 l5 N5 S5 q => ?_
      obtain ⟨rfl, rfl, rfl⟩ := q
      obtain ⟨m1, h1, h2, h3, h4, t1, t2, t3, t4, tl, tw, nn, m2, opb, m3, hopb⟩ := lx_mem hA1
      obtain ⟨o2, tp2, msp, hod2⟩ := lx_spot hA1
      refine WP.go (Q := fun f l' N' => ∃ tu, f = .ret (.ref tu) ∧ N' = (tu, tupO [.ref ta, .none, .int (res.line : Int) tl, .int (p : Int) tp2]) :: (N1 ++ (((ta, to) :: R) ++ (tabX 101 ez1 ++ tabX 108 ez2)))) (w_execs_cons <| w_Return_some <| w_Tuple <| w_args_cons <| w_name_L (.tail _ (.tail _ (.head _))) <| w_args_cons <| w_name_L (.tail _ (.tail _ (.tail _ (.tail _ (.head _))))) <| w_args_cons <| w_Attr <| w_name_L (.tail _ (.tail _ (.tail _ (.head _)))) <| w_get_own GG.toGnd (List.mem_append_left _ m1) (List.mem_append_left _ m2) (by k_is) (by k_is) (by k_is) (by k_is) rfl rfl <| w_args_cons <| w_Subscript <| w_name_L (.tail _ (.head _)) <| w_Const_str fun _ => w_ditem (List.mem_append_left _ msp) (show OD k.w o2 _ from hxw ▸ hod2) rfl <| w_args_nil <| w_newTuple fun tu => ⟨tu, rfl, rfl⟩) (S5.reA _) fun f s6 l6 N6 S6 q => ?_
      obtain ⟨tu, rfl, rfl⟩ := q
      obtain ⟨N7, S7, hpost⟩ := fin .none p res.line N1 to R ez1 ez2 tl tp2 tu g' l6 s6 T3 hA1 hp1 (by unfold runR; rw [hst]; exact hdr) (by unfold runLine; rw [hst]; rfl) hto hRows (by unfold runLast; rw [hst]; rfl) oz1 oz2 (c := ⟨k.w, _, k.g, L, k.gs, k.d, k.os⟩) S6
      exact ⟨g', l6, N7, T3, S7, hpost⟩
    · rintro _ _ ⟨rfl, hst, p, ⟨N1, to, R, ez1, ez2, hA1, hp1, hto, hRows, oz1, oz2, rfl⟩, hdr⟩
      obtain ⟨m1, h1, h2, h3, h4, t1, t2, t3, t4, tl, tw, nn, m2, opb, m3, hopb⟩ := lx_mem hA1
      refine ⟨rfl, w_nil' <| w_execs_cons <| w_Assign_Name <| w_MethodCall <| w_name_L (.tail _ (.tail _ (.tail _ (.head _)))) <| w_method G'.toGnd (List.mem_append_left _ m1) (List.mem_append_left _ m2) (by k_is) (by k_is) (by k_is) rfl <| w_callWith_f0 ⟨_, _, _, _, .inr (G'.X 49 _ (by k_is))⟩ <| w_call (core := N1) G' (fun g E Gk => sp_gettoken Gk hx hxw hp1 hA1) ?_⟩
      rintro _ N2 ⟨p2, line2, tv, rfl, hA2, hp2, hd2, hK2⟩
      rw [hdr] at hd2 hK2
      rw [hdr]
      refine w_store_L (.there (.there (.there (.there .here)))) <| w_execs_nil ⟨rfl, _, p2, line2, N2, to, R, ez1, ez2, hA2, hp2, ?_, ?_, hto, hRows, ?_, oz1, oz2, rfl, rfl⟩
      · unfold runR; rw [hst]; exact hd2
      · unfold runLine lineOn; rw [hst]; show line2 = res.line + res.r.count 10 - (getTok res.r).2.count 10; omega
      · unfold runLast; rw [hst]; exact ⟨tv, rfl⟩
  · rintro _ s' _ _ S' ⟨rfl, lastv, p, line, N1, to, R, ez1, ez2, hA1, hp1, hd1, hln, hto, hRows, hlast, oz1, oz2, rfl, rfl⟩
    obtain ⟨m1, h1, h2, h3, h4, t1, t2, t3, t4, tl, tw, nn, m2, opb, m3, hopb⟩ := lx_mem hA1
    obtain ⟨o2, tp2, msp, hod2⟩ := lx_spot hA1
    have GG := G'
    refine WR.mk (WP.go (Q := fun f l' N' => ∃ tu, f = .ret (.ref tu) ∧ N' = (tu, tupO [.ref ta, lastv, .int (line : Int) tl, .int (p : Int) tp2]) :: (N1 ++ (((ta, to) :: R) ++ (tabX 101 ez1 ++ tabX 108 ez2)))) (w_execs_cons <| w_Return_some <| w_Tuple <| w_args_cons <| w_name_L (.tail _ (.tail _ (.head _))) <| w_args_cons <| w_name_L (.tail _ (.tail _ (.tail _ (.tail _ (.head _))))) <| w_args_cons <| w_Attr <| w_name_L (.tail _ (.tail _ (.tail _ (.head _)))) <| w_get_own GG.toGnd (List.mem_append_left _ m1) (List.mem_append_left _ m2) (by k_is) (by k_is) (by k_is) (by k_is) rfl rfl <| w_args_cons <| w_Subscript <| w_name_L (.tail _ (.head _)) <| w_Const_str fun _ => w_ditem (List.mem_append_left _ msp) (show OD k.w o2 _ from hxw ▸ hod2) rfl <| w_args_nil <| w_newTuple fun tu => ⟨tu, rfl, rfl⟩) S' fun f s5 l5 N5 S5 q => ?_)
    obtain ⟨tu, rfl, rfl⟩ := q
    obtain ⟨N6, S6, hpost⟩ := fin lastv p line N1 to R ez1 ez2 tl tp2 tu k.g l5 s5 KtsTurn.refl hA1 hp1 hd1 hln hto hRows hlast oz1 oz2 (c := ⟨k.w, _, k.g, L, k.gs, k.d, k.os⟩) S5
    exact ⟨k.g, l5, N6, KtsTurn.refl, S6, hpost⟩
end Mine
end
section
open PySem PySem.W PyProof.Rows PySem.Calls PySem.Spec
namespace Mine
/-- rows as data -/
noncomputable def rowD (r : Row) : PyData := .tuple [.int (r.depth : Int), .str (T r.name), .int (r.fig : Int), .int (r.count : Int), .int (r.line : Int), .int (r.place : Int)]
noncomputable def runD (rows : List Row) (last : PyData) (line place : Int) : PyData := .tuple [.list (rows.map rowD), last, .int line, .int place]
noncomputable def RowOk (r : Row) : Prop := ∀ c ∈ r.name, c < 0x110000
theorem rowD_can {r : Row} (h : RowOk r) : (rowD r).canLay0 = true := by
  have e : PyData.strOk (T r.name) = true := by
    show (r.name.toArray).all (· < 0x110000) = true
    simp only [List.all_toArray, List.all_eq_true, decide_eq_true_eq]
    exact h
  simp [rowD, PyData.canLay0, PyData.canLayAll0, e]
theorem rows_can : ∀ {rows : List Row}, (∀ r ∈ rows, RowOk r) → PyData.canLayAll0 (rows.map rowD) = true
  | [], _ => rfl
  | r :: rs, h => by
    show (PyData.canLay0 (rowD r) && PyData.canLayAll0 (rs.map rowD)) = true
    rw [rowD_can (h r (.head _)), rows_can fun x hx => h x (.tail _ hx)]; rfl
theorem rows_depth : ∀ rows : List Row, PyData.depthAll (rows.map rowD) ≤ 2
  | [] => by simp [PyData.depthAll]
  | r :: rs => by
    have := rows_depth rs
    simp only [List.map_cons, PyData.depthAll, rowD, PyData.depth]
    omega
theorem runD_shaped {rows : List Row} {last : PyData} {line place : Int} (h : ∀ r ∈ rows, RowOk r) (hl : last = .none ∨ last = .str (T [])) : SeqAt.shaped (runD rows last line place) = true := by
  have h1 := rows_can h
  have h2 := rows_depth rows
  unfold SeqAt.shaped
  rw [Bool.and_eq_true, decide_eq_true_eq]
  rcases hl with rfl | rfl
  · refine ⟨by simp [runD, PyData.canLay0, PyData.canLayAll0, h1], ?_⟩
    simp only [runD, PyData.depth, PyData.depthAll]
    omega
  · refine ⟨?_, ?_⟩
    · have : PyData.strOk (T []) = true := by decide +kernel
      simp [runD, PyData.canLay0, PyData.canLayAll0, h1, this]
    · simp only [runD, PyData.depth, PyData.depthAll]
      omega
theorem reads_row {h : Heap} {a : Addr} {o : Obj} {r : Row} (hg : h.get? a = some o) (ho : RowO o r) : Reads h (.ref a) (rowD r) [] := by
  obtain ⟨t1, t2, t3, t4, t5, t6, rfl⟩ := ho
  exact Reads.tuple hg rfl rfl (.cons (.int _ _) (.cons (.str _ _) (.cons (.int _ _) (.cons (.int _ _) (.cons (.int _ _) (.cons (.int _ _) .nil))))))
theorem reads_rows {h : Heap} : ∀ {R : Ldg} {rows : List Row}, RowsAre R rows → (∀ p ∈ R, h.get? p.1 = some p.2) → ∃ as, ReadsAll h (refs R) (rows.map rowD) as
  | [], [], _, _ => ⟨_, .nil⟩
  | [], _ :: _, h, _ => by cases h.1
  | _ :: _, [], h, _ => by cases h.1
  | p :: R, r :: rows, hR, hg => by
    obtain ⟨as, ih⟩ := reads_rows (R := R) (rows := rows) ⟨by have := hR.1; simpa using this, fun j q x e1 e2 => hR.2 (j + 1) q x (by simpa using e1) (by simpa using e2)⟩ (fun q hq => hg q (.tail _ hq))
    exact ⟨_, .cons (reads_row (hg p (.head _)) (hR.2 0 p r rfl rfl)) ih⟩
theorem reads_run {h : Heap} {tu ta : Addr} {to : Obj} {R : Ldg} {rows : List Row} {lastv : Value} {last : PyData} {line place : Int} {tl tp : Tok} (htu : h.get? tu = some (tupO [.ref ta, lastv, .int line tl, .int place tp]))
    (hta : h.get? ta = some to) (hto : OL to (refs R)) (hR : RowsAre R rows) (hg : ∀ p ∈ R, h.get? p.1 = some p.2) (hl : Reads h lastv last []) : ∃ as, Reads h (.ref tu) (runD rows last line place) as := by
  obtain ⟨as, ra⟩ := reads_rows hR hg
  obtain ⟨hc, n, hd⟩ := hto
  exact ⟨_, Reads.tuple htu rfl rfl (.cons (.list hta hc hd (by simpa using ra)) (.cons hl (.cons (.int _ _) (.cons (.int _ _) .nil))))⟩
section
variable {c : Cx} {E : Value → Shared → Prop} {l : Loc} {N : Ldg} {env : Env} {Q : Value → Loc → Ldg → Prop}
theorem w_ne {x y : Value} {d : PyData} (hx : ∀ s, St c l N s → ∃ as, Reads s.heap x d as) (hy : ∀ s, St c l N s → ∃ as, Reads s.heap y d as) (hd : SeqAt.shaped d = true) (hu : c.A.units + 64 < cLine) (h : Q (.bool false) l N) :
    WP c E l N (compareOp .NotEq x y) Q := WP.mk fun s S => by
  obtain ⟨_, rx⟩ := hx s S
  obtain ⟨_, ry⟩ := hy s S
  refine ne_dataH rx ry hd hd hu ?_
  rw [SeqAt.eqv_refl d (SeqAt.canLay_of_shaped hd)]
  exact ⟨_, _, S, h⟩
theorem w_titem {value slice : Expr} {a : Addr} {vs : List Value} {k : Nat} {t : Tok} {v : Value} (hm : (a, tupO vs) ∈ N) (hl : vs.length ≤ 1000) (hv : vs[k]? = some v) (h : Q v l N)
    (hs : subscripted slice false (.ref a) (.int (k : Int) t) = operate [.ref a, .int (k : Int) t] (getItem (.ref a) (.int (k : Int) t)) := by with_unfolding_all rfl) : WP c E l N (subscriptTail value slice (.ref a) (.int (k : Int) t)) Q :=
  WP.mk fun _ S => by
    have hk : k < vs.length := (List.getElem?_eq_some_iff.mp hv).1
    refine tail_any (S.tup hm).typeIs slot_tuple_getitem.lookup (getItem_tuple (S.tup hm) (by omega) (by omega) (j := k) ?_ (by simpa using hv) ⟨_, _, S, h⟩) hs
    unfold seqIndex?
    simp [show ¬ (k : Int) < 0 by omega, hk]
end
theorem refs_snoc (R : Ldg) (p : Addr × Obj) : refs (R ++ [p]) = refs R ++ [.ref p.1] := by unfold refs; simp
inductive InvQ (R : Ldg) (rows : List Row) (f : Row → Bool) (x : Str) (da it acc : Addr) (N : Ldg) (m : Nat) (l : Loc) (N' : Ldg) : Prop
  | mk (i : Nat) (oi oa : Obj) (R' : Ldg) (u : Option Value) (c0 : m = rows.length - i) (c1 : i ≤ rows.length) (c2 : OLI oi da i) (c3 : OL oa (refs R')) (c4 : R'.length ≤ i) (c5 : RowsAre R' ((rows.take i).filter f)) (c6 : ∀ p ∈ R', p ∈ R) (c7 : l = [(x, u)]) (c8 : List.Sublist ((it, oi) :: (acc, oa) :: N) N')
section
variable {c : Cx} {env : Env} {test iter : Expr} {scope : Scope} {pos px px' : Pos} {cl : List (Str × Addr)} {x : Str} {it da : Addr} {o od : Obj} {N R : Ldg} {rows : List Row}
/-- the rows that pass a test -/
theorem comp_rows (hR : RowsAre R rows) (ho : OL od (refs R)) (hm : (da, od) ∈ N) (hh : c.A.handled = none) (hJ : OLI o da 0) (hn : rows.length < 1000000) (f : Row → Bool)
    (htest : ∀ p r g C E' N', p ∈ R → RowO p.2 r → (∀ b o, c.g.get? b = some o → g.get? b = some o) → List.Sublist N N' →
      WP (c.inner g C) E' [(x, some (.ref p.1))] N' (isTrue test (compEnvC scope cl C env) (eval test (compEnvC scope cl C env))) fun b l4 N4 => b = f r ∧ l4 = [(x, some (.ref p.1))] ∧ N4 = N')
    (hx : (relabel scope env).names.lookup x = some .local := by rfl) (hk : scope.kind = .function := by rfl) (hd : (x == ("__debug__" : Str)) = false := by decide) :
    CompDo c env (.Name x px') (.Name x px) iter [test] scope pos cl [(x, none)] (.ref it) ((it, o) :: N) fun acc N' => ∃ oa R', OL oa (refs R') ∧ RowsAre R' (rows.filter f) ∧ (∀ p ∈ R', p ∈ R) ∧ List.Sublist ((acc, oa) :: N) N' := by
  have hrl : (refs R).length = rows.length := by unfold refs; rw [List.length_map, hR.1]
  have I := Iter.list (a := da) ho
  intro acc g C hg
  refine ⟨fun E' => I.self hJ (.tail _ (.head _)) ⟨rfl, rfl, rfl⟩, fun Er => ?_⟩
  refine cw_perm (List.Perm.swap ..) (cw_comp (InvQ R rows f x da it acc N) ?_ rows.length
    ⟨0, o, listO [], [], none, rfl, Nat.zero_le _, hJ, OL.new _, Nat.le_refl _, ⟨rfl, by simp⟩, by simp, rfl, List.Sublist.refl _⟩)
  rintro m l N' ⟨i, oi, oa, R', u, rfl, hi, hj, ho', hl', hF, hsub, rfl, hs⟩
  refine w_sub hs ?_
  by_cases hlt : i < rows.length
  · refine I.step (.tail _ hm) hj (by rw [hrl]; exact hlt) fun o' v hj' hv => ?_
    obtain ⟨p, hp⟩ : ∃ p, R[i]? = some p := ⟨R[i]'(by rw [hR.1]; exact hlt), by simp⟩
    obtain ⟨r, hr⟩ : ∃ r, rows[i]? = some r := ⟨rows[i]'hlt, by simp⟩
    have hvp : v = .ref p.1 := by
      unfold refs at hv
      rw [List.getElem?_map, hp] at hv
      exact (Option.some.inj hv).symm
    subst hvp
    have hro := hR.2 i p r hp hr
    have htk : rows.take (i + 1) = rows.take i ++ [r] := by rw [List.take_add_one, hr]; rfl
    refine w_assign (wg_store .here ?_ rfl hk hx)
    refine w_tests_one <| WP.mono (htest p r g C _ _ (List.mem_of_getElem? hp) hro hg (List.Sublist.cons _ (List.Sublist.cons _ (List.Sublist.refl _)))) ?_
    rintro b l4 N4 ⟨rfl, rfl, rfl⟩
    cases hfr : f r with
    | true =>
      refine wg_name_L (.head _) ?_ rfl hk hx hd
      refine w_append (fun _ => .there .here) ho' (by unfold refs; simp; omega) fun oa' ho2 => ?_
      refine ⟨rows.length - (i + 1), by omega, i + 1, o', oa', R' ++ [p], some (.ref p.1), rfl, hlt, hj', by rw [refs_snoc]; exact ho2, by simp; omega, ?_, fun q hq => ?_, rfl, List.Sublist.refl _⟩
      · rw [htk, List.filter_append, List.filter_cons, if_pos hfr, List.filter_nil]
        exact hF.snoc hro
      · rcases List.mem_append.mp hq with hq | hq
        · exact hsub q hq
        · simp at hq; subst hq; exact List.mem_of_getElem? hp
    | false =>
      refine ⟨rows.length - (i + 1), by omega, i + 1, o', oa, R', some (.ref p.1), rfl, hlt, hj', ho', by omega, ?_, hsub, rfl, List.Sublist.refl _⟩
      rw [htk, List.filter_append, List.filter_cons, if_neg (by simp [hfr]), List.filter_nil, List.append_nil]
      exact hF
  · have : i = rows.length := by omega
    subst this
    rw [List.take_length] at hF
    refine I.done hh (.tail _ hm) (by rw [hrl]; exact hj) ⟨oa, R', ho', hF, hsub, List.Sublist.refl _⟩
end
end Mine
end
section
open PySem PySem.W PyProof.Rows PySem.Calls PySem.Spec
namespace Mine
theorem ints_of {vs : List Value} {ns : List Int} (h : IntsAre vs ns) : Ints vs ns := by
  induction h with
  | nil => exact ⟨rfl, fun i n e => by simp at e⟩
  | cons n t _ ih =>
    refine ⟨by simp [ih.1], fun i m e => ?_⟩
    cases i with
    | zero => simp at e; subst e; exact ⟨t, rfl⟩
    | succ i => simpa using ih.2 i m (by simpa using e)
noncomputable abbrev tabs3 (e0 e1 e2 : List Ent) : Ldg := tabX 94 e0 ++ (tabX 101 e1 ++ tabX 108 e2)
noncomputable def Toks3 (e0 e1 e2 : List Ent) : Prop := TabOk qfR e0 ∧ TabOk qfF e1 ∧ TabOk qfL e2
theorem toks3_nil : Toks3 [] [] [] := ⟨fun _ h => (by cases h), fun _ h => (by cases h), fun _ h => (by cases h)⟩
noncomputable def LawPost (f : Flow) (_ : Loc) (N : Ldg) : Prop := f = .ret (.bool true) ∧ (∃ ps, (101, tabObj ps) ∈ N) ∧ (∃ ps, (108, tabObj ps) ∈ N) ∧ (∃ ps, (94, tabObj ps) ∈ N)
theorem tabs3_mem {e0 e1 e2 : List Ent} {N : Ldg} (h : ∀ p ∈ tabs3 e0 e1 e2, p ∈ N) : (∃ ps, (101, tabObj ps) ∈ N) ∧ (∃ ps, (108, tabObj ps) ∈ N) ∧ (∃ ps, (94, tabObj ps) ∈ N) :=
  ⟨⟨_, h _ (List.mem_append_right _ (List.mem_append_left _ (.head _)))⟩, ⟨_, h _ (List.mem_append_right _ (List.mem_append_right _ (.head _)))⟩, ⟨_, h _ (List.mem_append_left _ (.head _))⟩⟩
/-- _law_run within law's frame -/
theorem w_run {c : Cx} {E : Value → Shared → Prop} {l : Loc} {n : Nat} {base : Heap} {env : Env} {e0 e1 e2 : List Ent} {rest : Ldg} {text : List Nat} {tt : Tok} {res : Res} {Q : Value → Loc → Ldg → Prop} (G : Gd (n + 51) c base [] env) (Xb : Gnd c.w base) (ok : Toks3 e0 e1 e2)
    (hlen : text.length ≤ 100000) (hR : RdP text.length 7 0 1 text [] res) (hrows : res.rows.length ≤ 1000)
    (h : ∀ tu ta to R lastv e0 e1 e2 tl tp, OP to (refs R) → RowsAre R res.rows → LastIs lastv (runLast res) → Toks3 e0 e1 e2 →
      Q (.ref tu) l (((tu, tupO [.ref ta, lastv, .int (runLine res : Int) tl, .int ((text.length - (runR res).length : Nat) : Int) tp]) :: (((ta, to) :: R) ++ tabs3 e0 e1 e2)) ++ rest)) :
    WP c E l (tabs3 e0 e1 e2 ++ rest) (call (.ref 118) [.str (T text) tt]) Q := by
  refine w_callX (core := tabs3 e0 e1 e2) (n := n + 50) (Qs := RunPost text res) G (fun g Gk => sp_run Gk Xb ok.1 ok.2.1 ok.2.2 text tt hlen hR hrows) ?_
  rintro _ _ ⟨tu, ta, to, R, lastv, e0, e1, e2, tl, tp, rfl, hto, hRR, hlast, k0, k1, k2, rfl⟩
  exact h tu ta to R lastv e0 e1 e2 tl tp hto hRR hlast ⟨k0, k1, k2⟩
/-- the invariant of law's loop -/
inductive InvL (L a d5 da : Addr) (x y : List Nat) (tt th : Tok) (fixed : Ldg) (i_ : Nat) (l : Loc) (N : Ldg) : Prop
  | mk (e0 e1 e2 oc uc u1 u2 : _) (c0 : Toks3 e0 e1 e2) (c1 : oc.data = .cell uc) (c2 : l = ([("script", some (.ref a)), ("numbers", some (.ref d5)), ("text", some (.str (T x) tt)), ("heard", some (.str (T y) th)), ("due", some (.ref da)), ("n", u1), ("whole", u2)] : Loc)) (c3 : N = (L + 1, oc) :: (tabs3 e0 e1 e2 ++ fixed))
noncomputable abbrev locL (a : Addr) : Loc := [("script", some (.ref a)), ("numbers", none), ("text", none), ("heard", none), ("due", none), ("n", none), ("whole", none)]
noncomputable abbrev cxL (w : World) (g : Heap) (L : Addr) (gs : Array GenState) (d : Drawn) (os : OsState) (env : Env) : Cx := ⟨w, callerA.deeper env, g, L, gs, d, os⟩
theorem law_gd {w : World} {g : Heap} {L fa : Addr} {cd : Value} {nm : Str} {sc : Scope} {gs : Array GenState} {d : Drawn} {os : OsState} {cl : List (Str × Addr)} (G : Gnd w g) (K : Below callerA g [] g) (hk : sc.kind = .function) :
    Gd 60 (cxL w g L gs d os (envX nm sc L fa cd cl)) g [] (envX nm sc L fa cd cl) where
  toGnd := G
  B := ⟨_, K⟩
  hA := Around.frames_deeper K.stack
  hf := rfl
  hk := hk
  hh := rfl
  dep := by show callerA.depth + 1 + 60 < recursionLimit; decide +kernel
  un := by show callerA.units + 3 + 50 * 60 + 200 < cLine; decide +kernel
theorem law_go {w : World} {g h₁ : Heap} {L fa a : Addr} {cd : Value} {nm : Str} {sc : Scope} {body : List Stmt} {oc : Obj} {tk : Nat} {gs : Array GenState} {d : Drawn} {os : OsState} {m : Str → Option Value} {E : Value → Shared → Prop} {R : Flow → Shared → Prop}
    (F : Fr g L h₁ m) (hm : LocF m (locL a)) (N : News g L h₁ [(L + 1, oc), (101, tabObj #[]), (108, tabObj #[]), (94, tabObj #[])]) (l0 : 101 < L ∧ 108 < L ∧ 94 < L) (GN : Gnd w g) (K : Below callerA g [] g) (hk : sc.kind = .function)
    (walk : ∀ E, Gd 60 (cxL w g L gs d os (envX nm sc L fa cd [("cut", L + 1)])) g [] (envX nm sc L fa cd [("cut", L + 1)]) → WP (cxL w g L gs d os (envX nm sc L fa cd [("cut", L + 1)])) E (locL a) ((L + 1, oc) :: tabs3 [] [] []) (execs body (envX nm sc L fa cd [("cut", L + 1)])) LawPost)
    (fin : ∀ s' l' N', St (cxL w g L gs d os (envX nm sc L fa cd [("cut", L + 1)])) l' N' s' → LawPost (.ret (.bool true)) l' N' → R (.ret (.bool true)) s') :
    wpAny (model PR w) (callerA.deeper (envX nm sc L fa cd [("cut", L + 1)])) (execs body (envX nm sc L fa cd [("cut", L + 1)])) R E { heap := h₁, gens := gs, drawn := d, toks := tk, os := os } := by
  have nd : ∀ n : Nat, 101 < n → 108 < n → 94 < n → ([n + 1, 101, 108, 94] : List Nat).Nodup := fun n _ _ _ => by simp; omega
  have S : St (cxL w g L gs d os (envX nm sc L fa cd [("cut", L + 1)])) (locL a) [(L + 1, oc), (101, tabObj #[]), (108, tabObj #[]), (94, tabObj #[])] { heap := h₁, gens := gs, drawn := d, toks := tk, os := os } :=
    ⟨⟨m, F, hm.all⟩, by dsimp only [List.map]; decide, N, nd L l0.1 l0.2.1 l0.2.2, rfl, rfl, rfl⟩
  have S1 := S.perm (N' := (L + 1, oc) :: tabs3 [] [] []) (.cons _ (re_perm [[(101, tabObj #[])], [(108, tabObj #[])], [(94, tabObj #[])]] [0, 1, 2] [2, 0, 1] (e' := rfl)))
  refine (walk E (law_gd GN K hk)).go S1 fun f s' l' N' S' h => ?_
  have e := h.1
  subst e
  exact fin s' l' N' S' h
end Mine
end
section
open PySem PySem.W PyProof.Rows PySem.Calls PySem.Spec
namespace Mine
section
variable {c : Cx} {E : Value → Shared → Prop} {l lc : Loc} {N : Ldg} {env : Env} {target iter elt : Expr} {ifs : List Expr} {pos spos py : Pos} {scope : Scope} {cl : List (Str × Addr)} {y : Str}
theorem St.scratch {s : Shared} (S : St c l N s) {C : Addr} {h' : Heap} (hC : C ≠ c.L) (hg : c.g.get? C = none) (hN : ∀ p ∈ N, p.1 ≠ C) (hs : Heap.SameBut C s.heap h') : St c l N { s with heap := h' } := by
  obtain ⟨m, F, hm⟩ := S.fr
  refine ⟨⟨m, ⟨F.ns.sameBut hs (Ne.symm hC), fun b o e => (hs.2 b fun z => ?_).trans (F.keep b o e), F.above⟩, hm⟩, S.ln, fun p hp => ⟨(hs.2 _ (hN p hp)).trans (S.nw p hp).1, (S.nw p hp).2⟩, S.nd, S.gs, S.dr, S.os⟩
  rw [z, hg] at e; cases e
/-- a name is bound to a comprehension's list -/
theorem w_AssignComp {Q : Flow → Loc → Ldg → Prop} (hclos : closureFor scope env = pure cl) (hlc : ∀ p ∈ lc, p.2 = none) (hln : (lc.map (·.1)).Nodup)
    (h : WP c E l N (eval iter env) fun x l1 N1 => WP c E l1 N1 (pyIter x) fun it l2 N2 => CompDo c env elt target iter ifs scope pos cl lc it N2 fun acc N' => ∃ l3, Up y (.ref acc) l2 l3 ∧ Q .next l3 N')
    (hsw : swapsWith (.ListComp elt [⟨target, iter, ifs, 0⟩] scope pos) (some (.Name y py)) spos.line env = pure true) (hL : env.locals = c.L) (hk : env.scope.kind = .function) (hy : env.kindOf y = some .local)
    (hkind : scope.kind = .function := by rfl) (hnames : ∀ x ∈ scope.names, x.2 = .local → scope.names.lookup x.1 = some .local := by decide) (hcell : ∀ x ∈ scope.names, x.2 ≠ .cell := by decide)
    (hs : ∀ x, foldedSetIterable iter env x = pure x := by intro _; rfl) :
    WP c E l N (exec (.Assign [.Name y py] (.ListComp elt [⟨target, iter, ifs, 0⟩] scope pos) spos) env) Q := WP.mk fun s S => by
  rw [exec_Assign_Name_used _ _ _ _ hsw]
  refine wpAny_bind (wpAny_standAt (wpAny_bind ?_))
  show wpAny _ c.A (do let _ ← comprehension (.ListComp elt [⟨target, iter, ifs, 0⟩] scope pos) scope env _ (newList []) false (eval iter env) (some (assign (.Name y py) env))) _ _ s
  refine wpAny_bind (wpAny_mono (wpAny_comprehension_free (use := some (assign (.Name y py) env)) (Q := fun _ s' => ∃ l' N', St c l' N' s' ∧ Q .next l' N') (cl := cl) rfl hs hclos hkind hnames (h.go S fun x s₁ l1 N1 S1 q => q.go S1 fun it s₂ l2 N2 S2 q => ?_)) (fun _ s' hq => wpAny_pure (wpAny_pure hq)) fun _ _ e => e)
  refine wpAny_newObj_type ?_ (by show ([] : List Value).toArray.size ≤ sizeLine; decide)
  have S3 := S2.push (listO [])
  refine wpAny_newFunctionEnv hcell (fun _ hx => nomatch hx) (fun h' hn hsb => ?_) hkind
  have hk' : ∀ b o, (s₂.heap.push (listO [])).get? b = some o → h'.get? b = some o := fun b o e => hsb.extBut b o (Nat.ne_of_lt (Heap.lt_size e)) (Heap.get?_push_of_some _ e)
  have S4 := S3.inner (t := s₂.toks) (lc := lc) hn hk' hlc hln
  obtain ⟨q1, q2⟩ := q s₂.heap.objs.size (hideAll (s₂.heap.push (listO [])) (((s₂.heap.objs.size, listO []) :: N2).map (·.1))) (s₂.heap.push (listO [])).objs.size
    (by have S0 : St c l2 (((s₂.heap.objs.size, listO []) :: N2) ++ []) { s₂ with heap := s₂.heap.push (listO []) } := by rw [List.append_nil]; exact S3
        exact S0.ground)
  have hCL : (s₂.heap.push (listO [])).objs.size ≠ c.L := by
    obtain ⟨m, F, _⟩ := S3.fr
    exact Nat.ne_of_gt F.ns.lt
  have hCg : c.g.get? (s₂.heap.push (listO [])).objs.size = none := by
    cases e : c.g.get? (s₂.heap.push (listO [])).objs.size with
    | none => rfl
    | some o => exact absurd (Heap.lt_size (S3.keep _ _ e)) (Nat.lt_irrefl _)
  have fin : ∀ r s', (match r with | .ok _ => ∃ l' N', St (c.inner (hideAll (s₂.heap.push (listO [])) (((s₂.heap.objs.size, listO []) :: N2).map (·.1))) (s₂.heap.push (listO [])).objs.size) l' N' s' ∧ ∃ l3, Up y (.ref s₂.heap.objs.size) l2 l3 ∧ Q .next l3 N' | .error _ => False) →
      compPost (model PR c.w) c.A E (some (assign (.Name y py) env)) (fun _ s' => ∃ l' N', St c l' N' s' ∧ Q .next l' N') (.ref s₂.heap.objs.size) (s₂.heap.push (listO [])).objs.size r s' := fun r s' hr => by
    cases r with
    | error e => exact hr.elim
    | ok f =>
      obtain ⟨l', N', S5, l3, U, q⟩ := hr
      obtain ⟨m5, F5, _⟩ := S5.fr
      have So : St c l2 N' s' := S3.outer S5 rfl ⟨rfl, fun _ _ => rfl⟩
      obtain ⟨m, F, hm⟩ := So.fr
      show wpAny _ c.A (assign (.Name y py) env (.ref s₂.heap.objs.size)) _ _ _
      refine wpAny_assign_Name (wpAny_storeName_local hy (hL ▸ F.ns) (fun h₂ hn₂ hs₂ => ?_) (by rw [hk]; rfl))
      rw [hL] at hn₂ hs₂
      refine ⟨m5, F5.ns.sameBut hs₂ hCL, fun h₃ hs₃ => ⟨l3, N', ?_, q⟩⟩
      have S6 : St c l3 N' { s' with heap := h₂ } := by
        refine ⟨⟨_, F.set hn₂ hs₂, fun p hp => ?_⟩, U.keys ▸ So.ln, So.nw.set hs₂, So.nd, So.gs, So.dr, So.os⟩
        rcases U.other So.ln p hp with rfl | ⟨h1, h2⟩
        · exact if_pos rfl
        · exact (if_neg h2).trans (hm _ h1)
      exact (S6.tok (s'.toks + 1)).scratch hCL hCg (fun p hp => (S5.nw p hp).2.1) hs₃
  refine codeAny_mono (codeAny_compStart_list (R := fun r s' => match r with | .ok _ => ∃ l' N', St (c.inner (hideAll (s₂.heap.push (listO [])) (((s₂.heap.objs.size, listO []) :: N2).map (·.1))) (s₂.heap.push (listO [])).objs.size) l' N' s' ∧ ∃ l3, Up y (.ref s₂.heap.objs.size) l2 l3 ∧ Q .next l3 N' | .error _ => False) ?_ ?_) fin
  · exact codeAny_mono ((q2 (fun _ _ => False)).run _ S4) fun r s' hr => by cases r <;> exact hr
  · refine WP.go (q1 _) S4 fun it' s5 lc' N' S5 e => ?_
    obtain ⟨rfl, rfl, rfl⟩ := e
    exact codeAny_mono ((q2 (fun _ _ => False)).run _ S5) fun r s' hr => by cases r <;> exact hr
end
end Mine
end
open PySem PySem.W PyProof.Rows PySem.Calls PySem.Spec Mine
theorem PySem.Challenge.cw_nb0051_01_holds : PySem.Challenge.rw_nb0051_01.Holds := by
  refine hd51 ?_
  k_go0
  all_goals try k_fold
  rename_i w s₀ s₁ mg mb Gr Y fa o pm cd doc ho hcd hg X V TT B TE TW ns hs hlay0 hL1 hr1 hl2 as5 as4 a vs as1 hL ra w1 r0 hI hr hcond hcond2 hD h₁ tk₁ oc hoc X0 X' T' K' F' c1 c2 N' l0
  have GN : Gnd w (ghostOf s₁.heap [(105, 101), (110, 108), (98, 94)]) := ⟨X', ⟨_, _, _, _, _, T'⟩, c1, c2, codeHd⟩
  refine law_go F' ⟨rfl, rfl, rfl, rfl, rfl, rfl, rfl, trivial⟩ N' l0 GN K' rfl ?walk ?fin
  case fin =>
    rintro s' l' N' S' ⟨_, ⟨p1, m1⟩, ⟨p2, m2⟩, ⟨p3, m3⟩⟩
    obtain ⟨m', F2, _⟩ := S'.fr
    refine ⟨goodW_bool F2 (S'.gs.trans hg) (raisesW_false (by wrow_none_raised)) ?_ S'.os, ⟨_, S'.get m1⟩, ⟨_, S'.get m2⟩, ⟨_, S'.get m3⟩, trivial⟩
    wrow_post
  case walk =>
    intro E G
    have h63 : ns.length ≤ 63 := by omega
    have hvl : vs.length = ns.length := hI.length
    have hoc' : oc.data = .cell none := hoc
    clear hoc hcond hcond2 hD X0 X' T' K' F' N' l0 c1 c2 hcd ho Gr Y X V TT B TE TW hs hlay0 hL1 hr1 hl2 hL ra w1 r0 hr
    generalize ghostOf s₁.heap [(105, 101), (110, 108), (98, 94)] = g at *
    generalize s₁.heap.objs.size = L at *
    have hlift : ∀ {c : Cx} {l : Mine.Loc} {N : Ldg}, c.g = g → ∀ (s : Shared), St c l N s → s.heap.IsList a vs.toArray := fun e s S => let ⟨o, ho, hq⟩ := lifted; ⟨o, S.old (e ▸ ho), hq⟩
    have hs6 : (slicePick vs.toArray none (some 6) none).toList.length ≤ 6 := by
      rw [show (6 : Int) = ((6 : Nat) : Int) from rfl, slicePick_upto']; simp; omega
    have h1 := slice_ints_uptoW hI (y := 6) (by decide)
    generalize hv6 : (slicePick vs.toArray none (some 6) none).toList = v6 at hs6 h1
    refine w_execs_cons <| w_Assign_Name <| w_BinOp <| w_slice_listA <| w_name_L (.head _) <| w_part_none <| w_part_some <| w_Const_int fun t => ⟨a, vs, none, some 6, rfl, hlift rfl, by omega, .none, .int _ _, fun d1 => ?_⟩
    rw [hv6]
    refine w_slice_listA <| w_List <| w_args_cons <| w_Const_int fun t1 => w_args_cons <| w_Const_int fun t2 => w_args_cons <| w_Const_int fun t3 => w_args_cons <| w_Const_int fun t4 => w_args_cons <| w_Const_int fun t5 => w_args_cons <| w_Const_int fun t6 => w_args_nil <| w_newList fun d2 => ?_
    refine w_part_some <| w_Call <| w_name_B G.toGnd (by k_is) Boot.«len» (by decide) <| w_callWith_b <| w_args_cons <| w_slice_listA <| w_name_L (.head _) <| w_part_none <| w_part_some <| w_Const_int fun t => ⟨a, vs, none, some 6, rfl, hlift rfl, by omega, .none, .int _ _, fun d3 => ?_⟩
    rw [hv6]
    refine w_args_nil <| w_len_list (.head _) (OL.new _) (by omega) fun t => w_part_none ⟨d2, _, some _, none, rfl, fun s S => S.isList (.tail _ (.head _)) (OL.new _), by simp, .int _ _, .none, fun d4 => w_add_list (.tail _ (.tail _ (.tail _ (.head _)))) (OL.new _) (.head _) (OL.new _) ?_ fun d5 => w_store_L (.there .here) ?_⟩
    · have := slicePick_size_le [Value.int 74 t1, .int 586 t2, .int 1795 t3, .int 3 t4, .int 8 t5, .int 4130 t6].toArray (some (v6.length : Int)) none none
      simp at this ⊢
      omega
    have hI6 : IntsAre (v6 ++ (slicePick [Value.int 74 t1, .int 586 t2, .int 1795 t3, .int 3 t4, .int 8 t5, .int 4130 t6].toArray (some (v6.length : Int)) none none).toList) (six ns) := by
      have h2 := h1.length
      unfold six
      refine h1.append ?_
      have h3 := slice_ints_fromW (x := (v6.length : Int)) (.cons 74 t1 (.cons 586 t2 (.cons 1795 t3 (.cons 3 t4 (.cons 8 t5 (.cons 4130 t6 .nil)))))) (by omega)
      rw [h2] at h3 ⊢
      exact h3
    generalize v6 ++ (slicePick [Value.int 74 t1, .int 586 t2, .int 1795 t3, .int 3 t4, .int 8 t5, .int 4130 t6].toArray (some (v6.length : Int)) none none).toList = vs6 at hI6
    refine w_sub (N' := (d5, listO vs6) :: (L + 1, oc) :: tabs3 [] [] []) (.cons_cons _ (.cons _ (.cons _ (.cons _ (.cons _ (.refl _)))))) ?_
    have h6 := six_len ns
    have hgood := nodes_good h6
    have hIs := ints_of hI6
    generalize six ns = ms at *
    refine w_execs_cons <| w_AssignTup G.hh <| w_Call <| w_name_K G.toGnd (by k_is) <| w_callWith_f <| w_args_cons <| w_Call <| w_name_K G.toGnd (by k_is) <| w_callWith_f <| w_args_cons <| w_name_L (.tail _ (.head _)) <| w_args_nil ⟨⟨_, _, _, _, .inr (G.X 85 _ (by k_is))⟩, w_call (core := [(d5, listO vs6)]) (rest := (L + 1, oc) :: tabs3 [] [] []) (n := 59) (Qs := fun v N' => ∃ na no D, v = .ref na ∧ OP no (refs D) ∧ NodesAre w D (nodesOf ms) ∧ N' = (na, no) :: (D ++ [(d5, listO vs6)])) G (fun g E Gk => sp_nodes (n := 58) Gk (.head _) (OL.new _) hIs (by omega)) ?_⟩
    rintro _ _ ⟨na, no, D, rfl, hno, hD, rfl⟩
    refine w_args_nil ⟨⟨_, _, _, _, .inr (G.X 92 _ (by k_is))⟩, w_call (core := (na, no) :: (D ++ [(d5, listO vs6)])) (rest := (L + 1, oc) :: tabs3 [] [] []) (n := 59) (Qs := fun v N' => ∃ ta tt th da do_ R, v = .ref ta ∧ OP do_ (refs R) ∧ RowsAre R (dueOf ms) ∧ N' = (ta, tupO [.str (T (textOf ms)) tt, .str (T (heardOf ms)) th, .ref da]) :: (da, do_) :: (R ++ ((na, no) :: (D ++ [(d5, listO vs6)])))) G
      (fun g E Gk => sp_written (n := 56) Gk (.head _) hno hD (fun p hp => .tail _ (List.mem_append_left _ hp)) (by rw [nodes_len h6]; omega) fun nd hnd => (hgood nd hnd).ok) ?_⟩
    rintro _ _ ⟨ta, tt, th, da, do_, R, rfl, hdo, hR, rfl⟩
    refine ⟨ta, _, rfl, .head _, rfl, w_order_cons <| w_assign <| w_store_L (.there (.there .here)) <| w_order_cons <| w_assign <| w_store_L (.there (.there (.there .here))) <| w_order_cons <| w_assign <| w_store_L (.there (.there (.there (.there .here)))) <| w_order_nil ?_⟩
    refine w_re (N' := tabs3 [] [] [] ++ ((L + 1, oc) :: (d5, listO vs6) :: (da, do_) :: R)) [[(ta, tupO [.str (T (textOf ms)) tt, .str (T (heardOf ms)) th, .ref da])], [(da, do_)], R, [(na, no)], D, [(d5, listO vs6)], [(L + 1, oc)], tabs3 [] [] []] [0, 1, 2, 3, 4, 5, 6, 7] [7, 6, 5, 1, 2] [0, 3, 4] ?_
    obtain ⟨htl, htl'⟩ := text_len h6
    have hhl := heard_len6 h6
    have hW := law_whole h6
    have hP := fun cut (hc : cut < (textOf ms).length) => law_part h6 hc
    have hdl := due_len h6
    have hdn := due_names ms
    generalize textOf ms = x at *
    generalize heardOf ms = y at *
    generalize dueOf ms = due at *
    have hgl : (T [] : Str) = T [] := rfl
    refine w_execs_cons <| w_If <| w_isTrue_Compare1 <| w_Call <| w_name_K G.toGnd (by k_is) <| w_callWith_f <| w_args_cons <| w_name_L (.tail _ (.tail _ (.head _))) <| w_args_nil ⟨⟨_, _, _, _, .inr (G.X 118 _ (by k_is))⟩, w_run (n := 9) G GN toks3_nil (by omega) hW (by show due.length ≤ 1000; omega) ?_⟩
    intro tu tb to R2 lastv e0 e1 e2 tl tp hto hR2 hlast htoks
    refine w_Tuple <| w_args_cons <| w_name_L (.tail _ (.tail _ (.tail _ (.tail _ (.head _))))) <| w_args_cons <| w_Const_T [] (by decide) fun tq => w_args_cons <| w_BinOp <| w_Const_int fun t => w_MethodCall <| w_name_L (.tail _ (.tail _ (.tail _ (.head _)))) <| w_str_count <| w_callWith_b <| w_args_cons <| w_Const_T [10] (by decide) fun t => w_args_nil <| w_count fun t => w_add fun t => ?_
    refine w_args_cons <| w_Call <| w_name_B G.toGnd (by k_is) Boot.«len» (by decide) <| w_callWith_b <| w_args_cons <| w_name_L (.tail _ (.tail _ (.head _))) <| w_args_nil <| w_lens (by omega) fun t => w_args_nil <| w_newTuple fun tv => ?_
    obtain ⟨tz, rfl⟩ : ∃ t, lastv = .str (T []) t := hlast
    rw [cnt_count, show (1 : Int) + (y.count 10 : Int) = ((1 + y.count 10 : Nat) : Int) by omega, show runLine ⟨false, [], 1 + y.count 10, due⟩ = 1 + y.count 10 from rfl, show x.length - (runR ⟨false, [], 1 + y.count 10, due⟩).length = x.length from rfl]
    refine w_ne (d := runD due (.str (T [])) ((1 + y.count 10 : Nat) : Int) (x.length : Int)) (fun s S => ?_) (fun s S => ?_) (runD_shaped hdn (.inr rfl)) (by have := G.un; omega) <| w_truthy_bool <| w_execs_nil ?_
    · exact reads_run (S.get (.tail _ (List.mem_append_left _ (.head _)))) (S.get (.tail _ (List.mem_append_left _ (.tail _ (List.mem_append_left _ (.head _)))))) hto.ol hR2 (fun p hp => S.get (.tail _ (List.mem_append_left _ (.tail _ (List.mem_append_left _ (.tail _ hp)))))) (.str _ _)
    · exact reads_run (S.get (.head _)) (S.get (.tail _ (List.mem_append_right _ (.tail _ (.tail _ (.head _)))))) hdo.ol hR (fun p hp => S.get (.tail _ (List.mem_append_right _ (.tail _ (.tail _ (.tail _ hp)))))) (.str _ _)
    refine w_sub (N' := (((tb, to) :: R2) ++ tabs3 e0 e1 e2) ++ ((L + 1, oc) :: (d5, listO vs6) :: (da, do_) :: R)) (.cons _ (.cons _ (.refl _))) <| w_re (N' := (d5, listO vs6) :: (L + 1, oc) :: (tabs3 e0 e1 e2 ++ ((da, do_) :: R))) [(tb, to) :: R2, tabs3 e0 e1 e2, [(L + 1, oc)], [(d5, listO vs6)], (da, do_) :: R] [0, 1, 2, 3, 4] [3, 2, 1, 4] [0] ?_
    clear hto hR2 R2 hgl
    refine w_execs_cons <| w_For <| w_slice_list <| w_name_L (.tail _ (.head _)) <| w_part_none <| w_part_some <| w_Const_int fun t => ⟨d5, _, vs6, none, some 2, rfl, .head _, OL.new _, by have := hI6.length; omega, .none, .int _ _, fun d6 => w_iter_list (.head _) (OL.new _) fun it oi hoi => ?_⟩
    have hI2 := ints_of (slice_ints_uptoW hI6 (y := 2) (by decide))
    generalize (slicePick vs6.toArray none (some 2) none).toList = vs2 at *
    refine cw_perm (N' := (it, oi) :: (L + 1, oc) :: (tabs3 e0 e1 e2 ++ ((d6, listO vs2) :: (d5, listO vs6) :: (da, do_) :: R))) (re_perm [[(it, oi)], [(d6, listO vs2)], [(d5, listO vs6)], [(L + 1, oc)], tabs3 e0 e1 e2, (da, do_) :: R] [0, 1, 2, 3, 4, 5] [0, 3, 4, 1, 2, 5]) ?_
    refine for_iter (Iter.list (a := d6) (OL.new vs2)) G.hh (InvL L a d5 da x y tt th ((d6, listO vs2) :: (d5, listO vs6) :: (da, do_) :: R)) ?hP ?turn ?fin2 ⟨e0, e1, e2, oc, none, none, none, htoks, hoc', rfl, rfl⟩ hoi
    case hP =>
      rintro _ _ _ ⟨e0, e1, e2, oc, uc, u1, u2, _, _, _, rfl⟩
      exact .tail _ (List.mem_append_right _ (.head _))
    case fin2 =>
      rintro _ _ ⟨e0, e1, e2, oc, uc, u1, u2, _, _, _, rfl⟩
      exact w_execs_cons <| w_Return_some <| w_Const_bool ⟨rfl, tabs3_mem fun p hp => .tail _ (List.mem_append_left _ hp)⟩
    case turn =>
      rintro i v _ oi _ E1 hi hv ⟨e0, e1, e2, oc, uc, u1, u2, htoks, hoc, rfl, rfl⟩
      obtain ⟨n, hn⟩ : ∃ n, (ms.take (2 : Int).toNat)[i]? = some n := ⟨_, List.getElem?_eq_getElem (by rw [← hI2.1]; exact hi)⟩
      obtain ⟨tn, hn2⟩ := hI2.2 i n hn
      have hvn : v = .int n tn := by rw [hv] at hn2; exact Option.some.inj hn2
      subst hvn
      refine w_assign <| w_store_L (.there (.there (.there (.there (.there .here))))) ?_
      refine w_execs_cons <| w_Assign_Name <| w_BinOp <| w_name_L (.tail _ (.tail _ (.tail _ (.tail _ (.tail _ (.head _)))))) <| w_Call <| w_name_B G.toGnd (by k_is) Boot.«len» (by decide) <| w_callWith_b <| w_args_cons <| w_name_L (.tail _ (.tail _ (.head _))) <| w_args_nil <| w_lens (by omega) fun t => w_mod (by omega) fun tc => ?_
      obtain ⟨cut, hcut, hcl⟩ : ∃ cut : Nat, n.fmod (x.length : Int) = (cut : Int) ∧ cut < x.length := by
        have h := fmod_lt n x.length (by omega)
        exact ⟨(n.fmod (x.length : Int)).toNat, by omega, by omega⟩
      rw [hcut]
      refine w_store_C rfl (fun _ => .there .here) hoc fun oc' hoc2 => ?_
      have hdl2 : due.length < 1000000 := by omega
      refine w_execs_cons <| w_AssignComp (cl := [("cut", L + 1)]) (lc := [("row", none)]) rfl (by simp) (by decide) (w_name_L (.tail _ (.tail _ (.tail _ (.tail _ (.head _))))) <| w_iter_list (.tail _ (.tail _ (List.mem_append_right _ (.tail _ (.tail _ (.head _)))))) hdo.ol fun i2 o2 ho2 => ?comp) rfl rfl rfl rfl
      refine CompDo.mono (comp_rows hR hdo.ol (.tail _ (.tail _ (List.mem_append_right _ (.tail _ (.tail _ (.head _)))))) G.hh ho2 hdl2 (fun r => decide (r.place ≤ cut)) ?test) ?after
      case test =>
        rintro ⟨q, qo⟩ r g' C E' N' hp ⟨w1, w2, w3, w4, w5, w6, rfl⟩ hg' hs
        have hmq : (q, tupO [.int (r.depth : Int) w1, .str (T r.name) w2, .int (r.fig : Int) w3, .int (r.count : Int) w4, .int (r.line : Int) w5, .int (r.place : Int) w6]) ∈ N' := hs.subset (.tail _ (.tail _ (List.mem_append_right _ (.tail _ (.tail _ (.tail _ hp))))))
        refine w_isTrue_Compare1 <| w_Subscript <| wg_name_L (.head _) (w_Const_int fun t => w_titem (k := 5) hmq (by simp) rfl <| wg_name_C rfl (hs.subset (.tail _ (.head _))) hoc2 (w_le <| w_truthy_bool ⟨?_, rfl, rfl⟩) rfl rfl) rfl rfl rfl
        simp
      case after =>
        rintro acc N' ⟨oa, R', hoa, hR', hsub, hs'⟩
        refine ⟨_, .there (.there (.there (.there (.there (.there .here))))), w_sub hs' ?_⟩
        have ex : Txt.slice (T x) ((none : Option (Int × Tok)).map (·.1)) ((some ((cut : Int), tc)).map (·.1)) = T (x.take cut) := slice_upto x cut (by omega)
        have ey : Txt.slice (T y) ((none : Option (Int × Tok)).map (·.1)) ((some ((cut : Int), tc)).map (·.1)) = T (y.take cut) := slice_upto y cut (by omega)
        refine w_execs_cons <| w_If <| w_isTrue_Compare1 <| w_Call <| w_name_K G.toGnd (by k_is) <| w_callWith_f <| w_args_cons <| w_slice_str <| w_name_L (.tail _ (.tail _ (.head _))) <| w_part_none <| w_part_some <| w_name_C rfl (.tail _ (.tail _ (.head _))) hoc2 ⟨T x, tt, none, some ((cut : Int), tc), rfl, by rw [T_len]; omega, rfl, rfl, fun tk => ?_⟩
        rw [ex]
        refine w_args_nil ⟨⟨_, _, _, _, .inr (G.X 118 _ (by k_is))⟩, w_re (N' := tabs3 e0 e1 e2 ++ ((acc, oa) :: (it, oi) :: (L + 1, oc') :: (d6, listO vs2) :: (d5, listO vs6) :: (da, do_) :: R)) [[(acc, oa)], [(it, oi)], [(L + 1, oc')], tabs3 e0 e1 e2, (d6, listO vs2) :: (d5, listO vs6) :: (da, do_) :: R] [0, 1, 2, 3, 4] [3, 0, 1, 2, 4] [] <| w_run (n := 9) G GN htoks (by rw [List.length_take]; omega) (hP cut hcl) (Nat.le_trans (List.length_filter_le ..) (by omega)) ?_⟩
        intro tu tb to R2 lastv f0 f1 f2 tl tp hto hR2 hlast htoks2
        have hlv : lastv = .none := hlast
        subst hlv
        have hcx : (x.take cut).length - (runR ⟨true, [], 1 + (y.take cut).count 10, due.filter fun r => decide (r.place ≤ cut)⟩).length = cut := by
          show (x.take cut).length - 0 = cut
          rw [List.length_take]; omega
        rw [hcx, show runLine ⟨true, [], 1 + (y.take cut).count 10, due.filter fun r => decide (r.place ≤ cut)⟩ = 1 + (y.take cut).count 10 from rfl]
        refine w_Tuple <| w_args_cons <| w_name_L (.tail _ (.tail _ (.tail _ (.tail _ (.tail _ (.tail _ (.head _))))))) <| w_args_cons <| w_Const_none <| w_args_cons <| w_BinOp <| w_Const_int fun t => w_MethodCall <| w_slice_str <| w_name_L (.tail _ (.tail _ (.tail _ (.head _)))) <| w_part_none <| w_part_some <| w_name_C rfl (List.mem_append_right _ (.tail _ (.tail _ (.head _)))) hoc2 ⟨T y, th, none, some ((cut : Int), tc), rfl, by rw [T_len]; omega, rfl, rfl, fun tk => ?_⟩
        rw [ey]
        refine w_str_count <| w_callWith_b <| w_args_cons <| w_Const_T [10] (by decide) fun t => w_args_nil <| w_count fun t => w_add fun t => w_args_cons <| w_name_C rfl (List.mem_append_right _ (.tail _ (.tail _ (.head _)))) hoc2 <| w_args_nil <| w_newTuple fun tv => ?_
        rw [cnt_count, show (1 : Int) + ((y.take cut).count 10 : Int) = ((1 + (y.take cut).count 10 : Nat) : Int) by omega]
        refine w_ne (d := runD (due.filter fun r => decide (r.place ≤ cut)) .none ((1 + (y.take cut).count 10 : Nat) : Int) (cut : Int)) (fun s S => ?_) (fun s S => ?_) (runD_shaped (fun r hr => hdn r (List.mem_filter.mp hr).1) (.inl rfl)) (by have := G.un; omega) <| w_truthy_bool <| w_execs_nil ?_
        · exact reads_run (S.get (.tail _ (List.mem_append_left _ (.head _)))) (S.get (.tail _ (List.mem_append_left _ (.tail _ (List.mem_append_left _ (.head _)))))) hto.ol hR2 (fun p hp => S.get (.tail _ (List.mem_append_left _ (.tail _ (List.mem_append_left _ (.tail _ hp)))))) .none
        · exact reads_run (S.get (.head _)) (S.get (.tail _ (List.mem_append_right _ (.head _)))) hoa hR' (fun p hp => S.get (.tail _ (List.mem_append_right _ (.tail _ (.tail _ (.tail _ (.tail _ (.tail _ (.tail _ (hsub p hp)))))))))) .none
        refine w_sub (N' := (((tb, to) :: R2) ++ tabs3 f0 f1 f2) ++ ((acc, oa) :: (it, oi) :: (L + 1, oc') :: (d6, listO vs2) :: (d5, listO vs6) :: (da, do_) :: R)) (.cons _ (.cons _ (.refl _))) <| w_re (N' := (it, oi) :: (L + 1, oc') :: (tabs3 f0 f1 f2 ++ ((d6, listO vs2) :: (d5, listO vs6) :: (da, do_) :: R))) [(tb, to) :: R2, tabs3 f0 f1 f2, [(acc, oa)], [(it, oi)], [(L + 1, oc')], (d6, listO vs2) :: (d5, listO vs6) :: (da, do_) :: R] [0, 1, 2, 3, 4, 5] [3, 4, 1, 5] [0, 2] ?_
        exact w_execs_nil ⟨_, .refl _, f0, f1, f2, oc', _, _, _, htoks2, hoc2, rfl, rfl⟩
