import PyProof.Rows.All
import Wide.All
import OpenK.AllK
import Wide.FinOn
import Lean
import PySem.Challenge.RW_ji0029_02
open PySem PySem.W PyProof.Rows PySem.Calls
set_option Elab.async false
namespace Mine
set_option maxRecDepth 100000
set_option maxHeartbeats 8000000
open_top hd2 for PySem.Challenge.rw_ji0029_02
end Mine
namespace Mine
set_option maxRecDepth 100000
set_option maxHeartbeats 1000000

/-- the state with another heap and count of tokens -/
noncomputable def up (s : Shared) (h : Heap) (tk : Nat) : Shared := { s with heap := h, toks := tk }

structure NF where
  prev : Value
  next : Value
  key : Value
  val : Value
  cln : Value

noncomputable def nodeEs (P : Params) (t : Nat → Tok) (f : NF) : List DictEntry :=
  [⟨PyData.keyHash P "prev", .str "prev" (t 0), f.prev⟩, ⟨PyData.keyHash P "next_key", .str "next_key" (t 1), f.next⟩,
   ⟨PyData.keyHash P "key", .str "key" (t 2), f.key⟩, ⟨PyData.keyHash P "value", .str "value" (t 3), f.val⟩,
   ⟨PyData.keyHash P "cleanup", .str "cleanup" (t 4), f.cln⟩, ⟨PyData.keyHash P "size", .str "size" (t 5), .none⟩]
noncomputable def cacheEs (P : Params) (t : Nat → Tok) (dd : Addr) (mru lru mx af : Value) : List DictEntry :=
  [⟨PyData.keyHash P "_cache", .str "_cache" (t 0), .ref dd⟩, ⟨PyData.keyHash P "_most_recently_used", .str "_most_recently_used" (t 1), mru⟩,
   ⟨PyData.keyHash P "_least_recently_used", .str "_least_recently_used" (t 2), lru⟩, ⟨PyData.keyHash P "_max_cache", .str "_max_cache" (t 3), mx⟩,
   ⟨PyData.keyHash P "_after_cleanup_count", .str "_after_cleanup_count" (t 4), af⟩]

/-- no mark of the machine's -/
noncomputable def Nb (v : Value) : Prop := PySem.plainIs v .none = true
theorem Nb.handed {v : Value} (h : Nb v) : handedIn v = true := by
  cases v <;> first | rfl | (unfold Nb PySem.plainIs at h; cases h)
theorem Nb.none : Nb .none := rfl
theorem Nb.ref {x : Addr} : Nb (.ref x) := rfl
theorem Nb.int {i : Int} {t : Tok} : Nb (.int i t) := rfl
structure NFok (f : NF) : Prop where
  prev : Nb f.prev
  next : Nb f.next
  key : Nb f.key
  val : Nb f.val
  cln : Nb f.cln

structure Rg where
  x : Addr
  dx : Addr
  t : Nat → Tok

structure LS where
  c : Addr
  dc : Addr
  dd : Addr
  ct : Nat → Tok
  mru : Value
  lru : Value
  mx : Value
  af : Value
  od : Obj
  reg : List Rg
  F : Addr → NF
  ex : List (Addr × Obj)

noncomputable def nodeL (CN : Addr) (P : Params) (F : Addr → NF) : List Rg → List (Addr × Obj)
  | [] => []
  | r :: l => (r.x, instObj CN r.dx) :: (r.dx, dictOf (nodeEs P r.t (F r.x)) 6) :: nodeL CN P F l

noncomputable def ledger (CN CL : Addr) (P : Params) (st : LS) : List (Addr × Obj) :=
  (st.c, instObj CL st.dc) :: (st.dc, dictOf (cacheEs P st.ct st.dd st.mru st.lru st.mx st.af) 5) :: (st.dd, st.od) :: (nodeL CN P st.F st.reg ++ st.ex)

noncomputable def regAddrs : List Rg → List Addr
  | [] => []
  | r :: l => r.x :: r.dx :: regAddrs l
noncomputable def addrs (st : LS) : List Addr := st.c :: st.dc :: st.dd :: (regAddrs st.reg ++ st.ex.map (·.1))

theorem nodeL_addrs (CN : Addr) (P : Params) (F : Addr → NF) : ∀ l, (nodeL CN P F l).map (·.1) = regAddrs l
  | [] => rfl
  | r :: l => by simp [nodeL, regAddrs, nodeL_addrs CN P F l]
theorem ledger_addrs (CN CL : Addr) (P : Params) (st : LS) : (ledger CN CL P st).map (·.1) = addrs st := by
  simp [ledger, addrs, nodeL_addrs]

structure LSok (st : LS) : Prop where
  F : ∀ x, NFok (st.F x)
  mru : Nb st.mru
  lru : Nb st.lru
  mx : Nb st.mx
  af : Nb st.af

noncomputable def setF (F : Addr → NF) (x : Addr) (f : NF) : Addr → NF := fun y => if y = x then f else F y

theorem setF_ok {F : Addr → NF} {x : Addr} {f : NF} (h : ∀ y, NFok (F y)) (hf : NFok f) : ∀ y, NFok (setF F x f y) := fun y => by
  unfold setF; split
  · exact hf
  · exact h y

theorem nodeL_other (CN : Addr) (P : Params) (F : Addr → NF) (x : Addr) (f : NF) : ∀ l : List Rg, x ∉ regAddrs l → nodeL CN P (setF F x f) l = nodeL CN P F l
  | [], _ => rfl
  | r :: l, h => by
    simp only [regAddrs, List.mem_cons, not_or] at h
    have e : setF F x f r.x = F r.x := by unfold setF; rw [if_neg (fun e => h.1 e.symm)]
    simp only [nodeL, e, nodeL_other CN P F x f l h.2.2]

theorem mem_regAddrs {r : Rg} : ∀ {l : List Rg}, r ∈ l → r.x ∈ regAddrs l ∧ r.dx ∈ regAddrs l
  | q :: l, hm => by
    rcases List.mem_cons.mp hm with rfl | hm
    · simp [regAddrs]
    · have := mem_regAddrs hm; simp only [regAddrs, List.mem_cons, this, or_true, and_self]

theorem upd_node {CN : Addr} {P : Params} {F : Addr → NF} {f : NF} {r : Rg} : ∀ {l : List Rg}, r ∈ l → (regAddrs l).Nodup →
    Upd r.dx (dictOf (nodeEs P r.t (F r.x)) 6) (dictOf (nodeEs P r.t f) 6) (nodeL CN P F l) (nodeL CN P (setF F r.x f) l)
  | q :: l, hm, hn => by
    simp only [regAddrs, List.nodup_cons, List.mem_cons, not_or] at hn
    rcases List.mem_cons.mp hm with rfl | hm
    · have e : setF F r.x f r.x = f := by unfold setF; rw [if_pos rfl]
      simp only [nodeL, e, nodeL_other CN P F r.x f l hn.1.2]
      refine Upd.tail hn.1.1 (Upd.head ?_)
      intro p hp e
      exact hn.2.1 (by rw [← nodeL_addrs CN P F, ← e]; exact List.mem_map_of_mem hp)
    · have hx := mem_regAddrs hm
      have e : setF F r.x f q.x = F q.x := by unfold setF; rw [if_neg (fun e : q.x = r.x => hn.1.2 (e ▸ hx.1))]
      simp only [nodeL, e]
      exact Upd.tail (fun e : q.x = r.dx => hn.1.2 (e ▸ hx.2)) (Upd.tail (fun e : q.dx = r.dx => hn.2.1 (e ▸ hx.2)) (upd_node hm hn.2.2))

theorem upd_app {d : Addr} {o o' : Obj} {l l' : List (Addr × Obj)} (u : Upd d o o' l l') : ∀ {e : List (Addr × Obj)}, (∀ p ∈ e, p.1 ≠ d) → Upd d o o' (l ++ e) (l' ++ e) := by
  induction u with
  | head h => intro e he; exact Upd.head fun p hp => (List.mem_append.mp hp).elim (h p) (he p)
  | tail h _ ih => intro e he; exact Upd.tail h (ih he)

theorem mem_nodeL {CN : Addr} {P : Params} {F : Addr → NF} {r : Rg} : ∀ {l : List Rg}, r ∈ l → (r.x, instObj CN r.dx) ∈ nodeL CN P F l ∧ (r.dx, dictOf (nodeEs P r.t (F r.x)) 6) ∈ nodeL CN P F l
  | q :: l, hm => by
    rcases List.mem_cons.mp hm with rfl | hm
    · simp [nodeL]
    · have := mem_nodeL (CN := CN) (P := P) (F := F) hm
      simp only [nodeL, List.mem_cons, this, or_true, and_self]

/-- what a plain class of the text is -/
structure PlainCls (K : Frag) (C : Addr) : Prop where
  sa : findIn K (.ref C) "__setattr__" = some (some (.builtin "object.__setattr__"))
  po : plainOver K C = true
  hd : hasDictIn K C = true
  ga : findIn K (.ref C) "__getattribute__" = some (some (.builtin "object.__getattribute__"))
  gt : findIn K (.ref C) "__getattr__" = some none

structure Attr (K : Frag) (C : Addr) (name : Str) : Prop where
  no : findIn K (.ref C) name = some none
theorem Attr.taker {K : Frag} {C : Addr} {name : Str} (a : Attr K C name) : takerIn K C name = some none := by
  unfold takerIn; rw [a.no]; rfl

section
variable {K : Frag} {CN CL : Addr} {w : World} {g h : Heap} {L : Addr} {m : Str → Option Value} {st : LS}

structure St (CN CL : Addr) (w : World) (g : Heap) (L : Addr) (m : Str → Option Value) (st : LS) (h : Heap) : Prop where
  F : Fr g L h m
  N : News g L h (ledger CN CL w.params st)
  wf : (addrs st).Nodup
  ok : LSok st

theorem St.cinst (S : St CN CL w g L m st h) : W.InstAt h st.c (instObj CL st.dc) CL (some (dictOf (cacheEs w.params st.ct st.dd st.mru st.lru st.mx st.af) 5)) :=
  W.InstAt.of_news S.N (.head _) (.tail _ (.head _))
theorem St.ninst (S : St CN CL w g L m st h) {r : Rg} (hr : r ∈ st.reg) : W.InstAt h r.x (instObj CN r.dx) CN (some (dictOf (nodeEs w.params r.t (st.F r.x)) 6)) :=
  W.InstAt.of_news S.N (.tail _ (.tail _ (.tail _ (List.mem_append_left _ (mem_nodeL hr).1)))) (.tail _ (.tail _ (.tail _ (List.mem_append_left _ (mem_nodeL hr).2))))
end

section
variable {prog : Program} {K : Frag} {CN CL : Addr} {w : World} {g : Heap} {L : Addr} {m : Str → Option Value} {st : LS} {A : Around} {E : Value → Shared → Prop} {s : Shared} {r : Rg} {v : Value}

theorem get_node {expr : Bool} {name : Str} {Q : Value → Shared → Prop} (S : St CN CL w g L m st s.heap) (X : K.In g) (pc : PlainCls K CN) (at_ : Attr K CN name) (hr : r ∈ st.reg)
    (hl : getL name (nodeEs w.params r.t (st.F r.x)) = some (some v)) (hv : handedIn v = true) (h : Q v { s with toks := s.toks + 1 }) : wpAny (model prog w) A (getAttr (.ref r.x) name expr) Q E s :=
  get_value (X.keeps S.F.keep) (S.ninst hr) pc.ga (findObj_own pc.hd at_.no rfl hl) hv h
theorem get_cache {expr : Bool} {name : Str} {Q : Value → Shared → Prop} (S : St CN CL w g L m st s.heap) (X : K.In g) (pc : PlainCls K CL) (at_ : Attr K CL name)
    (hl : getL name (cacheEs w.params st.ct st.dd st.mru st.lru st.mx st.af) = some (some v)) (hv : handedIn v = true) (h : Q v { s with toks := s.toks + 1 }) : wpAny (model prog w) A (getAttr (.ref st.c) name expr) Q E s :=
  get_value (X.keeps S.F.keep) S.cinst pc.ga (findObj_own pc.hd at_.no rfl hl) hv h

theorem set_node {name : Str} {f : NF} {Q : Unit → Shared → Prop} (S : St CN CL w g L m st s.heap) (X : K.In g) (pc : PlainCls K CN) (at_ : Attr K CN name) (hr : r ∈ st.reg) (hok : NFok f)
    (hl : getL name (nodeEs w.params r.t (st.F r.x)) = some (some v))
    {v' : Value} (e : ∀ hsh key, (putL name hsh key v' (nodeEs w.params r.t (st.F r.x)), putN name (nodeEs w.params r.t (st.F r.x)) 6) = (nodeEs w.params r.t f, 6))
    (h : ∀ h' tk, St CN CL w g L m { st with F := setF st.F r.x f } h' → Q () { s with heap := h', toks := tk }) : wpAny (model prog w) A (setAttr (.ref r.x) name v') Q E s := by
  have wf := S.wf
  simp only [addrs, List.nodup_cons, List.mem_cons, not_or, List.mem_append, List.nodup_append] at wf
  have hd := (mem_regAddrs hr).2
  have U : Upd r.dx (dictOf (nodeEs w.params r.t (st.F r.x)) 6) (dictOf (nodeEs w.params r.t f) 6) (ledger CN CL w.params st) (ledger CN CL w.params { st with F := setF st.F r.x f }) := by
    refine Upd.tail ?_ (Upd.tail ?_ (Upd.tail ?_ (upd_app (upd_node hr wf.2.2.2.1) fun q hq e => wf.2.2.2.2.2 r.dx hd q.1 (List.mem_map_of_mem hq) e.symm)))
    · exact fun e : st.c = r.dx => wf.1.2.2.1 (e ▸ hd)
    · exact fun e : st.dc = r.dx => wf.2.1.2.1 (e ▸ hd)
    · exact fun e : st.dd = r.dx => wf.2.2.1.1 (e ▸ hd)
  exact set_dict S.F X S.N (S.ninst hr) rfl pc.sa pc.po at_.taker pc.hd (by rw [hl]; rfl) (e _ _) U (by show 6 ≤ 1000; decide) fun h' F' N' => h h' _ ⟨F', N', S.wf, ⟨setF_ok S.ok.F hok, S.ok.mru, S.ok.lru, S.ok.mx, S.ok.af⟩⟩

theorem set_cache {name : Str} {st' : LS} {Q : Unit → Shared → Prop} (S : St CN CL w g L m st s.heap) (X : K.In g) (pc : PlainCls K CL) (at_ : Attr K CL name)
    (hl : getL name (cacheEs w.params st.ct st.dd st.mru st.lru st.mx st.af) = some (some v))
    {v' : Value} (e : ∀ hsh key, (putL name hsh key v' (cacheEs w.params st.ct st.dd st.mru st.lru st.mx st.af), putN name (cacheEs w.params st.ct st.dd st.mru st.lru st.mx st.af) 5) = (cacheEs w.params st.ct st'.dd st'.mru st'.lru st'.mx st'.af, 5))
    (es : st' = { st with mru := st'.mru, lru := st'.lru, mx := st'.mx, af := st'.af }) (hok : LSok st')
    (h : ∀ h' tk, St CN CL w g L m st' h' → Q () { s with heap := h', toks := tk }) : wpAny (model prog w) A (setAttr (.ref st.c) name v') Q E s := by
  have wf := S.wf
  simp only [addrs, List.nodup_cons, List.mem_cons, not_or] at wf
  obtain ⟨c, dc, dd, ct, mru, lru, mx, af, od, reg, F, ex⟩ := st'
  simp only [LS.mk.injEq] at es
  obtain ⟨rfl, rfl, rfl, rfl, -, -, -, -, rfl, rfl, rfl, rfl⟩ := es
  have U : Upd st.dc (dictOf (cacheEs w.params st.ct st.dd st.mru st.lru st.mx st.af) 5) (dictOf (cacheEs w.params st.ct st.dd mru lru mx af) 5) (ledger CN CL w.params st)
      (ledger CN CL w.params ⟨st.c, st.dc, st.dd, st.ct, mru, lru, mx, af, st.od, st.reg, st.F, st.ex⟩) := by
    refine Upd.tail (fun e => wf.1.1 e) (Upd.head ?_)
    intro p hp e
    have : p.1 ∈ st.dd :: (regAddrs st.reg ++ st.ex.map (·.1)) := by
      rcases List.mem_cons.mp hp with rfl | hp
      · exact .head _
      · refine .tail _ (List.mem_append.mpr ((List.mem_append.mp hp).imp (fun hp => ?_) fun hp => List.mem_map_of_mem hp))
        rw [← nodeL_addrs CN w.params st.F]; exact List.mem_map_of_mem hp
    rcases List.mem_cons.mp this with q | q
    · exact wf.2.1.1 (e ▸ q)
    · exact wf.2.1.2 (e ▸ q)
  exact set_dict S.F X S.N S.cinst rfl pc.sa pc.po at_.taker pc.hd (by rw [hl]; rfl) (e _ _) U (by show 5 ≤ 1000; decide) fun h' F' N' => h h' _ ⟨F', N', S.wf, hok⟩

theorem store_ {name : Str} {scope : Scope} {a : Addr} {cd : Value} {x : Str} {Q : Unit → Shared → Prop} (S : St CN CL w g L m st s.heap)
    (h : ∀ h' tk, St CN CL w g L (fun y => if y = x then some v else m y) st h' → Q () { s with heap := h', toks := tk })
    (hk : scope.kind = .function := by rfl) (hl : (envOf name scope L a cd).kindOf x = some .local := by rfl) :
    wpAny (model prog w) A (storeName (envOf name scope L a cd) x v) Q E s :=
  wpAny_storeName_local hl S.F.ns (fun h' hn hs => h h' _ ⟨S.F.set hn hs, S.N.set hs, S.wf, S.ok⟩) (by show (scope.kind == .class || (scope.kind == .module && L != mainGlobals)) = false; rw [hk]; rfl)
end

section
variable {prog : Program} {K : Frag} {CN CL : Addr} {w : World} {h₀ g h h' : Heap} {L : Addr} {m : Str → Option Value} {st st' : LS} {A : Around} {E : Value → Shared → Prop} {s : Shared} {tk₀ : Nat} {r : Rg} {v : Value}
  {p : Program} {loose : List Str} {mg mb : Str → Option Value}

structure Rep (CN CL : Addr) (w : World) (st : LS) (h : Heap) : Prop where
  at_ : ∀ p ∈ ledger CN CL w.params st, h.get? p.1 = some p.2
  wf : (addrs st).Nodup
  ok : LSok st

/-- the text's part, apart from the ledger, in a heap -/
structure Base (K : Frag) (p : Program) (loose : List Str) (mg mb : Str → Option Value) (h₀ : Heap) (st : LS) (h : Heap) : Prop where
  X : K.In h₀
  T : TopRead p loose mg mb h₀
  stays : ∀ b o, h₀.get? b = some o → h.get? b = some o
  off : ∀ a ∈ addrs st, h₀.get? a = none

/-- what a call of a method leaves -/
structure Ctr (CN CL : Addr) (w : World) (st st' : LS) (h h' : Heap) : Prop where
  rep : Rep CN CL w st' h'
  keeps : ∀ b o, b ∉ addrs st → h.get? b = some o → h'.get? b = some o
  fresh : ∀ a ∈ addrs st', a ∈ addrs st ∨ h.get? a = none

theorem St.rep (S : St CN CL w g L m st h) : Rep CN CL w st h := ⟨fun p hp => (S.N p hp).1, S.wf, S.ok⟩
theorem St.off (S : St CN CL w g L m st h) : ∀ a ∈ addrs st, a ≠ L ∧ g.get? a = none := fun a ha => by
  rw [← ledger_addrs CN CL w.params] at ha
  obtain ⟨p, hp, rfl⟩ := List.mem_map.mp ha
  exact (S.N p hp).2
theorem St.base (S : St CN CL w g L m st h) (X : K.In g) (T : TopRead p loose mg mb g) : Base K p loose mg mb g st h :=
  ⟨X, T, S.F.keep, fun a ha => (S.off a ha).2⟩
theorem St.after (S : St CN CL w g L m st h) (C : Ctr CN CL w st st' h h') : St CN CL w g L m st' h' := by
  have fr : ∀ a ∈ addrs st', a ≠ L ∧ g.get? a = none := fun a ha => by
    rcases C.fresh a ha with q | q
    · exact S.off a q
    · obtain ⟨o, es, ep, ho, r⟩ := S.F.ns
      refine ⟨fun e => (by rw [e, ho] at q; cases q), ?_⟩
      cases z : g.get? a with
      | none => rfl
      | some o => rw [S.F.keep a o z] at q; cases q
  refine ⟨⟨?_, fun b o e => C.keeps b o (fun q => (by rw [(S.off b q).2] at e; cases e)) (S.F.keep b o e), S.F.above⟩, fun p hp => ⟨C.rep.at_ p hp, fr p.1 ?_⟩, C.rep.wf, C.rep.ok⟩
  · obtain ⟨o, es, ep, ho, r⟩ := S.F.ns
    exact ⟨o, es, ep, C.keeps L o (fun q => (S.off L q).1 rfl) ho, r⟩
  · rw [← ledger_addrs CN CL w.params]; exact List.mem_map_of_mem hp
theorem St.back (S : St CN CL w g L m st' h') (k : ∀ b o, b ∉ addrs st → h.get? b = some o → g.get? b = some o) (fr : ∀ a ∈ addrs st', a ∈ addrs st ∨ h.get? a = none) : Ctr CN CL w st st' h h' :=
  ⟨S.rep, fun b o n e => S.F.keep b o (k b o n e), fr⟩
theorem Ctr.refl (R : Rep CN CL w st h) : Ctr CN CL w st st h h := ⟨R, fun _ _ _ e => e, fun _ ha => .inl ha⟩

theorem enterE {name qual : Str} {params : Arguments} {body : List Stmt} {scope : Scope} {dV kV doc pm cdv ct oc : Value} {an od : Option Addr} {osl : Array (Option Value)} {f : Addr} {pos : List Value} {kw : List (Str × Value)} {binds : List (Str × Value)} {Q : Value → Shared → Prop}
    (B : Base K p loose mg mb h₀ st h) (R : Rep CN CL w st h)
    (ho : K.lookup f = some ⟨oc, od, .func (fnOf name qual params body scope dV kV doc pm an cdv ct), osl⟩) (hcd : codeIn K cdv qual = true) (hroom : A.depth < recursionLimit)
    (hbind : BindsTo (up s h tk₀) (fnOf name qual params body scope dV kV doc pm an cdv ct) ⟨pos, kw⟩ binds) (hloc : ∀ y ∈ binds, scope.names.lookup y.1 = some .local)
    (hco : scope.isCoroutine = false) (hgen : scope.isGenerator = false) (hk : scope.kind = .function) (hcell : ∀ x ∈ scope.names, x.2 ≠ .cell)
    (q : ∀ g L' h₁ tk, (∀ b o, b ∉ addrs st → h.get? b = some o → g.get? b = some o) → (∀ b o, g.get? b = some o → h.get? b = some o) → K.In g → TopRead p loose mg mb g → St CN CL w g L' (fun y => binds.reverse.lookup y) st h₁ →
      wpAny (model prog w) (A.deeper (envOf qual scope L' f cdv)) (execs body (envOf qual scope L' f cdv))
        (fun fl s' => Q (match fl with | .ret v => v | _ => .none) s')
        (fun e s' => wpAny (model prog w) (A.deeper (envOf qual scope L' f cdv)) (leaving (envOf qual scope L' f cdv) e) (fun _ s'' => E e s'') (fun e' s'' => E e' s'') s')
        (up s h₁ tk))
 : wpAny (model prog w) A (call (.ref f) pos kw) Q E (up s h tk₀) := by
  have k0 : ∀ b o, b ∉ addrs st → h.get? b = some o → (hideAll h (addrs st)).get? b = some o := fun b o n e => hideAll_get _ e n
  have st0 : ∀ b o, h₀.get? b = some o → (hideAll h (addrs st)).get? b = some o := fun b o e => k0 b o (fun q => (by rw [B.off b q] at e; cases e)) (B.stays b o e)
  refine wpAny_call ?_
  refine codeAny_call_def (fd := fnOf name qual params body scope dV kV doc pm an cdv ct) (body := body) (binds := binds) hroom (B.stays _ _ (B.X _ _ ho)) rfl (B.T.nolimit.keeps B.stays) (codeRec_of (B.X.keeps B.stays) hcd) rfl hbind hcell hloc (fun h₁ hns hk₁ => ?_) hco hgen hk
  refine q (hideAll h (addrs st)) h.objs.size h₁ _ k0 (fun b o e => of_hideAll _ e) (B.X.keeps st0) (B.T.keeps st0) ⟨⟨hns, fun b o e => hk₁ b o (of_hideAll _ e), Nat.le_of_eq (hideAll_size _ _)⟩, fun p hp => ?_, R.wf, R.ok⟩
  exact ⟨hk₁ _ _ (R.at_ p hp), Nat.ne_of_lt (Heap.lt_size (R.at_ p hp)), hideAll_none _ (by rw [← ledger_addrs CN CL w.params]; exact List.mem_map_of_mem hp)⟩

theorem enter {name qual : Str} {params : Arguments} {body : List Stmt} {scope : Scope} {dV kV doc pm cdv ct oc : Value} {an od : Option Addr} {osl : Array (Option Value)} {f : Addr} {pos : List Value} {kw : List (Str × Value)} {binds : List (Str × Value)} {Q : Value → Shared → Prop}
    (B : Base K p loose mg mb h₀ st h) (R : Rep CN CL w st h)
    (ho : K.lookup f = some ⟨oc, od, .func (fnOf name qual params body scope dV kV doc pm an cdv ct), osl⟩) (hcd : codeIn K cdv qual = true) (hroom : A.depth < recursionLimit)
    (hbind : BindsTo (up s h tk₀) (fnOf name qual params body scope dV kV doc pm an cdv ct) ⟨pos, kw⟩ binds) (hloc : ∀ y ∈ binds, scope.names.lookup y.1 = some .local)
    (hco : scope.isCoroutine = false) (hgen : scope.isGenerator = false) (hk : scope.kind = .function) (hcell : ∀ x ∈ scope.names, x.2 ≠ .cell)
    (q : ∀ g L' h₁ tk, (∀ b o, b ∉ addrs st → h.get? b = some o → g.get? b = some o) → (∀ b o, g.get? b = some o → h.get? b = some o) → K.In g → TopRead p loose mg mb g → St CN CL w g L' (fun y => binds.reverse.lookup y) st h₁ →
      wpAny (model prog w) (A.deeper (envOf qual scope L' f cdv)) (execs body (envOf qual scope L' f cdv))
        (fun fl s' => Q (match fl with | .ret v => v | _ => .none) s') (fun _ _ => False) (up s h₁ tk))
 : wpAny (model prog w) A (call (.ref f) pos kw) Q E (up s h tk₀) :=
  enterE B R ho hcd hroom hbind hloc hco hgen hk hcell (fun g L' h₁ tk k k' X T S => wpAny_mono (q g L' h₁ tk k k' X T S) (fun _ _ x => x) fun _ _ x => x.elim)
end

section
variable {prog : Program} {K : Frag} {CN CL C : Addr} {w : World} {g : Heap} {L : Addr} {m : Str → Option Value} {st : LS} {A : Around} {E : Value → Shared → Prop} {s : Shared} {r : Rg} {v : Value} {env : Env}

/-- a call of a method on an object held under a name or got by an expression -/
theorem meth {o : Expr} {name : Str} {apos pos : Pos} {e : Expr} {rest : List Expr} {f x : Addr} {es : List DictEntry} {n : Nat} {ox : Obj} {Q : Value → Shared → Prop} {pl : Sem Bool}
    (h : wpAny (model prog w) A (eval o env) (fun ov s₁ => ov = .ref x ∧ K.In s₁.heap ∧ W.InstAt s₁.heap x ox C (some (dictOf es n)) ∧
      wpAny (model prog w) A (spliced (backTo pos (starEach (e :: rest) env))) (fun vs s₂ => K.In s₂.heap ∧ wpAny (model prog w) A (call (.ref f) (.ref x :: vs)) Q E s₂) E s₁) E s)
    (pc : PlainCls K C) (hf : findIn K (.ref C) name = some (some (.ref f))) (ht : typeIn K (.ref f) = some (.type "function")) (hkeep : keepIn K (.ref f) = true) (hl : getL name es = some none)
    (he : starEach (e :: rest) env = (false, eval e env) :: starEach rest env := by rfl) (hplain : (backTo pos (starEach rest env)).any (·.1) = false := by rfl)
    (hsh : (eval ((o.Attribute name apos).Call (e :: rest) [] pos) env = do
          let ov ← eval o env
          standAt apos.atName
          let __x ← holding [ov] (getMethod ov name pl)
          match __x with
            | (f, first) => callWith pos f first (backTo pos (starEach (e :: rest) env)) []) := by rfl) :
    wpAny (model prog w) A (eval ((o.Attribute name apos).Call (e :: rest) [] pos) env) Q E s :=
  MethodCall_ (wpAny_mono h (fun ov s₁ ⟨e1, X, I, h₁⟩ => by
    subst e1
    exact method_fn X I pc.ga pc.gt hf ht (by show (lookIn name (dictOf es n)).map _ = _; rw [lookIn_dict, hl]; rfl) (callWith_K X hkeep h₁ he hplain)) fun _ _ z => z) hsh
theorem meth0 {o : Expr} {name : Str} {apos pos : Pos} {f x : Addr} {es : List DictEntry} {n : Nat} {ox : Obj} {Q : Value → Shared → Prop} {pl : Sem Bool}
    (h : wpAny (model prog w) A (eval o env) (fun ov s₁ => ov = .ref x ∧ K.In s₁.heap ∧ W.InstAt s₁.heap x ox C (some (dictOf es n)) ∧ wpAny (model prog w) A (call (.ref f) [.ref x]) Q E s₁) E s)
    (pc : PlainCls K C) (hf : findIn K (.ref C) name = some (some (.ref f))) (ht : typeIn K (.ref f) = some (.type "function")) (hkeep : keepIn K (.ref f) = true) (hl : getL name es = some none)
    (hsh : (eval ((o.Attribute name apos).Call [] [] pos) env = do
          let ov ← eval o env
          standAt apos.atName
          let __x ← holding [ov] (getMethod ov name pl)
          match __x with
            | (f, first) => callWith pos f first (backTo pos (starEach [] env)) []) := by rfl) :
    wpAny (model prog w) A (eval ((o.Attribute name apos).Call [] [] pos) env) Q E s :=
  MethodCall_ (wpAny_mono h (fun ov s₁ ⟨e1, X, I, h₁⟩ => by
    subst e1
    exact method_fn X I pc.ga pc.gt hf ht (by show (lookIn name (dictOf es n)).map _ = _; rw [lookIn_dict, hl]; rfl) (callWith_K0 X hkeep h₁)) fun _ _ z => z) hsh
end
end Mine
namespace Mine
set_option maxRecDepth 100000
set_option maxHeartbeats 1000000

section
variable {Ky : Type} [DecidableEq Ky]

inductive EOk (isK : Ky → Value → Prop) (hash : Ky → Int) : List DictEntry → List (Ky × Value) → Prop
  | nil : EOk isK hash [] []
  | cons {e kv es kvs} : isK kv.1 e.key → e.hash = hash kv.1 → e.val = kv.2 → EOk isK hash es kvs → EOk isK hash (e :: es) (kv :: kvs)

theorem EOk.length {isK : Ky → Value → Prop} {hash : Ky → Int} {es : List DictEntry} {kvs : List (Ky × Value)} (h : EOk isK hash es kvs) : es.length = kvs.length := by
  induction h with
  | nil => rfl
  | cons _ _ _ _ ih => simp [ih]

theorem EOk.get {isK : Ky → Value → Prop} {hash : Ky → Int} {es : List DictEntry} {kvs : List (Ky × Value)} (h : EOk isK hash es kvs) :
    ∀ {i : Nat} {kv : Ky × Value}, kvs[i]? = some kv → ∃ e, es[i]? = some e ∧ isK kv.1 e.key ∧ e.hash = hash kv.1 ∧ e.val = kv.2 := by
  induction h with
  | nil => intro i kv h; simp at h
  | cons h1 h2 h3 _ ih =>
    intro i kv h
    cases i with
    | zero => simp only [List.getElem?_cons_zero, Option.some.injEq] at h ⊢; subst h; exact ⟨_, rfl, h1, h2, h3⟩
    | succ j => simp only [List.getElem?_cons_succ] at h ⊢; exact ih h

theorem EOk.append {isK : Ky → Value → Prop} {hash : Ky → Int} {es : List DictEntry} {kvs : List (Ky × Value)} (h : EOk isK hash es kvs) {k : Ky} {key v : Value} (hk : isK k key) :
    EOk isK hash (es ++ [⟨hash k, key, v⟩]) (kvs ++ [(k, v)]) := by
  induction h with
  | nil => exact .cons hk rfl rfl .nil
  | cons h1 h2 h3 _ ih => exact .cons h1 h2 h3 ih

theorem findIdx_none {kvs : List (Ky × Value)} {k : Ky} (h : (kvs.findIdx? fun kv => decide (kv.1 = k)) = none) : k ∉ kvs.map (·.1) := by
  intro hm
  obtain ⟨kv, hkv, rfl⟩ := List.mem_map.mp hm
  have := List.findIdx?_eq_none_iff.mp h kv hkv
  simp at this
theorem valueAt_cons (kv : Ky × Value) (kvs : List (Ky × Value)) (k : Ky) : valueAt (kv :: kvs) k = if kv.1 = k then some kv.2 else valueAt kvs k := by
  unfold valueAt
  rw [List.find?_cons]
  by_cases h : kv.1 = k <;> simp [h]
theorem valueAt_none {kvs : List (Ky × Value)} {k : Ky} (h : k ∉ kvs.map (·.1)) : valueAt kvs k = none := by
  induction kvs with
  | nil => rfl
  | cons kv kvs ih =>
    simp only [List.map_cons, List.mem_cons, not_or] at h
    rw [valueAt_cons, if_neg (fun e => h.1 e.symm), ih h.2]
theorem findIdx_some {kvs : List (Ky × Value)} {k : Ky} : ∀ {i : Nat}, (kvs.findIdx? fun kv => decide (kv.1 = k)) = some i → ∃ v, kvs[i]? = some (k, v) ∧ valueAt kvs k = some v := by
  induction kvs with
  | nil => intro i h; simp at h
  | cons kv kvs ih =>
    intro i h
    rw [List.findIdx?_cons] at h
    by_cases hk : kv.1 = k
    · simp only [hk, decide_true, if_true, Option.some.injEq] at h
      subst h; subst hk
      exact ⟨kv.2, rfl, by rw [valueAt_cons, if_pos rfl]⟩
    · simp only [hk, decide_false, Bool.false_eq_true, if_false, Option.map_eq_some_iff] at h
      obtain ⟨j, hj, rfl⟩ := h
      obtain ⟨v, h1, h2⟩ := ih hj
      exact ⟨v, h1, by rw [valueAt_cons, if_neg hk, h2]⟩

theorem EOk.modify {isK : Ky → Value → Prop} {hash : Ky → Int} {es : List DictEntry} {kvs : List (Ky × Value)} (h : EOk isK hash es kvs) (hn : (kvs.map (·.1)).Nodup) {k : Ky} (v : Value) :
    ∀ {i : Nat}, (kvs.findIdx? fun kv => decide (kv.1 = k)) = some i → EOk isK hash (es.modify i fun e => { e with val := v }) (stored kvs k v) := by
  intro i hi
  have key : ∀ {es : List DictEntry} {kvs : List (Ky × Value)}, EOk isK hash es kvs → (kvs.map (·.1)).Nodup → ∀ {i : Nat}, (kvs.findIdx? fun kv => decide (kv.1 = k)) = some i →
      EOk isK hash (es.modify i fun e => { e with val := v }) (kvs.map fun kv => if kv.1 = k then (kv.1, v) else kv) := by
    intro es kvs h hn
    induction h with
    | nil => intro i hi; simp at hi
    | @cons e kv es kvs h1 h2 h3 h4 ih =>
      intro i hi
      rw [List.map_cons, List.nodup_cons] at hn
      rw [List.findIdx?_cons] at hi
      by_cases hk : kv.1 = k
      · simp only [hk, decide_true, if_true, Option.some.injEq] at hi
        subst hi
        rw [List.map_cons, if_pos hk, map_store_of_not_mem kvs _ v (hk ▸ hn.1)]
        exact .cons h1 h2 rfl h4
      · simp only [hk, decide_false, Bool.false_eq_true, if_false, Option.map_eq_some_iff] at hi
        obtain ⟨j, hj, rfl⟩ := hi
        rw [List.map_cons, if_neg hk]
        exact .cons h1 h2 h3 (ih hn.2 hj)
  have : kvs.any (fun kv => decide (kv.1 = k)) = true := by
    obtain ⟨w, h1, -⟩ := findIdx_some hi
    exact List.any_eq_true.mpr ⟨_, List.mem_of_getElem? h1, by simp⟩
  rw [stored, if_pos this]
  exact key h hn hi

theorem EOk.erase {isK : Ky → Value → Prop} {hash : Ky → Int} {es : List DictEntry} {kvs : List (Ky × Value)} (h : EOk isK hash es kvs) (hn : (kvs.map (·.1)).Nodup) {k : Ky} :
    ∀ {i : Nat}, (kvs.findIdx? fun kv => decide (kv.1 = k)) = some i → EOk isK hash (es.eraseIdx i) (without kvs k) := by
  induction h with
  | nil => intro i hi; simp at hi
  | @cons e kv es kvs h1 h2 h3 h4 ih =>
    intro i hi
    rw [List.map_cons, List.nodup_cons] at hn
    rw [List.findIdx?_cons] at hi
    by_cases hk : kv.1 = k
    · simp only [hk, decide_true, if_true, Option.some.injEq] at hi
      subst hi
      have : without (kv :: kvs) k = kvs := by
        unfold without; rw [List.filter_cons]
        simp only [hk, ne_eq, not_true_eq_false, decide_false, Bool.false_eq_true, if_false]
        exact without_of_not_mem kvs _ (hk ▸ hn.1)
      rw [this]; exact h4
    · simp only [hk, decide_false, Bool.false_eq_true, if_false, Option.map_eq_some_iff] at hi
      obtain ⟨j, hj, rfl⟩ := hi
      have : without (kv :: kvs) k = kv :: without kvs k := by
        unfold without; rw [List.filter_cons]; simp [hk]
      rw [this]
      exact .cons h1 h2 h3 (ih hn.2 hj)

/-- what is known of keys: their values, hashes, and that a look-up finds them -/
structure DT (prog : Program) (w : World) (K : Frag) (Ky : Type) [DecidableEq Ky] where
  isK : Ky → Value → Prop
  hash : Ky → Int
  nb : ∀ {k v}, isK k v → Nb v
  notNone : ∀ {k v}, isK k v → v ≠ .none
  pyHash : ∀ {A : Around} {E : Value → Shared → Prop} {s : Shared} {k : Ky} {v : Value} {Q : Int → Shared → Prop}, K.In s.heap → A.units + 4 < cLine → isK k v → (∀ tk, Q (hash k) { s with toks := tk }) →
    wpAny (model prog w) A (PySem.pyHash v) Q E s
  find : ∀ {A : Around} {E : Value → Shared → Prop} {s : Shared} {d : Addr} {o : Obj} {es : Array DictEntry} {ep : Nat} {kvs : List (Ky × Value)} {k : Ky} {key : Value} {Q : Option Nat → Shared → Prop},
    K.In s.heap → A.units + 4 < cLine → isK k key → s.heap.get? d = some o → o.data = .dict es ep → EOk isK hash es.toList kvs → (kvs.map (·.1)).Nodup →
    Q (kvs.findIdx? fun kv => decide (kv.1 = k)) s → wpAny (model prog w) A (dictFind d key (hash k)) Q E s

noncomputable def OD {prog : Program} {w : World} {K : Frag} (T : DT prog w K Ky) (o : Obj) (kvs : List (Ky × Value)) : Prop :=
  o.ExactDict ∧ ∃ es ep, o.data = .dict es ep ∧ EOk T.isK T.hash es.toList kvs ∧ (kvs.map (·.1)).Nodup

section
variable {prog : Program} {w : World} {K : Frag} {T : DT prog w K Ky} {A : Around} {E : Value → Shared → Prop} {s : Shared} {d : Addr} {o : Obj} {kvs : List (Ky × Value)} {k : Ky} {key v : Value}

theorem OD.typeIs (hd : OD T o kvs) (ho : s.heap.get? d = some o) : s.TypeIs (.ref d) "dict" := ⟨o, ho, hd.1.1⟩
theorem OD.nodup (hd : OD T o kvs) : (kvs.map (·.1)).Nodup := let ⟨_, _, _, _, _, n⟩ := hd; n
theorem OD.new : OD T (dictOf [] 0) [] := ⟨⟨rfl, rfl, rfl⟩, #[], 0, rfl, .nil, List.nodup_nil⟩

theorem OD.get {Q : Option Value → Shared → Prop} (X : K.In s.heap) (hu : A.units + 4 < cLine) (hk : T.isK k key) (ho : s.heap.get? d = some o) (hd : OD T o kvs)
    (h : ∀ tk, Q (valueAt kvs k) { s with toks := tk }) : wpAny (model prog w) A (dictGet d key) Q E s := by
  obtain ⟨_, es, ep, hdat, he, hn⟩ := hd
  unfold dictGet
  refine wpAny_holding (wpAny_bind (T.pyHash X hu hk fun tk => wpAny_bind (T.find (s := { s with toks := tk }) X hu hk ho hdat he hn ?_)))
  cases hi : kvs.findIdx? fun kv => decide (kv.1 = k) with
  | none => exact wpAny_pure (by rw [← valueAt_none (findIdx_none hi)]; exact h tk)
  | some i =>
    obtain ⟨v, h1, h2⟩ := findIdx_some hi
    obtain ⟨e, h3, -, -, h4⟩ := he.get h1
    refine wpAny_bind (wpAny_dictEntries (s := { s with toks := tk }) ho hdat (wpAny_pure ?_))
    rw [← Array.getElem?_toList, h3]
    show Q (some e.val) _
    rw [h4, ← h2]; exact h tk

theorem OD.set {Q : Unit → Shared → Prop} (X : K.In s.heap) (hu : A.units + 4 < cLine) (hk : T.isK k key) (ho : s.heap.get? d = some o) (hd : OD T o kvs) (hz : kvs.length ≤ 100000)
    (h : ∀ h' o' tk, Heap.SameBut d s.heap h' → h'.get? d = some o' → OD T o' (stored kvs k v) → Q () { s with heap := h', toks := tk }) : wpAny (model prog w) A (dictSet d key v) Q E s := by
  obtain ⟨hx, es, ep, hdat, he, hn⟩ := hd
  have hsz : es.size ≤ sizeLine := by rw [← Array.length_toList, he.length, sizeLine_eq]; omega
  unfold dictSet
  refine wpAny_holding (wpAny_bind (T.pyHash X hu hk fun tk => ?_))
  unfold dictSetHashed
  refine wpAny_holding (wpAny_bind (T.find (s := { s with toks := tk }) X hu hk ho hdat he hn ?_))
  cases hi : kvs.findIdx? fun kv => decide (kv.1 = k) with
  | some i =>
    refine wpAny_bind (wpAny_rule (wpAny_bind (wpAny_updateDict (s := { s with toks := tk }) ho hdat (wpAny_point ?_))))
    refine h _ _ tk (Heap.SameBut.update ..) (Heap.get?_update_self _ ho (Obj.isFreed_of_dict (Obj.data_mapDict hdat _))) ⟨hx.mapDict _, _, ep, Obj.data_mapDict hdat _, ?_, ?_⟩
    · have := he.modify hn v hi
      obtain ⟨l⟩ := es
      simpa using this
    · have : kvs.any (fun kv => decide (kv.1 = k)) = true := by
        obtain ⟨w, h1, -⟩ := findIdx_some hi
        exact List.any_eq_true.mpr ⟨_, List.mem_of_getElem? h1, by simp⟩
      rw [stored, if_pos this, keys_map_store]; exact hn
  | none =>
    have hnot := findIdx_none hi
    have hany : ¬ (kvs.any fun kv => decide (kv.1 = k)) = true := by
      rw [List.any_eq_true]; rintro ⟨kv, hkv, he⟩
      exact hnot (List.mem_map.mpr ⟨kv, hkv, of_decide_eq_true he⟩)
    refine wpAny_bind (wpAny_rule (wpAny_updateDictKeys (hz := hsz) (s := { s with toks := tk }) ho hdat ?_))
    refine h _ _ tk (Heap.SameBut.update ..) (Heap.get?_update_self _ ho (Obj.isFreed_of_dict (Obj.data_mapDictKeys hdat _))) ⟨hx.mapDictKeys _, _, ep + 1, Obj.data_mapDictKeys hdat _, ?_, ?_⟩
    · rw [stored, if_neg hany]
      have := he.append hk (v := v)
      obtain ⟨l⟩ := es
      simpa using this
    · rw [stored, if_neg hany, List.map_append, List.nodup_append]
      refine ⟨hn, by simp, ?_⟩
      intro a ha b hb
      simp only [List.map_cons, List.map_nil, List.mem_singleton] at hb
      subst hb
      exact fun e => hnot (e ▸ ha)

theorem OD.take {v : Value} {Q : Option DictEntry → Shared → Prop} (X : K.In s.heap) (hu : A.units + 4 < cLine) (hk : T.isK k key) (ho : s.heap.get? d = some o) (hd : OD T o kvs) (hz : kvs.length ≤ 100000) (hv : valueAt kvs k = some v)
    (h : ∀ h' o' tk e, e.val = v → Heap.SameBut d s.heap h' → h'.get? d = some o' → OD T o' (without kvs k) → Q (some e) { s with heap := h', toks := tk }) : wpAny (model prog w) A (Builtin.Dict.takeOut d key) Q E s := by
  obtain ⟨hx, es, ep, hdat, he, hn⟩ := hd
  have hsz : es.size ≤ sizeLine := by rw [← Array.length_toList, he.length, sizeLine_eq]; omega
  unfold Builtin.Dict.takeOut
  refine wpAny_holding (wpAny_bind (T.pyHash X hu hk fun tk => wpAny_bind (T.find (s := { s with toks := tk }) X hu hk ho hdat he hn ?_)))
  cases hi : kvs.findIdx? fun kv => decide (kv.1 = k) with
  | none => rw [valueAt_none (findIdx_none hi)] at hv; cases hv
  | some i =>
    obtain ⟨v', h1, h2⟩ := findIdx_some hi
    obtain ⟨e, h3, -, -, h4⟩ := he.get h1
    refine wpAny_bind (wpAny_dictEntries (s := { s with toks := tk }) ho hdat ?_)
    rw [← Array.getElem?_toList, h3]
    refine wpAny_bind (wpAny_updateDictKeys (hz := hsz) (s := { s with toks := tk }) ho hdat (wpAny_pure ?_))
    refine h _ _ tk e (by rw [h4]; exact Option.some.inj (h2.symm.trans hv)) (Heap.SameBut.update ..) (Heap.get?_update_self _ ho (Obj.isFreed_of_dict (Obj.data_mapDictKeys hdat _))) ⟨hx.mapDictKeys _, _, ep + 1, Obj.data_mapDictKeys hdat _, ?_, nodup_without hn k⟩
    have := he.erase hn hi
    obtain ⟨l⟩ := es
    simpa using this

theorem OD.getItem {v : Value} {Q : Value → Shared → Prop} (X : K.In s.heap) (hu : A.units + 8 < cLine) (hk : T.isK k key) (ho : s.heap.get? d = some o) (hd : OD T o kvs) (hv : valueAt kvs k = some v)
    (h : ∀ tk, Q v { s with toks := tk }) : wpAny (model prog w) A (getItem (.ref d) key) Q E s := by
  have ht := hd.typeIs ho
  unfold PySem.getItem
  refine wpAny_holding (wpAny_bind (wpAny_sequenceKey ht (by decide) ?_))
  refine wpAny_bind (wpAny_callSpecial?_slot (name := Str.ofString "__getitem__") ht slot_dict_getitem (wpAny_call_entry slot_dict_getitem ht entry_dict_getitem ?_ (args_dict_getitem _ _)))
  show wpAny _ _ (dictGet d key >>= _) _ _ s
  refine wpAny_bind (hd.get X (by simp only [Around.in1_units]; omega) hk ho fun tk => ?_)
  rw [hv]
  exact wpAny_pure ⟨v, rfl, wpAny_pure (h tk)⟩

theorem OD.isIn {Q : Value → Shared → Prop} (X : K.In s.heap) (hu : A.units + 8 < cLine) (hk : T.isK k key) (ho : s.heap.get? d = some o) (hd : OD T o kvs) (hs : (d == sysModules) = false)
    (h : ∀ tk, Q (.bool (valueAt kvs k).isSome) { s with toks := tk }) : wpAny (model prog w) A (compareOp .In key (.ref d)) Q E s := by
  have ht := hd.typeIs ho
  show wpAny _ _ (do return .bool (← contains (.ref d) key)) Q E s
  refine wpAny_bind ?_
  unfold contains
  refine wpAny_holding (wpAny_bind (wpAny_specialOf ht slot_dict_contains.lookup ?_))
  show wpAny _ _ (if (some (Value.builtin "dict.__contains__") == some Value.none) = true then _ else _) _ E s
  rw [if_neg (by rw [beq_builtin_none]; exact Bool.false_ne_true)]
  refine wpAny_bind (wpAny_callSpecialUnlessNone?_slot (name := Str.ofString "__contains__") ht slot_dict_contains (wpAny_call_entry slot_dict_contains ht entry_dict_contains ?_ (args_dict_contains _ _)))
  show wpAny _ _ (dictGet d key >>= _) _ _ s
  refine wpAny_bind (hd.get X (by simp only [Around.in1_units]; omega) hk ho fun tk => ?_)
  cases hf : valueAt kvs k with
  | some v =>
    show wpAny _ _ (ret (.bool true)) _ _ _
    exact wpAny_pure ⟨_, rfl, wpAny_truthy_bool (wpAny_pure (by have := h tk; rw [hf] at this; exact this))⟩
  | none =>
    show wpAny _ _ (Builtin.Dict.pendingKey? d key >>= _) _ _ _
    exact wpAny_bind (wpAny_pendingKey_other hs (wpAny_pure ⟨_, rfl, wpAny_truthy_bool (wpAny_pure (by have := h tk; rw [hf] at this; exact this))⟩))

theorem OD.setItem {Q : Unit → Shared → Prop} (X : K.In s.heap) (hu : A.units + 8 < cLine) (hk : T.isK k key) (ho : s.heap.get? d = some o) (hd : OD T o kvs) (hz : kvs.length ≤ 100000)
    (h : ∀ h' o' tk, Heap.SameBut d s.heap h' → h'.get? d = some o' → OD T o' (stored kvs k v) → Q () { s with heap := h', toks := tk }) : wpAny (model prog w) A (setItem (.ref d) key v) Q E s := by
  have ht := hd.typeIs ho
  unfold PySem.setItem
  refine wpAny_holding (wpAny_bind (wpAny_sequenceKey ht (by decide) ?_))
  refine wpAny_bind (wpAny_callSpecial?_slot (name := Str.ofString "__setitem__") ht slot_dict_setitem (wpAny_call_entry slot_dict_setitem ht entry_dict_setitem ?_ (args_dict_setitem _ _ _)))
  show wpAny _ _ (Builtin.Dict.notOrdered "__setitem__" ⟨[.ref d, key, v], []⟩ >>= _) _ _ s
  refine wpAny_bind (wpAny_notOrdered_dict ht ?_)
  show wpAny _ _ (dictSet d key v >>= _) _ _ s
  exact wpAny_bind (hd.set X (by simp only [Around.in1_units]; omega) hk ho hz fun h' o' tk a b c => wpAny_pure ⟨.none, rfl, wpAny_pure (h h' o' tk a b c)⟩)
end
end
end Mine
namespace Mine
set_option maxRecDepth 100000
set_option maxHeartbeats 1000000

section
variable {Ky : Type} [DecidableEq Ky] {prog : Program} {w : World} {K : Frag} {T : DT prog w K Ky} {A : Around} {E : Value → Shared → Prop} {s : Shared} {d : Addr} {o : Obj} {kvs : List (Ky × Value)} {k : Ky} {key v : Value}

theorem OD.size (hd : OD T o kvs) : ∃ es ep, o.data = .dict es ep ∧ es.size = kvs.length := by
  obtain ⟨_, es, ep, hdat, he, _⟩ := hd
  exact ⟨es, ep, hdat, by rw [← Array.length_toList, he.length]⟩

theorem OD.lenBody {Q' : Value → Shared → Prop} (ho : s.heap.get? d = some o) (hd : OD T o kvs) (hs : (d == sysModules) = false) (hq : Q' (.int kvs.length s.toks) { s with toks := s.toks + 1 }) :
    wpAny (model prog w) A (call (.builtin "dict.__len__") [.ref d]) Q' E s := by
  have ht := hd.typeIs ho
  obtain ⟨es, ep, hdat, hsz⟩ := hd.size
  refine wpAny_call_entry PySem.F.slot_dict_len ht PySem.F.entry_dict_len ?_ (PySem.F.args_dict_len_1 _)
  show wpAny _ _ (dictSize d >>= _) _ _ s
  unfold dictSize
  refine wpAny_bind (wpAny_bind (wpAny_dictEntries ho hdat (wpAny_pure ?_)))
  show wpAny _ _ (Builtin.Dict.pendingCount d >>= _) _ _ s
  refine wpAny_bind (wpAny_pendingCount_other hs ?_)
  rw [hsz]
  exact wpAny_ret_mkInt (by simpa using hq)

theorem OD.len {Q : Value → Shared → Prop} (ho : s.heap.get? d = some o) (hd : OD T o kvs) (hs : (d == sysModules) = false) (hz : kvs.length ≤ 100000)
    (h : ∀ t tk, Q (.int kvs.length t) { s with toks := tk }) : wpAny (model prog w) A (call (.builtin "len") [.ref d]) Q E s :=
  call_len_slot (hd.typeIs ho) PySem.F.slot_dict_len (fun _ hq => hd.lenBody ho hs hq) (by omega) (by omega) (h _ _)

theorem OD.truth {Q : Bool → Shared → Prop} (ho : s.heap.get? d = some o) (hd : OD T o kvs) (hs : (d == sysModules) = false) (hz : kvs.length ≤ 100000)
    (h : ∀ tk, Q (!kvs.isEmpty) { s with toks := tk }) : wpAny (model prog w) A (truthy (.ref d)) Q E s := by
  have ht := hd.typeIs ho
  have hne : ((kvs.length : Int) != 0) = !kvs.isEmpty := by cases kvs <;> simp <;> omega
  have key : wpAny (model prog w) A (runValue (.builtin "len" ⟨[.ref d], []⟩)) (fun r s' => ∃ t, r = .int kvs.length t ∧ Q (!kvs.isEmpty) s') E s := by
    refine wpAny_runValue (codeAny_builtin entry_len ?_)
    rw [Around.under_plainId plain_len _]
    refine wpAny_bind (m := oneArg "len" _) (wpAny_pure ?_)
    refine wpAny_bind (m := callSpecial? (.ref d) (Str.ofString "__len__")) (wpAny_callSpecial?_slot (name := Str.ofString "__len__") ht PySem.F.slot_dict_len (hd.lenBody ho hs ?_))
    show wpAny _ _ _ _ _ { s with toks := s.toks + 1 }
    refine wpAny_bind (wpAny_holding (wpAny_pure (wpAny_bind (wpAny_letGo ?_))))
    show wpAny _ _ (if ((kvs.length : Nat) : Int) < 0 then _ else _) _ _ _
    rw [if_neg (by omega)]
    show wpAny _ _ (if ((kvs.length : Nat) : Int) ≥ 2 ^ 63 then _ else _) _ _ _
    rw [if_neg (by omega)]
    exact wpAny_bind (wpAny_mkInt (wpAny_pure ⟨_, rfl, h _⟩))
  unfold truthy
  first
    | refine wpAny_bind (wpAny_callSpecial?_none (name := Str.ofString "__bool__") ht noBool_dict ?_)
    | refine wpAny_bind (wpAny_pure (wpAny_bind (wpAny_callSpecial?_none (name := Str.ofString "__bool__") ht noBool_dict ?_)))
  first
    | refine wpAny_bind (wpAny_specialOf (name := Str.ofString "__len__") ht PySem.F.slot_dict_len.lookup ?_)
    | refine wpAny_bind (wpAny_pure (wpAny_bind (wpAny_specialOf (name := Str.ofString "__len__") ht PySem.F.slot_dict_len.lookup ?_)))
  first
    | exact wpAny_bind (wpAny_mono key (fun r s' h' => by obtain ⟨t, rfl, hq⟩ := h'; exact wpAny_pure (hne ▸ hq)) fun _ _ e => e)
    | exact wpAny_bind (wpAny_pure (wpAny_bind (wpAny_mono key (fun r s' h' => by obtain ⟨t, rfl, hq⟩ := h'; exact wpAny_pure (hne ▸ hq)) fun _ _ e => e)))

theorem OD.pop {Q : Value → Shared → Prop} (X : K.In s.heap) (hu : A.units + 8 < cLine) (hk : T.isK k key) (ho : s.heap.get? d = some o) (hd : OD T o kvs) (hz : kvs.length ≤ 100000) (hv : valueAt kvs k = some v)
    (h : ∀ h' o' tk, Heap.SameBut d s.heap h' → h'.get? d = some o' → OD T o' (without kvs k) → Q v { s with heap := h', toks := tk }) : wpAny (model prog w) A (call (.builtin "dict.pop") [.ref d, key]) Q E s := by
  have ht := hd.typeIs ho
  refine wpAny_call_entry PySem.F.slot_dict_pop ht PySem.F.entry_dict_pop ?_ (PySem.F.args_dict_pop_2 _ _)
  unfold Builtin.«dict.pop»
  refine wpAny_bind ?_
  unfold Builtin.Dict.keyAndDefault
  refine wpAny_bind (wpAny_notOrdered_dict ht ?_)
  show wpAny _ _ (pure (d, key, none)) _ _ s
  refine wpAny_pure ?_
  have go : wpAny (model prog w) A.in1 (Builtin.Dict.takeOut d key) (fun old s' => ∃ e, old = some e ∧ e.val = v ∧ Q v s') E s :=
    hd.take X (by simp only [Around.in1_units]; omega) hk ho hz hv fun h' o' tk e e1 a b c => ⟨e, rfl, e1, h h' o' tk a b c⟩
  cases hp : (keyPart key).isSome with
  | true =>
    simp only [hp, if_true]
    refine wpAny_bind (wpAny_pure ?_)
    simp only [Bool.false_eq_true, if_false]
    refine wpAny_bind (wpAny_mono go (fun old s' hq => ?_) fun _ _ x => x)
    obtain ⟨e, rfl, rfl, hq⟩ := hq
    simp only [Option.isNone_some, Bool.false_eq_true, if_false]
    exact wpAny_bind (wpAny_letGo (wpAny_pure ⟨_, rfl, hq⟩))
  | false =>
    obtain ⟨es, ep, hdat, hsz⟩ := hd.size
    have hne : es.isEmpty = false := by
      cases hE : es.isEmpty with
      | false => rfl
      | true =>
        have : kvs.length = 0 := by rw [← hsz]; simpa using hE
        rw [List.length_eq_zero_iff.mp this] at hv; cases hv
    simp only [hp, Bool.false_eq_true, if_false]
    refine wpAny_bind (m := dictEntries d) (wpAny_dictEntries ho hdat (wpAny_bind (wpAny_pure ?_)))
    simp only [hne, Bool.false_eq_true, if_false]
    refine wpAny_bind (wpAny_mono go (fun old s' hq => ?_) fun _ _ x => x)
    obtain ⟨e, rfl, rfl, hq⟩ := hq
    simp only [Option.isNone_some, Bool.false_eq_true, if_false]
    exact wpAny_bind (wpAny_letGo (wpAny_pure ⟨_, rfl, hq⟩))

theorem OD.get2 {dflt : Value} {Q : Value → Shared → Prop} (X : K.In s.heap) (hu : A.units + 8 < cLine) (hk : T.isK k key) (ho : s.heap.get? d = some o) (hd : OD T o kvs) (hs : (d == sysModules) = false)
    (h : ∀ tk, Q ((valueAt kvs k).getD dflt) { s with toks := tk }) : wpAny (model prog w) A (call (.builtin "dict.get") [.ref d, key, dflt]) Q E s := by
  have ht := hd.typeIs ho
  refine wpAny_call_entry PySem.F.slot_dict_get ht PySem.F.entry_dict_get ?_ (PySem.F.args_dict_get_3 _ _ _)
  show wpAny _ _ (dictGet d key >>= _) _ _ s
  refine wpAny_bind (hd.get X (by simp only [Around.in1_units]; omega) hk ho fun tk => ?_)
  have h := h tk
  cases hf : valueAt kvs k with
  | some v => rw [hf] at h; exact wpAny_pure ⟨v, rfl, h⟩
  | none =>
    rw [hf] at h
    show wpAny _ _ (Builtin.Dict.missed d key >>= _) _ _ _
    exact wpAny_bind (wpAny_missed_other hs (wpAny_pure ⟨dflt, rfl, h⟩))
theorem OD.get1 {Q : Value → Shared → Prop} (X : K.In s.heap) (hu : A.units + 8 < cLine) (hk : T.isK k key) (ho : s.heap.get? d = some o) (hd : OD T o kvs) (hs : (d == sysModules) = false)
    (h : ∀ tk, Q ((valueAt kvs k).getD .none) { s with toks := tk }) : wpAny (model prog w) A (call (.builtin "dict.get") [.ref d, key]) Q E s := by
  have ht := hd.typeIs ho
  refine wpAny_call_entry PySem.F.slot_dict_get ht PySem.F.entry_dict_get ?_ (PySem.F.args_dict_get_2 _ _)
  show wpAny _ _ (dictGet d key >>= _) _ _ s
  refine wpAny_bind (hd.get X (by simp only [Around.in1_units]; omega) hk ho fun tk => ?_)
  have h := h tk
  cases hf : valueAt kvs k with
  | some v => rw [hf] at h; exact wpAny_pure ⟨v, rfl, h⟩
  | none =>
    rw [hf] at h
    show wpAny _ _ (Builtin.Dict.missed d key >>= _) _ _ _
    exact wpAny_bind (wpAny_missed_other hs (wpAny_pure ⟨.none, rfl, h⟩))

theorem OD.method {name : Str} {id : String} {pl : Sem Bool} {Q : Value × List Value → Shared → Prop} (slot : Slot "dict" name id) (hty : typeOf (.builtin id) = pure (.type "method_descriptor"))
    (ho : s.heap.get? d = some o) (hd : OD T o kvs) (h : Q (.builtin id, [.ref d]) s) : wpAny (model prog w) A (getMethod (.ref d) name pl) Q E s :=
  getMethod_builtin (hd.typeIs ho) PySem.F.plainAttrs_dict slot hty (fun a e => by cases e; exact ⟨o, ho, hd.1.2.1⟩) h

theorem OD.getItemMiss {Q : Value → Shared → Prop} (X : K.In s.heap) (hu : A.units + 8 < cLine) (hk : T.isK k key) (ho : s.heap.get? d = some o) (hd : OD T o kvs) (hv : valueAt kvs k = none) (hs : (d == sysModules) = false) (hh : A.handled = none)
    (h : ∀ h' e tk, Heap.NewExc s.heap h' e "KeyError" → E (Value.ref e) { s with heap := h', toks := tk }) : wpAny (model prog w) A (PySem.getItem (.ref d) key) Q E s := by
  have ht := hd.typeIs ho
  unfold PySem.getItem
  refine wpAny_holding (wpAny_bind (wpAny_sequenceKey ht (by decide) ?_))
  refine wpAny_bind (wpAny_callSpecial?_slot (name := Str.ofString "__getitem__") ht slot_dict_getitem (wpAny_call_entry slot_dict_getitem ht entry_dict_getitem ?_ (args_dict_getitem _ _)))
  show wpAny _ _ (dictGet d key >>= _) _ _ s
  refine wpAny_bind (hd.get X (by simp only [Around.in1_units]; omega) hk ho fun tk => ?_)
  rw [hv]
  show wpAny _ _ (Builtin.Dict.missed d key >>= _) _ _ _
  refine wpAny_bind (wpAny_missed_other hs ?_)
  refine wpAny_bind (wpAny_typeOf (s := { s with toks := tk }) ht ?_)
  show wpAny _ _ (if (Value.type "dict" != Value.type "dict") = true then _ else _) _ _ _
  rw [if_neg (by decide)]
  exact wpAny_bind (wpAny_rule (wpAny_raise_newExc (A := A.in1) plainExc_KeyError hh fun h' e x => h h' e tk x))
end
end Mine
namespace Mine
set_option maxRecDepth 100000
set_option maxHeartbeats 1000000

noncomputable def optV : Option Rg → Value
  | none => .none
  | some r => .ref r.x

/-- what a use does to the nodes -/
noncomputable def fP (F : Addr → NF) (r : Addr) : Option Rg → Addr → NF
  | none => F
  | some p => setF F p.x { F p.x with next := (F r).next }
noncomputable def fQ (F : Addr → NF) (r : Addr) : Option Rg → Addr → NF
  | none => F
  | some q => setF F q.x { F q.x with prev := (F r).prev }
noncomputable def recF (F : Addr → NF) (r m : Addr) (po qo : Option Rg) : Addr → NF :=
  let F3 := fQ (fP F r po) r qo
  let F4 := setF F3 r { F3 r with next := (F3 m).key }
  let F5 := setF F4 m { F4 m with prev := .ref r }
  setF F5 r { F5 r with prev := .none }
noncomputable def recAcc (st : LS) (r mr : Rg) (po qo : Option Rg) : LS :=
  { st with lru := if st.lru = .ref r.x then (st.F r.x).prev else st.lru, F := recF st.F r.x mr.x po qo, mru := .ref r.x }

theorem setF_self {F : Addr → NF} {x : Addr} {f : NF} : setF F x f x = f := by unfold setF; rw [if_pos rfl]
theorem setF_ne {F : Addr → NF} {x y : Addr} {f : NF} (h : y ≠ x) : setF F x f y = F y := by unfold setF; rw [if_neg h]


/-- what a removal does to the nodes -/
noncomputable def rmF (F : Addr → NF) (r : Addr) (po : Option Rg) : Addr → NF :=
  let F1 := setF F r { F r with cln := .none }
  let F2 := setF F1 r { F1 r with val := .none }
  let F3 := fP F2 r po
  let F4 := setF F3 r { F3 r with prev := .none }
  setF F4 r { F4 r with next := .none }

section
variable {Ky : Type}
noncomputable def nk (F : Addr → NF) (n : Value) : List (Ky × Rg) → Value
  | [] => n
  | (_, q) :: _ => (F q.x).key
noncomputable def lastV (p : Value) : List (Ky × Rg) → Value
  | [] => p
  | (_, r) :: l => lastV (.ref r.x) l
/-- a run of the chain: p stands before it, n is the key behind it -/
noncomputable def Seg (F : Addr → NF) : Value → List (Ky × Rg) → Value → Prop
  | _, [], _ => True
  | p, (_, r) :: l, n => (F r.x).prev = p ∧ (F r.x).next = nk F n l ∧ Seg F (.ref r.x) l n

theorem nk_append {F : Addr → NF} {n : Value} {A B : List (Ky × Rg)} : nk F n (A ++ B) = nk F (nk F n B) A := by cases A <;> rfl
theorem Seg.append {F : Addr → NF} {n : Value} {B : List (Ky × Rg)} : ∀ {A : List (Ky × Rg)} {p : Value}, Seg F p (A ++ B) n ↔ Seg F p A (nk F n B) ∧ Seg F (lastV p A) B n
  | [], p => by simp [Seg, lastV]
  | (_, r) :: l, p => by
    simp only [List.cons_append, Seg, lastV, nk_append, Seg.append (A := l), and_assoc]
theorem lastV_append {p : Value} {B : List (Ky × Rg)} : ∀ {A : List (Ky × Rg)} {p : Value}, lastV p (A ++ B) = lastV (lastV p A) B
  | [], _ => rfl
  | (_, r) :: l, _ => by simp only [List.cons_append, lastV]; exact lastV_append (p := .none)
theorem nk_frame {F F' : Addr → NF} {n : Value} {l : List (Ky × Rg)} (h : ∀ y, (F' y).key = (F y).key) : nk F' n l = nk F n l := by
  cases l with
  | nil => rfl
  | cons a l => exact h _
theorem Seg.frame {F F' : Addr → NF} {n : Value} (hk : ∀ y, (F' y).key = (F y).key) : ∀ {l : List (Ky × Rg)} {p : Value}, (∀ a ∈ l, (F' a.2.x).prev = (F a.2.x).prev ∧ (F' a.2.x).next = (F a.2.x).next) → Seg F p l n → Seg F' p l n
  | [], _, _, _ => trivial
  | (_, r) :: l, _, h, s => by
    obtain ⟨a, b, c⟩ := s
    obtain ⟨h1, h2⟩ := h _ (.head _)
    exact ⟨h1.trans a, (h2.trans b).trans (nk_frame hk).symm, c.frame hk fun a ha => h a (.tail _ ha)⟩
theorem Seg.setFirst {F F' : Addr → NF} {n p p' : Value} {a : Ky × Rg} {l : List (Ky × Rg)} (hk : ∀ y, (F' y).key = (F y).key) (h1 : (F' a.2.x).prev = p') (h2 : (F' a.2.x).next = (F a.2.x).next)
    (h : ∀ b ∈ l, (F' b.2.x).prev = (F b.2.x).prev ∧ (F' b.2.x).next = (F b.2.x).next) (s : Seg F p (a :: l) n) : Seg F' p' (a :: l) n := by
  obtain ⟨k, r⟩ := a
  obtain ⟨a, b, c⟩ := s
  exact ⟨h1, (h2.trans b).trans (nk_frame hk).symm, c.frame hk h⟩
theorem Seg.setLast {F F' : Addr → NF} {n n' p : Value} {b : Ky × Rg} {l : List (Ky × Rg)} (hk : ∀ y, (F' y).key = (F y).key) (h1 : (F' b.2.x).next = n') (h2 : (F' b.2.x).prev = (F b.2.x).prev)
    (h : ∀ a ∈ l, (F' a.2.x).prev = (F a.2.x).prev ∧ (F' a.2.x).next = (F a.2.x).next) (s : Seg F p (l ++ [b]) n) : Seg F' p (l ++ [b]) n' := by
  rw [Seg.append] at s ⊢
  refine ⟨?_, ?_⟩
  · have := s.1.frame hk h
    rw [show nk F' n' [b] = nk F n [b] from hk _]; exact this
  · obtain ⟨k, r⟩ := b
    exact ⟨h2.trans s.2.1, h1, trivial⟩

theorem setF_key {F : Addr → NF} {x : Addr} {f : NF} (h : f.key = (F x).key) : ∀ y, (setF F x f y).key = (F y).key := fun y => by
  unfold setF; split
  · rename_i e; rw [e]; exact h
  · rfl
theorem setF_val {F : Addr → NF} {x : Addr} {f : NF} (h : f.val = (F x).val) : ∀ y, (setF F x f y).val = (F y).val := fun y => by
  unfold setF; split
  · rename_i e; rw [e]; exact h
  · rfl
theorem setF_cln {F : Addr → NF} {x : Addr} {f : NF} (h : f.cln = (F x).cln) : ∀ y, (setF F x f y).cln = (F y).cln := fun y => by
  unfold setF; split
  · rename_i e; rw [e]; exact h
  · rfl
theorem fP_key {F : Addr → NF} {r : Addr} {po : Option Rg} : ∀ y, (fP F r po y).key = (F y).key := fun y => by cases po with | none => rfl | some p => exact setF_key (by rfl) y
theorem fP_val {F : Addr → NF} {r : Addr} {po : Option Rg} : ∀ y, (fP F r po y).val = (F y).val := fun y => by cases po with | none => rfl | some p => exact setF_val (by rfl) y
theorem fP_cln {F : Addr → NF} {r : Addr} {po : Option Rg} : ∀ y, (fP F r po y).cln = (F y).cln := fun y => by cases po with | none => rfl | some p => exact setF_cln (by rfl) y
theorem fQ_key {F : Addr → NF} {r : Addr} {po : Option Rg} : ∀ y, (fQ F r po y).key = (F y).key := fun y => by cases po with | none => rfl | some p => exact setF_key (by rfl) y
theorem fQ_val {F : Addr → NF} {r : Addr} {po : Option Rg} : ∀ y, (fQ F r po y).val = (F y).val := fun y => by cases po with | none => rfl | some p => exact setF_val (by rfl) y
theorem fQ_cln {F : Addr → NF} {r : Addr} {po : Option Rg} : ∀ y, (fQ F r po y).cln = (F y).cln := fun y => by cases po with | none => rfl | some p => exact setF_cln (by rfl) y
theorem recF_key {F : Addr → NF} {r m : Addr} {po qo : Option Rg} (y : Addr) : (recF F r m po qo y).key = (F y).key := by
  unfold recF; simp only
  rw [setF_key (by rfl), setF_key (by rfl), setF_key (by rfl), fQ_key, fP_key]
theorem recF_val {F : Addr → NF} {r m : Addr} {po qo : Option Rg} (y : Addr) : (recF F r m po qo y).val = (F y).val := by
  unfold recF; simp only
  rw [setF_val (by rfl), setF_val (by rfl), setF_val (by rfl), fQ_val, fP_val]
theorem recF_cln {F : Addr → NF} {r m : Addr} {po qo : Option Rg} (y : Addr) : (recF F r m po qo y).cln = (F y).cln := by
  unfold recF; simp only
  rw [setF_cln (by rfl), setF_cln (by rfl), setF_cln (by rfl), fQ_cln, fP_cln]

/-- setting one node leaves the links of another -/
theorem links_ne {F : Addr → NF} {x y : Addr} {f : NF} (h : y ≠ x) : (setF F x f y).prev = (F y).prev ∧ (setF F x f y).next = (F y).next := by rw [setF_ne h]; exact ⟨rfl, rfl⟩

/-- a node that is taken out of the chain's middle or end and put in front -/
theorem rec_move {F : Addr → NF} {n : Value} {A B : List (Ky × Rg)} {m p r : Ky × Rg} {po qo : Option Rg} {l A' : List (Ky × Rg)} (hA : A = m :: l) (hA' : A = A' ++ [p]) (hpo : po = some p.2) (hqo : qo = B.head?.map (·.2))
    (nd : ((A ++ r :: B).map (·.2.x)).Nodup) (s : Seg F .none (A ++ r :: B) .none) : Seg (recF F r.2.x m.2.x po qo) .none (r :: (A ++ B)) .none := by
  rw [List.map_append, List.nodup_append] at nd
  obtain ⟨ndA, ndB, dis⟩ := nd
  rw [List.map_cons, List.nodup_cons] at ndB
  rw [Seg.append] at s
  obtain ⟨sA, sr⟩ := s
  obtain ⟨kr, r⟩ := r
  obtain ⟨r1, r2, sB⟩ := sr
  have rA : ∀ a ∈ A, a.2.x ≠ r.x := fun a ha => dis _ (List.mem_map_of_mem (f := fun q : Ky × Rg => q.2.x) ha) _ (.head _)
  have rB : ∀ b ∈ B, b.2.x ≠ r.x := fun b hb e => ndB.1 (by rw [← e]; exact List.mem_map_of_mem (f := fun q : Ky × Rg => q.2.x) hb)
  have AB : ∀ a ∈ A, ∀ b ∈ B, a.2.x ≠ b.2.x := fun a ha b hb => dis _ (List.mem_map_of_mem (f := fun q : Ky × Rg => q.2.x) ha) _ (.tail _ (List.mem_map_of_mem (f := fun q : Ky × Rg => q.2.x) hb))
  have mA : m ∈ A := by rw [hA]; exact .head _
  have pA : p ∈ A := by rw [hA']; exact List.mem_append_right _ (.head _)
  have pA' : ∀ a ∈ A', a.2.x ≠ p.2.x := by
    intro a ha
    rw [hA', List.map_append, List.nodup_append] at ndA
    exact ndA.2.2 _ (List.mem_map_of_mem (f := fun q : Ky × Rg => q.2.x) ha) _ (.head _)
  have ml : ∀ a ∈ l, a.2.x ≠ m.2.x := by
    intro a ha e
    rw [hA, List.map_cons, List.nodup_cons] at ndA
    exact ndA.1 (by rw [← e]; exact List.mem_map_of_mem (f := fun q : Ky × Rg => q.2.x) ha)
  subst hpo hqo
  have k2 : ∀ y, (fP F r.x (some p.2) y).key = (F y).key := fP_key
  -- the one before
  have s2A : Seg (fP F r.x (some p.2)) .none A (nk F .none B) := by
    rw [hA'] at sA ⊢
    refine sA.setLast k2 ?_ ?_ fun a ha => links_ne (pA' a ha)
    · show (setF _ _ _ _).next = _; rw [setF_self]; exact r2
    · show (setF _ _ _ _).prev = _; rw [setF_self]
  have s2B : Seg (fP F r.x (some p.2)) (.ref r.x) B .none := sB.frame k2 fun b hb => links_ne (fun e => AB p pA b hb e.symm)
  have e2r : fP F r.x (some p.2) r.x = F r.x := setF_ne fun e => rA p pA e.symm
  have lastA : lastV .none A = .ref p.2.x := by rw [hA', lastV_append (p := .none)]; rfl
  rw [lastA] at r1
  generalize hF2 : fP F r.x (some p.2) = F2 at *
  -- the one behind
  have k3 : ∀ y, (fQ F2 r.x (B.head?.map (·.2)) y).key = (F2 y).key := fQ_key
  have s3B : Seg (fQ F2 r.x (B.head?.map (·.2))) (.ref p.2.x) B .none := by
    cases B with
    | nil => trivial
    | cons q B' =>
      have nq : ∀ b ∈ B', b.2.x ≠ q.2.x := by
        intro b hb e
        have := ndB.2; rw [List.map_cons, List.nodup_cons] at this
        exact this.1 (by rw [← e]; exact List.mem_map_of_mem (f := fun q : Ky × Rg => q.2.x) hb)
      refine s2B.setFirst k3 ?_ ?_ fun b hb => links_ne (nq b hb)
      · show (setF _ _ _ _).prev = _; rw [setF_self]; show (F2 r.x).prev = _; rw [e2r]; exact r1
      · show (setF _ _ _ _).next = _; rw [setF_self]
  have nB : ∀ a, (∀ b ∈ B, a ≠ b.2.x) → fQ F2 r.x (B.head?.map (·.2)) a = F2 a := by
    intro a ha
    cases B with
    | nil => rfl
    | cons q B' => exact setF_ne (ha q (.head _))
  have s3A : Seg (fQ F2 r.x (B.head?.map (·.2))) .none A (nk F .none B) := s2A.frame k3 fun a ha => by rw [nB _ fun b hb => AB a ha b hb]; exact ⟨rfl, rfl⟩
  have e3r : fQ F2 r.x (B.head?.map (·.2)) r.x = F r.x := (nB _ fun b hb e => rB b hb e.symm).trans e2r
  generalize hF3 : fQ F2 r.x (B.head?.map (·.2)) = F3 at *
  -- the node's next, the first's prev, the node's prev
  have hk : ∀ y, (recF F r.x m.2.x (some p.2) (B.head?.map (·.2)) y).key = (F y).key := recF_key
  have hR : recF F r.x m.2.x (some p.2) (B.head?.map (·.2)) = (let F4 := setF F3 r.x { F3 r.x with next := (F3 m.2.x).key }; let F5 := setF F4 m.2.x { F4 m.2.x with prev := .ref r.x }; setF F5 r.x { F5 r.x with prev := .none }) := by
    unfold recF; simp only [hF2, hF3]
  have mr : m.2.x ≠ r.x := rA m mA
  have k3' : ∀ y, (F3 y).key = (F y).key := fun y => (k3 y).trans (k2 y)
  have g1 : (recF F r.x m.2.x (some p.2) (B.head?.map (·.2)) r.x).prev = .none := by rw [hR]; simp only; rw [setF_self]
  have g2 : (recF F r.x m.2.x (some p.2) (B.head?.map (·.2)) r.x).next = (F3 m.2.x).key := by rw [hR]; simp only; rw [setF_self]; show (setF _ _ _ _).next = _; rw [setF_ne (Ne.symm mr), setF_self]
  have g3 : (recF F r.x m.2.x (some p.2) (B.head?.map (·.2)) m.2.x).prev = .ref r.x := by rw [hR]; simp only; rw [setF_ne mr, setF_self]
  have g4 : (recF F r.x m.2.x (some p.2) (B.head?.map (·.2)) m.2.x).next = (F3 m.2.x).next := by rw [hR]; simp only; rw [setF_ne mr, setF_self]; show (setF _ _ _ _).next = _; rw [setF_ne mr]
  have g5 : ∀ y, y ≠ r.x → y ≠ m.2.x → recF F r.x m.2.x (some p.2) (B.head?.map (·.2)) y = F3 y := fun y h1 h2 => by rw [hR]; simp only; rw [setF_ne h1, setF_ne h2, setF_ne h1]
  generalize recF F r.x m.2.x (some p.2) (B.head?.map (·.2)) = G at *
  have hk3 : ∀ y, (G y).key = (F3 y).key := fun y => (hk y).trans (k3' y).symm
  refine ⟨g1, ?_, ?_⟩
  · rw [g2, nk_append, hA]
    exact (hk3 m.2.x).symm
  · rw [Seg.append, nk_frame hk]
    refine ⟨?_, ?_⟩
    · rw [hA] at s3A ⊢
      refine s3A.setFirst hk3 g3 g4 fun b hb => ?_
      have hb' : b ∈ A := by rw [hA]; exact .tail _ hb
      rw [g5 _ (rA b hb') (ml b hb)]; exact ⟨rfl, rfl⟩
    · have : lastV (.ref r.x : Value) A = .ref p.2.x := by rw [hA', lastV_append (p := .none)]; rfl
      rw [this]
      refine s3B.frame hk3 fun b hb => ?_
      rw [g5 _ (rB b hb) (fun e => AB m mA b hb e.symm)]; exact ⟨rfl, rfl⟩

/-- a new node put in front -/
theorem rec_new {F : Addr → NF} {l : List (Ky × Rg)} {m r : Ky × Rg} (nr : ∀ a ∈ m :: l, a.2.x ≠ r.2.x) (nd : ((m :: l).map (·.2.x)).Nodup) (s : Seg F .none (m :: l) .none) :
    Seg (recF F r.2.x m.2.x none none) .none (r :: m :: l) .none := by
  obtain ⟨kr, r⟩ := r
  have mr : m.2.x ≠ r.x := nr m (.head _)
  have hk : ∀ y, (recF F r.x m.2.x none none y).key = (F y).key := recF_key
  have ml : ∀ a ∈ l, a.2.x ≠ m.2.x := by
    intro a ha e
    rw [List.map_cons, List.nodup_cons] at nd
    exact nd.1 (by rw [← e]; exact List.mem_map_of_mem (f := fun q : Ky × Rg => q.2.x) ha)
  refine ⟨?_, ?_, s.setFirst hk ?_ ?_ fun b hb => ?_⟩
  · show (setF _ _ _ _).prev = _; rw [setF_self]
  · show (setF _ _ _ _).next = _; rw [setF_self]
    show (setF _ _ _ _).next = _; rw [setF_ne (Ne.symm mr), setF_self]
    exact (hk _).symm
  · show (setF _ _ _ _).prev = _; rw [setF_ne mr, setF_self]
  · show (setF _ _ _ _).next = _; rw [setF_ne mr, setF_self]; show (setF _ _ _ _).next = _; rw [setF_ne mr]; rfl
  · have := nr b (.tail _ hb)
    show (setF _ _ _ _).prev = _ ∧ (setF _ _ _ _).next = _
    rw [setF_ne this, setF_ne (ml b hb), setF_ne this]; exact ⟨rfl, rfl⟩

/-- the last one taken off -/
theorem rm_last {F : Addr → NF} {A : List (Ky × Rg)} {r : Ky × Rg} {po : Option Rg} (hpo : optV po = lastV .none A) (hpm : ∀ p, po = some p → ∃ A' k, A = A' ++ [(k, p)])
    (nd : ((A ++ [r]).map (·.2.x)).Nodup) (s : Seg F .none (A ++ [r]) .none) : Seg (rmF F r.2.x po) .none A .none ∧ (∀ y, (rmF F r.2.x po y).key = (F y).key) ∧ ∀ a ∈ A, (rmF F r.2.x po a.2.x).val = (F a.2.x).val ∧ (rmF F r.2.x po a.2.x).cln = (F a.2.x).cln := by
  rw [List.map_append, List.nodup_append] at nd
  obtain ⟨ndA, _, dis⟩ := nd
  rw [Seg.append] at s
  obtain ⟨sA, sr⟩ := s
  obtain ⟨kr, r⟩ := r
  obtain ⟨r1, r2, -⟩ := sr
  have rA : ∀ a ∈ A, a.2.x ≠ r.x := fun a ha => dis _ (List.mem_map_of_mem (f := fun q : Ky × Rg => q.2.x) ha) _ (.head _)
  have e1 : ∀ y, y ≠ r.x → setF (setF F r.x { F r.x with cln := .none }) r.x { setF F r.x { F r.x with cln := .none } r.x with val := .none } y = F y := fun y hy => by rw [setF_ne hy, setF_ne hy]
  have k1 : ∀ y, (setF (setF F r.x { F r.x with cln := .none }) r.x { setF F r.x { F r.x with cln := .none } r.x with val := .none } y).key = (F y).key := fun y => by rw [setF_key (by rfl), setF_key (by rfl)]
  have n1 : (setF (setF F r.x { F r.x with cln := .none }) r.x { setF F r.x { F r.x with cln := .none } r.x with val := .none } r.x).next = .none := by
    rw [setF_self]; show (setF _ _ _ _).next = _; rw [setF_self]; exact r2
  have hkey : ∀ y, (rmF F r.x po y).key = (F y).key := fun y => by
    unfold rmF; simp only; rw [setF_key (by rfl), setF_key (by rfl), fP_key, k1]
  have heq : ∀ a ∈ A, rmF F r.x po a.2.x = fP (setF (setF F r.x { F r.x with cln := .none }) r.x { setF F r.x { F r.x with cln := .none } r.x with val := .none }) r.x po a.2.x := fun a ha => by
    unfold rmF; simp only; rw [setF_ne (rA a ha), setF_ne (rA a ha)]
  refine ⟨?_, hkey, fun a ha => ?_⟩
  · cases po with
    | none =>
      have : A = [] := by
        cases A with
        | nil => rfl
        | cons a A =>
          exfalso
          have : ∀ (l : List (Ky × Rg)) (x : Addr), ∃ y, lastV (.ref x : Value) l = .ref y := by
            intro l
            induction l with
            | nil => exact fun x => ⟨x, rfl⟩
            | cons b l ih => exact fun x => ih b.2.x
          obtain ⟨y, hy⟩ := this A a.2.x
          rw [show lastV (Value.none) (a :: A) = lastV (.ref a.2.x) A from rfl, hy] at hpo
          cases hpo
      subst this; trivial
    | some p =>
      obtain ⟨A', k, hA⟩ := hpm p rfl
      have pA : (k, p) ∈ A := by rw [hA]; exact List.mem_append_right _ (.head _)
      have pA' : ∀ a ∈ A', a.2.x ≠ p.x := by
        intro a ha
        rw [hA, List.map_append, List.nodup_append] at ndA
        exact ndA.2.2 _ (List.mem_map_of_mem (f := fun q : Ky × Rg => q.2.x) ha) _ (.head _)
      rw [hA] at sA ⊢
      refine sA.setLast hkey ?_ ?_ fun a ha => ?_
      · rw [heq _ pA]; show (setF _ _ _ _).next = _; rw [setF_self]; exact n1
      · rw [heq _ pA]; show (setF _ _ _ _).prev = _; rw [setF_self]
        show (setF (setF _ _ _) _ _ _).prev = _; rw [e1 _ (rA _ pA)]
      · have haA : a ∈ A := by rw [hA]; exact List.mem_append_left _ ha
        rw [heq _ haA]
        show (setF _ _ _ _).prev = _ ∧ (setF _ _ _ _).next = _
        rw [setF_ne (pA' a ha), e1 _ (rA a haA)]; exact ⟨rfl, rfl⟩
  · rw [heq a ha, fP_val, fP_cln, e1 _ (rA a ha)]; exact ⟨rfl, rfl⟩

theorem seg_off {Ky : Type} {F : Addr → NF} {x : Addr} {f : NF} : ∀ {l : List (Ky × Rg)} {p n : Value}, (∀ a ∈ l, a.2.x ≠ x) → Seg F p l n → Seg (setF F x f) p l n
  | [], _, _, _, _ => trivial
  | (_, r) :: l, p, n, h, s => by
    obtain ⟨a, b, c⟩ := s
    have hr : setF F x f r.x = F r.x := setF_ne (h _ (.head _))
    refine ⟨(congrArg NF.prev hr).trans a, (congrArg NF.next hr).trans (b.trans ?_), seg_off (fun a ha => h a (.tail _ ha)) c⟩
    cases l with
    | nil => rfl
    | cons q l => exact (congrArg NF.key (setF_ne (h q (.tail _ (.head _))))).symm
theorem setF_setF {F : Addr → NF} {x : Addr} {f g : NF} : setF (setF F x f) x g = setF F x g := by
  funext z; unfold setF; split <;> rfl
theorem setF_comm {F : Addr → NF} {x y : Addr} {f g : NF} (h : x ≠ y) : setF (setF F x f) y g = setF (setF F y g) x f := by
  funext z
  unfold setF
  by_cases h1 : z = y
  · rw [if_pos h1, if_neg (fun e => h (e.symm.trans h1)), if_pos h1]
  · rw [if_neg h1, if_neg h1]
/-- __getitem__ turns the other neighbour first -/
theorem fP_fQ {F : Addr → NF} {r : Addr} {p : Rg} {qo : Option Rg} (hp : r ≠ p.x) (hq : ∀ q, qo = some q → r ≠ q.x ∧ p.x ≠ q.x) : fP (fQ F r qo) r (some p) = fQ (fP F r (some p)) r qo := by
  cases qo with
  | none => rfl
  | some q =>
    obtain ⟨h1, h2⟩ := hq q rfl
    show setF (setF F q.x _) p.x { setF F q.x _ p.x with next := (setF F q.x _ r).next } = setF (setF F p.x _) q.x { setF F p.x _ q.x with prev := (setF F p.x _ r).prev }
    rw [setF_ne h2, setF_ne h1, setF_ne (Ne.symm h2), setF_ne hp, setF_comm (Ne.symm h2)]
end
end Mine
namespace Mine
set_option maxRecDepth 100000
set_option maxHeartbeats 1000000

/-- an expression that comes to a value and leaves the heap -/
noncomputable def Pv (prog : Program) (w : World) (A : Around) (env : Env) (e : Expr) (v : Value) (h : Heap) : Prop :=
  ∀ (s : Shared) (Q E : Value → Shared → Prop), s.heap = h → (∀ tk, Q v { s with toks := tk }) → wpAny (model prog w) A (eval e env) Q E s

noncomputable def IsB (h : Heap) (a b : Value) (c : Bool) : Prop :=
  ∀ (M : Model) (A : Around) (s : Shared) (Q E : Value → Shared → Prop), s.heap = h →
    (Q (.bool c) s → wpAny M A (compareOp .Is a b) Q E s) ∧ (Q (.bool (!c)) s → wpAny M A (compareOp .IsNot a b) Q E s)

theorem isB_plain {h : Heap} {a b : Value} (hp : PySem.plainIs a b = true) : IsB h a b (a == b) :=
  fun _ _ _ _ _ _ => ⟨fun q => wpAny_is_plain hp q, fun q => wpAny_isNot_plain hp q⟩
theorem isB_other {h : Heap} {a b : Value} (hp : PySem.plainIs a b = true) (hne : a ≠ b) : IsB h a b false :=
  fun _ _ _ _ _ _ => ⟨fun q => wpAny_is_other hp hne q, fun q => wpAny_isNot_other hp hne q⟩
theorem isB_none {h : Heap} : IsB h .none .none true :=
  fun _ _ _ _ _ _ => ⟨fun q => wpAny_is_self rfl q, fun q => wpAny_isNot_self rfl q⟩
theorem isB_ref_none {h : Heap} {x : Addr} : IsB h (.ref x) .none false := isB_other rfl (fun e => nomatch e)
theorem isB_self {h : Heap} {x : Addr} : IsB h (.ref x) (.ref x) true :=
  fun _ _ _ _ _ _ => ⟨fun q => wpAny_is_ref_self q, fun q => wpAny_isNot_ref_self q⟩
theorem isB_refs {h : Heap} {x y : Addr} {ox oy : Obj} (hx : h.get? x = some ox) (hy : h.get? y = some oy) (hn : ox.cls ≠ .type "tuple") : IsB h (.ref x) (.ref y) (decide (x = y)) := by
  by_cases e : x = y
  · subst e; rw [decide_eq_true rfl]; exact isB_self
  · rw [decide_eq_false e]
    intro M A s Q E hs
    subst hs
    exact ⟨fun q => wpAny_is_ref_other e hx hy hn q, fun q => wpAny_isNot_ref_other e hx hy hn q⟩

theorem gen_ {α : Sort _} {a : α} {p : Prop} (h : ∀ x, a = x → p) : p := h a rfl
/-- a statement ends, and leaves P of the heap -/
inductive NextP (s : Shared) (P : Heap → Prop) (f : Flow) (s' : Shared) : Prop
  | mk (e : f = .next) (h' : Heap) (tk : Nat) (es : s' = up s h' tk) (p : P h')
section
variable {prog : Program} {w : World} {A : Around} {env : Env} {h : Heap} {s : Shared} {tk : Nat} {Q : Flow → Shared → Prop} {E : Value → Shared → Prop}

theorem Pv.nn {k : Nat} {pos : Pos} : Pv prog w A env (.Constant .none k pos) .none h := fun s Q E hs q => wpAny_Constant_none (q s.toks)
theorem Pv.eq {e : Expr} {v v' : Value} (hp : Pv prog w A env e v h) (q : v = v') : Pv prog w A env e v' h := q ▸ hp
theorem Pv.at {e : Expr} {v : Value} (hp : Pv prog w A env e v h) {Q : Value → Shared → Prop} (q : ∀ tk, Q v (up s h tk)) : wpAny (model prog w) A (eval e env) Q E (up s h tk) := hp (up s h tk) Q E rfl q

/-- if a is b -/
theorem if_is {l r : Expr} {a b : Value} {c : Bool} {body orelse : List Stmt} {pos pos' : Pos} (hl : Pv prog w A env l a h) (hr : Pv prog w A env r b h) (hc : IsB h a b c)
    (ht : c = true → ∀ tk, wpAny (model prog w) A (execs body env) Q E (up s h tk)) (hf : c = false → ∀ tk, wpAny (model prog w) A (execs orelse env) Q E (up s h tk))
    (hm : behindInMarks .Is r = false := by with_unfolding_all rfl) :
    wpAny (model prog w) A (exec (.If (.Compare l [.Is] [r] pos') body orelse pos) env) Q E (up s h tk) := by
  refine wpAny_If (wpAny_isTrue_Compare1 (hl.at fun tk => hr.at fun tk' => ?_) hm)
  refine (hc (model prog w) A (up s h tk') _ _ rfl).1 ?_
  refine wpAny_truthy_bool ?_
  cases c with
  | true => rw [if_pos rfl]; exact ht rfl _
  | false => rw [if_neg Bool.false_ne_true]; exact hf rfl _
theorem if_isNot {l r : Expr} {a b : Value} {c : Bool} {body orelse : List Stmt} {pos pos' : Pos} (hl : Pv prog w A env l a h) (hr : Pv prog w A env r b h) (hc : IsB h a b c)
    (ht : c = false → ∀ tk, wpAny (model prog w) A (execs body env) Q E (up s h tk)) (hf : c = true → ∀ tk, wpAny (model prog w) A (execs orelse env) Q E (up s h tk))
    (hm : behindInMarks .IsNot r = false := by with_unfolding_all rfl) :
    wpAny (model prog w) A (exec (.If (.Compare l [.IsNot] [r] pos') body orelse pos) env) Q E (up s h tk) := by
  refine wpAny_If (wpAny_isTrue_Compare1 (hl.at fun tk => hr.at fun tk' => ?_) hm)
  refine (hc (model prog w) A (up s h tk') _ _ rfl).2 ?_
  refine wpAny_truthy_bool ?_
  cases c with
  | false => rw [if_pos (by decide)]; exact ht rfl _
  | true => rw [if_neg (by decide)]; exact hf rfl _
theorem ret_ {e : Expr} {v : Value} {pos : Pos} (hp : Pv prog w A env e v h) (q : ∀ tk, Q (.ret v) (up s h tk)) : wpAny (model prog w) A (exec (.Return (some e) pos) env) Q E (up s h tk) :=
  wpAny_Return_some (hp.at q)
theorem seqP {x : Stmt} {rest : List Stmt} {P : Heap → Prop} (h1 : wpAny (model prog w) A (exec x env) (NextP s P) E (up s h tk))
    (h2 : ∀ h' tk, P h' → wpAny (model prog w) A (execs rest env) Q E (up s h' tk)) : wpAny (model prog w) A (execs (x :: rest) env) Q E (up s h tk) := by
  refine wpAny_execs_cons (wpAny_mono h1 (fun f s' z => ?_) fun _ _ z => z)
  obtain ⟨rfl, h', tk, rfl, p⟩ := z
  exact h2 h' tk p
end

section
variable {prog : Program} {K : Frag} {CN CL : Addr} {w : World} {g : Heap} {L : Addr} {m : Str → Option Value} {st : LS} {A : Around} {E : Value → Shared → Prop} {s : Shared} {tk : Nat} {h : Heap} {r : Rg} {v : Value}
  {cn : Str} {cs : Scope} {a : Addr} {cd : Value} {p : Program} {loose : List Str} {mg mb : Str → Option Value} {Q : Flow → Shared → Prop}

theorem Pv.name {x : Str} {pos : Pos} (S : St CN CL w g L m st h) (hv : m x = some v) (hk : cs.kind = .function) (hl : (envOf cn cs L a cd).kindOf x = some .local) (hd : (x == ("__debug__" : Str)) = false) :
    Pv prog w A (envOf cn cs L a cd) (.Name x pos) v h := fun s Q E hs q => by subst hs; exact ld S.F hv (q s.toks) hk hl hd
theorem Pv.glob {x : Str} {pos : Pos} (S : St CN CL w g L m st h) (X : K.In g) (T : TopRead p loose mg mb g) (e : nsIn K mainGlobals x = some (some v)) (hk : cs.kind = .function) (hx : (envOf cn cs L a cd).kindOf x = some .globalImplicit) (hd : (x == ("__debug__" : Str)) = false) :
    Pv prog w A (envOf cn cs L a cd) (.Name x pos) v h := fun s Q E hs q => by subst hs; exact name_K S.F X T e (q s.toks) hk hx hd
theorem Pv.builtin {x : Str} {pos : Pos} (S : St CN CL w g L m st h) (X : K.In g) (T : TopRead p loose mg mb g) (e : nsIn K mainGlobals x = some none) (hv : bootBuiltins x = some v) (hn : x ≠ "__name__") (hk : cs.kind = .function) (hx : (envOf cn cs L a cd).kindOf x = some .globalImplicit) (hd : (x == ("__debug__" : Str)) = false) :
    Pv prog w A (envOf cn cs L a cd) (.Name x pos) v h := fun s Q E hs q => by subst hs; exact name_B S.F X T e hv hn (q s.toks) hk hx hd

theorem attr_any {env : Env} {o : Expr} {attr : Str} {pos : Pos} {Q : Value → Shared → Prop}
    (h : wpAny (model prog w) A (eval o env) (fun ov s₁ => wpAny (model prog w) A (getAttr ov attr true) Q E s₁) E s)
    (hsh : eval (o.Attribute attr pos) env = (do
          let ov ← eval o env
          standAt pos.atName
          let r ← holding [ov] (getAttr ov attr true)
          letTemporaryGo o ov r
          pure r)) : wpAny (model prog w) A (eval (o.Attribute attr pos) env) Q E s := by
  rw [hsh]
  exact wpAny_bind (wpAny_mono h (fun ov s₁ h₁ => wpAny_bind (wpAny_standAt (wpAny_bind (wpAny_holding (wpAny_mono h₁ (fun r s₂ h₂ => wpAny_bind (wpAny_letTemporaryGo (wpAny_pure h₂))) fun _ _ z => z))))) fun _ _ z => z)

/-- the fields, each with its name -/
structure NAt (K : Frag) (CN : Addr) (name : Str) (fld : NF → Value) (upd : NF → Value → NF) : Prop where
  at_ : Attr K CN name
  get : ∀ P t f, getL name (nodeEs P t f) = some (some (fld f))
  put : ∀ P t f hsh key v', (putL name hsh key v' (nodeEs P t f), putN name (nodeEs P t f) 6) = (nodeEs P t (upd f v'), 6)
  ok : ∀ f, NFok f → Nb (fld f)
  okU : ∀ f v', NFok f → Nb v' → NFok (upd f v')
structure CAt (K : Frag) (CL : Addr) (name : Str) (fld : LS → Value) (upd : LS → Value → LS) : Prop where
  at_ : Attr K CL name
  get : ∀ P (st : LS), getL name (cacheEs P st.ct st.dd st.mru st.lru st.mx st.af) = some (some (fld st))
  put : ∀ P (st : LS) hsh key v', (putL name hsh key v' (cacheEs P st.ct st.dd st.mru st.lru st.mx st.af), putN name (cacheEs P st.ct st.dd st.mru st.lru st.mx st.af) 5) = (cacheEs P st.ct (upd st v').dd (upd st v').mru (upd st v').lru (upd st v').mx (upd st v').af, 5)
  put' : ∀ (st : LS) v', upd st v' = { st with mru := (upd st v').mru, lru := (upd st v').lru, mx := (upd st v').mx, af := (upd st v').af }
  ok : ∀ st, LSok st → Nb (fld st)
  okU : ∀ st v', LSok st → Nb v' → LSok (upd st v')
theorem nPrev (a : Attr K CN "prev") : NAt K CN "prev" (·.prev) (fun f v => { f with prev := v }) :=
  ⟨a, fun _ _ _ => rfl, fun _ _ _ _ _ _ => rfl, fun _ h => h.prev, fun _ _ h hv => ⟨hv, h.next, h.key, h.val, h.cln⟩⟩
theorem nNext (a : Attr K CN "next_key") : NAt K CN "next_key" (·.next) (fun f v => { f with next := v }) :=
  ⟨a, fun _ _ _ => rfl, fun _ _ _ _ _ _ => rfl, fun _ h => h.next, fun _ _ h hv => ⟨h.prev, hv, h.key, h.val, h.cln⟩⟩
theorem nKey (a : Attr K CN "key") : NAt K CN "key" (·.key) (fun f v => { f with key := v }) :=
  ⟨a, fun _ _ _ => rfl, fun _ _ _ _ _ _ => rfl, fun _ h => h.key, fun _ _ h hv => ⟨h.prev, h.next, hv, h.val, h.cln⟩⟩
theorem nVal (a : Attr K CN "value") : NAt K CN "value" (·.val) (fun f v => { f with val := v }) :=
  ⟨a, fun _ _ _ => rfl, fun _ _ _ _ _ _ => rfl, fun _ h => h.val, fun _ _ h hv => ⟨h.prev, h.next, h.key, hv, h.cln⟩⟩
theorem nCln (a : Attr K CN "cleanup") : NAt K CN "cleanup" (·.cln) (fun f v => { f with cln := v }) :=
  ⟨a, fun _ _ _ => rfl, fun _ _ _ _ _ _ => rfl, fun _ h => h.cln, fun _ _ h hv => ⟨h.prev, h.next, h.key, h.val, hv⟩⟩
theorem cMru (a : Attr K CL "_most_recently_used") : CAt K CL "_most_recently_used" (·.mru) (fun st v => { st with mru := v }) :=
  ⟨a, fun _ _ => rfl, fun _ _ _ _ _ => rfl, fun _ _ => rfl, fun _ h => h.mru, fun _ _ h hv => ⟨h.F, hv, h.lru, h.mx, h.af⟩⟩
theorem cLru (a : Attr K CL "_least_recently_used") : CAt K CL "_least_recently_used" (·.lru) (fun st v => { st with lru := v }) :=
  ⟨a, fun _ _ => rfl, fun _ _ _ _ _ => rfl, fun _ _ => rfl, fun _ h => h.lru, fun _ _ h hv => ⟨h.F, h.mru, hv, h.mx, h.af⟩⟩
theorem cMx (a : Attr K CL "_max_cache") : CAt K CL "_max_cache" (·.mx) (fun st v => { st with mx := v }) :=
  ⟨a, fun _ _ => rfl, fun _ _ _ _ _ => rfl, fun _ _ => rfl, fun _ h => h.mx, fun _ _ h hv => ⟨h.F, h.mru, h.lru, hv, h.af⟩⟩
theorem cAf (a : Attr K CL "_after_cleanup_count") : CAt K CL "_after_cleanup_count" (·.af) (fun st v => { st with af := v }) :=
  ⟨a, fun _ _ => rfl, fun _ _ _ _ _ => rfl, fun _ _ => rfl, fun _ h => h.af, fun _ _ h hv => ⟨h.F, h.mru, h.lru, h.mx, hv⟩⟩
theorem get_dd {P : Params} {st : LS} : getL "_cache" (cacheEs P st.ct st.dd st.mru st.lru st.mx st.af) = some (some (.ref st.dd)) := rfl

theorem Pv.dd {env : Env} {o : Expr} {pos : Pos} (S : St CN CL w g L m st h) (X : K.In g) (pc : PlainCls K CL) (hp : Pv prog w A env o (.ref st.c) h) (a : Attr K CL "_cache")
    (hsh : eval (o.Attribute "_cache" pos) env = (do
          let ov ← eval o env
          standAt pos.atName
          let r ← holding [ov] (getAttr ov "_cache" true)
          letTemporaryGo o ov r
          pure r)) : Pv prog w A env (o.Attribute "_cache" pos) (.ref st.dd) h := fun s Q E hs q => by
  subst hs
  refine attr_any (hp _ _ _ rfl fun tk => ?_) hsh
  exact get_cache (s := { s with toks := tk }) S X pc a rfl rfl (q _)

theorem Pv.node {env : Env} {o : Expr} {name : Str} {pos : Pos} {fld : NF → Value} {upd : NF → Value → NF} (S : St CN CL w g L m st h) (X : K.In g) (pc : PlainCls K CN) (hp : Pv prog w A env o (.ref r.x) h) (hr : r ∈ st.reg) (n : NAt K CN name fld upd)
    (hsh : eval (o.Attribute name pos) env = (do
          let ov ← eval o env
          standAt pos.atName
          let r ← holding [ov] (getAttr ov name true)
          letTemporaryGo o ov r
          pure r)) : Pv prog w A env (o.Attribute name pos) (fld (st.F r.x)) h := fun s Q E hs q => by
  subst hs
  refine attr_any (hp _ _ _ rfl fun tk => ?_) hsh
  exact get_node (s := { s with toks := tk }) S X pc n.at_ hr (n.get _ _ _) (n.ok _ (S.ok.F _)).handed (q _)
theorem Pv.cache {env : Env} {o : Expr} {name : Str} {pos : Pos} {fld : LS → Value} {upd : LS → Value → LS} (S : St CN CL w g L m st h) (X : K.In g) (pc : PlainCls K CL) (hp : Pv prog w A env o (.ref st.c) h) (n : CAt K CL name fld upd)
    (hsh : eval (o.Attribute name pos) env = (do
          let ov ← eval o env
          standAt pos.atName
          let r ← holding [ov] (getAttr ov name true)
          letTemporaryGo o ov r
          pure r)) : Pv prog w A env (o.Attribute name pos) (fld st) h := fun s Q E hs q => by
  subst hs
  refine attr_any (hp _ _ _ rfl fun tk => ?_) hsh
  exact get_cache (s := { s with toks := tk }) S X pc n.at_ (n.get _ _) (n.ok _ S.ok).handed (q _)

/-- x.name = e, x a node -/
theorem as_node {env : Env} {o e : Expr} {name : Str} {pos pos' : Pos} {fld : NF → Value} {upd : NF → Value → NF} (S : St CN CL w g L m st h) (X : K.In g) (pc : PlainCls K CN)
    (he : Pv prog w A env e v h) (hp : Pv prog w A env o (.ref r.x) h) (hr : r ∈ st.reg) (n : NAt K CN name fld upd) (hv : Nb v)
    (q : ∀ h' tk, St CN CL w g L m { st with F := setF st.F r.x (upd (st.F r.x) v) } h' → Q .next (up s h' tk))
    (hs : swapsWith e (some (.Attribute o name pos')) pos.line env = pure false) :
    wpAny (model prog w) A (exec (.Assign [.Attribute o name pos'] e pos) env) Q E (up s h tk) := by
  refine plainObj_wpAny_Assign_Attribute (he.at fun tk => hp.at fun tk' => ?_) hs
  exact set_node (s := up s h tk') S X pc n.at_ hr (n.okU _ _ (S.ok.F _) hv) (n.get _ _ _) (fun _ _ => n.put _ _ _ _ _ _) fun h' tk'' S' => q h' tk'' S'
theorem as_cache {env : Env} {o e : Expr} {name : Str} {pos pos' : Pos} {fld : LS → Value} {upd : LS → Value → LS} (S : St CN CL w g L m st h) (X : K.In g) (pc : PlainCls K CL)
    (he : Pv prog w A env e v h) (hp : Pv prog w A env o (.ref st.c) h) (n : CAt K CL name fld upd) (hv : Nb v)
    (q : ∀ h' tk, St CN CL w g L m (upd st v) h' → Q .next (up s h' tk))
    (hs : swapsWith e (some (.Attribute o name pos')) pos.line env = pure false) :
    wpAny (model prog w) A (exec (.Assign [.Attribute o name pos'] e pos) env) Q E (up s h tk) := by
  refine plainObj_wpAny_Assign_Attribute (he.at fun tk => hp.at fun tk' => ?_) hs
  exact set_cache (s := up s h tk') S X pc n.at_ (n.get _ _) (fun _ _ => n.put _ _ _ _ _) (n.put' _ _) (n.okU _ _ S.ok hv) fun h' tk'' S' => q h' tk'' S'

/-- x = e -/
theorem as_name {x : Str} {pos pos' : Pos} {e : Expr} (S : St CN CL w g L m st h) (he : Pv prog w A (envOf cn cs L a cd) e v h)
    (q : ∀ h' tk, St CN CL w g L (fun y => if y = x then some v else m y) st h' → Q .next (up s h' tk))
    (hk : cs.kind = .function) (hl : (envOf cn cs L a cd).kindOf x = some .local) (hs : swapsWith e (some (.Name x pos')) pos.line (envOf cn cs L a cd) = pure false) :
    wpAny (model prog w) A (exec (.Assign [.Name x pos'] e pos) (envOf cn cs L a cd)) Q E (up s h tk) :=
  wpAny_Assign_Name (he.at fun tk => store_ (s := up s h tk) S (fun h' tk' S' => q h' tk' S') hk hl) hs

section
variable {Ky : Type} [DecidableEq Ky] {T : DT prog w K Ky} {kvs : List (Ky × Value)} {k : Ky} {key : Value}
theorem St.dget (S : St CN CL w g L m st h) : h.get? st.dd = some st.od := (S.N (st.dd, st.od) (.tail _ (.tail _ (.head _)))).1
theorem Pv.item {env : Env} {o i : Expr} {pos : Pos} (S : St CN CL w g L m st h) (X : K.In g) (hu : A.units + 8 < cLine) (ho : Pv prog w A env o (.ref st.dd) h) (hi : Pv prog w A env i key h)
    (hk : T.isK k key) (hd : OD T st.od kvs) (hv : valueAt kvs k = some v)
    (hs : subscripted i false (.ref st.dd) key = operate [.ref st.dd, key] (PySem.getItem (.ref st.dd) key)) : Pv prog w A env (.Subscript o i pos) v h := fun s Q E hs' q => by
  subst hs'
  refine Subscript_ (ho _ _ _ rfl fun tk => hi _ _ _ rfl fun tk' => ?_)
  exact tail_any (s := { s with toks := tk' }) (hd.typeIs (s := { s with toks := tk' }) S.dget) PySem.F.slot_dict_getitem.lookup (hd.getItem (s := { s with toks := tk' }) (X.keeps S.F.keep) hu hk S.dget hv fun tk => q tk) hs
end
end
end Mine
namespace Mine
set_option maxRecDepth 100000
set_option maxHeartbeats 1000000

section
variable {prog : Program} {K : Frag} {CN CL C : Addr} {w : World} {g h₀ h : Heap} {L : Addr} {m : Str → Option Value} {st : LS} {A : Around} {E : Value → Shared → Prop} {s : Shared} {tk tk₀ : Nat} {r : Rg} {v : Value} {env : Env}
  {p : Program} {loose : List Str} {mg mb : Str → Option Value} {Q : Flow → Shared → Prop} {es : List DictEntry} {n : Nat} {ox : Obj} {x f : Addr} {name : Str} {apos pos pos2 : Pos} {o e : Expr}

theorem ex_ {e : Expr} (q : wpAny (model prog w) A (eval e env) (fun _ s' => Q .next s') E (up s h tk)) (hi : interactive env = false) (hs : swapsWith e none pos.line env = pure false) : wpAny (model prog w) A (exec (.Expr e pos) env) Q E (up s h tk) :=
  wpAny_Expr_any q hi hs

/-- o.name() as an expression -/
theorem ev_m0 {Q : Value → Shared → Prop} (hp : Pv prog w A env o (.ref x) h) (I : W.InstAt h x ox C (some (dictOf es n))) (X : K.In h) (pc : PlainCls K C) (hf : findIn K (.ref C) name = some (some (.ref f)))
    (ht : typeIn K (.ref f) = some (.type "function")) (hkeep : keepIn K (.ref f) = true) (hl : getL name es = some none)
    (q : ∀ tk, wpAny (model prog w) A (call (.ref f) [.ref x]) Q E (up s h tk)) {pl : Sem Bool}
    (hsh : (eval ((o.Attribute name apos).Call [] [] pos) env = do
          let ov ← eval o env
          standAt apos.atName
          let __x ← holding [ov] (getMethod ov name pl)
          match __x with
            | (f, first) => callWith pos f first (backTo pos (starEach [] env)) [])) :
    wpAny (model prog w) A (eval ((o.Attribute name apos).Call [] [] pos) env) Q E (up s h tk) :=
  meth0 (f := f) (x := x) (hp.at fun tk => ⟨rfl, X, I, q tk⟩) pc hf ht hkeep hl hsh
theorem ev_m1 {Q : Value → Shared → Prop} (hp : Pv prog w A env o (.ref x) h) (he : Pv prog w A env e v h) (I : W.InstAt h x ox C (some (dictOf es n))) (X : K.In h) (pc : PlainCls K C) (hf : findIn K (.ref C) name = some (some (.ref f)))
    (ht : typeIn K (.ref f) = some (.type "function")) (hkeep : keepIn K (.ref f) = true) (hl : getL name es = some none)
    (q : ∀ tk, wpAny (model prog w) A (call (.ref f) [.ref x, v]) Q E (up s h tk)) {pl : Sem Bool}
    (hst : starEach [e] env = (false, eval e env) :: starEach [] env) (hpl : (backTo pos (starEach [] env)).any (·.1) = false)
    (hsh : (eval ((o.Attribute name apos).Call [e] [] pos) env = do
          let ov ← eval o env
          standAt apos.atName
          let __x ← holding [ov] (getMethod ov name pl)
          match __x with
            | (f, first) => callWith pos f first (backTo pos (starEach [e] env)) [])) :
    wpAny (model prog w) A (eval ((o.Attribute name apos).Call [e] [] pos) env) Q E (up s h tk) :=
  meth (f := f) (x := x) (hp.at fun tk => ⟨rfl, X, I, spliced_more (he.at fun tk' => spliced_none ⟨X, q tk'⟩) hst⟩) pc hf ht hkeep hl hst hpl hsh

theorem St.setOd {h' : Heap} {o' : Obj} (S : St CN CL w g L m st h) (hs : Heap.SameBut st.dd h h') (ho : h'.get? st.dd = some o') : St CN CL w g L m { st with od := o' } h' := by
  have wf := S.wf
  simp only [addrs, List.nodup_cons, List.mem_cons, not_or] at wf
  have hd := S.off st.dd (.tail _ (.tail _ (.head _)))
  refine ⟨S.F.change hs hd.1 hd.2, fun q hq => ?_, S.wf, ⟨S.ok.F, S.ok.mru, S.ok.lru, S.ok.mx, S.ok.af⟩⟩
  have keep : ∀ q ∈ ledger CN CL w.params st, q.1 ≠ st.dd → h'.get? q.1 = some q.2 ∧ q.1 ≠ L ∧ g.get? q.1 = none := fun q hq e => ⟨(hs.2 _ e).trans (S.N q hq).1, (S.N q hq).2⟩
  rcases List.mem_cons.mp hq with rfl | hq
  · exact keep _ (.head _) fun e => wf.1.2.1 e
  rcases List.mem_cons.mp hq with rfl | hq
  · exact keep _ (.tail _ (.head _)) fun e => wf.2.1.1 e
  rcases List.mem_cons.mp hq with rfl | hq
  · exact ⟨ho, hd⟩
  · refine keep _ (.tail _ (.tail _ (.tail _ hq))) fun e => wf.2.2.1 ?_
    rw [← e]
    refine List.mem_append.mpr ((List.mem_append.mp hq).imp (fun hp => ?_) fun hp => List.mem_map_of_mem hp)
    rw [← nodeL_addrs CN w.params st.F]; exact List.mem_map_of_mem hp

section
variable {Ky : Type} [DecidableEq Ky] {T : DT prog w K Ky} {kvs : List (Ky × Value)} {k : Ky} {key : Value}

/-- self._cache.pop(e) -/
theorem ev_pop {Q : Value → Shared → Prop} (S : St CN CL w g L m st h) (X : K.In g) (hu : A.units + 8 < cLine) (ho : Pv prog w A env o (.ref st.dd) h) (he : Pv prog w A env e key h) (hk : T.isK k key) (hd : OD T st.od kvs) (hz : kvs.length ≤ 100000) (hv : valueAt kvs k = some v)
    (q : ∀ h' o' tk, OD T o' (without kvs k) → St CN CL w g L m { st with od := o' } h' → Q v (up s h' tk)) {pl : Sem Bool}
    (hst : starEach [e] env = (false, eval e env) :: starEach [] env) (hpl : (backTo pos (starEach [] env)).any (·.1) = false)
    (hsh : (eval ((o.Attribute "pop" apos).Call [e] [] pos) env = do
          let ov ← eval o env
          standAt apos.atName
          let __x ← holding [ov] (getMethod ov "pop" pl)
          match __x with
            | (f, first) => callWith pos f first (backTo pos (starEach [e] env)) [])) :
    wpAny (model prog w) A (eval ((o.Attribute "pop" apos).Call [e] [] pos) env) Q E (up s h tk) := by
  refine MethodCall_ (ho.at fun tk => ?_) hsh
  refine hd.method PySem.F.slot_dict_pop PySem.F.type_dict_pop (s := up s h tk) S.dget ?_
  refine callWith_method1 (spliced_more (he.at fun tk' => spliced_none ?_) hst) hst hpl
  exact hd.pop (s := up s h tk') (X.keeps S.F.keep) hu hk S.dget hz hv fun h' o' tk'' a b c => q h' o' tk'' c (S.setOd a b)
/-- self._cache.get(e, None) -/
theorem ev_get2 {Q : Value → Shared → Prop} {e2 : Expr} {dflt : Value} (S : St CN CL w g L m st h) (X : K.In g) (hu : A.units + 8 < cLine) (ho : Pv prog w A env o (.ref st.dd) h) (he : Pv prog w A env e key h) (he2 : Pv prog w A env e2 dflt h) (hk : T.isK k key) (hd : OD T st.od kvs) (hs : (st.dd == sysModules) = false)
    (q : ∀ tk, Q ((valueAt kvs k).getD dflt) (up s h tk)) {pl : Sem Bool}
    (hst : starEach [e, e2] env = (false, eval e env) :: starEach [e2] env) (hst2 : starEach [e2] env = (false, eval e2 env) :: starEach [] env) (hpl : (backTo pos (starEach [e2] env)).any (·.1) = false)
    (hsh : (eval ((o.Attribute "get" apos).Call [e, e2] [] pos) env = do
          let ov ← eval o env
          standAt apos.atName
          let __x ← holding [ov] (getMethod ov "get" pl)
          match __x with
            | (f, first) => callWith pos f first (backTo pos (starEach [e, e2] env)) [])) :
    wpAny (model prog w) A (eval ((o.Attribute "get" apos).Call [e, e2] [] pos) env) Q E (up s h tk) := by
  refine MethodCall_ (ho.at fun tk => ?_) hsh
  refine hd.method PySem.F.slot_dict_get PySem.F.type_dict_get (s := up s h tk) S.dget ?_
  refine callWith_method1 (spliced_more (he.at fun tk' => spliced_more (he2.at fun tk'' => spliced_none ?_) hst2) hst) hst hpl
  exact hd.get2 (s := up s h tk'') (X.keeps S.F.keep) hu hk S.dget hs fun tk => q tk

theorem Pv.get2 {e2 : Expr} {dflt : Value} (S : St CN CL w g L m st h) (X : K.In g) (hu : A.units + 8 < cLine) (ho : Pv prog w A env o (.ref st.dd) h) (he : Pv prog w A env e key h) (he2 : Pv prog w A env e2 dflt h) (hk : T.isK k key) (hd : OD T st.od kvs) (hs : (st.dd == sysModules) = false) {pl : Sem Bool}
    (hst : starEach [e, e2] env = (false, eval e env) :: starEach [e2] env) (hst2 : starEach [e2] env = (false, eval e2 env) :: starEach [] env) (hpl : (backTo pos (starEach [e2] env)).any (·.1) = false)
    (hsh : (eval ((o.Attribute "get" apos).Call [e, e2] [] pos) env = do
          let ov ← eval o env
          standAt apos.atName
          let __x ← holding [ov] (getMethod ov "get" pl)
          match __x with
            | (f, first) => callWith pos f first (backTo pos (starEach [e, e2] env)) [])) : Pv prog w A env ((o.Attribute "get" apos).Call [e, e2] [] pos) ((valueAt kvs k).getD dflt) h := fun s Q E hs' q => by
  subst hs'
  exact ev_get2 (s := s) (tk := s.toks) S X hu ho he he2 hk hd hs (fun tk => q tk) hst hst2 hpl hsh

/-- a value of a kind -/
noncomputable def PvE (prog : Program) (w : World) (A : Around) (env : Env) (e : Expr) (P : Value → Prop) (h : Heap) : Prop :=
  ∀ (s : Shared) (Q E : Value → Shared → Prop), s.heap = h → (∀ v tk, P v → Q v { s with toks := tk }) → wpAny (model prog w) A (eval e env) Q E s
theorem PvE.of {P : Value → Prop} (hp : Pv prog w A env e v h) (hv : P v) : PvE prog w A env e P h := fun s Q E hs q => hp s Q E hs fun tk => q _ tk hv
theorem PvE.at {P : Value → Prop} (hp : PvE prog w A env e P h) {Q : Value → Shared → Prop} (q : ∀ v tk, P v → Q v (up s h tk)) : wpAny (model prog w) A (eval e env) Q E (up s h tk) := hp (up s h tk) Q E rfl q

/-- len(o), o the dict -/
theorem PvE.len {fn : Expr} (S : St CN CL w g L m st h) (X : K.In g) (hfn : Pv prog w A env fn (.builtin "len") h) (ho : Pv prog w A env o (.ref st.dd) h) (hd : OD T st.od kvs) (hs : (st.dd == sysModules) = false) (hz : kvs.length ≤ 100000)
    (hst : starEach [o] env = (false, eval o env) :: starEach [] env) (hpl : (backTo pos (starEach [] env)).any (·.1) = false)
    (hsh : eval (fn.Call [o] [] pos) env = do
          let __do_lift ← eval fn env
          callWith pos __do_lift [] (backTo pos (starEach [o] env)) (backToKw pos (keywordEach [] env))) :
    PvE prog w A env (fn.Call [o] [] pos) (fun v => ∃ t, v = .int kvs.length t) h := fun s Q E hs' q => by
  subst hs'
  refine Call_ (hfn _ _ _ rfl fun tk => callWith_builtin1 (spliced_more (ho _ _ _ rfl fun tk' => spliced_none ?_) hst) hst hpl) hsh
  exact hd.len (s := { s with toks := tk' }) S.dget hs hz fun t tk => q _ _ ⟨t, rfl⟩
end
end
end Mine
namespace Mine
set_option maxRecDepth 100000
set_option maxHeartbeats 1000000

section
variable {prog : Program} {w : World} {K : Frag} {Ky : Type} [DecidableEq Ky] {T : DT prog w K Ky} {st st' : LS} {ord A B : List (Ky × Rg)} {kvs : List (Ky × Value)} {k : Ky} {r : Rg}

noncomputable def headV : List (Ky × Rg) → Value
  | [] => .none
  | a :: _ => .ref a.2.x
noncomputable def row (a : Ky × Rg) : Ky × Value := (a.1, .ref a.2.x)

/-- the cache is whole: ord tells its nodes, the latest first -/
structure Cst (T : DT prog w K Ky) (st : LS) (ord : List (Ky × Rg)) (kvs : List (Ky × Value)) : Prop where
  sub : ∀ a ∈ ord, a.2 ∈ st.reg
  nd : (ord.map (·.2.x)).Nodup
  seg : Seg st.F .none ord .none
  mru : st.mru = headV ord
  lru : st.lru = lastV .none ord
  key : ∀ a ∈ ord, T.isK a.1 (st.F a.2.x).key
  od : OD T st.od kvs
  perm : kvs.Perm (ord.map row)
  ne : (st.dd == sysModules) = false

/-- what the cache holds: key, value, clean-up, the latest first -/
noncomputable def vw (st : LS) (ord : List (Ky × Rg)) : List (Ky × Value × Value) := ord.map fun a => (a.1, (st.F a.2.x).val, (st.F a.2.x).cln)
theorem vw_congr (h : ∀ a ∈ ord, (st'.F a.2.x).val = (st.F a.2.x).val ∧ (st'.F a.2.x).cln = (st.F a.2.x).cln) : vw st' ord = vw st ord :=
  List.map_congr_left fun a ha => by rw [(h a ha).1, (h a ha).2]
theorem vw_keys : (vw st ord).map (·.1) = ord.map (·.1) := by unfold vw; rw [List.map_map]; rfl

theorem row_keys : (ord.map row).map (·.1) = ord.map (·.1) := by rw [List.map_map]; rfl
theorem Cst.keys_nd (C : Cst T st ord kvs) : (ord.map (·.1)).Nodup := by
  rw [← row_keys]; exact (C.perm.map _).nodup_iff.mp C.od.nodup
theorem Cst.len (C : Cst T st ord kvs) : kvs.length = ord.length := by rw [C.perm.length_eq, List.length_map]
theorem valueAt_mem {kvs : List (Ky × Value)} {k : Ky} {v : Value} (hn : (kvs.map (·.1)).Nodup) (h : (k, v) ∈ kvs) : valueAt kvs k = some v := by
  obtain ⟨i, hi⟩ := List.mem_iff_getElem?.mp h
  exact valueAt_of_get hn hi
theorem Cst.at (C : Cst T st ord kvs) (h : (k, r) ∈ ord) : valueAt kvs k = some (.ref r.x) :=
  valueAt_mem C.od.nodup (C.perm.mem_iff.mpr (List.mem_map.mpr ⟨_, h, rfl⟩))
theorem Cst.notAt (C : Cst T st ord kvs) (h : k ∉ ord.map (·.1)) : valueAt kvs k = none :=
  valueAt_none fun q => h (by rw [← row_keys]; exact (C.perm.map _).mem_iff.mp q)

theorem lastV_opt : ∀ {A : List (Ky × Rg)} {p : Value}, (A = [] ∧ lastV p A = p) ∨ ∃ A' a, A = A' ++ [a] ∧ lastV p A = .ref a.2.x
  | [], _ => .inl ⟨rfl, rfl⟩
  | a :: l, p => by
    rcases lastV_opt (A := l) (p := .ref a.2.x) with ⟨rfl, h⟩ | ⟨A', b, rfl, h⟩
    · exact .inr ⟨[], a, rfl, h⟩
    · exact .inr ⟨a :: A', b, rfl, h⟩

/-- the last node's facts -/
theorem Cst.last (C : Cst T st (A ++ [(k, r)]) kvs) : r ∈ st.reg ∧ st.lru = .ref r.x ∧ (∃ po, (st.F r.x).prev = optV po ∧ optV po = lastV .none A ∧ (po.isNone = A.isEmpty) ∧ ∀ p, po = some p → p ∈ st.reg ∧ r.x ≠ p.x ∧ ∃ A' k, A = A' ++ [(k, p)]) ∧ (st.F r.x).next = .none ∧ T.isK k (st.F r.x).key ∧ valueAt kvs k = some (.ref r.x) := by
  have hm : (k, r) ∈ A ++ [(k, r)] := List.mem_append_right _ (.head _)
  have s := C.seg
  rw [Seg.append] at s
  obtain ⟨-, s1, s2, -⟩ := s
  refine ⟨C.sub _ hm, by rw [C.lru, lastV_append (p := .none)]; rfl, ?_, s2, C.key _ hm, C.at hm⟩
  have hnd := C.nd
  rw [List.map_append, List.nodup_append] at hnd
  rcases lastV_opt (A := A) (p := .none) with ⟨rfl, h⟩ | ⟨A', ⟨k', p⟩, rfl, h⟩
  · exact ⟨none, s1, rfl, rfl, fun p e => nomatch e⟩
  · refine ⟨some p, s1.trans h, h.symm, by cases A' <;> rfl, fun q e => ?_⟩
    cases e
    exact ⟨C.sub (k', p) (List.mem_append_left _ (List.mem_append_right _ (.head _))), fun e => hnd.2.2 p.x (List.mem_map.mpr ⟨(k', p), List.mem_append_right _ (.head _), rfl⟩) r.x (.head _) e.symm, A', k', rfl⟩

/-- the state behind the removal of the last one -/
theorem Cst.remove {po : Option Rg} {o' : Obj} (C : Cst T st (A ++ [(k, r)]) kvs) (h1 : optV po = lastV .none A) (h2 : po.isNone = A.isEmpty) (h3 : ∀ p, po = some p → ∃ A' k, A = A' ++ [(k, p)]) (ho : OD T o' (without kvs k)) :
    Cst T { st with lru := optV po, mru := (if po.isNone then .none else st.mru), od := o', F := rmF st.F r.x po } A (without kvs k) ∧
    vw { st with lru := optV po, mru := (if po.isNone then .none else st.mru), od := o', F := rmF st.F r.x po } A = vw st A := by
  obtain ⟨a, b, c⟩ := rm_last (r := (k, r)) h1 h3 C.nd C.seg
  have hnd := C.nd
  rw [List.map_append, List.nodup_append] at hnd
  have hkn := C.keys_nd
  rw [List.map_append, List.nodup_append] at hkn
  refine ⟨⟨fun q hq => C.sub q (List.mem_append_left _ hq), hnd.1, a, ?_, h1, fun q hq => ?_, ho, ?_, C.ne⟩, vw_congr c⟩
  · show (if po.isNone then Value.none else st.mru) = headV A
    rw [h2]
    cases A with
    | nil => rfl
    | cons q A => rw [show List.isEmpty (q :: A) = false from rfl, if_neg Bool.false_ne_true, C.mru]; rfl
  · show T.isK q.1 (rmF st.F r.x po q.2.x).key
    rw [b]; exact C.key q (List.mem_append_left _ hq)
  · have p := (C.perm.filter fun kv => decide (kv.1 ≠ k))
    rw [List.map_append, List.filter_append] at p
    have e1 : (A.map row).filter (fun kv => decide (kv.1 ≠ k)) = A.map row := by
      rw [List.filter_eq_self]
      intro kv hkv
      obtain ⟨q, hq, rfl⟩ := List.mem_map.mp hkv
      exact decide_eq_true (hkn.2.2 q.1 (List.mem_map_of_mem hq) k (.head _))
    have e2 : ([(k, r)].map row).filter (fun kv => decide (kv.1 ≠ k)) = [] := by
      show List.filter _ [(k, Value.ref r.x)] = []
      rw [List.filter_cons]; simp
    rw [e1, e2, List.append_nil] at p
    exact p
end

section
variable {Ky : Type} [DecidableEq Ky] {X : Type}
noncomputable def look (V : List (Ky × X)) (k : Ky) : Option X := (V.find? fun e => decide (e.1 = k)).map (·.2)
noncomputable def rest (V : List (Ky × X)) (k : Ky) : List (Ky × X) := V.filter fun e => decide (e.1 ≠ k)
noncomputable def ins (V : List (Ky × X)) (k : Ky) (x : X) : List (Ky × X) := (k, x) :: rest V k
noncomputable def touch (V : List (Ky × X)) (k : Ky) : List (Ky × X) := match look V k with | some x => ins V k x | none => V

theorem look_cons {e : Ky × X} {V : List (Ky × X)} {k : Ky} : look (e :: V) k = if e.1 = k then some e.2 else look V k := by
  unfold look; rw [List.find?_cons]
  by_cases h : e.1 = k <;> simp [h]
theorem look_none {V : List (Ky × X)} {k : Ky} (h : k ∉ V.map (·.1)) : look V k = none := by
  induction V with
  | nil => rfl
  | cons e V ih =>
    simp only [List.map_cons, List.mem_cons, not_or] at h
    rw [look_cons, if_neg (fun q => h.1 q.symm), ih h.2]
theorem look_mid {A B : List (Ky × X)} {k : Ky} {x : X} (h : k ∉ A.map (·.1)) : look (A ++ (k, x) :: B) k = some x := by
  induction A with
  | nil => rw [List.nil_append, look_cons, if_pos rfl]
  | cons e A ih =>
    simp only [List.map_cons, List.mem_cons, not_or] at h
    rw [List.cons_append, look_cons, if_neg (fun q => h.1 q.symm), ih h.2]
theorem rest_none {V : List (Ky × X)} {k : Ky} (h : k ∉ V.map (·.1)) : rest V k = V := by
  unfold rest
  rw [List.filter_eq_self]
  intro e he
  exact decide_eq_true fun q => h (by rw [← q]; exact List.mem_map_of_mem he)
theorem rest_mid {A B : List (Ky × X)} {k : Ky} {x : X} (h : k ∉ A.map (·.1)) (h' : k ∉ B.map (·.1)) : rest (A ++ (k, x) :: B) k = A ++ B := by
  have a := rest_none h
  have b := rest_none h'
  unfold rest at a b ⊢
  rw [List.filter_append, List.filter_cons, a]
  simp only [ne_eq, not_true_eq_false, decide_false, Bool.false_eq_true, if_false]
  rw [b]
theorem mid_keys {A B : List (Ky × X)} {k : Ky} {x : X} (h : ((A ++ (k, x) :: B).map (·.1)).Nodup) : k ∉ A.map (·.1) ∧ k ∉ B.map (·.1) := by
  rw [List.map_append, List.nodup_append] at h
  obtain ⟨-, h2, h3⟩ := h
  rw [List.map_cons, List.nodup_cons] at h2
  exact ⟨fun q => h3 k q k (.head _) rfl, h2.1⟩

variable {prog : Program} {w : World} {K : Frag} {T : DT prog w K Ky} {st st' : LS} {ord A B : List (Ky × Rg)} {kvs : List (Ky × Value)} {k : Ky} {r : Rg}
theorem Cst.split (C : Cst T st ord kvs) (hk : k ∈ ord.map (·.1)) : ∃ D r D', ord = D ++ (k, r) :: D' := by
  obtain ⟨⟨k', r⟩, ha, rfl⟩ := List.mem_map.mp hk
  obtain ⟨D, D', e⟩ := List.append_of_mem ha
  exact ⟨D, r, D', e⟩
theorem vw_app : vw st (A ++ B) = vw st A ++ vw st B := List.map_append
theorem vw_cons {a : Ky × Rg} : vw st (a :: A) = (a.1, (st.F a.2.x).val, (st.F a.2.x).cln) :: vw st A := rfl
theorem Cst.look_hit (C : Cst T st (A ++ (k, r) :: B) kvs) : look (vw st (A ++ (k, r) :: B)) k = some ((st.F r.x).val, (st.F r.x).cln) ∧ rest (vw st (A ++ (k, r) :: B)) k = vw st (A ++ B) := by
  obtain ⟨h1, h2⟩ := mid_keys C.keys_nd
  rw [vw_app, vw_cons, vw_app]
  exact ⟨look_mid (by rw [vw_keys]; exact h1), rest_mid (by rw [vw_keys]; exact h1) (by rw [vw_keys]; exact h2)⟩
theorem Cst.touch_hit (C : Cst T st (A ++ (k, r) :: B) kvs) (h : ∀ y, (st'.F y).val = (st.F y).val ∧ (st'.F y).cln = (st.F y).cln) : vw st' ((k, r) :: (A ++ B)) = touch (vw st (A ++ (k, r) :: B)) k := by
  obtain ⟨h1, h2⟩ := C.look_hit
  unfold touch
  rw [h1]
  show _ = ins _ _ _
  unfold ins
  rw [h2, vw_cons, vw_congr fun a _ => h a.2.x, (h r.x).1, (h r.x).2]
theorem Cst.look_miss (C : Cst T st ord kvs) (hk : k ∉ ord.map (·.1)) : look (vw st ord) k = none ∧ touch (vw st ord) k = vw st ord ∧ rest (vw st ord) k = vw st ord := by
  have h := look_none (V := vw st ord) (k := k) (by rw [vw_keys]; exact hk)
  refine ⟨h, ?_, rest_none (by rw [vw_keys]; exact hk)⟩
  unfold touch; rw [h]
theorem len_touch {V : List (Ky × X)} (h : (V.map (·.1)).Nodup) : (touch V k).length = V.length := by
  unfold touch
  cases e : look V k with
  | none => rfl
  | some x =>
    have hm : k ∈ V.map (·.1) := by
      by_cases q : k ∈ V.map (·.1)
      · exact q
      · rw [look_none q] at e; cases e
    obtain ⟨⟨k', y⟩, ha, rfl⟩ := List.mem_map.mp hm
    obtain ⟨D, D', rfl⟩ := List.append_of_mem ha
    obtain ⟨a, b⟩ := mid_keys h
    show (ins _ _ _).length = _
    unfold ins
    rw [rest_mid a b]
    simp only [List.length_cons, List.length_append]; omega
end

section
variable {prog : Program} {w : World} {K : Frag} {Ky : Type} [DecidableEq Ky] {T : DT prog w K Ky} {st st' : LS} {D' l : List (Ky × Rg)} {kvs : List (Ky × Value)} {k : Ky} {r : Rg} {m : Ky × Rg}
structure HitF (T : DT prog w K Ky) (st : LS) (m : Ky × Rg) (l : List (Ky × Rg)) (k : Ky) (r : Rg) (D' : List (Ky × Rg)) (kvs : List (Ky × Value)) (p b : Rg) : Prop where
  mr : st.mru = .ref m.2.x
  mreg : m.2 ∈ st.reg
  ne : r.x ≠ m.2.x
  lru : st.lru = .ref b.x
  breg : b ∈ st.reg
  prev : (st.F r.x).prev = .ref p.x
  preg : p ∈ st.reg
  pne : r.x ≠ p.x
  nx0 : D' = [] → (st.F r.x).next = .none ∧ st.lru = .ref r.x
  nx1 : ∀ c D'', D' = c :: D'' → c.2 ∈ st.reg ∧ r.x ≠ c.2.x ∧ p.x ≠ c.2.x ∧ T.isK c.1 (st.F r.x).next ∧ valueAt kvs c.1 = some (.ref c.2.x) ∧ st.lru ≠ .ref r.x
  out : Cst T (recAcc st r m.2 (some p) (D'.head?.map (·.2))) ((k, r) :: ((m :: l) ++ D')) kvs
theorem Cst.hit (C : Cst T st ((m :: l) ++ (k, r) :: D') kvs) : ∃ p b, HitF T st m l k r D' kvs p b := by
  have nd := C.nd
  have nd0 := nd
  rw [List.map_append, List.nodup_append] at nd
  have s := C.seg
  rw [Seg.append] at s
  obtain ⟨-, s1, s2, s3⟩ := s
  have hml : m ∈ (m :: l) ++ (k, r) :: D' := .head _
  obtain ⟨A', a, hA', hla⟩ : ∃ A' a, m :: l = A' ++ [a] ∧ lastV (.none : Value) (m :: l) = .ref a.2.x := by
    rcases lastV_opt (A := m :: l) (p := .none) with ⟨q, -⟩ | q
    · cases q
    · exact q
  have haA : a ∈ m :: l := by rw [hA']; exact List.mem_append_right _ (.head _)
  have hlast : ∃ b ∈ (m :: l) ++ (k, r) :: D', st.lru = .ref b.2.x := by
    rcases lastV_opt (A := (m :: l) ++ (k, r) :: D') (p := .none) with ⟨q, -⟩ | ⟨A'', b, q, q2⟩
    · cases q
    · exact ⟨b, by rw [q]; exact List.mem_append_right _ (.head _), by rw [C.lru, q2]⟩
  obtain ⟨b, hb, hlru⟩ := hlast
  have ne : ∀ q ∈ m :: l, r.x ≠ q.2.x := fun q hq e => nd.2.2 _ (List.mem_map_of_mem (f := fun q : Ky × Rg => q.2.x) hq) r.x (.head _) e.symm
  have neB : ∀ q ∈ D', r.x ≠ q.2.x := by
    intro q hq e
    have := nd.2.1
    rw [List.map_cons, List.nodup_cons] at this
    exact this.1 (by show r.x ∈ _; rw [e]; exact List.mem_map_of_mem (f := fun q : Ky × Rg => q.2.x) hq)
  have lru1 : ∀ c D'', D' = c :: D'' → st.lru ≠ .ref r.x := by
    rintro c D'' rfl e
    rw [C.lru, lastV_append (p := .none)] at e
    have e : lastV (.ref c.2.x) D'' = .ref r.x := e
    rcases lastV_opt (A := D'') (p := .ref c.2.x) with ⟨-, q⟩ | ⟨A'', d, q, q2⟩
    · rw [q] at e; exact neB c (.head _) (Value.ref.inj e).symm
    · rw [q2] at e; exact neB d (.tail _ (by rw [q]; exact List.mem_append_right _ (.head _))) (Value.ref.inj e).symm
  have lru0 : D' = [] → st.lru = .ref r.x := by rintro rfl; rw [C.lru, lastV_append (p := .none)]; rfl
  refine ⟨a.2, b.2, by rw [C.mru]; rfl, C.sub _ hml, ne m (.head _), hlru, C.sub _ hb, s1.trans hla, C.sub _ (List.mem_append_left _ haA), ne a haA, fun e => ⟨by subst e; exact s2, lru0 e⟩, ?_, ?_⟩
  · rintro c D'' rfl
    have hc : c ∈ (m :: l) ++ (k, r) :: c :: D'' := List.mem_append_right _ (.tail _ (.head _))
    refine ⟨C.sub _ hc, neB c (.head _), fun e => nd.2.2 _ (List.mem_map_of_mem (f := fun q : Ky × Rg => q.2.x) haA) c.2.x (.tail _ (.head _)) e, ?_, C.at hc, lru1 c D'' rfl⟩
    rw [s2]; exact C.key c hc
  · have mv := rec_move (F := st.F) (n := .none) (A := m :: l) (B := D') (m := m) (p := a) (r := (k, r)) (po := some a.2) (qo := D'.head?.map (·.2)) rfl hA' rfl rfl nd0 C.seg
    have pm : ((m :: l) ++ (k, r) :: D').Perm ((k, r) :: ((m :: l) ++ D')) := List.perm_middle
    refine ⟨fun q hq => C.sub q (pm.mem_iff.mpr hq), (pm.map _).nodup_iff.mp nd0, mv, rfl, ?_, fun q hq => ?_, C.od, C.perm.trans (pm.map _), C.ne⟩
    · show (if st.lru = .ref r.x then (st.F r.x).prev else st.lru) = lastV .none ((k, r) :: ((m :: l) ++ D'))
      show _ = lastV (.ref r.x) ((m :: l) ++ D')
      rw [lastV_append (p := .none)]
      show _ = lastV (lastV (.ref m.2.x) l) D'
      cases D' with
      | nil => rw [if_pos (lru0 rfl), s1]; rfl
      | cons c D' =>
        rw [if_neg (lru1 c D' rfl), C.lru, lastV_append (p := .none)]; rfl
    · show T.isK q.1 (recF st.F r.x m.2.x _ _ q.2.x).key
      rw [recF_key]; exact C.key q (pm.mem_iff.mpr hq)
end

section
variable {prog : Program} {K : Frag} {CN CL : Addr} {w : World} {g h h₁ h₂ : Heap} {L : Addr} {m : Str → Option Value} {st st₁ st₂ : LS} {A : Around} {E : Value → Shared → Prop} {s : Shared} {tk : Nat} {r : Rg} {env : Env} {Q : Flow → Shared → Prop}
theorem Ctr.trans (a : Ctr CN CL w st st₁ h h₁) (b : Ctr CN CL w st₁ st₂ h₁ h₂) : Ctr CN CL w st st₂ h h₂ := by
  refine ⟨b.rep, fun x o n e => b.keeps x o (fun q => ?_) (a.keeps x o n e), fun x hx => ?_⟩
  · rcases a.fresh x q with z | z
    · exact n z
    · rw [e] at z; cases z
  · rcases b.fresh x hx with z | z
    · exact a.fresh x z
    · by_cases hx' : x ∈ addrs st
      · exact .inl hx'
      · cases q : h.get? x with
        | none => exact .inr rfl
        | some o => rw [a.keeps x o hx' q] at z; cases z

theorem St.back2 {m' : Str → Option Value} (S : St CN CL w g L m st h₁) (kk : ∀ b o, b ∉ addrs st → h.get? b = some o → g.get? b = some o) (S' : St CN CL w g L m' st₁ h₂) (C : Ctr CN CL w st st₁ h₁ h₂) : Ctr CN CL w st st₁ h h₂ := by
  refine S'.back kk fun x hx => ?_
  rcases C.fresh x hx with z | z
  · exact .inl z
  · by_cases hx' : x ∈ addrs st
    · exact .inl hx'
    · cases q : h.get? x with
      | none => exact .inr rfl
      | some o => rw [S.F.keep x o (kk x o hx' q)] at z; cases z

theorem assert_node {e : Expr} {msg : Option Expr} {pos : Pos} (S : St CN CL w g L m st h) (X : K.In g) (he : Pv prog w A env e (.ref r.x) h) (hr : r ∈ st.reg)
    (hb : findIn K (.ref CN) "__bool__" = some none) (hl : findIn K (.ref CN) "__len__" = some none) (q : ∀ tk, Q .next (up s h tk))
    (hsh : isTrue e env (eval e env) = do
          let v ← eval e env
          standAt e.pos
          holding [v] (truthy v)) : wpAny (model prog w) A (exec (.Assert e msg pos) env) Q E (up s h tk) :=
  wpAny_Assert_holds (isTrue_plain (he.at fun tk => truthy_K0 (s := up s h tk) S.F X (S.ninst hr) hb hl ⟨rfl, q tk⟩) hsh)

/-- what stays of the cache's own -/
structure Fixd (st st' : LS) : Prop where
  c : st'.c = st.c
  dd : st'.dd = st.dd
  reg : st'.reg = st.reg
  mx : st'.mx = st.mx
  af : st'.af = st.af
  ex : st'.ex = st.ex
theorem Fixd.refl : Fixd st st := ⟨rfl, rfl, rfl, rfl, rfl, rfl⟩
theorem Fixd.trans (a : Fixd st st₁) (b : Fixd st₁ st₂) : Fixd st st₂ := ⟨b.c.trans a.c, b.dd.trans a.dd, b.reg.trans a.reg, b.mx.trans a.mx, b.af.trans a.af, b.ex.trans a.ex⟩

inductive TurnP (s : Shared) (P : Nat → Heap → Prop) (n : Nat) (f : Flow) (s' : Shared) : Prop
  | mk (e : f = .next) (n' : Nat) (h' : Heap) (tk : Nat) (hn : n' < n) (es : s' = up s h' tk) (p : P n' h')
theorem while_inv {test : Expr} {body : List Stmt} {pos : Pos} (P : Nat → Heap → Prop) (R : Heap → Prop)
    (turn : ∀ n h tk, P n h → wpAny (model prog w) A (isTrue test env (eval test env)) (fun b s₂ => WhlIf b (wpAny (model prog w) A (execs body env) (TurnP s P n) (fun _ _ => False) s₂) (∃ h' tk, s₂ = up s h' tk ∧ R h')) (fun _ _ => False) (up s h tk))
    (n : Nat) (hp : P n h) : wpAny (model prog w) A (exec (.While test body [] pos) env) (NextP s R) (fun _ _ => False) (up s h tk) := by
  refine whl_start 1 ?_
  induction n using Nat.strongRecOn generalizing h tk with
  | ind n ih =>
    refine whl_turn PassesOwn.never (wpAny_mono (turn n h tk hp) (fun b s₂ z => ?_) fun _ _ z => z)
    cases b with
    | true =>
      refine WhlIf.yes rfl ?_
      have z' : wpAny (model prog w) A (execs body env) (TurnP s P n) (fun _ _ => False) s₂ := by unfold WhlIf at z; rw [if_pos rfl] at z; exact z
      refine wpAny_mono z' (fun f s' q => ?_) fun _ _ q => q
      obtain ⟨rfl, n', h', tk', hn, rfl, hp'⟩ := q
      exact ih n' hn hp'
    | false =>
      refine WhlIf.no rfl ?_
      unfold WhlIf at z
      rw [if_neg Bool.false_ne_true] at z
      obtain ⟨h', tk', e, r⟩ := z
      exact wpAny_execs_nil ⟨rfl, h', tk', e, r⟩

theorem frames_off {base : Heap} {as : List Addr} (k : ∀ b o, b ∉ as → h.get? b = some o → g.get? b = some o) : ∀ {l : List Env}, h.FunFrames base l → (∀ env ∈ l, ∀ a ∈ as, env.frame ≠ some a) → g.FunFrames base l
  | [], _, _ => trivial
  | env :: _, ⟨hk, ⟨L, o, hf, hn, ho, hd⟩, hr⟩, hne => ⟨hk, ⟨L, o, hf, hn, k L o (fun q => hne env (.head _) L q hf) ho, hd⟩, frames_off k hr fun e he => hne e (.tail _ he)⟩
end
end Mine
namespace Mine
set_option maxRecDepth 100000
set_option maxHeartbeats 1000000

section
variable {prog : Program} {K : Frag} {CN CL C : Addr} {w : World} {g h₀ h : Heap} {L : Addr} {m : Str → Option Value} {st : LS} {A : Around} {E : Value → Shared → Prop} {s : Shared} {tk tk₀ : Nat} {r : Rg} {v : Value} {env : Env}
  {p : Program} {loose : List Str} {mg mb : Str → Option Value} {Q : Flow → Shared → Prop} {x dx f : Addr}

theorem enterN {name qual : Str} {params : Arguments} {body : List Stmt} {scope : Scope} {dV kV doc pm cdv ct oc : Value} {an od : Option Addr} {osl : Array (Option Value)} {pos : List Value} {kw : List (Str × Value)} {binds : List (Str × Value)} {R : Result → Shared → Prop} {l : List (Addr × Obj)}
    (X : K.In h₀) (T : TopRead p loose mg mb h₀) (stays : ∀ b o, h₀.get? b = some o → h.get? b = some o) (hl : ∀ q ∈ l, h.get? q.1 = some q.2 ∧ h₀.get? q.1 = none)
    (ho : K.lookup f = some ⟨oc, od, .func (fnOf name qual params body scope dV kV doc pm an cdv ct), osl⟩) (hcd : codeIn K cdv qual = true) (hroom : A.depth < recursionLimit)
    (hbind : BindsTo (up s h tk₀) (fnOf name qual params body scope dV kV doc pm an cdv ct) ⟨pos, kw⟩ binds) (hloc : ∀ y ∈ binds, scope.names.lookup y.1 = some .local)
    (hco : scope.isCoroutine = false) (hgen : scope.isGenerator = false) (hk : scope.kind = .function) (hcell : ∀ x ∈ scope.names, x.2 ≠ .cell)
    (q : ∀ g L' h₁ tk, (∀ b o, b ∉ l.map (·.1) → h.get? b = some o → g.get? b = some o) → K.In g → TopRead p loose mg mb g → Fr g L' h₁ (fun y => binds.reverse.lookup y) → News g L' h₁ l →
      wpAny (model prog w) (A.deeper (envOf qual scope L' f cdv)) (execs body (envOf qual scope L' f cdv))
        (fun fl s' => R (.ok (.ret (match fl with | .ret v => v | _ => .none))) s') (fun _ _ => False) (up s h₁ tk)) : codeAny (model prog w) A (.call (.ref f) ⟨pos, kw⟩) R (up s h tk₀) := by
  have k0 : ∀ b o, b ∉ l.map (·.1) → h.get? b = some o → (hideAll h (l.map (·.1))).get? b = some o := fun b o n e => hideAll_get _ e n
  have st0 : ∀ b o, h₀.get? b = some o → (hideAll h (l.map (·.1))).get? b = some o := fun b o e => k0 b o (fun q => by
    obtain ⟨z, hz, rfl⟩ := List.mem_map.mp q
    rw [(hl z hz).2] at e; cases e) (stays b o e)
  refine codeAny_call_def (fd := fnOf name qual params body scope dV kV doc pm an cdv ct) (body := body) (binds := binds) hroom (stays _ _ (X _ _ ho)) rfl (T.nolimit.keeps stays) (codeRec_of (X.keeps stays) hcd) rfl hbind hcell hloc (fun h₁ hns hk₁ => ?_) hco hgen hk
  refine wpAny_mono (q (hideAll h (l.map (·.1))) h.objs.size h₁ _ k0 (X.keeps st0) (T.keeps st0) ⟨hns, fun b o e => hk₁ b o (of_hideAll _ e), Nat.le_of_eq (hideAll_size _ _)⟩ fun z hz => ?_) (fun _ _ x => x) fun _ _ x => x.elim
  exact ⟨hk₁ _ _ (hl z hz).1, Nat.ne_of_lt (Heap.lt_size (hl z hz).1), hideAll_none _ (List.mem_map_of_mem hz)⟩

/-- an object that its __init__ fills -/
structure Ini (C : Addr) (g : Heap) (L : Addr) (m : Str → Option Value) (x dx : Addr) (es : List DictEntry) (n : Nat) (h : Heap) : Prop where
  F : Fr g L h m
  N : News g L h [(x, instObj C dx), (dx, dictOf es n)]
  ne : x ≠ dx
theorem as_init {es : List DictEntry} {n : Nat} {name sn : Str} {e : Expr} {pos pos' np : Pos} (I : Ini C g L m x dx es n h) (X : K.In g) (pc : PlainCls K C) (a : Attr K C name) (he : Pv prog w A env e v h) (hp : Pv prog w A env (.Name sn np) (.ref x) h) (hl : (getL name es).isSome = true)
    (hu : ∀ t, (putL name (PyData.keyHash w.params name) (.str name t) v es, putN name es n) = (es ++ [⟨PyData.keyHash w.params name, .str name t, v⟩], n + 1)) (hz : es.length + 1 ≤ 1000)
    (q : ∀ h' tk t, Ini C g L m x dx (es ++ [⟨PyData.keyHash w.params name, .str name t, v⟩]) (n + 1) h' → Q .next (up s h' tk))
    (hs : swapsWith e (some (.Attribute (.Name sn np) name pos')) pos.line env = pure false) :
    wpAny (model prog w) A (exec (.Assign [.Attribute (.Name sn np) name pos'] e pos) env) Q E (up s h tk) := by
  refine plainObj_wpAny_Assign_Attribute (he.at fun tk => hp.at fun tk' => ?_) hs
  refine set_dict (s := up s h tk') I.F X I.N (W.InstAt.of_news I.N (.head _) (.tail _ (.head _))) rfl pc.sa pc.po a.taker pc.hd hl (hu _) (Upd.tail I.ne (Upd.head fun _ h => nomatch h)) (by simpa using hz) fun h' F' N' => q h' _ _ ⟨F', N', I.ne⟩
theorem Ini.pvName {x' : Str} {pos : Pos} {cn : Str} {cs : Scope} {a : Addr} {cd : Value} {es : List DictEntry} {n : Nat} (I : Ini C g L m x dx es n h) (hv : m x' = some v) (hk : cs.kind = .function) (hl : (envOf cn cs L a cd).kindOf x' = some .local) (hd : (x' == ("__debug__" : Str)) = false) :
    Pv prog w A (envOf cn cs L a cd) (.Name x' pos) v h := fun s Q E hs q => by subst hs; exact ld I.F hv (q s.toks) hk hl hd
theorem Ini.pvGlob {x' : Str} {pos : Pos} {cn : Str} {cs : Scope} {a : Addr} {cd : Value} {es : List DictEntry} {n : Nat} (I : Ini C g L m x dx es n h) (X : K.In g) (T : TopRead p loose mg mb g) (e : nsIn K mainGlobals x' = some (some v)) (hk : cs.kind = .function) (hx : (envOf cn cs L a cd).kindOf x' = some .globalImplicit) (hd : (x' == ("__debug__" : Str)) = false) :
    Pv prog w A (envOf cn cs L a cd) (.Name x' pos) v h := fun s Q E hs q => by subst hs; exact name_K I.F X T e (q s.toks) hk hx hd

/-- the ledger stays where only two others turn -/
theorem St.keep2 {h' : Heap} {as : List Addr} (S : St CN CL w g L m st h) (k : ∀ b o, b ∉ as → h.get? b = some o → h'.get? b = some o) (nx : ∀ a ∈ as, a ∉ addrs st ∧ a ≠ L ∧ g.get? a = none) : St CN CL w g L m st h' := by
  obtain ⟨o, es, ep, ho, r⟩ := S.F.ns
  refine ⟨⟨⟨o, es, ep, k _ _ (fun q => (nx _ q).2.1 rfl) ho, r⟩, fun b o e => k b o (fun q => ?_) (S.F.keep b o e), S.F.above⟩, fun q hq => ⟨k _ _ (fun z => (nx _ z).1 ?_) (S.N q hq).1, (S.N q hq).2⟩, S.wf, S.ok⟩
  · rw [(nx _ q).2.2] at e; cases e
  · rw [← ledger_addrs CN CL w.params]; exact List.mem_map_of_mem hq
/-- the new node joins the ledger -/
theorem St.join {f : NF} {t : Nat → Tok} (S : St CN CL w g L m st h) (nx : x ∉ addrs st) (ndx : dx ∉ addrs st) (ne : x ≠ dx) (hf : NFok f)
    (N : News g L h [(x, instObj CN dx), (dx, dictOf (nodeEs w.params t f) 6)]) :
    St CN CL w g L m { st with reg := ⟨x, dx, t⟩ :: st.reg, F := setF st.F x f } h := by
  have nx0 := nx
  simp only [addrs, List.mem_cons, not_or, List.mem_append] at nx
  refine ⟨S.F, fun q hq => ?_, ?_, ⟨setF_ok S.ok.F hf, S.ok.mru, S.ok.lru, S.ok.mx, S.ok.af⟩⟩
  · have e1 : setF st.F x f x = f := setF_self
    have hq : q ∈ (st.c, instObj CL st.dc) :: (st.dc, dictOf (cacheEs w.params st.ct st.dd st.mru st.lru st.mx st.af) 5) :: (st.dd, st.od) :: (((x, instObj CN dx) :: (dx, dictOf (nodeEs w.params t (setF st.F x f x)) 6) :: nodeL CN w.params (setF st.F x f) st.reg) ++ st.ex) := hq
    rw [e1, nodeL_other CN w.params st.F x f st.reg nx.2.2.2.1] at hq
    simp only [List.mem_cons, List.cons_append] at hq
    rcases hq with rfl | rfl | rfl | rfl | rfl | hq
    · exact S.N _ (.head _)
    · exact S.N _ (.tail _ (.head _))
    · exact S.N _ (.tail _ (.tail _ (.head _)))
    · exact N _ (.head _)
    · exact N _ (.tail _ (.head _))
    · exact S.N _ (.tail _ (.tail _ (.tail _ hq)))
  · show (st.c :: st.dc :: st.dd :: ((x :: dx :: regAddrs st.reg) ++ st.ex.map (·.1))).Nodup
    have pm : (st.c :: st.dc :: st.dd :: ((x :: dx :: regAddrs st.reg) ++ st.ex.map (·.1))).Perm (x :: dx :: addrs st) := by
      have p0 : (st.c :: st.dc :: st.dd :: x :: dx :: (regAddrs st.reg ++ st.ex.map (·.1))).Perm (x :: dx :: st.c :: st.dc :: st.dd :: (regAddrs st.reg ++ st.ex.map (·.1))) := by
        have : ([st.c, st.dc, st.dd] ++ ([x, dx] ++ (regAddrs st.reg ++ st.ex.map (·.1)))).Perm ([x, dx] ++ ([st.c, st.dc, st.dd] ++ (regAddrs st.reg ++ st.ex.map (·.1)))) := by
          generalize regAddrs st.reg ++ st.ex.map (·.1) = Z
          rw [← List.append_assoc [st.c, st.dc, st.dd] [x, dx] Z, ← List.append_assoc [x, dx] [st.c, st.dc, st.dd] Z]
          exact List.Perm.append_right _ List.perm_append_comm
        exact this
      exact p0
    rw [pm.nodup_iff, List.nodup_cons, List.nodup_cons]
    refine ⟨fun q => ?_, ndx, S.wf⟩
    rcases List.mem_cons.mp q with q | q
    · exact ne q
    · exact nx0 q

/-- what stays of the cache's own where nodes may be made -/
structure FixA (st st' : LS) : Prop where
  c : st'.c = st.c
  dd : st'.dd = st.dd
  mx : st'.mx = st.mx
  af : st'.af = st.af
  ex : st'.ex = st.ex
theorem Fixd.a {st st' : LS} (f : Fixd st st') : FixA st st' := ⟨f.c, f.dd, f.mx, f.af, f.ex⟩
theorem FixA.trans {st st₁ st₂ : LS} (a : FixA st st₁) (b : FixA st₁ st₂) : FixA st st₂ := ⟨b.c.trans a.c, b.dd.trans a.dd, b.mx.trans a.mx, b.af.trans a.af, b.ex.trans a.ex⟩

section
variable {Ky : Type} [DecidableEq Ky] {T : DT prog w K Ky} {kvs : List (Ky × Value)} {k : Ky} {key : Value} {ord : List (Ky × Rg)}
/-- links and keys as they were -/
theorem Cst.congr {F' : Addr → NF} (C : Cst T st ord kvs) (h : ∀ y, (F' y).prev = (st.F y).prev ∧ (F' y).next = (st.F y).next ∧ (F' y).key = (st.F y).key) : Cst T { st with F := F' } ord kvs :=
  ⟨C.sub, C.nd, C.seg.frame (fun y => (h y).2.2) fun a _ => ⟨(h a.2.x).1, (h a.2.x).2.1⟩, C.mru, C.lru, fun a ha => by show T.isK _ (F' _).key; rw [(h _).2.2]; exact C.key a ha, C.od, C.perm, C.ne⟩

/-- if key in self._cache -/
theorem if_in {l r : Expr} {body orelse : List Stmt} {pos pos' : Pos} (S : St CN CL w g L m st h) (X : K.In g) (hu : A.units + 8 < cLine) (hl : Pv prog w A env l key h) (hr : Pv prog w A env r (.ref st.dd) h) (hk : T.isK k key) (hd : OD T st.od kvs) (hs : (st.dd == sysModules) = false)
    (ht : (valueAt kvs k).isSome = true → ∀ tk, wpAny (model prog w) A (execs body env) Q E (up s h tk)) (hf : (valueAt kvs k).isSome = false → ∀ tk, wpAny (model prog w) A (execs orelse env) Q E (up s h tk))
    (hm : behindInMarks .In r = false) :
    wpAny (model prog w) A (exec (.If (.Compare l [.In] [r] pos') body orelse pos) env) Q E (up s h tk) := by
  refine wpAny_If (wpAny_isTrue_Compare1 (hl.at fun tk => hr.at fun tk' => ?_) hm)
  refine hd.isIn (s := up s h tk') (X.keeps S.F.keep) hu hk S.dget hs fun tk2 => ?_
  refine wpAny_truthy_bool ?_
  cases hv : (valueAt kvs k).isSome with
  | true => rw [if_pos rfl]; exact ht hv _
  | false => rw [if_neg Bool.false_ne_true]; exact hf hv _

/-- o[i] = e, o the dict -/
theorem as_item {o i e : Expr} {pos pos' : Pos} (S : St CN CL w g L m st h) (X : K.In g) (hu : A.units + 8 < cLine) (he : Pv prog w A env e v h) (ho : Pv prog w A env o (.ref st.dd) h) (hi : Pv prog w A env i key h) (hk : T.isK k key) (hd : OD T st.od kvs) (hz : kvs.length ≤ 100000)
    (q : ∀ h' o' tk, OD T o' (stored kvs k v) → St CN CL w g L m { st with od := o' } h' → Q .next (up s h' tk))
    (hs : swapsWith e (some (o.Subscript i pos')) pos.line env = pure false) : wpAny (model prog w) A (exec (.Assign [o.Subscript i pos'] e pos) env) Q E (up s h tk) :=
  wpAny_Assign_Subscript (he.at fun tk => ho.at fun tk' => hi.at fun tk2 => hd.setItem (s := up s h tk2) (X.keeps S.F.keep) hu hk S.dget hz fun h' o' tk3 a b c => q h' o' tk3 c (S.setOd a b)) hs

/-- if len(o) > n -/
theorem if_gt {l r : Expr} {a b : Int} {tb : Tok} {body orelse : List Stmt} {pos pos' : Pos} (hl : PvE prog w A env l (fun v => ∃ t, v = .int a t) h) (hr : Pv prog w A env r (.int b tb) h)
    (ht : b < a → ∀ tk, wpAny (model prog w) A (execs body env) Q E (up s h tk)) (hf : ¬ b < a → ∀ tk, wpAny (model prog w) A (execs orelse env) Q E (up s h tk))
    (hm : behindInMarks .Gt r = false) :
    wpAny (model prog w) A (exec (.If (.Compare l [.Gt] [r] pos') body orelse pos) env) Q E (up s h tk) := by
  refine wpAny_If (wpAny_isTrue_Compare1 (hl.at fun v tk hv => hr.at fun tk' => ?_) hm)
  obtain ⟨t, rfl⟩ := hv
  refine gt_int ?_
  refine wpAny_truthy_bool ?_
  by_cases hab : b < a
  · rw [decide_eq_true hab, if_pos rfl]; exact ht hab _
  · rw [decide_eq_false hab, if_neg Bool.false_ne_true]; exact hf hab _
end
end
end Mine
namespace Mine
set_option maxRecDepth 100000
set_option maxHeartbeats 1000000

section
variable {prog : Program} {K : Frag} {CN CL C : Addr} {w : World} {g h₀ h : Heap} {L : Addr} {m : Str → Option Value} {st : LS} {A : Around} {E : Value → Shared → Prop} {s : Shared} {tk tk₀ : Nat} {r : Rg} {v : Value} {env : Env}
  {Q : Flow → Shared → Prop}

noncomputable def IsI (a : Int) (v : Value) : Prop := ∃ t, v = .int a t
noncomputable def PvI (prog : Program) (w : World) (A : Around) (env : Env) (e : Expr) (a : Int) (h : Heap) : Prop := PvE prog w A env e (IsI a) h
theorem PvI.const {i : Int} {k : Nat} {pos : Pos} : PvI prog w A env (.Constant (.int i) k pos) i h := fun s Q E hs q =>
  wpAny_Constant_int (q _ _ ⟨_, rfl⟩)
theorem PvI.of {e : Expr} {a : Int} {t : Tok} (hp : Pv prog w A env e (.int a t) h) : PvI prog w A env e a h := PvE.of hp ⟨_, rfl⟩
theorem PvI.ofI {e : Expr} {a : Int} (hp : Pv prog w A env e v h) (hv : IsI a v) : PvI prog w A env e a h := PvE.of hp hv
theorem PvI.eq {e : Expr} {a b : Int} (hp : PvI prog w A env e a h) (q : a = b) : PvI prog w A env e b h := q ▸ hp
theorem PvI.mul {l r : Expr} {a b : Int} {pos : Pos} (hl : PvI prog w A env l a h) (hr : PvI prog w A env r b h) (hm : IntMulOk a b) : PvI prog w A env (.BinOp l .Mult r pos) (a * b) h := fun s Q E hs q => by
  refine wpAny_BinOp (hl _ _ _ hs fun v tk hv => hr _ _ _ hs fun v' tk' hv' => ?_)
  obtain ⟨t, rfl⟩ := hv
  obtain ⟨t', rfl⟩ := hv'
  exact mul_int (q _ _ ⟨_, rfl⟩) hm
theorem PvI.add {l r : Expr} {a b : Int} {pos : Pos} (hl : PvI prog w A env l a h) (hr : PvI prog w A env r b h) : PvI prog w A env (.BinOp l .Add r pos) (a + b) h := fun s Q E hs q => by
  refine wpAny_BinOp (hl _ _ _ hs fun v tk hv => hr _ _ _ hs fun v' tk' hv' => ?_)
  obtain ⟨t, rfl⟩ := hv
  obtain ⟨t', rfl⟩ := hv'
  exact add_int (q _ _ ⟨_, rfl⟩)
theorem PvI.mod {l r : Expr} {a b : Int} {pos : Pos} (hl : PvI prog w A env l a h) (hr : PvI prog w A env r b h) (hb : b ≠ 0) : PvI prog w A env (.BinOp l .Mod r pos) (a.fmod b) h := fun s Q E hs q => by
  refine wpAny_BinOp (hl _ _ _ hs fun v tk hv => hr _ _ _ hs fun v' tk' hv' => ?_)
  obtain ⟨t, rfl⟩ := hv
  obtain ⟨t', rfl⟩ := hv'
  exact mod_int hb (q _ _ ⟨_, rfl⟩)
theorem PvI.fdiv {l r : Expr} {a b : Int} {pos : Pos} (hl : PvI prog w A env l a h) (hr : PvI prog w A env r b h) (hb : b ≠ 0) (hs : b.natAbs < 1073741824) : PvI prog w A env (.BinOp l .FloorDiv r pos) (a.fdiv b) h := fun s Q E hs' q => by
  refine wpAny_BinOp (hl _ _ _ hs' fun v tk hv => hr _ _ _ hs' fun v' tk' hv' => ?_)
  obtain ⟨t, rfl⟩ := hv
  obtain ⟨t', rfl⟩ := hv'
  exact floordiv_int hb (q _ _ ⟨_, rfl⟩) (hp := .inl (PyProof.noPylong_small hs))

/-- the tests of ints -/
inductive ICmp : CmpOp → (Int → Int → Bool) → Prop
  | lt : ICmp .Lt fun a b => decide (a < b)
  | gt : ICmp .Gt fun a b => decide (b < a)
  | eq : ICmp .Eq fun a b => a == b
  | ne : ICmp .NotEq fun a b => a != b
theorem ICmp.wp {op : CmpOp} {f : Int → Int → Bool} (c : ICmp op f) {M : Model} {a b : Int} {t u : Tok} {Q E : Value → Shared → Prop} (q : Q (.bool (f a b)) s) : wpAny (model prog w) A (compareOp op (.int a t) (.int b u)) Q E s := by
  cases c with
  | lt => exact lt_int q
  | gt => exact gt_int q
  | eq => exact eq_int q
  | ne => exact ne_int q
theorem if_int {l r : Expr} {a b : Int} {op : CmpOp} {f : Int → Int → Bool} {body orelse : List Stmt} {pos pos' : Pos} (c : ICmp op f) (hl : PvI prog w A env l a h) (hr : PvI prog w A env r b h)
    (ht : f a b = true → ∀ tk, wpAny (model prog w) A (execs body env) Q E (up s h tk)) (hf : f a b = false → ∀ tk, wpAny (model prog w) A (execs orelse env) Q E (up s h tk))
    (hm : behindInMarks op r = false) :
    wpAny (model prog w) A (exec (.If (.Compare l [op] [r] pos') body orelse pos) env) Q E (up s h tk) := by
  refine wpAny_If (wpAny_isTrue_Compare1 (PvE.at hl fun v tk hv => PvE.at hr fun v' tk' hv' => ?_) hm)
  obtain ⟨t, rfl⟩ := hv
  obtain ⟨t', rfl⟩ := hv'
  refine c.wp (M := model prog w) (wpAny_truthy_bool ?_)
  cases hc : f a b with
  | true => rw [if_pos rfl]; exact ht hc _
  | false => rw [if_neg Bool.false_ne_true]; exact hf hc _

/-- x.name = e, of a value of a kind -/
theorem as_cacheE {o e : Expr} {name : Str} {pos pos' : Pos} {fld : LS → Value} {upd : LS → Value → LS} {P : Value → Prop} (S : St CN CL w g L m st h) (X : K.In g) (pc : PlainCls K CL)
    (he : PvE prog w A env e P h) (hp : Pv prog w A env o (.ref st.c) h) (n : CAt K CL name fld upd) (hv : ∀ v, P v → Nb v)
    (q : ∀ v, P v → ∀ h' tk, St CN CL w g L m (upd st v) h' → Q .next (up s h' tk))
    (hs : swapsWith e (some (.Attribute o name pos')) pos.line env = pure false) :
    wpAny (model prog w) A (exec (.Assign [.Attribute o name pos'] e pos) env) Q E (up s h tk) := by
  refine plainObj_wpAny_Assign_Attribute (he.at fun v tk hP => hp.at fun tk' => ?_) hs
  exact set_cache (s := up s h tk') S X pc n.at_ (n.get _ _) (fun _ _ => n.put _ _ _ _ _) (n.put' _ _) (n.okU _ _ S.ok (hv _ hP)) fun h' tk'' S' => q _ hP h' tk'' S'
theorem IsI.nb {a : Int} {v : Value} (h : IsI a v) : Nb v := by obtain ⟨t, rfl⟩ := h; exact Nb.int

theorem ret_E {e : Expr} {P : Value → Prop} {pos : Pos} (hp : PvE prog w A env e P h) (q : ∀ v tk, P v → Q (.ret v) (up s h tk)) : wpAny (model prog w) A (exec (.Return (some e) pos) env) Q E (up s h tk) :=
  wpAny_Return_some (hp.at q)

section
variable {Ky : Type} [DecidableEq Ky] {T : DT prog w K Ky} {kvs : List (Ky × Value)} {k : Ky} {key : Value}
/-- key in o, o the dict -/
theorem Pv.isIn {l r : Expr} {pos : Pos} (S : St CN CL w g L m st h) (X : K.In g) (hu : A.units + 8 < cLine) (hl : Pv prog w A env l key h) (hr : Pv prog w A env r (.ref st.dd) h) (hk : T.isK k key) (hd : OD T st.od kvs) (hs : (st.dd == sysModules) = false) (hm : behindInMarks .In r = false) :
    Pv prog w A env (.Compare l [.In] [r] pos) (.bool (valueAt kvs k).isSome) h := fun s Q E hs' q => by
  subst hs'
  refine wpAny_Compare1 (hl _ _ _ rfl fun tk => hr _ _ _ rfl fun tk' => ?_) hm
  exact hd.isIn (s := { s with toks := tk' }) (X.keeps S.F.keep) hu hk S.dget hs fun tk2 => q tk2
end
end
end Mine
namespace Mine
set_option maxRecDepth 100000
set_option maxHeartbeats 1000000

section
variable {prog : Program} {K : Frag} {CN CL C : Addr} {w : World} {g h₀ h : Heap} {L : Addr} {m : Str → Option Value} {st : LS} {A : Around} {E : Value → Shared → Prop} {s : Shared} {tk tk₀ : Nat} {r : Rg} {v v2 : Value} {env : Env}
  {p : Program} {loose : List Str} {mg mb : Str → Option Value} {Q : Flow → Shared → Prop} {x dx f : Addr} {es : List DictEntry} {n : Nat} {ox : Obj} {name kn : Str} {apos pos kp : Pos} {o e e2 : Expr}

/-- o.name(e, kn=e2) as an expression -/
theorem ev_mk1 {Q : Value → Shared → Prop} (hp : Pv prog w A env o (.ref x) h) (he : Pv prog w A env e v h) (he2 : Pv prog w A env e2 v2 h) (I : W.InstAt h x ox C (some (dictOf es n))) (X : K.In h) (pc : PlainCls K C) (hf : findIn K (.ref C) name = some (some (.ref f)))
    (ht : typeIn K (.ref f) = some (.type "function")) (hkeep : keepIn K (.ref f) = true) (hl : getL name es = some none)
    (q : ∀ tk, wpAny (model prog w) A (call (.ref f) [.ref x, v] [(kn, v2)]) Q E (up s h tk)) {pl : Sem Bool}
    (hst : starEach [e] env = (false, eval e env) :: starEach [] env)
    (hpl : ((backTo pos (starEach [e] env)).any (·.1) || (backToKw pos (keywordEach [⟨some kn, e2, kp⟩] env)).any (·.1.isNone)) = false)
    (hall : (backToKw pos (keywordEach [⟨some kn, e2, kp⟩] env)).all (·.1.isSome) = true)
    (hsh : eval (.Call (.Attribute o name apos) [e] [⟨some kn, e2, kp⟩] pos) env = (do
      let ov ← eval o env
      standAt apos.atName
      let (f, first) ← holding [ov] (getMethod ov name pl)
      callWith pos f first (backTo pos (starEach [e] env)) (backToKw pos (keywordEach [⟨some kn, e2, kp⟩] env)))) :
    wpAny (model prog w) A (eval ((o.Attribute name apos).Call [e] [⟨some kn, e2, kp⟩] pos) env) Q E (up s h tk) := by
  refine methodCall_KW (hp.at fun tk => ?_) hsh
  refine method_fn (s := up s h tk) X I pc.ga pc.gt hf ht (by show (lookIn name (dictOf es n)).map _ = _; rw [lookIn_dict, hl]; rfl) ?_
  refine callWith_KW X hkeep hall (spliced_more (he.at fun tk2 => spliced_none ?_) hst) hpl hst
  exact kws_cons (he2.at fun tk4 => kws_nil ⟨X, q tk4⟩)
/-- o.name(e, e2) as an expression -/
theorem ev_m2 {Q : Value → Shared → Prop} (hp : Pv prog w A env o (.ref x) h) (he : Pv prog w A env e v h) (he2 : Pv prog w A env e2 v2 h) (I : W.InstAt h x ox C (some (dictOf es n))) (X : K.In h) (pc : PlainCls K C) (hf : findIn K (.ref C) name = some (some (.ref f)))
    (ht : typeIn K (.ref f) = some (.type "function")) (hkeep : keepIn K (.ref f) = true) (hl : getL name es = some none)
    (q : ∀ tk, wpAny (model prog w) A (call (.ref f) [.ref x, v, v2]) Q E (up s h tk)) {pl : Sem Bool}
    (hst : starEach [e, e2] env = (false, eval e env) :: starEach [e2] env) (hst2 : starEach [e2] env = (false, eval e2 env) :: starEach [] env) (hpl : (backTo pos (starEach [e2] env)).any (·.1) = false)
    (hsh : (eval ((o.Attribute name apos).Call [e, e2] [] pos) env = do
          let ov ← eval o env
          standAt apos.atName
          let __x ← holding [ov] (getMethod ov name pl)
          match __x with
            | (f, first) => callWith pos f first (backTo pos (starEach [e, e2] env)) [])) :
    wpAny (model prog w) A (eval ((o.Attribute name apos).Call [e, e2] [] pos) env) Q E (up s h tk) :=
  meth (f := f) (x := x) (hp.at fun tk => ⟨rfl, X, I, spliced_more (he.at fun tk' => spliced_more (he2.at fun tk'' => spliced_none ⟨X, q tk''⟩) hst2) hst⟩) pc hf ht hkeep hl hst hpl hsh

/-- an object that its __init__ fills, with others beside -/
structure IniX (C : Addr) (g : Heap) (L : Addr) (m : Str → Option Value) (x dx : Addr) (es : List DictEntry) (n : Nat) (ex : List (Addr × Obj)) (h : Heap) : Prop where
  F : Fr g L h m
  N : News g L h ((x, instObj C dx) :: (dx, dictOf es n) :: ex)
  ne : x ≠ dx
  off : ∀ q ∈ ex, q.1 ≠ dx ∧ q.1 ≠ x
theorem as_iniX {ex : List (Addr × Obj)} {sn : Str} {pos' np : Pos} (I : IniX C g L m x dx es n ex h) (X : K.In g) (pc : PlainCls K C) (a : Attr K C name) (he : Pv prog w A env e v h) (hp : Pv prog w A env (.Name sn np) (.ref x) h) (hl : (getL name es).isSome = true)
    (hu : ∀ t, (putL name (PyData.keyHash w.params name) (.str name t) v es, putN name es n) = (es ++ [⟨PyData.keyHash w.params name, .str name t, v⟩], n + 1)) (hz : es.length + 1 ≤ 1000)
    (q : ∀ h' tk t, IniX C g L m x dx (es ++ [⟨PyData.keyHash w.params name, .str name t, v⟩]) (n + 1) ex h' → Q .next (up s h' tk))
    (hs : swapsWith e (some (.Attribute (.Name sn np) name pos')) pos.line env = pure false) :
    wpAny (model prog w) A (exec (.Assign [.Attribute (.Name sn np) name pos'] e pos) env) Q E (up s h tk) := by
  refine plainObj_wpAny_Assign_Attribute (he.at fun tk => hp.at fun tk' => ?_) hs
  refine set_dict (s := up s h tk') I.F X I.N (W.InstAt.of_news I.N (.head _) (.tail _ (.head _))) rfl pc.sa pc.po a.taker pc.hd hl (hu _) (Upd.tail I.ne (Upd.head fun q hq => (I.off q hq).1)) (by simpa using hz) fun h' F' N' => q h' _ _ ⟨F', N', I.ne, I.off⟩
theorem as_iniE {ex : List (Addr × Obj)} {sn : Str} {pos' np : Pos} {P : Value → Prop} (I : IniX C g L m x dx es n ex h) (X : K.In g) (pc : PlainCls K C) (a : Attr K C name) (he : PvE prog w A env e P h) (hp : Pv prog w A env (.Name sn np) (.ref x) h) (hl : (getL name es).isSome = true)
    (hu : ∀ v t, (putL name (PyData.keyHash w.params name) (.str name t) v es, putN name es n) = (es ++ [⟨PyData.keyHash w.params name, .str name t, v⟩], n + 1)) (hz : es.length + 1 ≤ 1000)
    (q : ∀ v, P v → ∀ h' tk t, IniX C g L m x dx (es ++ [⟨PyData.keyHash w.params name, .str name t, v⟩]) (n + 1) ex h' → Q .next (up s h' tk))
    (hs : swapsWith e (some (.Attribute (.Name sn np) name pos')) pos.line env = pure false) :
    wpAny (model prog w) A (exec (.Assign [.Attribute (.Name sn np) name pos'] e pos) env) Q E (up s h tk) := by
  refine plainObj_wpAny_Assign_Attribute (he.at fun v tk hv => hp.at fun tk' => ?_) hs
  refine set_dict (s := up s h tk') I.F X I.N (W.InstAt.of_news I.N (.head _) (.tail _ (.head _))) rfl pc.sa pc.po a.taker pc.hd hl (hu _ _) (Upd.tail I.ne (Upd.head fun q hq => (I.off q hq).1)) (by simpa using hz) fun h' F' N' => q v hv h' _ _ ⟨F', N', I.ne, I.off⟩
/-- x.name = {} -/
theorem as_iniD {sn : Str} {pos' np dp : Pos} (I : IniX C g L m x dx es n [] h) (X : K.In g) (pc : PlainCls K C) (a : Attr K C name) (hp : ∀ h, IniX C g L m x dx es n [] h → Pv prog w A env (.Name sn np) (.ref x) h) (hl : (getL name es).isSome = true)
    (hu : ∀ v t, (putL name (PyData.keyHash w.params name) (.str name t) v es, putN name es n) = (es ++ [⟨PyData.keyHash w.params name, .str name t, v⟩], n + 1)) (hz : es.length + 1 ≤ 1000)
    (q : ∀ h' tk t dd, L < dd → IniX C g L m x dx (es ++ [⟨PyData.keyHash w.params name, .str name t, .ref dd⟩]) (n + 1) [(dd, dictOf [] 0)] h' → Q .next (up s h' tk))
    (hs : swapsWith (.Dict [] [] dp) (some (.Attribute (.Name sn np) name pos')) pos.line env = pure false) :
    wpAny (model prog w) A (exec (.Assign [.Attribute (.Name sn np) name pos'] (.Dict [] [] dp) pos) env) Q E (up s h tk) := by
  refine plainObj_wpAny_Assign_Attribute ?_ hs
  refine wpAny_Dict_empty ?_
  have kx := fun b o (e : h.get? b = some o) => Heap.get?_push_of_some { cls := .type "dict", data := .dict #[] } e
  have fr : g.get? h.objs.size = none := next_is_new I.F
  have nL : h.objs.size ≠ L := (Nat.ne_of_lt I.F.ns.lt).symm
  have nn : ∀ q ∈ [(x, instObj C dx), (dx, dictOf es n)], q.1 ≠ h.objs.size := fun q hq => Nat.ne_of_lt (Heap.lt_size (I.N q hq).1)
  have I2 : IniX C g L m x dx es n [(h.objs.size, dictOf [] 0)] (h.push { cls := .type "dict", data := .dict #[] }) := by
    refine ⟨I.F.push _, fun q hq => ?_, I.ne, fun q hq => ?_⟩
    · simp only [List.mem_cons, List.not_mem_nil, or_false] at hq
      rcases hq with rfl | rfl | rfl
      · exact ⟨kx _ _ (I.N _ (.head _)).1, (I.N _ (.head _)).2⟩
      · exact ⟨kx _ _ (I.N _ (.tail _ (.head _))).1, (I.N _ (.tail _ (.head _))).2⟩
      · exact ⟨Heap.get?_push_size _ rfl, nL, fr⟩
    · rw [List.mem_singleton.mp hq]
      exact ⟨(nn _ (.tail _ (.head _))).symm, (nn _ (.head _)).symm⟩
  have I3 : IniX C g L m x dx es n [] (h.push { cls := .type "dict", data := .dict #[] }) := ⟨I2.F, fun q hq => I2.N q (by
    simp only [List.mem_cons, List.not_mem_nil, or_false] at hq ⊢
    rcases hq with rfl | rfl
    · exact .inl rfl
    · exact .inr (.inl rfl)), I.ne, fun q hq => nomatch hq⟩
  refine Pv.at (s := s) (tk := tk) (hp _ I3) fun tk' => ?_
  refine set_dict (s := up s (h.push { cls := .type "dict", data := .dict #[] }) tk') I2.F X I2.N (W.InstAt.of_news I2.N (.head _) (.tail _ (.head _))) rfl pc.sa pc.po a.taker pc.hd hl (hu _ _) (Upd.tail I.ne (Upd.head fun q hq => (I2.off q hq).1)) (by simpa using hz) fun h' F' N' => q h' _ _ _ I.F.ns.lt ⟨F', N', I.ne, I2.off⟩
theorem IniX.pvName {ex : List (Addr × Obj)} {x' : Str} {pos : Pos} {cn : Str} {cs : Scope} {a : Addr} {cd : Value} (I : IniX C g L m x dx es n ex h) (hv : m x' = some v) (hk : cs.kind = .function) (hl : (envOf cn cs L a cd).kindOf x' = some .local) (hd : (x' == ("__debug__" : Str)) = false) :
    Pv prog w A (envOf cn cs L a cd) (.Name x' pos) v h := fun s Q E hs q => by subst hs; exact ld I.F hv (q s.toks) hk hl hd
theorem IniX.attr {ex : List (Addr × Obj)} {env : Env} {pos : Pos} (I : IniX C g L m x dx es n ex h) (X : K.In g) (pc : PlainCls K C) (hp : Pv prog w A env o (.ref x) h) (a : Attr K C name) (hl : getL name es = some (some v)) (hv : Nb v)
    (hsh : eval (o.Attribute name pos) env = (do
          let ov ← eval o env
          standAt pos.atName
          let r ← holding [ov] (getAttr ov name true)
          letTemporaryGo o ov r
          pure r)) : Pv prog w A env (o.Attribute name pos) v h := fun s Q E hs q => by
  subst hs
  refine attr_any (hp _ _ _ rfl fun tk => ?_) hsh
  exact get_value (s := { s with toks := tk }) (X.keeps I.F.keep) (W.InstAt.of_news I.N (.head _) (.tail _ (.head _))) pc.ga (findObj_own pc.hd a.no rfl hl) hv.handed (q _)
end
end Mine
namespace Mine
set_option maxRecDepth 100000
set_option maxHeartbeats 1000000

section
variable {prog : Program} {w : World} {K : Frag}
theorem eok_keys {es : List DictEntry} {kvs : List (Int × Value)} (h : EOk (fun k v => (intKind prog w).is k v = true) (intKind prog w).hash es kvs) : Pairs (intKind prog w) es kvs ∧ ∀ e ∈ es, ∃ k, (intKind prog w).is k e.key = true ∧ e.hash = (intKind prog w).hash k := by
  induction h with
  | nil => exact ⟨.nil, fun e he => nomatch he⟩
  | cons h1 h2 h3 _ ih => exact ⟨.cons h1 h3 ih.1, fun e he => (List.mem_cons.mp he).elim (fun q => ⟨_, q ▸ h1, q ▸ h2⟩) (ih.2 e)⟩
theorem eok_keysOf {es : Array DictEntry} {kvs : List (Int × Value)} (h : EOk (fun k v => (intKind prog w).is k v = true) (intKind prog w).hash es.toList kvs) : KeysOf (intKind prog w) es :=
  fun e he => (eok_keys h).2 e (Array.mem_toList_iff.mpr he)

theorem arr_idx {es : Array DictEntry} {f : DictEntry → Bool} : es.findIdx? f = es.toList.findIdx? f := by obtain ⟨l⟩ := es; simp
/-- keys that are ints -/
noncomputable def TI (prog : Program) (w : World) (K : Frag) : DT prog w K Int where
  isK := fun k v => (intKind prog w).is k v = true
  hash := (intKind prog w).hash
  nb := fun h => by obtain ⟨t, rfl⟩ := Value.isInt_shape h; exact Nb.int
  notNone := fun h e => by obtain ⟨t, rfl⟩ := Value.isInt_shape h; cases e
  pyHash := fun _ _ hk q => (intKind prog w).pyHash hk (q _)
  find := fun _ _ hk ho hd he hn q => wpAny_dictFind_of hk ho hd (eok_keysOf he) (by
    rw [arr_idx, (eok_keys he).1.findIdx]; exact q)
theorem TI.isK_int {k : Int} {t : Tok} : (TI prog w K).isK k (.int k t) := intKind_is prog w k t
theorem TI.shape {k : Int} {v : Value} (h : (TI prog w K).isK k v) : IsI k v := Value.isInt_shape h

theorem OD.dictAt {h : Heap} {d : Addr} {o : Obj} {kvs : List (Int × Value)} (hd : OD (TI prog w K) o kvs) (ho : h.get? d = some o) : ∃ ep, h.DictAt (intKind prog w) d kvs ep :=
  let ⟨hx, es, ep, hdat, he, hn⟩ := hd
  ⟨ep, o, es, ho, hx, hdat, eok_keysOf he, (eok_keys he).1, hn⟩
end

section
variable {prog : Program} {K : Frag} {CN CL C : Addr} {w : World} {g h₀ h h' : Heap} {L : Addr} {m : Str → Option Value} {st : LS} {A : Around} {E : Value → Shared → Prop} {s : Shared} {tk tk₀ : Nat} {r : Rg} {v v2 : Value} {env : Env}

noncomputable def Grow (h h' : Heap) : Prop := ∀ b o, h.get? b = some o → h'.get? b = some o
theorem Grow.refl : Grow h h := fun _ _ e => e
theorem Grow.trans {h2 : Heap} (a : Grow h h') (b : Grow h' h2) : Grow h h2 := fun x o e => b x o (a x o e)
theorem Grow.push {o : Obj} : Grow h (h.push o) := fun _ _ e => Heap.get?_push_of_some _ e
theorem St.grow (S : St CN CL w g L m st h) (k : Grow h h') : St CN CL w g L m st h' := by
  obtain ⟨o, es, ep, ho, r⟩ := S.F.ns
  exact ⟨⟨⟨o, es, ep, k _ _ ho, r⟩, fun b o e => k b o (S.F.keep b o e), S.F.above⟩, fun q hq => ⟨k _ _ (S.N q hq).1, (S.N q hq).2⟩, S.wf, S.ok⟩

theorem cd_loop {kx vx target iter : Expr} {scope : Scope} {pos : Pos} {it : Value} {D : Addr} {env : Env} {R : Result → Shared → Prop} (I : Nat → Shared → Prop)
    (turn : ∀ n s, I n s → wpAny (model prog w) A (pyNext it) (fun r s₁ => match r with
      | none => R (.ok .next) s₁
      | some v => wpAny (model prog w) A (letOwnedTupleGo target it v) (fun _ s₀ => wpAny (model prog w) A (assign target env v) (fun _ s₂ =>
          wpAny (model prog w) A (eval kx env) (fun kv s₄ => wpAny (model prog w) A (eval vx env) (fun vv s₅ =>
            wpAny (model prog w) A (dictSet D kv vv) (fun _ s₆ => ∃ m, m < n ∧ I m s₆) (notedBy (model prog w) A env fun e s' => R (.error e) s') s₅) (notedBy (model prog w) A env fun e s' => R (.error e) s') s₄) (notedBy (model prog w) A env fun e s' => R (.error e) s') s₂)
          (notedBy (model prog w) A env fun e s' => R (.error e) s') s₀) (notedBy (model prog w) A env fun e s' => R (.error e) s') s₁) (notedBy (model prog w) A env fun e s' => R (.error e) s') s)
    (n : Nat) (h : I n s) : codeAny (model prog w) A (.compLoop (.DictComp kx vx [⟨target, iter, [], 0⟩] scope pos) 0 it (.ref D) env) R s := by
  refine codeAny_loop rfl I (fun n s hI => ?_) n h
  show wpAny _ A ((compTurn (.DictComp kx vx [⟨target, iter, [], 0⟩] scope pos) 0 it (.ref D) env).onRaise (fun x => do noteFrame x env; theTreesLotGoes x)) _ _ s
  refine wpAny_noted ?_
  rw [compTurn_dict]
  refine wpAny_bind (wpAny_standAt (wpAny_bind (wpAny_mono (turn n s hI) (fun r s₁ h₁ => ?_) fun _ _ h' => h')))
  cases r with
  | none => exact wpAny_pure h₁
  | some v =>
    refine wpAny_bind (wpAny_mono h₁ (fun _ s₀ h₀' => ?_) fun _ _ h' => h')
    refine wpAny_bind (wpAny_mono h₀' (fun _ s₂ h₂ => ?_) fun _ _ h' => h')
    refine wpAny_bind (wpAny_tests_nil ?_)
    exact wpAny_bind (wpAny_bind (wpAny_mono h₂ (fun kv s₄ h₄ => wpAny_bind (wpAny_holding (wpAny_mono h₄ (fun vv s₅ h₅ => wpAny_bind (wpAny_standAt (wpAny_holding (wpAny_mono h₅ (fun _ s₆ h₆ => wpAny_pure ⟨rfl, h₆⟩) fun _ _ h' => h')))) fun _ _ h' => h'))) fun _ _ h' => h'))

noncomputable def nodeVal (st : LS) : Value → Value
  | .ref x => (st.F x).val
  | v => v
theorem stored_new {Ky : Type} [DecidableEq Ky] {kvs : List (Ky × Value)} {k : Ky} {v : Value} (h : k ∉ kvs.map (·.1)) : stored kvs k v = kvs ++ [(k, v)] := by
  unfold stored
  rw [if_neg]
  rw [List.any_eq_true]
  rintro ⟨kv, hkv, he⟩
  exact h (List.mem_map.mpr ⟨kv, hkv, of_decide_eq_true he⟩)

/-- the comprehension over items(), i pairs taken -/
inductive ItemsP (prog : Program) (w : World) (K : Frag) (s : Shared) (st : LS) (h1 : Heap) (I Dd Cc : Addr) (ep : Nat) (kvs : List (Int × Value)) (n : Nat) (s' : Shared) : Prop
  | mk (h' : Heap) (tk' i : Nat) (m' : Str → Option Value) (oD : Obj) (ok ov : Value) (es : s' = up s h' tk') (hi : i ≤ kvs.length) (hn : n = kvs.length + 1 - i) (G : Grow h1 h') (it : IsItemIter h' I st.dd i kvs.length ep ok ov) (ns : h'.Ns Cc m') (hD : h'.get? Dd = some oD)
    (od : OD (TI prog w K) oD ((kvs.take i).map fun kv => (kv.1, nodeVal st kv.2)))
theorem comp_items {kn nn : Str} {kp np ap pk pn tp pos : Pos} {kk : Nat} {scope : Scope} {iter : Expr} {cl : List (Str × Addr)} {Q : Value → Shared → Prop} {ord : List (Int × Rg)} {kvs : List (Int × Value)}
    (S : St CN CL w g L m st h) (X : K.In g) (pc : PlainCls K CN) (at_ : Attr K CN "value") (C : Cst (TI prog w K) st ord kvs) (hh : A.handled = none) (hu : A.units + 8 < cLine) (hz : kvs.length ≤ 100000)
    (hiter : ∀ (Q : Value → Shared → Prop), (∀ h1 tk v, Grow h h1 → h1.IsItemsView v st.dd → Q (.ref v) (up s h1 tk)) → wpAny (model prog w) A (eval iter env) Q E (up s h tk₀))
    (hclos : closureFor scope env = pure cl) (hcell : ∀ y ∈ scope.names, y.2 ≠ .cell) (hkind : scope.kind = .function)
    (hnames : ∀ y ∈ scope.names, y.2 = .local → scope.names.lookup y.1 = some .local) (hxa : scope.names.lookup kn = some .local) (hxb : scope.names.lookup nn = some .local) (hab : ¬ kn = nn)
    (hd1 : (kn == ("__debug__" : Str)) = false) (hd2 : (nn == ("__debug__" : Str)) = false)
    (hs : ∀ x, foldedSetIterable iter env x = pure x)
    (hsh : ∀ env, eval ((Expr.Name nn np).Attribute "value" ap) env = (do
          let ov ← eval (Expr.Name nn np) env
          standAt ap.atName
          let r ← holding [ov] (getAttr ov "value" true)
          letTemporaryGo (Expr.Name nn np) ov r
          pure r))
    (hq : ∀ h' tk a o', Grow h h' → L < a → h.get? a = none → h'.get? a = some o' → OD (TI prog w K) o' (kvs.map fun kv => (kv.1, nodeVal st kv.2)) → Q (.ref a) (up s h' tk)) :
    wpAny (model prog w) A (eval (.DictComp (.Name kn kp) (.Attribute (.Name nn np) "value" ap) [⟨.Tuple [.Name kn pk, .Name nn pn] kk tp, iter, [], 0⟩] scope pos) env) Q E (up s h tk₀) := by
  rw [arm_eval_DictComp]
  refine wpAny_comprehension_free (use := none) rfl hs hclos hkind hnames (hiter _ fun h1 tk1 vw G1 hv => ?_)
  obtain ⟨ep, hat⟩ := C.od.dictAt S.dget
  have hat1 : h1.DictAt (intKind prog w) st.dd kvs ep := hat.keep G1
  refine wpAny_pyIter_items hv hat1 ?_
  refine gen_ (a := h1.objs.size) fun I hI => ?_
  refine gen_ (a := h1.push { cls := .type "dict_itemiterator", data := .fields #[.none, .bool false, .ref st.dd, .int 0 0, .int kvs.length 0, .int ep 0, .none, .none] }) fun H1 hH1 => ?_
  have GH1 : Grow h1 H1 := hH1 ▸ Grow.push
  have hit : IsItemIter H1 I st.dd 0 kvs.length ep .none .none := by rw [← hH1, ← hI]; exact Heap.get?_push_size _ rfl
  have hH1s : H1.objs.size = I + 1 := by rw [← hH1, Heap.size_push, hI]
  refine wpAny_newObj_type (wpAny_newFunctionEnv hcell (by intro y hy; simp at hy) (fun h3 hns3 hsb3 => ?_) hkind)
  obtain ⟨mm, hns3⟩ : ∃ mm, h3.Ns _ mm := ⟨_, hns3⟩
  have hns3 : h3.Ns (H1.push { cls := .type "dict", dict := none, data := .dict #[] }).objs.size mm := by rw [← hH1]; exact hns3
  have hsb3 : Heap.SameBut (H1.push { cls := .type "dict", dict := none, data := .dict #[] }).objs.size ((H1.push { cls := .type "dict", dict := none, data := .dict #[] }).push { cls := .type (if (some env).isSome = true then "dict" else "frame"), data := .dict #[] }) h3 := by rw [← hH1]; exact hsb3
  refine gen_ (a := H1.push { cls := .type "dict", dict := none, data := .dict #[] }) fun H2 hH2 => ?_
  rw [hH2] at hns3 hsb3
  refine gen_ (a := H1.objs.size) fun Dd hDd => ?_
  have hC : H2.objs.size = Dd + 1 := by rw [← hH2, Heap.size_push, hDd]
  refine gen_ (a := H2.objs.size) fun Cc hCc => ?_
  rw [hCc] at hns3 hsb3 hC
  have hID : I < Dd := by rw [← hDd, hH1s]; exact Nat.lt_succ_self _
  have hDC : Dd < Cc := by rw [hC]; exact Nat.lt_succ_self _
  have hIC : I < Cc := Nat.lt_trans hID hDC
  have lt1 : ∀ b o, h1.get? b = some o → b < I := fun b o e => hI ▸ Heap.lt_size e
  have old1 : ∀ b o, H1.get? b = some o → h3.get? b = some o := fun b o e => hsb3.extBut b o (Nat.ne_of_lt (Nat.lt_trans (hDd ▸ Heap.lt_size e) hDC)) (Heap.get?_push_of_some _ (by rw [← hH2]; exact Heap.get?_push_of_some _ e))
  have hD3 : h3.get? Dd = some (dictOf [] 0) := hsb3.extBut _ _ (Nat.ne_of_lt hDC) (Heap.get?_push_of_some _ (by rw [← hH2, ← hDd]; exact Heap.get?_push_size _ rfl))
  have fD : h.get? Dd = none := by
    cases e : h.get? Dd with
    | none => rfl
    | some o => exact absurd (lt1 _ _ (G1 _ _ e)) (Nat.not_lt.mpr (Nat.le_of_lt hID))
  have LD : L < Dd := by
    obtain ⟨oL, _, _, hoL, _⟩ := S.F.ns
    exact Nat.lt_trans (lt1 L oL (G1 L oL hoL)) hID
  have loop : ∀ s₃ : Shared, (∃ tk, s₃ = up s h3 tk) → codeAny (model prog w) A (.compLoop (.DictComp (.Name kn kp) (.Attribute (.Name nn np) "value" ap) [⟨.Tuple [.Name kn pk, .Name nn pn] kk tp, iter, [], 0⟩] scope pos) 0 (.ref I) (.ref Dd) (compEnvC scope cl Cc env))
      (compPost (model prog w) A E none Q (.ref Dd) Cc) s₃ := by
    rintro s₃ ⟨tk3, rfl⟩
    refine cd_loop (ItemsP prog w K s st h1 I Dd Cc ep kvs) ?_ (kvs.length + 1)
      ⟨h3, tk3, 0, _, dictOf [] 0, _, _, rfl, Nat.zero_le _, rfl, fun b o e => old1 b o (GH1 b o e), old1 _ _ hit, hns3, hD3, OD.new⟩
    rintro n s' ⟨h4, tk4, i, m4, oD, ok, ov, rfl, hi, rfl, G4, hit4, hns4, hD4, hOD4⟩
    have hat4 : h4.DictAt (intKind prog w) st.dd kvs ep := hat1.keep G4
    by_cases hlt : i < kvs.length
    · obtain ⟨⟨k, x⟩, hx⟩ : ∃ q, kvs[i]? = some q := ⟨kvs[i], by simp [hlt]⟩
      refine wpAny_pyNext_items_item (s := up s h4 tk4) hit4 hat4 hx fun key h5 hkey ho5 hT5 hsz5 hk5 => ?_
      have hT : h4.objs.size < h5.objs.size := by show _ < h5.objs.size; rw [hsz5]; exact Nat.lt_succ_self _
      have hTne : h4.objs.size ≠ I := Nat.ne_of_gt (Heap.lt_size hit4)
      refine wpAny_letOwnedTupleGo_items (s := up s h5 tk4) ho5 fun h6 hit6 hs6 => ?_
      have hT6 : h6.IsTuple h4.objs.size #[key, x] := ⟨_, hs6.extBut _ _ hTne hT5, rfl, _, rfl⟩
      have up6 : ∀ b o, b ≠ I → h4.get? b = some o → h6.get? b = some o := fun b o hb e => hs6.extBut b o hb (hk5 b o hb e)
      refine kcp_assign (s := up s h6 tk4) (env := compEnvC scope cl Cc env) hh hT6 (lookup_relabel_local hxa) (lookup_relabel_local hxb) (by simp [compEnvC, relabel, hkind]) (hns4.at' fun o e => up6 _ o (Nat.ne_of_gt hIC) e) fun h7 tk7 hns7 hs7 => ?_
      have up7 : ∀ b o, b ≠ I → b ≠ Cc → h4.get? b = some o → h7.get? b = some o := fun b o hb hc e => hs7 b o hc (up6 b o hb e)
      have G7 : Grow h1 h7 := fun b o e => up7 b o (Nat.ne_of_lt (lt1 b o e)) (Nat.ne_of_lt (Nat.lt_trans (lt1 b o e) hIC)) (G4 b o e)
      have hit7 : IsItemIter h7 I st.dd (i + 1) kvs.length ep key x := hs7 I _ (Nat.ne_of_lt hIC) hit6
      have hk : (compEnvC scope cl Cc env).scope.kind = .function := hkind
      refine wpAny_Name (wpAny_loadName_local (s := up s h7 tk7) hk (lookup_relabel_local hxa) hns7 (v := key) (by simp [hab]) ?_) hd1
      have hmem : (k, x) ∈ ord.map row := C.perm.mem_iff.mp (List.mem_of_getElem? hx)
      obtain ⟨⟨k', r⟩, hra, hre⟩ := List.mem_map.mp hmem
      obtain rfl : k = k' := (congrArg Prod.fst hre).symm
      obtain rfl : Value.ref r.x = x := congrArg Prod.snd hre
      have hr : r ∈ st.reg := C.sub _ hra
      have S7 : St CN CL w g L m st h7 := S.grow (G1.trans G7)
      refine attr_any (wpAny_Name (wpAny_loadName_local (s := up s h7 tk7) hk (lookup_relabel_local hxb) hns7 (v := .ref r.x) (by simp) ?_) hd2) (hsh _)
      refine get_node (s := up s h7 tk7) (v := (st.F r.x).val) S7 X pc at_ hr rfl (S.ok.F _).val.handed ?_
      have hD7 : h7.get? Dd = some oD := up7 _ _ (Nat.ne_of_gt hID) (Nat.ne_of_lt hDC) hD4
      have hnot : k ∉ ((kvs.take i).map fun kv => (kv.1, nodeVal st kv.2)).map (·.1) := by
        rw [List.map_map]
        show k ∉ (kvs.take i).map (·.1)
        intro hm
        have hn := C.od.nodup
        have e : kvs = kvs.take i ++ (k, Value.ref r.x) :: kvs.drop (i + 1) := by
          have := List.take_append_drop i kvs
          rw [List.drop_eq_getElem_cons hlt] at this
          rw [← Option.some.inj ((List.getElem?_eq_getElem hlt).symm.trans hx)]; exact this.symm
        rw [e, List.map_append, List.nodup_append] at hn
        exact hn.2.2 k hm k (.head _) rfl
      refine hOD4.set (s := up s h7 (tk7 + 1)) (X.keeps S7.F.keep) (by omega) hkey hD7 (by rw [List.length_map, List.length_take]; omega) fun h8 o8 tk8 hs8 ho8 hOD8 => ?_
      rw [stored_new hnot] at hOD8
      have et : kvs.take (i + 1) = kvs.take i ++ [(k, Value.ref r.x)] := by
        rw [List.take_succ_eq_append_getElem hlt, Option.some.inj ((List.getElem?_eq_getElem hlt).symm.trans hx)]
      refine ⟨kvs.length + 1 - (i + 1), by omega, h8, tk8, i + 1, _, o8, key, _, rfl, hlt, rfl, fun b o e => hs8.extBut b o (Nat.ne_of_lt (Nat.lt_trans (lt1 b o e) hID)) (G7 b o e), hs8.extBut _ _ (Nat.ne_of_lt hID) hit7, hns7.at' fun o e => hs8.extBut _ _ (Nat.ne_of_gt hDC) e, ho8, ?_⟩
      rw [et, List.map_append]; exact hOD8
    · have hin : i = kvs.length := Nat.le_antisymm hi (Nat.not_lt.mp hlt)
      subst hin
      refine wpAny_pyNext_items_end (s := up s h4 tk4) hh hit4 hat4 (by simp) fun h5 hx5 => ?_
      refine ⟨m4, hns4.at' fun o e => hx5 _ o (Nat.ne_of_gt hIC) e, fun h6 hs6 => ?_⟩
      rw [List.take_length] at hOD4
      refine hq h6 _ Dd oD (fun b o e => ?_) LD fD (hs6.extBut _ _ (Nat.ne_of_lt hDC) (hx5 _ _ (Nat.ne_of_gt hID) hD4)) hOD4
      have e1 := G1 b o e
      exact hs6.extBut b o (Nat.ne_of_lt (Nat.lt_trans (lt1 b o e1) hIC)) (hx5 b o (Nat.ne_of_lt (lt1 b o e1)) (G4 b o e1))
  have hit3 := old1 _ _ hit
  subst hDd hCc hH2 hI hH1
  exact codeAny_compStart_dict (loop _ ⟨_, rfl⟩) (kcp_self hit3 (loop _ ⟨_, rfl⟩))
end
end Mine
namespace Mine
set_option maxRecDepth 100000
set_option maxHeartbeats 1000000

theorem kf_ints_of : ∀ {vs : List Value} {ns : List Int}, IntsAre vs ns → kf_ints vs = true
  | _, _, .nil => rfl
  | _, _, .cons (vs := vs) n t h => (by show kf_ints vs = true; exact kf_ints_of h)
theorem isInt_eq {k n : Int} {t : Tok} : isInt k (.int n t) = decide (n = k) := by
  unfold isInt; by_cases h : n = k <;> simp [h]
theorem int_remove {k : Int} : ∀ {vs : List Value} {ns : List Int}, IntsAre vs ns → k ∈ ns → ∃ j q, kf_at k vs = some j ∧ ki_delL vs j = some q ∧ IntsAre q (ns.erase k)
  | _, _, .nil, h => nomatch h
  | _, _, .cons n t (vs := vs) (ns := ns) h, hm => by
    by_cases e : n = k
    · subst e
      refine ⟨0, vs, ?_, rfl, ?_⟩
      · unfold kf_at; rw [isInt_eq, decide_eq_true rfl]; rfl
      · rw [List.erase_cons_head]; exact h
    · obtain ⟨j, q, h1, h2, h3⟩ := int_remove h ((List.mem_cons.mp hm).resolve_left fun q => e q.symm)
      refine ⟨j + 1, .int n t :: q, ?_, ?_, ?_⟩
      · unfold kf_at; rw [isInt_eq, decide_eq_false e, h1]; rfl
      · unfold ki_delL; rw [h2]
      · rw [List.erase_cons_tail (by simpa using e)]; exact .cons n t h3
theorem IntsAre.drop : ∀ {vs : List Value} {ns : List Int} (i : Nat), IntsAre vs ns → IntsAre (vs.drop i) (ns.drop i)
  | _, _, 0, h => h
  | _, _, _ + 1, .nil => .nil
  | _, _, i + 1, .cons n t h => IntsAre.drop i h
theorem IntsAre.take : ∀ {vs : List Value} {ns : List Int} (i : Nat), IntsAre vs ns → IntsAre (vs.take i) (ns.take i)
  | _, _, 0, _ => .nil
  | _, _, _ + 1, .nil => .nil
  | _, _, i + 1, .cons n t h => .cons n t (IntsAre.take i h)
theorem pick_ints {vs : List Value} {ns : List Int} (h : IntsAre vs ns) (lo hi st : Option Int) : ∃ ns', IntsAre (slicePick vs.toArray lo hi st).toList ns' := by
  refine ⟨_, intsAre_map _ fun v hv => ?_⟩
  unfold slicePick at hv
  simp only [List.mem_filterMap] at hv
  obtain ⟨i, _, hi⟩ := hv
  rw [List.getElem?_toArray] at hi
  exact h.all v (List.mem_of_getElem? hi)

section
variable {prog : Program} {K : Frag} {CN CL C : Addr} {w : World} {g h₀ h h' : Heap} {L : Addr} {m : Str → Option Value} {st : LS} {A : Around} {E : Value → Shared → Prop} {s : Shared} {tk tk₀ : Nat} {r : Rg} {v v2 : Value} {env : Env}
  {a : Addr} {o o' : Obj} {pre post : List (Addr × Obj)}

noncomputable def LS.withEx (st : LS) (ex : List (Addr × Obj)) : LS := { st with ex := ex }
@[simp] theorem withEx_ex {ex : List (Addr × Obj)} : (st.withEx ex).ex = ex := rfl
theorem St.exGet (S : St CN CL w g L m st h) (hm : (a, o) ∈ st.ex) : h.get? a = some o ∧ a ≠ L ∧ g.get? a = none :=
  S.N (a, o) (.tail _ (.tail _ (.tail _ (List.mem_append_right _ hm))))
theorem St.exGet' (S : St CN CL w g L m st h) (hm : st.ex = pre ++ (a, o) :: post) : h.get? a = some o ∧ a ≠ L ∧ g.get? a = none :=
  S.exGet (hm ▸ List.mem_append_right _ (.head _))
theorem addrs_off (wf : (addrs st).Nodup) (hm : st.ex = pre ++ (a, o) :: post) : a ≠ st.c ∧ a ≠ st.dc ∧ a ≠ st.dd ∧ a ∉ regAddrs st.reg ∧ (∀ q ∈ pre, q.1 ≠ a) ∧ ∀ q ∈ post, q.1 ≠ a := by
  unfold addrs at wf
  rw [hm] at wf
  simp only [List.nodup_cons, List.mem_cons, not_or, List.mem_append, List.nodup_append, List.map_append, List.map_cons] at wf
  obtain ⟨⟨-, -, -, h1⟩, ⟨-, -, h2⟩, ⟨-, h3⟩, h4, ⟨h5, ⟨h6, -⟩, h7⟩, h8⟩ := wf
  refine ⟨fun e => h1.2.1 e.symm, fun e => h2.2.1 e.symm, fun e => h3.2.1 e.symm, fun q => h8 a q a (.inr (.inl rfl)) rfl, fun q hq e => h7 q.1 (List.mem_map_of_mem hq) a (.inl rfl) e, fun q hq e => h6 ?_⟩
  rw [← e]; exact List.mem_map_of_mem (f := fun x : Addr × Obj => x.1) hq

theorem upd_pre {d : Addr} {l l' : List (Addr × Obj)} (u : Upd d o o' l l') : ∀ {e : List (Addr × Obj)}, (∀ q ∈ e, q.1 ≠ d) → Upd d o o' (e ++ l) (e ++ l')
  | [], _ => u
  | q :: e, h => .tail (h q (.head _)) (upd_pre u fun q hq => h q (.tail _ hq))
theorem upd_ex (P : Params) (wf : (addrs st).Nodup) (hm : st.ex = pre ++ (a, o) :: post) : Upd a o o' (ledger CN CL P st) (ledger CN CL P (st.withEx (pre ++ (a, o') :: post))) := by
  obtain ⟨h1, h2, h3, h4, h5, h6⟩ := addrs_off wf hm
  unfold ledger LS.withEx
  rw [hm]
  refine .tail (Ne.symm h1) (.tail (Ne.symm h2) (.tail (Ne.symm h3) (upd_pre (upd_pre (.head h6) h5) fun q hq e => h4 ?_)))
  rw [← nodeL_addrs CN P st.F, ← e]; exact List.mem_map_of_mem hq
theorem wf_ex (wf : (addrs st).Nodup) (hm : st.ex = pre ++ (a, o) :: post) : (addrs (st.withEx (pre ++ (a, o') :: post))).Nodup := by
  unfold addrs LS.withEx at *
  rw [hm] at wf
  simpa only [List.map_append, List.map_cons] using wf
theorem St.setEx' (S : St CN CL w g L m st h) (hm : st.ex = pre ++ (a, o) :: post) (F' : Fr g L h' m) (N' : News g L h' (ledger CN CL w.params (st.withEx (pre ++ (a, o') :: post)))) : St CN CL w g L m (st.withEx (pre ++ (a, o') :: post)) h' :=
  ⟨F', N', wf_ex S.wf hm, ⟨S.ok.F, S.ok.mru, S.ok.lru, S.ok.mx, S.ok.af⟩⟩
theorem St.setEx (S : St CN CL w g L m st h) (hm : st.ex = pre ++ (a, o) :: post) (hs : Heap.SameBut a h h') (ho : h'.get? a = some o') : St CN CL w g L m (st.withEx (pre ++ (a, o') :: post)) h' := by
  have ha := S.exGet' hm
  obtain ⟨p1, p2, e1, e2, a1, a2⟩ := (upd_ex (CN := CN) (CL := CL) (o' := o') w.params S.wf hm).split
  refine S.setEx' hm (S.F.change hs ha.2.1 ha.2.2) ?_
  have N := S.N
  rw [e1] at N
  rw [e2]
  exact news_set N a1 a2 hs ho
/-- a fresh object joins the law's own -/
theorem St.addEx (S : St CN CL w g L m st h) (k : Grow h h') (ha : h.get? a = none) (ho : h'.get? a = some o) : St CN CL w g L m (st.withEx ((a, o) :: st.ex)) h' := by
  have S' := S.grow k
  have aL : a ≠ L := fun e => by
    obtain ⟨oL, _, _, hL, _⟩ := S.F.ns
    rw [e, hL] at ha; cases ha
  have ag : g.get? a = none := by
    cases e : g.get? a with
    | none => rfl
    | some o => rw [S.F.keep a o e] at ha; cases ha
  refine ⟨S'.F, fun q hq => ?_, ?_, ⟨S.ok.F, S.ok.mru, S.ok.lru, S.ok.mx, S.ok.af⟩⟩
  · unfold ledger LS.withEx at hq
    simp only [List.mem_cons, List.mem_append] at hq
    rcases hq with rfl | rfl | rfl | hq | rfl | hq
    · exact S'.N _ (.head _)
    · exact S'.N _ (.tail _ (.head _))
    · exact S'.N _ (.tail _ (.tail _ (.head _)))
    · exact S'.N _ (.tail _ (.tail _ (.tail _ (List.mem_append_left _ hq))))
    · exact ⟨ho, aL, ag⟩
    · exact S'.N _ (.tail _ (.tail _ (.tail _ (List.mem_append_right _ hq))))
  · have na : a ∉ addrs st := fun hm => by
      rw [← ledger_addrs CN CL w.params] at hm
      obtain ⟨q, hq, rfl⟩ := List.mem_map.mp hm
      rw [(S.N q hq).1] at ha; cases ha
    show (st.c :: st.dc :: st.dd :: (regAddrs st.reg ++ a :: st.ex.map (·.1))).Nodup
    have pm : (st.c :: st.dc :: st.dd :: (regAddrs st.reg ++ a :: st.ex.map (·.1))).Perm (a :: addrs st) := by
      show ([st.c, st.dc, st.dd] ++ (regAddrs st.reg ++ a :: st.ex.map (·.1))).Perm _
      rw [← List.append_assoc]
      refine List.perm_middle.trans (List.Perm.cons _ ?_)
      rw [List.append_assoc]; exact List.Perm.refl _
    rw [pm.nodup_iff, List.nodup_cons]
    exact ⟨na, S.wf⟩
/-- some of the law's own are forgotten -/
theorem St.subEx {ex : List (Addr × Obj)} (S : St CN CL w g L m st h) (hs : List.Sublist ex st.ex) : St CN CL w g L m (st.withEx ex) h := by
  refine ⟨S.F, fun q hq => S.N q ?_, ?_, ⟨S.ok.F, S.ok.mru, S.ok.lru, S.ok.mx, S.ok.af⟩⟩
  · unfold ledger LS.withEx at hq
    simp only [List.mem_cons, List.mem_append] at hq
    unfold ledger
    simp only [List.mem_cons, List.mem_append]
    rcases hq with h | h | h | h | h
    · exact .inl h
    · exact .inr (.inl h)
    · exact .inr (.inr (.inl h))
    · exact .inr (.inr (.inr (.inl h)))
    · exact .inr (.inr (.inr (.inr (hs.subset h))))
  · refine List.Nodup.sublist ?_ S.wf
    unfold addrs LS.withEx
    exact (((hs.map _).append_left _).cons_cons _).cons_cons _ |>.cons_cons _
theorem St.name (S : St CN CL w g L m st h) : True := trivial

section
variable {Ky : Type} [DecidableEq Ky] {T : DT prog w K Ky} {kvs : List (Ky × Value)} {k : Ky} {key : Value} {ord : List (Ky × Rg)}
theorem Cst.withEx {ex : List (Addr × Obj)} (C : Cst T st ord kvs) : Cst T (st.withEx ex) ord kvs := ⟨C.sub, C.nd, C.seg, C.mru, C.lru, C.key, C.od, C.perm, C.ne⟩
theorem vw_withEx {ex : List (Addr × Obj)} : vw (st.withEx ex) ord = vw st ord := rfl

/-- a dict of the law's own: d.pop(e) -/
theorem ex_pop {Q : Value → Shared → Prop} {od e : Expr} {apos pos : Pos} (S : St CN CL w g L m st h) (X : K.In g) (hu : A.units + 8 < cLine) (hm : st.ex = pre ++ (a, o) :: post) (ho : Pv prog w A env od (.ref a) h) (he : Pv prog w A env e key h) (hk : T.isK k key) (hd : OD T o kvs) (hz : kvs.length ≤ 100000) (hv : valueAt kvs k = some v)
    (q : ∀ h' o' tk, OD T o' (without kvs k) → St CN CL w g L m (st.withEx (pre ++ (a, o') :: post)) h' → Q v (up s h' tk)) {pl : Sem Bool}
    (hst : starEach [e] env = (false, eval e env) :: starEach [] env) (hpl : (backTo pos (starEach [] env)).any (·.1) = false)
    (hsh : (eval ((od.Attribute "pop" apos).Call [e] [] pos) env = do
          let ov ← eval od env
          standAt apos.atName
          let __x ← holding [ov] (getMethod ov "pop" pl)
          match __x with
            | (f, first) => callWith pos f first (backTo pos (starEach [e] env)) [])) :
    wpAny (model prog w) A (eval ((od.Attribute "pop" apos).Call [e] [] pos) env) Q E (up s h tk) := by
  refine MethodCall_ (ho.at fun tk => ?_) hsh
  refine hd.method PySem.F.slot_dict_pop PySem.F.type_dict_pop (s := up s h tk) (S.exGet' hm).1 ?_
  refine callWith_method1 (spliced_more (he.at fun tk' => spliced_none ?_) hst) hst hpl
  exact hd.pop (s := up s h tk') (X.keeps S.F.keep) hu hk (S.exGet' hm).1 hz hv fun h' o' tk'' b c d => q h' o' tk'' d (S.setEx hm b c)
/-- d[i] = e -/
theorem ex_item {Q : Flow → Shared → Prop} {od i e : Expr} {pos pos' : Pos} (S : St CN CL w g L m st h) (X : K.In g) (hu : A.units + 8 < cLine) (hm : st.ex = pre ++ (a, o) :: post) (he : Pv prog w A env e v h) (ho : Pv prog w A env od (.ref a) h) (hi : Pv prog w A env i key h) (hk : T.isK k key) (hd : OD T o kvs) (hz : kvs.length ≤ 100000)
    (q : ∀ h' o' tk, OD T o' (stored kvs k v) → St CN CL w g L m (st.withEx (pre ++ (a, o') :: post)) h' → Q .next (up s h' tk))
    (hs : swapsWith e (some (od.Subscript i pos')) pos.line env = pure false) : wpAny (model prog w) A (exec (.Assign [od.Subscript i pos'] e pos) env) Q E (up s h tk) :=
  wpAny_Assign_Subscript (he.at fun tk => ho.at fun tk' => hi.at fun tk2 => hd.setItem (s := up s h tk2) (X.keeps S.F.keep) hu hk (S.exGet' hm).1 hz fun h' o' tk3 b c d => q h' o' tk3 d (S.setEx hm b c)) hs
/-- key in d -/
theorem Pv.exIn {l r : Expr} {pos : Pos} (S : St CN CL w g L m st h) (X : K.In g) (hu : A.units + 8 < cLine) (hm : st.ex = pre ++ (a, o) :: post) (hl : Pv prog w A env l key h) (hr : Pv prog w A env r (.ref a) h) (hk : T.isK k key) (hd : OD T o kvs) (hs : (a == sysModules) = false) (hmk : behindInMarks .In r = false) :
    Pv prog w A env (.Compare l [.In] [r] pos) (.bool (valueAt kvs k).isSome) h := fun s Q E hs' q => by
  subst hs'
  refine wpAny_Compare1 (hl _ _ _ rfl fun tk => hr _ _ _ rfl fun tk' => ?_) hmk
  exact hd.isIn (s := { s with toks := tk' }) (X.keeps S.F.keep) hu hk (S.exGet' hm).1 hs fun tk2 => q tk2
/-- if key in d -/
theorem if_exIn {Q : Flow → Shared → Prop} {l r : Expr} {body orelse : List Stmt} {pos pos' : Pos} (S : St CN CL w g L m st h) (X : K.In g) (hu : A.units + 8 < cLine) (hm : st.ex = pre ++ (a, o) :: post) (hl : Pv prog w A env l key h) (hr : Pv prog w A env r (.ref a) h) (hk : T.isK k key) (hd : OD T o kvs) (hs : (a == sysModules) = false)
    (ht : (valueAt kvs k).isSome = true → ∀ tk, wpAny (model prog w) A (execs body env) Q E (up s h tk)) (hf : (valueAt kvs k).isSome = false → ∀ tk, wpAny (model prog w) A (execs orelse env) Q E (up s h tk))
    (hmk : behindInMarks .In r = false) :
    wpAny (model prog w) A (exec (.If (.Compare l [.In] [r] pos') body orelse pos) env) Q E (up s h tk) := by
  refine wpAny_If (wpAny_isTrue_Compare1 (hl.at fun tk => hr.at fun tk' => ?_) hmk)
  refine hd.isIn (s := up s h tk') (X.keeps S.F.keep) hu hk (S.exGet' hm).1 hs fun tk2 => ?_
  refine wpAny_truthy_bool ?_
  cases hv : (valueAt kvs k).isSome with
  | true => rw [if_pos rfl]; exact ht hv _
  | false => rw [if_neg Bool.false_ne_true]; exact hf hv _
/-- d.get(e), d.get(e, e2) -/
theorem Pv.exGet1 {od e : Expr} {apos pos : Pos} (S : St CN CL w g L m st h) (X : K.In g) (hu : A.units + 8 < cLine) (hm : (a, o) ∈ st.ex) (ho : Pv prog w A env od (.ref a) h) (he : Pv prog w A env e key h) (hk : T.isK k key) (hd : OD T o kvs) (hs : (a == sysModules) = false) {pl : Sem Bool}
    (hst : starEach [e] env = (false, eval e env) :: starEach [] env) (hpl : (backTo pos (starEach [] env)).any (·.1) = false)
    (hsh : (eval ((od.Attribute "get" apos).Call [e] [] pos) env = do
          let ov ← eval od env
          standAt apos.atName
          let __x ← holding [ov] (getMethod ov "get" pl)
          match __x with
            | (f, first) => callWith pos f first (backTo pos (starEach [e] env)) [])) : Pv prog w A env ((od.Attribute "get" apos).Call [e] [] pos) ((valueAt kvs k).getD .none) h := fun s Q E hs' q => by
  subst hs'
  refine MethodCall_ (ho _ _ _ rfl fun tk => ?_) hsh
  refine hd.method PySem.F.slot_dict_get PySem.F.type_dict_get (s := { s with toks := tk }) (S.exGet hm).1 ?_
  refine callWith_method1 (spliced_more (he _ _ _ rfl fun tk' => spliced_none ?_) hst) hst hpl
  exact hd.get1 (s := { s with toks := tk' }) (X.keeps S.F.keep) hu hk (S.exGet hm).1 hs fun tk => q tk
theorem PvE.exGet2 {od e e2 : Expr} {apos pos : Pos} {P : Value → Prop} (S : St CN CL w g L m st h) (X : K.In g) (hu : A.units + 8 < cLine) (hm : (a, o) ∈ st.ex) (ho : Pv prog w A env od (.ref a) h) (he : Pv prog w A env e key h) (he2 : PvE prog w A env e2 P h) (hk : T.isK k key) (hd : OD T o kvs) (hs : (a == sysModules) = false) {pl : Sem Bool}
    (hst : starEach [e, e2] env = (false, eval e env) :: starEach [e2] env) (hst2 : starEach [e2] env = (false, eval e2 env) :: starEach [] env) (hpl : (backTo pos (starEach [e2] env)).any (·.1) = false)
    (hsh : (eval ((od.Attribute "get" apos).Call [e, e2] [] pos) env = do
          let ov ← eval od env
          standAt apos.atName
          let __x ← holding [ov] (getMethod ov "get" pl)
          match __x with
            | (f, first) => callWith pos f first (backTo pos (starEach [e, e2] env)) [])) : PvE prog w A env ((od.Attribute "get" apos).Call [e, e2] [] pos) (fun v => ∃ d, P d ∧ v = (valueAt kvs k).getD d) h := fun s Q E hs' q => by
  subst hs'
  refine MethodCall_ (ho _ _ _ rfl fun tk => ?_) hsh
  refine hd.method PySem.F.slot_dict_get PySem.F.type_dict_get (s := { s with toks := tk }) (S.exGet hm).1 ?_
  refine callWith_method1 (spliced_more (he _ _ _ rfl fun tk' => spliced_more (he2 _ _ _ rfl fun d tk'' hd' => spliced_none ?_) hst2) hst) hst hpl
  exact hd.get2 (s := { s with toks := tk'' }) (X.keeps S.F.keep) hu hk (S.exGet hm).1 hs fun tk => q _ tk ⟨d, hd', rfl⟩
end
end
end Mine
namespace Mine
set_option maxRecDepth 100000
set_option maxHeartbeats 1000000

section
variable {prog : Program} {K : Frag} {CN CL C : Addr} {w : World} {g h₀ h h' : Heap} {L : Addr} {m : Str → Option Value} {st : LS} {A : Around} {E : Value → Shared → Prop} {s : Shared} {tk tk₀ : Nat} {r : Rg} {v v2 : Value} {env : Env}
  {a : Addr} {o o' : Obj} {pre post : List (Addr × Obj)} {its : List Value} {ns : List Int} {n : Nat}

/-- line.remove(e) -/
theorem ex_remove {Q : Value → Shared → Prop} {ol e : Expr} {k : Int} {apos pos : Pos} (S : St CN CL w g L m st h) (hm : st.ex = pre ++ (a, listOf its.toArray n) :: post) (ho : Pv prog w A env ol (.ref a) h) (he : PvI prog w A env e k h) (hi : IntsAre its ns) (hk : k ∈ ns) (hz : ns.length ≤ 100000)
    (q : ∀ h' q tk, IntsAre q (ns.erase k) → St CN CL w g L m (st.withEx (pre ++ (a, listOf q.toArray (n + 1)) :: post)) h' → Q .none (up s h' tk)) {pl : Sem Bool}
    (hst : starEach [e] env = (false, eval e env) :: starEach [] env) (hpl : (backTo pos (starEach [] env)).any (·.1) = false)
    (hsh : (eval ((ol.Attribute "remove" apos).Call [e] [] pos) env = do
          let ov ← eval ol env
          standAt apos.atName
          let __x ← holding [ov] (getMethod ov "remove" pl)
          match __x with
            | (f, first) => callWith pos f first (backTo pos (starEach [e] env)) [])) :
    wpAny (model prog w) A (eval ((ol.Attribute "remove" apos).Call [e] [] pos) env) Q E (up s h tk) := by
  obtain ⟨j, q', h1, h2, h3⟩ := int_remove hi hk
  refine MethodCall_ (ho.at fun tk => ?_) hsh
  have hin : (a, listOf its.toArray n) ∈ ledger CN CL w.params st := .tail _ (.tail _ (.tail _ (List.mem_append_right _ (hm ▸ List.mem_append_right _ (.head _)))))
  refine kl_method (s := up s h tk) S.N hin PySem.F.slot_list_remove PySem.F.type_list_remove ?_
  refine callWith_method1 (spliced_more (PvE.at he fun v tk' hv => spliced_none ?_) hst) hst hpl
  obtain ⟨t, rfl⟩ := hv
  have hl : its.length ≤ 100000 := by rw [hi.length]; exact hz
  exact kf_remove (s := up s h tk') S.F S.N (kf_ints_of hi) h1 h2 (upd_ex w.params S.wf hm) (by rw [sizeLine_eq]; show its.length ≤ _; omega) fun h' F' N' => q h' q' _ h3 (S.setEx' hm F' N')
/-- line.insert(0, e) -/
theorem ex_insert {Q : Value → Shared → Prop} {ol e e0 : Expr} {k : Int} {t : Tok} {apos pos : Pos} (S : St CN CL w g L m st h) (hm : st.ex = pre ++ (a, listOf its.toArray n) :: post) (ho : Pv prog w A env ol (.ref a) h) (he0 : PvI prog w A env e0 0 h) (he : Pv prog w A env e (.int k t) h) (hi : IntsAre its ns) (hz : ns.length ≤ 100000)
    (q : ∀ h' tk, St CN CL w g L m (st.withEx (pre ++ (a, listOf (Value.int k t :: its).toArray (n + 1)) :: post)) h' → Q .none (up s h' tk)) {pl : Sem Bool}
    (hst : starEach [e0, e] env = (false, eval e0 env) :: starEach [e] env) (hst2 : starEach [e] env = (false, eval e env) :: starEach [] env) (hpl : (backTo pos (starEach [e] env)).any (·.1) = false)
    (hsh : (eval ((ol.Attribute "insert" apos).Call [e0, e] [] pos) env = do
          let ov ← eval ol env
          standAt apos.atName
          let __x ← holding [ov] (getMethod ov "insert" pl)
          match __x with
            | (f, first) => callWith pos f first (backTo pos (starEach [e0, e] env)) [])) :
    wpAny (model prog w) A (eval ((ol.Attribute "insert" apos).Call [e0, e] [] pos) env) Q E (up s h tk) := by
  refine MethodCall_ (ho.at fun tk => ?_) hsh
  have hin : (a, listOf its.toArray n) ∈ ledger CN CL w.params st := .tail _ (.tail _ (.tail _ (List.mem_append_right _ (hm ▸ List.mem_append_right _ (.head _)))))
  refine kl_method (s := up s h tk) S.N hin PySem.F.slot_list_insert PySem.F.type_list_insert ?_
  refine callWith_method1 (spliced_more (PvE.at he0 fun v tk' hv => spliced_more (he.at fun tk'' => spliced_none ?_) hst2) hst) hst hpl
  obtain ⟨t0, rfl⟩ := hv
  have hl : its.length ≤ 100000 := by rw [hi.length]; exact hz
  exact kl_insert (s := up s h tk'') S.F S.N (by decide) (by show kl_ins its 0 (.int k t) = .int k t :: its; unfold kl_ins; simp) (upd_ex w.params S.wf hm) (by rw [sizeLine_eq]; show its.length ≤ _; omega) fun h' F' N' => q h' _ (S.setEx' hm F' N')
/-- len(line) -/
theorem PvI.exLen {fn ol : Expr} {pos : Pos} (S : St CN CL w g L m st h) (hm : (a, listOf its.toArray n) ∈ st.ex) (hfn : Pv prog w A env fn (.builtin "len") h) (ho : Pv prog w A env ol (.ref a) h) (hi : IntsAre its ns) (hz : ns.length ≤ 100000)
    (hst : starEach [ol] env = (false, eval ol env) :: starEach [] env) (hpl : (backTo pos (starEach [] env)).any (·.1) = false)
    (hsh : eval (fn.Call [ol] [] pos) env = do
          let __do_lift ← eval fn env
          callWith pos __do_lift [] (backTo pos (starEach [ol] env)) (backToKw pos (keywordEach [] env))) :
    PvI prog w A env (fn.Call [ol] [] pos) ns.length h := fun s Q E hs' q => by
  subst hs'
  refine Call_ (hfn _ _ _ rfl fun tk => callWith_builtin1 (spliced_more (ho _ _ _ rfl fun tk' => spliced_none ?_) hst) hst hpl) hsh
  have hin : (a, listOf its.toArray n) ∈ ledger CN CL w.params st := .tail _ (.tail _ (.tail _ (List.mem_append_right _ hm)))
  have e : its.toArray.size = ns.length := by rw [List.size_toArray, hi.length]
  refine PyProof.Rows.len_list (s := { s with toks := tk' }) (l := a) (items := its.toArray) ⟨_, (S.N _ hin).1, rfl, _, rfl⟩ (by rw [e]; omega) ?_
  rw [e]
  exact q _ _ ⟨_, rfl⟩

/-- a slice: a fresh list -/
theorem ev_slice {Q : Value → Shared → Prop} {ol : Expr} {lower upper : Option Expr} {lo hi : Option Int} {sp pos : Pos} (hl : h.IsList a its.toArray) (hz : its.length ≤ 100000) (ho : Pv prog w A env ol (.ref a) h)
    (hlo : ∀ (s : Shared) (Q E : Value → Shared → Prop), s.heap = h → (∀ v tk, IsPart v lo → Q v { s with toks := tk }) → wpAny (model prog w) A (evalPart lower env) Q E s)
    (hhi : ∀ (s : Shared) (Q E : Value → Shared → Prop), s.heap = h → (∀ v tk, IsPart v hi → Q v { s with toks := tk }) → wpAny (model prog w) A (evalPart upper env) Q E s)
    (q : ∀ h' tk b, Grow h h' → h.get? b = none → h'.get? b = some (listOf (slicePick its.toArray lo hi none) 0) → Q (.ref b) (up s h' tk))
    (ht : ∀ o r, letTemporaryGo ol o r = pure ()) :
    wpAny (model prog w) A (eval (.Subscript ol (.Slice lower upper none sp) pos) env) Q E (up s h tk) := by
  refine wpAny_Subscript_list_slice (ho.at fun tk1 => hlo _ _ _ rfl fun vl tk2 pl => hhi _ _ _ rfl fun vu tk3 pu => ?_) ht
  refine ⟨a, its.toArray, lo, hi, rfl, hl, by rw [List.size_toArray, sizeLine_eq]; omega, pl, pu, ?_⟩
  refine q _ _ _ (Grow.push.trans Grow.push) ?_ ?_
  · show h.get? (h.objs.size + 1) = none
    cases e : h.get? (h.objs.size + 1) with
    | none => rfl
    | some o => exact absurd (Heap.lt_size e) (Nat.not_lt.mpr (Nat.le_succ _))
  · have e1 := Heap.get?_push_size (h.push { cls := .type "slice", data := .fields #[vl, vu, .none] }) (o := { cls := .type "list", data := .seq (slicePick its.toArray lo hi none) }) rfl
    rw [Heap.size_push] at e1
    exact e1
theorem part_none {s : Shared} {Q E : Value → Shared → Prop} (hs : s.heap = h) (q : ∀ v tk, IsPart v none → Q v { s with toks := tk }) : wpAny (model prog w) A (evalPart none env) Q E s :=
  wpAny_evalPart_none (q _ s.toks .none)
theorem part_int {e : Expr} {i : Int} (he : PvI prog w A env e i h) {s : Shared} {Q E : Value → Shared → Prop} (hs : s.heap = h) (q : ∀ v tk, IsPart v (some i) → Q v { s with toks := tk }) : wpAny (model prog w) A (evalPart (some e) env) Q E s :=
  wpAny_evalPart_some (he _ _ _ hs fun v tk hv => by obtain ⟨t, rfl⟩ := hv; exact q _ _ (.int i t))

/-- x = e, e of a kind -/
theorem as_nameE {cn : Str} {cs : Scope} {f : Addr} {cd : Value} {Q : Flow → Shared → Prop} {P : Value → Prop} {x : Str} {pos pos' : Pos} {e : Expr} (S : St CN CL w g L m st h) (he : PvE prog w A (envOf cn cs L f cd) e P h)
    (q : ∀ v, P v → ∀ h' tk, St CN CL w g L (fun y => if y = x then some v else m y) st h' → Q .next (up s h' tk))
    (hk : cs.kind = .function) (hl : (envOf cn cs L f cd).kindOf x = some .local) (hs : swapsWith e (some (.Name x pos')) pos.line (envOf cn cs L f cd) = pure false) :
    wpAny (model prog w) A (exec (.Assign [.Name x pos'] e pos) (envOf cn cs L f cd)) Q E (up s h tk) :=
  wpAny_Assign_Name (he.at fun v tk hv => store_ (s := up s h tk) S (fun h' tk' S' => q v hv h' tk' S') hk hl) hs
end
end Mine
namespace Mine
set_option maxRecDepth 100000
set_option maxHeartbeats 1000000

section
variable {prog : Program} {K : Frag} {CN CL C : Addr} {w : World} {g h₀ h h' : Heap} {L : Addr} {m : Str → Option Value} {st : LS} {A : Around} {E : Value → Shared → Prop} {s : Shared} {tk tk₀ : Nat} {r : Rg} {v v2 : Value} {env : Env}
  {a : Addr} {o o' : Obj} {pre post : List (Addr × Obj)} {its : List Value} {ns : List Int} {n : Nat}

noncomputable def ownF (fp : List Addr) (h : Heap) : List (Addr × Obj) := fp.filterMap fun b => (h.get? b).map fun o => (b, o)
theorem mem_ownF {fp : List Addr} {q : Addr × Obj} : q ∈ ownF fp h ↔ q.1 ∈ fp ∧ h.get? q.1 = some q.2 := by
  unfold ownF
  rw [List.mem_filterMap]
  constructor
  · rintro ⟨b, hb, e⟩
    cases z : h.get? b with
    | none => rw [z] at e; cases e
    | some o => rw [z] at e; cases e; exact ⟨hb, z⟩
  · rintro ⟨hb, e⟩
    exact ⟨q.1, hb, by rw [e]; rfl⟩
theorem ownF_sub : ∀ (fp : List Addr), ((ownF fp h).map (·.1)).Sublist fp
  | [] => List.Sublist.slnil
  | b :: fp => by
    unfold ownF
    rw [List.filterMap_cons]
    cases z : h.get? b with
    | none => exact (ownF_sub fp).cons b
    | some o => exact (ownF_sub fp).cons_cons b

/-- what a loop is set out on -/
structure Sets (prog : Program) (w : World) (A : Around) (h : Heap) (n : Nat) (Pe : Nat → Value → Prop) (s : Shared) (it : Value) (s₂ : Shared) : Prop where
  go : ∃ I fp Sw h2 tk2, it = .ref I ∧ s₂ = up s h2 tk2 ∧ Grow h h2 ∧ Walks prog w A I fp [I] n Pe Sw ∧ Sw 0 h2 ∧ (∀ b ∈ fp, h.get? b = none) ∧ fp.Nodup ∧ ∀ i h', Sw i h' → ∀ b ∈ fp, ∃ o, h'.get? b = some o

/-- how a turn ends -/
noncomputable def TurnEnd (CN CL : Addr) (w : World) (g : Heap) (L : Addr) (own : List (Addr × Obj)) (J : LS → (Str → Option Value) → Prop) (s : Shared) (Q : Flow → Shared → Prop) (f : Flow) (s' : Shared) : Prop :=
  match f with
  | .ret v => Q (.ret v) s'
  | .brk => Q .next s'
  | _ => ∃ h' tk' m' st', s' = up s h' tk' ∧ St CN CL w g L m' (st'.withEx (own ++ st'.ex)) h' ∧ J st' m'

theorem for_st {x cn : Str} {cs : Scope} {f : Addr} {cd : Value} {px pos : Pos} {iter : Expr} {body : List Stmt} {Pe : Nat → Value → Prop} {Q : Flow → Shared → Prop} (P : Nat → LS → (Str → Option Value) → Prop)
    (S : St CN CL w g L m st h) (hx : (envOf cn cs L f cd).kindOf x = some .local) (hk : cs.kind = .function)
    (hp : (cs.kind == .class || (cs.kind == .module && L != mainGlobals)) = false)
    (hit : wpAny (model prog w) A (eval iter (envOf cn cs L f cd)) (fun xv s₁ => wpAny (model prog w) A (pyIter xv) (Sets prog w A h n Pe s) E s₁) E (up s h tk))
    (h0 : P 0 st m)
    (turn : ∀ i v m₁ st₁ own h₁ tk₁, i < n → Pe i v → P i st₁ m₁ → St CN CL w g L (fun y => if y = x then some v else m₁ y) (st₁.withEx (own ++ st₁.ex)) h₁ →
      wpAny (model prog w) A (execs body (envOf cn cs L f cd)) (TurnEnd CN CL w g L own (P (i + 1)) s Q) E (up s h₁ tk₁))
    (done : ∀ m' st' h' tk', P n st' m' → St CN CL w g L m' st' h' → Q .next (up s h' tk'))
    (hs : ∀ x, foldedSetIterable iter (envOf cn cs L f cd) x = pure x) (hE : PassesOwn (model prog w) A (envOf cn cs L f cd) E) :
    wpAny (model prog w) A (exec (.For (.Name x px) iter body [] pos) (envOf cn cs L f cd)) Q E (up s h tk) := by
  refine For_invV (env := envOf cn cs L f cd) g hx hp (wpAny_mono hit (fun xv s₁ h₁ => wpAny_mono h₁ (fun it s₂ h₂ => ?_) fun _ _ e => e) fun _ _ e => e) hs hE
  obtain ⟨I, fp, Sw, h2, tk2, rfl, rfl, G, W, hst, hfr, hnd, hlv⟩ := h₂.go
  have Lv : ∃ o, h.get? L = some o := let ⟨o, _, _, ho, _⟩ := S.F.ns; ⟨o, ho⟩
  have gfp : ∀ b ∈ fp, g.get? b = none := fun b hb => by
    cases e : g.get? b with
    | none => rfl
    | some o => have := hfr b hb; rw [S.F.keep b o e] at this; cases this
  have Lfp : L ∉ fp := fun q => by obtain ⟨o, ho⟩ := Lv; rw [hfr L q] at ho; cases ho
  have fpA : ∀ b ∈ fp, b ∉ addrs st := fun b hb hm => by
    rw [← ledger_addrs CN CL w.params] at hm
    obtain ⟨q, hq, rfl⟩ := List.mem_map.mp hm
    have := (S.N q hq).1
    rw [hfr _ hb] at this; cases this
  have Ifp : I ∈ fp := W.sub I (.head _)
  have S2 := S.grow G
  have offI : ∀ st' : LS, (∀ b ∈ fp, b ∉ addrs st') → ∀ q ∈ ledger CN CL w.params st', q.1 ∉ [I] := fun st' hf q hq hm => by
    rw [List.mem_singleton] at hm
    exact hf I Ifp (by rw [← hm, ← ledger_addrs CN CL w.params]; exact List.mem_map_of_mem hq)
  refine ⟨I, fp, [I], n, Pe, Sw, m, ledger CN CL w.params st, fun i m' news' => ∃ st', news' = ledger CN CL w.params st' ∧ (addrs st').Nodup ∧ LSok st' ∧ (∀ b ∈ fp, b ∉ addrs st') ∧ P i st' m',
    rfl, W, Lfp, fun b hb => gfp b (W.sub b hb), offI st fpA, hst, S2.F, S2.N, ⟨st, rfl, S.wf, S.ok, fpA, h0⟩, ?_, ?_⟩
  · rintro i v m₁ news₁ s₁ own ⟨h₁, tk₁, rfl⟩ hin hPe ⟨st₁, rfl, wf₁, ok₁, off₁, hP₁⟩ _ hsub hget hall hst₁ F₁ N₁
    have own_iff : ∀ q, q ∈ own ↔ q ∈ ownF fp h₁ := fun q => ⟨fun hq => mem_ownF.mpr ⟨hsub q hq, hget q hq⟩, fun hq => hall q.1 (mem_ownF.mp hq).1 (gfp _ (mem_ownF.mp hq).1) q.2 (mem_ownF.mp hq).2⟩
    have S₁ : St CN CL w g L (fun y => if y = x then some v else m₁ y) (st₁.withEx (ownF fp h₁ ++ st₁.ex)) h₁ := by
      refine ⟨F₁, fun q hq => ?_, ?_, ⟨ok₁.F, ok₁.mru, ok₁.lru, ok₁.mx, ok₁.af⟩⟩
      · unfold ledger LS.withEx at hq
        simp only [List.mem_cons, List.mem_append] at hq
        refine N₁ q ?_
        rw [List.mem_append]
        unfold ledger
        simp only [List.mem_cons, List.mem_append]
        rcases hq with h | h | h | h | h | h
        · exact .inr (.inl h)
        · exact .inr (.inr (.inl h))
        · exact .inr (.inr (.inr (.inl h)))
        · exact .inr (.inr (.inr (.inr (.inl h))))
        · exact .inl ((own_iff q).mpr h)
        · exact .inr (.inr (.inr (.inr (.inr h))))
      · have pm : (addrs (st₁.withEx (ownF fp h₁ ++ st₁.ex))).Perm ((ownF fp h₁).map (·.1) ++ addrs st₁) := by
          unfold addrs LS.withEx
          show ([st₁.c, st₁.dc, st₁.dd] ++ (regAddrs st₁.reg ++ (ownF fp h₁ ++ st₁.ex).map (·.1))).Perm ((ownF fp h₁).map (·.1) ++ ([st₁.c, st₁.dc, st₁.dd] ++ (regAddrs st₁.reg ++ st₁.ex.map (·.1))))
          rw [List.map_append]
          generalize (ownF fp h₁).map (·.1) = X
          generalize st₁.ex.map (·.1) = Y
          generalize [st₁.c, st₁.dc, st₁.dd] = Z
          generalize regAddrs st₁.reg = R
          rw [← List.append_assoc R X Y, ← List.append_assoc Z, ← List.append_assoc Z R Y, ← List.append_assoc X]
          refine List.Perm.append_right Y ?_
          rw [← List.append_assoc Z R X]
          exact List.perm_append_comm
        rw [pm.nodup_iff, List.nodup_append]
        refine ⟨List.Nodup.sublist (ownF_sub fp) hnd, wf₁, fun b hb c hc e => ?_⟩
        obtain ⟨q, hq, rfl⟩ := List.mem_map.mp hb
        exact off₁ q.1 (mem_ownF.mp hq).1 (e ▸ hc)
    refine wpAny_mono (turn i v m₁ st₁ (ownF fp h₁) h₁ tk₁ hin hPe hP₁ S₁) (fun fl s' hf => ?_) fun _ _ e => e
    have fin : (∃ h' tk' m' st', s' = up s h' tk' ∧ St CN CL w g L m' (st'.withEx (ownF fp h₁ ++ st'.ex)) h' ∧ P (i + 1) st' m') → LoopStepU g L [I] own (fun m' news' => ∃ st', news' = ledger CN CL w.params st' ∧ (addrs st').Nodup ∧ LSok st' ∧ (∀ b ∈ fp, b ∉ addrs st') ∧ P (i + 1) st' m') (up s h₁ tk₁) .next s' := by
      rintro ⟨h', tk', m', st', rfl, S', hP'⟩
      have Ssub : St CN CL w g L m' st' h' := by
        have := S'.subEx (ex := st'.ex) (List.sublist_append_right _ _)
        exact this
      have offS : ∀ b ∈ fp, b ∉ addrs st' := fun b hb hm => by
        obtain ⟨o, ho⟩ := hlv _ _ hst₁ b hb
        obtain ⟨l1, l2, e1⟩ := List.append_of_mem (mem_ownF.mpr ⟨hb, ho⟩ : (b, o) ∈ ownF fp h₁)
        have off := addrs_off (a := b) (o := o) (pre := l1) (post := l2 ++ st'.ex) S'.wf (by show ownF fp h₁ ++ st'.ex = _; rw [e1, List.append_assoc]; rfl)
        unfold addrs at hm
        simp only [List.mem_cons, List.mem_append] at hm
        rcases hm with e | e | e | e | e
        · exact off.1 e
        · exact off.2.1 e
        · exact off.2.2.1 e
        · exact off.2.2.2.1 e
        · obtain ⟨q, hq, e⟩ := List.mem_map.mp e
          exact off.2.2.2.2.2 q (List.mem_append_right _ hq) e
      refine ⟨rfl, h', tk', m', ledger CN CL w.params st', rfl, Ssub.F, fun q hq => ?_, offI st' offS, st', rfl, Ssub.wf, Ssub.ok, offS, hP'⟩
      rcases List.mem_append.mp hq with hq | hq
      · refine S'.N q ?_
        unfold ledger LS.withEx
        exact .tail _ (.tail _ (.tail _ (List.mem_append_right _ (List.mem_append_left _ ((own_iff q).mp hq)))))
      · exact Ssub.N q hq
    cases fl with
    | ret v => exact .ret hf
    | brk => exact .brk hf
    | next => exact .next (fin hf)
    | cont => exact .cont (fin hf)
  · rintro h' tk' m' news' F' N' _ ⟨st', rfl, wf', ok', off', hP'⟩
    exact done m' st' h' tk' hP' ⟨F', N', wf', ok'⟩

/-- over a list -/
theorem sets_list {l : Addr} {items : Array Value} (hh : A.handled = none) {h1 : Heap} (G : Grow h h1) (hl : h1.IsList l items) (hf : h.get? l = none) :
    wpAny (model prog w) A (pyIter (.ref l)) (Sets prog w A h items.size (fun i v => items[i]? = some v) s) E (up s h1 tk) := by
  refine wpAny_pyIter_list (s := up s h1 tk) hl ⟨h1.objs.size, [h1.objs.size, l], _, _, tk, rfl, rfl, G.trans Grow.push, Walks.list hh h1.objs.size l ?_ items, ⟨⟨_, Heap.get?_push_size _ rfl, rfl, rfl⟩, hl.at fun o e => Heap.get?_push_of_some _ e⟩, ?_, ?_, ?_⟩
  · obtain ⟨o, ho, _⟩ := hl; exact Nat.ne_of_lt (Heap.lt_size ho)
  · intro b hb
    rcases List.mem_cons.mp hb with rfl | hb
    · cases e : h.get? h1.objs.size with
      | none => rfl
      | some o => exact absurd (Heap.lt_size (G _ _ e)) (Nat.lt_irrefl _)
    · rw [List.mem_singleton.mp hb]; exact hf
  · obtain ⟨o, ho, _⟩ := hl
    simp only [List.nodup_cons, List.mem_singleton, List.not_mem_nil, not_false_eq_true, List.nodup_nil, and_true]
    exact Nat.ne_of_gt (Heap.lt_size ho)
  · rintro i h' ⟨⟨o, ho, _⟩, ⟨o2, ho2, _⟩⟩ b hb
    rcases List.mem_cons.mp hb with rfl | hb
    · exact ⟨o, ho⟩
    · rw [List.mem_singleton.mp hb]; exact ⟨o2, ho2⟩
theorem fits {i : Int} (h1 : -200000 ≤ i) (h2 : i ≤ 200000) : Builtin.Range.rangeFitsLong i = true := by
  unfold Builtin.Range.rangeFitsLong
  rw [Bool.and_eq_true, decide_eq_true_eq, decide_eq_true_eq]
  constructor <;> omega
/-- over range(n) -/
theorem sets_range {r : Addr} {n : Nat} {t u v : Tok} (hh : A.handled = none) {h1 : Heap} (G : Grow h h1) (hr : IsRange h1 r 0 n 1 t u v) (hn : n ≤ 100000) :
    wpAny (model prog w) A (pyIter (.ref r)) (Sets prog w A h n (fun i v => IsI i v) s) E (up s h1 tk) := by
  have hsz : Builtin.Range.rangeSize 0 n 1 = n := by unfold Builtin.Range.rangeSize; simp; omega
  refine wpAny_pyIter_range (s := up s h1 tk) hr ?_ ⟨h1.objs.size, [h1.objs.size], _, _, tk, rfl, rfl, G.trans Grow.push, (?_ : Walks prog w A h1.objs.size [h1.objs.size] [h1.objs.size] n _ (fun i h => IsRangeIter h h1.objs.size (0 + (i : Nat) * 1) ((n : Int) - (i : Nat)) 1)), ?_, ?_, by simp, ?_⟩
  · unfold Builtin.Range.small
    rw [hsz, if_pos (by decide), fits (i := 0) (by omega) (by omega), fits (i := (n : Int)) (by omega) (by omega), fits (i := 1) (by omega) (by omega), fits (i := (n : Int) + (1 - 1)) (by omega) (by omega)]
    simp
  · have W := Walks.range (prog := prog) (w := w) hh h1.objs.size 0 1 n
    have e : (fun (i : Nat) v => ∃ t, v = Value.int (0 + (i : Int) * 1) t) = fun (i : Nat) v => IsI (i : Int) v := by
      funext i v; unfold IsI; rw [Int.zero_add, Int.mul_one]
    rw [e] at W
    exact W
  · rw [hsz]
    have := Heap.get?_push_size h1 (o := { cls := .type "range_iterator", data := .fields #[rawInt 0, rawInt n, rawInt 1] }) rfl
    show (h1.push _).get? h1.objs.size = _
    simpa [IsRangeIter] using this
  · intro b hb
    rw [List.mem_singleton.mp hb]
    cases e : h.get? h1.objs.size with
    | none => rfl
    | some o => exact absurd (Heap.lt_size (G _ _ e)) (Nat.lt_irrefl _)
  · rintro i h' ho b hb
    rw [List.mem_singleton.mp hb]; exact ⟨_, ho⟩
end
end Mine
namespace Mine
set_option maxRecDepth 100000
set_option maxHeartbeats 1000000

section
variable {Ky : Type} [DecidableEq Ky] {kvs : List (Ky × Value)} {k : Ky} {v c : Value} {V : List (Ky × Value × Value)}
noncomputable def pr (e : Ky × Value × Value) : Ky × Value := (e.1, e.2.1)
theorem pr_keys : (V.map pr).map (·.1) = V.map (·.1) := by rw [List.map_map]; rfl
theorem without_filter : without kvs k = kvs.filter fun kv => decide (kv.1 ≠ k) := rfl
theorem without_split {A B : List (Ky × Value)} (hn : ((A ++ (k, v) :: B).map (·.1)).Nodup) : without (A ++ (k, v) :: B) k = A ++ B := by
  obtain ⟨h1, h2⟩ := mid_keys hn
  exact rest_mid h1 h2
theorem stored_perm0 (hn : (kvs.map (·.1)).Nodup) : (stored kvs k v).Perm ((k, v) :: without kvs k) := by
  by_cases h : k ∈ kvs.map (·.1)
  · obtain ⟨⟨k', v0⟩, hm, rfl⟩ := List.mem_map.mp h
    obtain ⟨A, B, rfl⟩ := List.append_of_mem hm
    rw [without_split hn]
    obtain ⟨h1, h2⟩ := mid_keys hn
    unfold stored
    rw [if_pos (List.any_eq_true.mpr ⟨_, hm, by simp⟩), List.map_append, List.map_cons, if_pos rfl, map_store_of_not_mem A _ v h1, map_store_of_not_mem B _ v h2]
    exact List.perm_middle
  · rw [stored_new h, without_of_not_mem kvs _ h]
    exact List.perm_append_comm
theorem stored_perm (hn : (kvs.map (·.1)).Nodup) (hp : kvs.Perm (V.map pr)) : (stored kvs k v).Perm ((ins V k (v, c)).map pr) := by
  refine (stored_perm0 hn).trans ?_
  show ((k, v) :: _).Perm ((k, v) :: (rest V k).map pr)
  refine List.Perm.cons _ ?_
  have e : (rest V k).map pr = (V.map pr).filter fun kv => decide (kv.1 ≠ k) := by
    unfold rest
    rw [List.filter_map]; rfl
  rw [e]
  exact hp.filter _
theorem pop_perm {A B : List (Ky × Value)} (hn : (kvs.map (·.1)).Nodup) (hp : kvs.Perm (A ++ (k, v) :: B)) : valueAt kvs k = some v ∧ (without kvs k).Perm (A ++ B) := by
  refine ⟨valueAt_mem hn (hp.mem_iff.mpr (List.mem_append_right _ (.head _))), ?_⟩
  have hn' : ((A ++ (k, v) :: B).map (·.1)).Nodup := (hp.map _).nodup_iff.mp hn
  rw [← without_split hn']
  exact hp.filter _
theorem rest_keys (hn : (V.map (·.1)).Nodup) : (rest V k).map (·.1) = (V.map (·.1)).erase k := by
  by_cases h : k ∈ V.map (·.1)
  · obtain ⟨⟨k', v0⟩, hm, rfl⟩ := List.mem_map.mp h
    obtain ⟨A, B, rfl⟩ := List.append_of_mem hm
    obtain ⟨h1, h2⟩ := mid_keys hn
    rw [rest_mid h1 h2, List.map_append, List.map_append, List.map_cons, List.erase_append_right _ h1, List.erase_cons_head]
  · rw [rest_none h, List.erase_of_not_mem h]
theorem ins_keys {x : Value × Value} (hn : (V.map (·.1)).Nodup) : (ins V k x).map (·.1) = k :: (V.map (·.1)).erase k := by
  show k :: (rest V k).map (·.1) = _
  rw [rest_keys hn]
theorem ins_nodup {x : Value × Value} (hn : (V.map (·.1)).Nodup) : ((ins V k x).map (·.1)).Nodup := by
  rw [ins_keys hn, List.nodup_cons]
  exact ⟨fun h => (List.Nodup.mem_erase_iff hn).mp h |>.1 rfl, hn.erase k⟩
theorem mem_ins {x : Value × Value} {e : Ky × Value × Value} (h : e ∈ ins V k x) : e = (k, x) ∨ e ∈ V := by
  rcases List.mem_cons.mp h with h | h
  · exact .inl h
  · exact .inr (List.mem_filter.mp h).1
theorem isSome_mem (hp : kvs.Perm (V.map pr)) (hn : (kvs.map (·.1)).Nodup) : (valueAt kvs k).isSome = true ↔ k ∈ V.map (·.1) := by
  have e : k ∈ V.map (·.1) ↔ k ∈ kvs.map (·.1) := by rw [← pr_keys]; exact ((hp.map _).mem_iff).symm
  rw [e]
  constructor
  · intro h
    by_cases q : k ∈ kvs.map (·.1)
    · exact q
    · rw [valueAt_none q] at h; cases h
  · intro h
    obtain ⟨⟨k', v0⟩, hm, rfl⟩ := List.mem_map.mp h
    rw [valueAt_mem hn hm]; rfl
theorem look_mem (hn : (V.map (·.1)).Nodup) {x : Value × Value} (h : (k, x) ∈ V) : look V k = some x := by
  obtain ⟨A, B, rfl⟩ := List.append_of_mem h
  exact look_mid (mid_keys hn).1
/-- the law's own map tells what the cache does -/
theorem held_look (hp : kvs.Perm (V.map pr)) (hn : (kvs.map (·.1)).Nodup) : valueAt kvs k = (look V k).map (·.1) := by
  have hV : (V.map (·.1)).Nodup := by rw [← pr_keys]; exact (hp.map _).nodup_iff.mp hn
  by_cases h : k ∈ V.map (·.1)
  · obtain ⟨⟨k', x⟩, hm, rfl⟩ := List.mem_map.mp h
    rw [look_mem hV hm]
    exact valueAt_mem hn (hp.mem_iff.mpr (List.mem_map_of_mem (f := pr) hm))
  · rw [look_none h]
    refine valueAt_none fun q => h ?_
    rw [← pr_keys]; exact ((hp.map _).mem_iff).mp q
end

section
variable {CN CL : Addr} {w : World} {g h : Heap} {L : Addr} {m : Str → Option Value} {st : LS}
theorem St.permEx {ex : List (Addr × Obj)} (S : St CN CL w g L m st h) (hs : ex.Perm st.ex) : St CN CL w g L m (st.withEx ex) h := by
  refine ⟨S.F, fun q hq => S.N q ?_, ?_, ⟨S.ok.F, S.ok.mru, S.ok.lru, S.ok.mx, S.ok.af⟩⟩
  · unfold ledger LS.withEx at hq
    unfold ledger
    simp only [List.mem_cons, List.mem_append] at hq ⊢
    rw [hs.mem_iff] at hq
    exact hq
  · have : (addrs (st.withEx ex)).Perm (addrs st) := by
      unfold addrs LS.withEx
      exact (((hs.map _).append_left _).cons _).cons _ |>.cons _
    rw [this.nodup_iff]; exact S.wf
end
end Mine
namespace Mine
set_option maxRecDepth 100000
set_option maxHeartbeats 1000000

section
variable {Ky : Type} [DecidableEq Ky] {X : Type} {k : Ky} {x : X} {V : List (Ky × X)}
theorem look_some_mem (h : look V k = some x) : (k, x) ∈ V := by
  unfold look at h
  rw [Option.map_eq_some_iff] at h
  obtain ⟨e, he, rfl⟩ := h
  have h1 := List.mem_of_find?_eq_some he
  have h2 := List.find?_some he
  obtain ⟨k', y⟩ := e
  rw [show k = k' from (of_decide_eq_true h2).symm]; exact h1
theorem look_isSome : (look V k).isSome = true ↔ k ∈ V.map (·.1) := by
  constructor
  · intro h
    by_cases q : k ∈ V.map (·.1)
    · exact q
    · rw [look_none q] at h; cases h
  · intro h
    cases e : look V k with
    | some x => rfl
    | none =>
      obtain ⟨⟨k', y⟩, hm, rfl⟩ := List.mem_map.mp h
      unfold look at e
      rw [Option.map_eq_none_iff, List.find?_eq_none] at e
      exact absurd (e _ hm) (by simp)
theorem look_touch : look (touch V k) k = look V k := by
  unfold touch
  cases e : look V k with
  | none => exact e
  | some x => show look ((k, x) :: rest V k) k = _; rw [look_cons, if_pos rfl]
theorem rest_rest : rest (rest V k) k = rest V k := by unfold rest; rw [List.filter_filter]; simp
theorem touch_touch : touch (touch V k) k = touch V k := by
  have h := look_touch (V := V) (k := k)
  cases e : look V k with
  | none => unfold touch; simp only [e]
  | some x =>
    have e1 : touch V k = ins V k x := by unfold touch; rw [e]
    rw [e] at h
    have e0 : ∀ U : List (Ky × X), look U k = some x → touch U k = ins U k x := fun U hU => by unfold touch; rw [hU]
    have e2 : touch (touch V k) k = ins (touch V k) k x := e0 _ h
    rw [e2, e1]
    unfold ins
    have : rest ((k, x) :: rest V k) k = rest V k := by
      unfold rest; rw [List.filter_cons]; simp only [ne_eq, not_true_eq_false, decide_false, Bool.false_eq_true, if_false]
      rw [List.filter_filter]; simp
    rw [this]
theorem touch_perm (hn : (V.map (·.1)).Nodup) : (touch V k).Perm V := by
  cases e : look V k with
  | none => unfold touch; rw [e]
  | some x =>
    have e1 : touch V k = ins V k x := by unfold touch; rw [e]
    rw [e1]
    obtain ⟨A, B, rfl⟩ := List.append_of_mem (look_some_mem e)
    obtain ⟨h1, h2⟩ := mid_keys hn
    unfold ins
    rw [rest_mid h1 h2]
    exact List.perm_middle.symm
end
section
variable {prog : Program} {K : Frag} {CN CL C : Addr} {w : World} {g h₀ h : Heap} {L : Addr} {m : Str → Option Value} {st : LS} {A : Around} {E : Value → Shared → Prop} {s : Shared} {tk tk₀ : Nat} {r : Rg} {v v2 : Value} {env : Env}
  {x dx f : Addr} {es : List DictEntry} {n : Nat} {ox : Obj} {name kn : Str} {apos pos kp : Pos} {o e e2 : Expr}
theorem PvI.neg {a : Int} (he : PvI prog w A env e a h) : PvI prog w A env (.UnaryOp .USub e pos) (-a) h := fun s Q E hs q => by
  refine wpAny_UnaryOp (he _ _ _ hs fun v tk hv => ?_)
  obtain ⟨t, rfl⟩ := hv
  exact PyProof.Rows.neg_int (q _ _ ⟨_, rfl⟩)
/-- o.name(e, e2) as an expression -/
theorem ev_m2E {P : Value → Prop} {Q : Value → Shared → Prop} (hp : Pv prog w A env o (.ref x) h) (he : Pv prog w A env e v h) (he2 : PvE prog w A env e2 P h) (I : W.InstAt h x ox C (some (dictOf es n))) (X : K.In h) (pc : PlainCls K C) (hf : findIn K (.ref C) name = some (some (.ref f)))
    (ht : typeIn K (.ref f) = some (.type "function")) (hkeep : keepIn K (.ref f) = true) (hl : getL name es = some none)
    (q : ∀ v2 tk, P v2 → wpAny (model prog w) A (call (.ref f) [.ref x, v, v2]) Q E (up s h tk)) {pl : Sem Bool}
    (hst : starEach [e, e2] env = (false, eval e env) :: starEach [e2] env) (hst2 : starEach [e2] env = (false, eval e2 env) :: starEach [] env) (hpl : (backTo pos (starEach [e2] env)).any (·.1) = false)
    (hsh : (eval ((o.Attribute name apos).Call [e, e2] [] pos) env = do
          let ov ← eval o env
          standAt apos.atName
          let __x ← holding [ov] (getMethod ov name pl)
          match __x with
            | (f, first) => callWith pos f first (backTo pos (starEach [e, e2] env)) [])) :
    wpAny (model prog w) A (eval ((o.Attribute name apos).Call [e, e2] [] pos) env) Q E (up s h tk) :=
  meth (f := f) (x := x) (hp.at fun tk => ⟨rfl, X, I, spliced_more (he.at fun tk' => spliced_more (he2.at fun v2 tk'' h2 => spliced_none ⟨X, q v2 tk'' h2⟩) hst2) hst⟩) pc hf ht hkeep hl hst hpl hsh
end
end Mine
namespace Mine
set_option maxRecDepth 100000
set_option maxHeartbeats 1000000

/-- what stays of the sort's state: the array turns only -/
structure SB (a₀ : Array Keyed) (st₀ st : SortSt) : Prop where
  perm : (arrOf st).Perm a₀
  kind : kindOf st = oneType'
  failed : failedOf st = none
  pend : pendingOf st = pendingOf st₀
/-- sorted from a to b -/
noncomputable def SOn (xs : Array Keyed) (a b : Nat) : Prop := ∀ i j, a ≤ i → i ≤ j → j < b → K xs i ≤ K xs j
/-- falls from a to b -/
noncomputable def FOn (xs : Array Keyed) (a b : Nat) : Prop := ∀ i j, a ≤ i → i ≤ j → j < b → K xs j ≤ K xs i
/-- the same keys ahead of a -/
noncomputable def Ahead (lo : Nat) (xs ys : Array Keyed) : Prop := ∀ i, i < lo → K ys i = K xs i
theorem Ahead.refl {lo : Nat} {xs : Array Keyed} : Ahead lo xs xs := fun _ _ => rfl
theorem Ahead.trans {lo : Nat} {xs ys zs : Array Keyed} (a : Ahead lo xs ys) (b : Ahead lo ys zs) : Ahead lo xs zs := fun i h => (b i h).trans (a i h)

noncomputable def ascL (lo a nrem : Nat) : StateT SortSt Sem (Option (Option Nat) × Nat) :=
  forIn [a:nrem] ((none, a) : Option (Option Nat) × Nat) fun _ c => do
    let x ← ltAt' (lo + c.snd) (lo + c.snd - 1)
    match x with
    | some smaller => if smaller = true then pure (ForInStep.done (none, c.snd)) else pure (ForInStep.yield (none, c.snd + 1))
    | _ => pure (ForInStep.done (some none, c.snd))
noncomputable def tailL (lo n nrem : Nat) : StateT SortSt Sem (Option Nat) := do
  reverseSlice' lo (lo + n)
  let c ← ascL lo n nrem
  match c.fst with
  | some r => pure r
  | none => pure (some c.snd)
noncomputable def descL (lo n nrem : Nat) : StateT SortSt Sem (Option (Option Nat) × Nat × Nat) :=
  forIn [n:nrem] ((none, n, 0) : Option (Option Nat) × Nat × Nat) fun _ c => do
    let x ← ltAt' (lo + c.snd.fst) (lo + c.snd.fst - 1)
    match x with
    | some smaller =>
      if smaller = true then
        if c.snd.snd > 0 then do
          reverseSlice' (lo + c.snd.fst - (c.snd.snd + 1)) (lo + c.snd.fst)
          pure (ForInStep.yield (none, c.snd.fst + 1, 0))
        else pure (ForInStep.yield (none, c.snd.fst + 1, 0))
      else do
        let y ← ltAt' (lo + c.snd.fst - 1) (lo + c.snd.fst)
        match y with
        | some larger =>
          if larger = true then pure (ForInStep.done (none, c.snd.fst, c.snd.snd))
          else pure (ForInStep.yield (none, c.snd.fst + 1, c.snd.snd + 1))
        | _ => pure (ForInStep.done (some none, c.snd.fst, c.snd.snd))
    | _ => pure (ForInStep.done (some none, c.snd.fst, c.snd.snd))
noncomputable def descP (lo n nrem : Nat) : StateT SortSt Sem (Option Nat) := do
  liftM (rule "list.sort.descending-run")
  let c ← descL lo (n + 1) nrem
  match c.fst with
  | some r => pure r
  | none =>
    if c.snd.snd > 0 then do
      reverseSlice' (lo + c.snd.fst - (c.snd.snd + 1)) (lo + c.snd.fst)
      tailL lo c.snd.fst nrem
    else tailL lo c.snd.fst nrem
theorem bind_eq {α β : Type} {x y : StateT SortSt Sem α} {f g : α → StateT SortSt Sem β} (h : x = y) (hf : ∀ a, f a = g a) : (x >>= f) = (y >>= g) := by
  subst h
  exact congrArg _ (funext hf)
theorem countRunL_eq (lo nrem : Nat) : countRun' lo nrem = (do
    let c ← ascL lo 1 nrem
    match c.fst with
    | some r => pure r
    | none =>
      if (c.snd == nrem) = true then pure (some c.snd)
      else if c.snd > 1 then do
        let x ← ltAt' lo (lo + c.snd - 1)
        match x with
        | some rose => if rose = true then pure (some c.snd) else do
            reverseSlice' lo (lo + c.snd)
            descP lo c.snd nrem
        | _ => pure none
      else descP lo c.snd nrem) := by
  rw [countRun'_eq]
  have tl : ∀ n, tailL lo n nrem = (do
      reverseSlice' lo (lo + n)
      let c ← ascL lo n nrem
      match c.fst with
      | some r => pure r
      | none => pure (some c.snd)) := fun _ => rfl
  refine bind_eq (rfl : _ = ascL lo 1 nrem) fun c => ?_
  obtain ⟨r, n⟩ := c
  cases r with
  | some r => rfl
  | none =>
    dsimp only
    split
    · rfl
    · have dp : ∀ (X : StateT SortSt Sem (Option Nat)), X = descP lo n nrem → X = descP lo n nrem := fun _ h => h
      split
      · refine bind_eq rfl fun x => ?_
        cases x with
        | none => rfl
        | some rose =>
          dsimp only
          split
          · rfl
          · refine bind_eq rfl fun _ => ?_
            refine bind_eq rfl fun _ => bind_eq (rfl : _ = descL lo (n + 1) nrem) fun c => ?_
            obtain ⟨r, n2, q2⟩ := c
            cases r with
            | some r => rfl
            | none =>
              dsimp only
              by_cases h : q2 > 0
              · rw [if_pos h, if_pos h]
                refine bind_eq rfl fun _ => bind_eq rfl fun _ => bind_eq (rfl : _ = ascL lo n2 nrem) fun c => ?_
                obtain ⟨r3, n3⟩ := c
                cases r3 <;> rfl
              · rw [if_neg h, if_neg h]
                refine bind_eq rfl fun _ => bind_eq (rfl : _ = ascL lo n2 nrem) fun c => ?_
                obtain ⟨r3, n3⟩ := c
                cases r3 <;> rfl
      · refine bind_eq rfl fun _ => bind_eq (rfl : _ = descL lo (n + 1) nrem) fun c => ?_
        obtain ⟨r, n2, q2⟩ := c
        cases r with
        | some r => rfl
        | none =>
          dsimp only
          by_cases h : q2 > 0
          · rw [if_pos h, if_pos h]
            refine bind_eq rfl fun _ => bind_eq rfl fun _ => bind_eq (rfl : _ = ascL lo n2 nrem) fun c => ?_
            obtain ⟨r3, n3⟩ := c
            cases r3 <;> rfl
          · rw [if_neg h, if_neg h]
            refine bind_eq rfl fun _ => bind_eq (rfl : _ = ascL lo n2 nrem) fun c => ?_
            obtain ⟨r3, n3⟩ := c
            cases r3 <;> rfl

section
variable {prog : Program} {w : World} {A : Around} {E : Value → Shared → Prop} {s : Shared} {a₀ : Array Keyed} {st₀ : SortSt}
theorem SB.size {st : SortSt} (h : SB a₀ st₀ st) : (arrOf st).size = a₀.size := h.perm.size_eq
theorem SB.setArr {st : SortSt} {xs : Array Keyed} (h : SB a₀ st₀ st) (hp : xs.Perm (arrOf st)) : SB a₀ st₀ (setArr st xs) := ⟨hp.trans h.perm, h.kind, h.failed, h.pend⟩
theorem SB.at {st : SortSt} (h : SB a₀ st₀ st) (h0 : IntKeys a₀) {i : Nat} (hi : i < a₀.size) : ∃ t q, (arrOf st)[i]? = some (.int (K (arrOf st) i) t, q) :=
  SBase.at (st := SortSt.mk' oneType' (arrOf st) #[] 7 none) ⟨h.perm, rfl, rfl, rfl⟩ h0 hi
theorem ltK {st : SortSt} {i j : Nat} {Q : Option Bool → SortSt → Prop} (hB : SB a₀ st₀ st) (h0 : IntKeys a₀) (hi : i < a₀.size) (hj : j < a₀.size)
    (h : Q (some (decide (K (arrOf st) i < K (arrOf st) j))) st) : wpS (model prog w) A E s (ltAt' i j) Q st := by
  obtain ⟨t, p, e1⟩ := hB.at h0 hi
  obtain ⟨u, q, e2⟩ := hB.at h0 hj
  exact wpS_ltAt hB.kind e1 e2 h
end
end Mine
namespace Mine
set_option maxRecDepth 100000
set_option maxHeartbeats 1000000
theorem wpS_loop {σ β : Type} {M : Model} {A : Around} {E : Value → Shared → Prop} {s : Shared} {a b : Nat} {f : Nat → β → StateT σ Sem (ForInStep β)} {Q : β → σ → Prop} {c : β} {st : σ} (P : Nat → ForInStep β → σ → Prop)
    (hs : ∀ i c st, a ≤ i → i < b → P i (.yield c) st → wpS M A E s (f i c) (P (i + 1)) st) (h0 : P a (.yield c) st) (hd : ∀ i c st, P (i + 1) (.done c) st → Q c st) (he : ∀ c st, P (max a b) (.yield c) st → Q c st) :
    wpS M A E s (forIn [a:b] c f) Q st :=
  wpS_forRange (I := fun i c st => P i (.yield c) st) (fun i c st h1 h2 h3 => wpS_mono (hs i c st h1 h2 h3) fun r st' h => by cases r with
    | done c' => exact hd _ _ _ h
    | yield c' => exact h) (fun c st h => he c st h) h0
theorem wpS_beq {σ α : Type} {M : Model} {A : Around} {E : Value → Shared → Prop} {s : Shared} {x y : Nat} {t e : StateT σ Sem α} {Q : α → σ → Prop} {st : σ} (h1 : x = y → wpS M A E s t Q st) (h2 : x ≠ y → wpS M A E s e Q st) : wpS M A E s (if (x == y) = true then t else e) Q st := by
  by_cases h : x = y
  · rw [if_pos (by simpa using h)]; exact h1 h
  · rw [if_neg (by simpa using h)]; exact h2 h
theorem wpS_ite {σ α : Type} {M : Model} {A : Around} {E : Value → Shared → Prop} {s : Shared} {c : Prop} [Decidable c] {t e : StateT σ Sem α} {Q : α → σ → Prop} {st : σ} (h1 : c → wpS M A E s t Q st) (h2 : ¬c → wpS M A E s e Q st) : wpS M A E s (if c then t else e) Q st := by
  by_cases h : c
  · rw [if_pos h]; exact h1 h
  · rw [if_neg h]; exact h2 h

theorem SOn.one {xs : Array Keyed} {lo : Nat} : SOn xs lo (lo + 1) := fun i j h1 h2 h3 => by
  obtain rfl := Nat.le_antisymm h2 (Nat.le_trans (Nat.le_of_lt_succ h3) h1)
  exact Int.le_refl _
theorem FOn.one {xs : Array Keyed} {lo : Nat} : FOn xs lo (lo + 1) := fun i j h1 h2 h3 => by
  obtain rfl := Nat.le_antisymm h2 (Nat.le_trans (Nat.le_of_lt_succ h3) h1)
  exact Int.le_refl _
theorem SOn.snoc {xs : Array Keyed} {lo n : Nat} (h : SOn xs lo n) (hle : K xs (n - 1) ≤ K xs n) : SOn xs lo (n + 1) := fun i j h1 h2 h3 => by
  rcases Nat.lt_or_eq_of_le (Nat.le_of_lt_succ h3) with c | rfl
  · exact h i j h1 h2 c
  · rcases Nat.lt_or_eq_of_le h2 with d | rfl
    · exact Int.le_trans (h i (j - 1) h1 (Nat.le_sub_one_of_lt d) (Nat.sub_one_lt_of_lt d)) hle
    · exact Int.le_refl _
theorem FOn.snoc {xs : Array Keyed} {lo n : Nat} (h : FOn xs lo n) (hle : K xs n ≤ K xs (n - 1)) : FOn xs lo (n + 1) := fun i j h1 h2 h3 => by
  rcases Nat.lt_or_eq_of_le (Nat.le_of_lt_succ h3) with c | rfl
  · exact h i j h1 h2 c
  · rcases Nat.lt_or_eq_of_le h2 with d | rfl
    · exact Int.le_trans hle (h i (j - 1) h1 (Nat.le_sub_one_of_lt d) (Nat.sub_one_lt_of_lt d))
    · exact Int.le_refl _
theorem FOn.congr {xs ys : Array Keyed} {lo n : Nat} (h : FOn xs lo n) (hk : ∀ k, K ys k = K xs k) : FOn ys lo n := fun i j h1 h2 h3 => by
  rw [hk, hk]; exact h i j h1 h2 h3
/-- the last q + 1 keys ahead of e are alike -/
noncomputable def Eqs (ys : Array Keyed) (e q : Nat) : Prop := ∀ i, e - (q + 1) ≤ i → i < e → K ys i = K ys (e - 1)
theorem Eqs.zero {ys : Array Keyed} {e : Nat} : Eqs ys e 0 := fun i h1 h2 => congrArg (K ys) (Nat.le_antisymm (Nat.le_sub_one_of_lt h2) h1)
theorem Eqs.snoc {ys : Array Keyed} {e q : Nat} (he : Eqs ys e q) (h : K ys e = K ys (e - 1)) : Eqs ys (e + 1) (q + 1) := fun i h1 h2 => by
  rw [Nat.add_sub_cancel]
  rcases Nat.lt_or_eq_of_le (Nat.le_of_lt_succ h2) with c | rfl
  · rw [h]; exact he i (by rwa [Nat.add_sub_add_right] at h1) c
  · rfl
theorem ahead_mirror {xs : Array Keyed} {lo i j : Nat} (hj : j ≤ xs.size) (hi : lo ≤ i) : Ahead lo xs (mirror xs i j ((j - i) / 2)) := fun k hk => by
  rw [K_mirror hj, if_neg fun h => Nat.not_lt_of_le (Nat.le_trans hi h.1) hk]
theorem mirror_up {xs : Array Keyed} {lo n : Nat} (hj : n ≤ xs.size) (h : FOn xs lo n) : SOn (mirror xs lo n ((n - lo) / 2)) lo n := fun i j h1 h2 h3 => by
  rw [K_mirror hj, K_mirror hj, if_pos ⟨h1, Nat.lt_of_le_of_lt h2 h3⟩, if_pos ⟨Nat.le_trans h1 h2, h3⟩]
  exact h _ _ (by omega) (Nat.sub_le_sub_left h2 _) (by omega)
theorem lo_le {lo x q : Nat} (h : q + 1 ≤ x) : lo ≤ lo + x - (q + 1) := by omega
inductive AscP (xs : Array Keyed) (st : SortSt) (lo a nrem x : Nat) : ForInStep (Option (Option Nat) × Nat) → SortSt → Prop
  | go (hs : SOn xs lo (lo + x)) : AscP xs st lo a nrem x (.yield (none, x)) st
  | brk {n} (h1 : a ≤ n) (h2 : n ≤ nrem) (hs : SOn xs lo (lo + n)) (hlt : K xs (lo + n) < K xs (lo + n - 1)) : AscP xs st lo a nrem x (.done (none, n)) st
inductive DescP (a₀ xs : Array Keyed) (st₀ : SortSt) (lo n nrem x : Nat) : ForInStep (Option (Option Nat) × Nat × Nat) → SortSt → Prop
  | go {q st} (B : SB a₀ st₀ st) (ha : Ahead lo xs (arrOf st)) (hs : FOn (arrOf st) lo (lo + x)) (hq : q + 1 ≤ x) (he : Eqs (arrOf st) (lo + x) q) : DescP a₀ xs st₀ lo n nrem x (.yield (none, x, q)) st
  | brk {m q st} (B : SB a₀ st₀ st) (ha : Ahead lo xs (arrOf st)) (hs : FOn (arrOf st) lo (lo + m)) (h1 : n ≤ m) (h2 : m ≤ nrem) (hq : q + 1 ≤ m) (he : Eqs (arrOf st) (lo + m) q) : DescP a₀ xs st₀ lo n nrem x (.done (none, m, q)) st
section
variable {prog : Program} {w : World} {A : Around} {E : Value → Shared → Prop} {s : Shared} {a₀ : Array Keyed} {st₀ : SortSt}
theorem w_rev {st : SortSt} {i j : Nat} {Q : Unit → SortSt → Prop} (h : Q () (setArr st (mirror (arrOf st) i j ((j - i) / 2)))) :
    wpS (model prog w) A E s (reverseSlice' i j) Q st := wpS_reverse h
theorem w_ascL {st : SortSt} {lo a nrem : Nat} {Q : Option (Option Nat) × Nat → SortSt → Prop} (h0 : IntKeys a₀) (hn : lo + nrem ≤ a₀.size) (ha : 1 ≤ a) (han : a ≤ nrem) (hB : SB a₀ st₀ st)
    (hs : SOn (arrOf st) lo (lo + a))
    (h : ∀ n, a ≤ n → n ≤ nrem → SOn (arrOf st) lo (lo + n) → (n = nrem ∨ K (arrOf st) (lo + n) < K (arrOf st) (lo + n - 1)) → Q (none, n) st) :
    wpS (model prog w) A E s (ascL lo a nrem) Q st := by
  refine wpS_loop (AscP (arrOf st) st lo a nrem) (fun x c st' hax hxn hP => ?_) (.go hs) (fun x c st' hP => ?_) (fun c st' hP => ?_)
  · cases hP with | go hs' =>
    have hx := Nat.lt_of_lt_of_le (Nat.add_lt_add_left hxn lo) hn
    refine wpS_bind (ltK hB h0 hx (Nat.lt_of_le_of_lt (Nat.sub_le _ _) hx) (wpS_ite (fun q => ?_) fun q => ?_))
    · exact wpS_pure (.brk hax (Nat.le_of_lt hxn) hs' (of_decide_eq_true q))
    · exact wpS_pure (.go (hs'.snoc (Int.not_lt.mp fun r => q (decide_eq_true r))))
  · cases hP with | brk h1 h2 h3 h4 => exact h _ h1 h2 h3 (.inr h4)
  · rw [Nat.max_eq_right han] at hP
    cases hP with | go hs' => exact h nrem han (Nat.le_refl _) hs' (.inl rfl)
theorem w_tailL {st : SortSt} {lo n nrem : Nat} {Q : Option Nat → SortSt → Prop} (h0 : IntKeys a₀) (hn : lo + nrem ≤ a₀.size) (h1 : 1 ≤ n) (hnn : n ≤ nrem) (hB : SB a₀ st₀ st)
    (hs : FOn (arrOf st) lo (lo + n)) (h : ∀ m st', SB a₀ st₀ st' → Ahead lo (arrOf st) (arrOf st') → 1 ≤ m → m ≤ nrem → SOn (arrOf st') lo (lo + m) → Q (some m) st') :
    wpS (model prog w) A E s (tailL lo n nrem) Q st := by
  have hsz : lo + n ≤ (arrOf st).size := by rw [hB.size]; exact Nat.le_trans (Nat.add_le_add_left hnn lo) hn
  have hB' : SB a₀ st₀ (setArr st (mirror (arrOf st) lo (lo + n) ((lo + n - lo) / 2))) := hB.setArr (mirror_perm _ _ _ _)
  exact wpS_bind (w_rev (wpS_bind (w_ascL h0 hn h1 hnn hB' (mirror_up hsz hs) fun m hm1 hm2 hsm _ => wpS_pure (h m _ hB' (ahead_mirror hsz (Nat.le_refl _)) (Nat.le_trans h1 hm1) hm2 hsm))))
theorem w_descL {st : SortSt} {lo n nrem : Nat} {Q : Option (Option Nat) × Nat × Nat → SortSt → Prop} (h0 : IntKeys a₀) (hn : lo + nrem ≤ a₀.size) (h1 : 1 ≤ n) (hnn : n ≤ nrem) (hB : SB a₀ st₀ st)
    (hs : FOn (arrOf st) lo (lo + n))
    (h : ∀ m q st', SB a₀ st₀ st' → Ahead lo (arrOf st) (arrOf st') → n ≤ m → m ≤ nrem → FOn (arrOf st') lo (lo + m) → q + 1 ≤ m → Eqs (arrOf st') (lo + m) q → Q (none, m, q) st') :
    wpS (model prog w) A E s (descL lo n nrem) Q st := by
  refine wpS_loop (DescP a₀ (arrOf st) st₀ lo n nrem) (fun x c st' hax hxn hP => ?_) (.go hB Ahead.refl hs h1 Eqs.zero) (fun x c st' hP => ?_) (fun c st' hP => ?_)
  · cases hP with | @go q st' B ha hs he1 he =>
    have hx := Nat.lt_of_lt_of_le (Nat.add_lt_add_left hxn lo) hn
    have hx' := Nat.lt_of_le_of_lt (Nat.sub_le (lo + x) 1) hx
    have x1 : 0 + 1 ≤ x + 1 := Nat.le_add_left _ _
    have hsz : lo + x ≤ (arrOf st').size := by rw [B.size]; exact Nat.le_of_lt hx
    refine wpS_bind (ltK B h0 hx hx' (wpS_ite (fun hless => ?_) fun hless => ?_))
    · have s1 := hs.snoc (Int.le_of_lt (of_decide_eq_true hless))
      refine wpS_ite (fun _ => ?_) fun _ => ?_
      · exact wpS_bind (w_rev (wpS_pure (.go (B.setArr (mirror_perm _ _ _ _)) (ha.trans (ahead_mirror hsz (lo_le he1))) (s1.congr (K_mirror_equal hsz he)) x1 Eqs.zero)))
      · exact wpS_pure (.go B ha s1 x1 Eqs.zero)
    · refine wpS_bind (ltK B h0 hx' hx (wpS_ite (fun hl => ?_) fun hl => ?_))
      · exact wpS_pure (.brk B ha hs hax (Nat.le_of_lt hxn) he1 he)
      · have l1 := Int.not_lt.mp fun r => hl (decide_eq_true r)
        exact wpS_pure (.go B ha (hs.snoc l1) (Nat.succ_le_succ he1) (he.snoc (Int.le_antisymm l1 (Int.not_lt.mp fun r => hless (decide_eq_true r)))))
  · cases hP with | brk B ha hs h1 h2 hq he => exact h _ _ _ B ha h1 h2 hs hq he
  · rw [Nat.max_eq_right hnn] at hP
    cases hP with | go B ha hs hq he => exact h _ _ _ B ha hnn (Nat.le_refl _) hs hq he
theorem w_descP {st : SortSt} {lo n nrem : Nat} {Q : Option Nat → SortSt → Prop} (h0 : IntKeys a₀) (hn : lo + nrem ≤ a₀.size) (hnn : n + 1 ≤ nrem) (hB : SB a₀ st₀ st)
    (hs : FOn (arrOf st) lo (lo + (n + 1))) (h : ∀ m st', SB a₀ st₀ st' → Ahead lo (arrOf st) (arrOf st') → 1 ≤ m → m ≤ nrem → SOn (arrOf st') lo (lo + m) → Q (some m) st') :
    wpS (model prog w) A E s (descP lo n nrem) Q st := by
  refine wpS_bind (wpS_lift (wpAny_rule ⟨rfl, ?_⟩))
  refine wpS_bind (w_descL h0 hn (Nat.le_add_left _ _) hnn hB hs fun m q st' hB' ha' hm1 hm2 hs' hq he => ?_)
  have hsz : lo + m ≤ (arrOf st').size := by rw [hB'.size]; exact Nat.le_trans (Nat.add_le_add_left hm2 lo) hn
  have m1 := Nat.le_trans (Nat.le_add_left _ _) hm1
  refine wpS_ite (fun _ => ?_) fun _ => ?_
  · exact wpS_bind (w_rev (w_tailL h0 hn m1 hm2 (hB'.setArr (mirror_perm _ _ _ _)) (hs'.congr (K_mirror_equal hsz he)) fun m2 st2 a b c d e => h m2 st2 a ((ha'.trans (ahead_mirror hsz (lo_le hq))).trans b) c d e))
  · exact w_tailL h0 hn m1 hm2 hB' hs' fun m2 st2 a b c d e => h m2 st2 a (ha'.trans b) c d e
/-- a run is counted, and laid upward -/
theorem w_countRun {st : SortSt} {lo nrem : Nat} {Q : Option Nat → SortSt → Prop} (h0 : IntKeys a₀) (hn : lo + nrem ≤ a₀.size) (h1 : 1 ≤ nrem) (hB : SB a₀ st₀ st)
    (h : ∀ m st', SB a₀ st₀ st' → Ahead lo (arrOf st) (arrOf st') → 1 ≤ m → m ≤ nrem → SOn (arrOf st') lo (lo + m) → Q (some m) st') :
    wpS (model prog w) A E s (countRun' lo nrem) Q st := by
  rw [countRunL_eq]
  refine wpS_bind (w_ascL h0 hn (Nat.le_refl 1) h1 hB SOn.one fun n hn1 hn2 hsn hor => ?_)
  refine wpS_beq (fun _ => wpS_pure (h n st hB Ahead.refl hn1 hn2 hsn)) fun hnn => ?_
  have hlt : K (arrOf st) (lo + n) < K (arrOf st) (lo + n - 1) := hor.resolve_left hnn
  have hn3 := Nat.lt_of_le_of_ne hn2 hnn
  have hl3 := Nat.lt_of_lt_of_le (Nat.add_lt_add_left hn3 lo) hn
  have hl2 := Nat.lt_of_le_of_lt (Nat.sub_le (lo + n) 1) hl3
  refine wpS_ite (fun hgt => ?_) fun hgt => ?_
  · refine wpS_bind (ltK hB h0 (Nat.lt_of_le_of_lt (Nat.le_add_right _ _) hl3) hl2 (wpS_ite (fun _ => wpS_pure (h n st hB Ahead.refl hn1 hn2 hsn)) fun hrose => ?_))
    have hsz : lo + n ≤ (arrOf st).size := by rw [hB.size]; exact Nat.le_of_lt hl3
    have hrose := Int.not_lt.mp fun r => hrose (decide_eq_true r)
    have pr : lo + n - 1 < lo + n := Nat.sub_one_lt_of_lt (Nat.lt_add_of_pos_right hn1)
    have hall : ∀ k, lo ≤ k → k < lo + n → K (arrOf st) k = K (arrOf st) (lo + n - 1) := fun k hk0 hk =>
      Int.le_antisymm (hsn k _ hk0 (Nat.le_sub_one_of_lt hk) pr) (Int.le_trans hrose (hsn lo k (Nat.le_refl _) hk0 hk))
    have f1 : FOn (arrOf st) lo (lo + n) := fun i j q1 q2 q3 => Int.le_of_eq ((hall j (Nat.le_trans q1 q2) q3).trans (hall i q1 (Nat.lt_of_le_of_lt q2 q3)).symm)
    exact wpS_bind (w_rev (w_descP h0 hn hn3 (hB.setArr (mirror_perm _ _ _ _)) ((f1.snoc (Int.le_of_lt hlt)).congr (K_mirror_equal hsz hall)) fun m2 st2 a b c d e => h m2 st2 a ((ahead_mirror hsz (Nat.le_refl _)).trans b) c d e))
  · obtain rfl : n = 1 := Nat.le_antisymm (Nat.not_lt.mp hgt) hn1
    exact w_descP h0 hn hn3 hB (FOn.one.snoc (Int.le_of_lt hlt)) h
end
end Mine
namespace Mine
set_option maxRecDepth 100000
set_option maxHeartbeats 1000000
theorem SOn.adj {xs : Array Keyed} {a b : Nat} (h : ∀ i, a ≤ i → i + 1 < b → K xs i ≤ K xs (i + 1)) : SOn xs a b := fun i j h1 h2 h3 => by
  obtain ⟨d, rfl⟩ := Nat.exists_eq_add_of_le h2
  induction d with
  | zero => exact Int.le_refl _
  | succ d ih => exact Int.le_trans (ih (Nat.le_add_right _ _) (Nat.lt_of_succ_lt h3)) (h (i + d) (Nat.le_add_right_of_le h1) h3)
theorem ins_sorted {xs : Array Keyed} {lo k l : Nat} (hk : lo + k < xs.size) (hl : l ≤ k) (hs : SOn xs lo (lo + k)) (h1 : ∀ i, lo ≤ i → i < lo + l → K xs i ≤ K xs (lo + k)) (h2 : ∀ i, lo + l ≤ i → i < lo + k → K xs (lo + k) < K xs i) :
    SOn (bubble xs (lo + k) (lo + k - (lo + l))) lo (lo + k + 1) ∧ Ahead lo xs (bubble xs (lo + k) (lo + k - (lo + l))) := by
  have hle := Nat.add_le_add_left hl lo
  have kb := fun i => K_bubble hk (Nat.sub_le (lo + k) (lo + l)) i
  simp only [Nat.sub_sub_self hle] at kb
  generalize bubble xs (lo + k) (lo + k - (lo + l)) = ys at kb
  have k1 : ∀ i, i < lo + l → K ys i = K xs i := fun i h => by rw [kb, if_neg (Nat.ne_of_lt h), if_neg fun q => Nat.lt_asymm h q.1]
  have k2 : K ys (lo + l) = K xs (lo + k) := by rw [kb, if_pos rfl]
  have k3 : ∀ i, lo + l ≤ i → i < lo + k → K ys (i + 1) = K xs i := fun i h h' => by rw [kb, if_neg (Nat.ne_of_gt (Nat.lt_succ_of_le h)), if_pos ⟨Nat.lt_succ_of_le h, h'⟩, Nat.add_sub_cancel]
  refine ⟨SOn.adj fun i a b => ?_, fun i h => k1 i (Nat.lt_add_right _ h)⟩
  have b' := Nat.lt_of_succ_lt_succ b
  rcases Nat.lt_trichotomy i (lo + l) with c | c | c
  · rw [k1 i c]
    rcases Nat.lt_or_eq_of_le (Nat.succ_le_of_lt c) with d | d
    · rw [k1 _ d]; exact hs _ _ a (Nat.le_succ _) (Nat.lt_of_lt_of_le d hle)
    · rw [show i + 1 = lo + l from d, k2]; exact h1 i a c
  · subst c
    rw [k2, k3 _ (Nat.le_refl _) b']; exact Int.le_of_lt (h2 _ (Nat.le_refl _) b')
  · obtain ⟨d, rfl⟩ := Nat.exists_eq_add_of_lt c
    rw [k3 _ (Nat.le_add_right _ _) (Nat.lt_of_succ_lt b'), k3 _ (Nat.le_of_lt c) b']
    exact hs _ _ (Nat.le_trans (Nat.le_add_right _ _) (Nat.le_add_right _ _)) (Nat.le_succ _) b'
/-- the place of a key is sought between l and r -/
structure Bis (xs : Array Keyed) (lo k x l r : Nat) : Prop where
  lr : l ≤ r
  rk : r ≤ k
  m : r + x ≤ k + l
  below : ∀ i, lo ≤ i → i < lo + l → K xs i ≤ K xs (lo + k)
  above : ∀ i, lo + r ≤ i → i < lo + k → K xs (lo + k) < K xs i
theorem half_lt {l r : Nat} (h : l < r) : (l + r) / 2 < r := by omega
theorem half_ge {l r : Nat} (h : l < r) : l ≤ (l + r) / 2 := by omega
theorem Bis.less {xs : Array Keyed} {lo k x l r : Nat} (B : Bis xs lo k x l r) (h : l < r) (hs : SOn xs lo (lo + k)) (hl : K xs (lo + k) < K xs (lo + (l + r) / 2)) : Bis xs lo k (x + 1) l ((l + r) / 2) :=
  have hh := half_lt h
  ⟨half_ge h, Nat.le_of_lt (Nat.lt_of_lt_of_le hh B.rk), Nat.le_trans (by omega : (l + r) / 2 + (x + 1) ≤ r + x) B.m, B.below, fun i h1 h2 => Int.lt_of_lt_of_le hl (hs _ _ (Nat.le_add_right _ _) h1 h2)⟩
theorem Bis.ge {xs : Array Keyed} {lo k x l r : Nat} (B : Bis xs lo k x l r) (h : l < r) (hs : SOn xs lo (lo + k)) (hl : ¬K xs (lo + k) < K xs (lo + (l + r) / 2)) : Bis xs lo k (x + 1) ((l + r) / 2 + 1) r :=
  have hh := half_lt h
  ⟨hh, B.rk, Nat.le_trans (Nat.succ_le_succ B.m) (Nat.succ_le_succ (Nat.add_le_add_left (half_ge h) k)), fun i h1 h2 => Int.le_trans (hs i _ h1 (Nat.le_of_lt_succ h2) (Nat.add_lt_add_left (Nat.lt_of_lt_of_le hh B.rk) lo)) (Int.not_lt.mp hl), B.above⟩
inductive BisP (xs : Array Keyed) (st : SortSt) (lo k x : Nat) : ForInStep (Option Bool × Nat × Nat) → SortSt → Prop
  | go {l r} (B : Bis xs lo k x l r) : BisP xs st lo k x (.yield (none, l, r)) st
  | brk {l r} (B : Bis xs lo k 0 l r) (h : r ≤ l) : BisP xs st lo k x (.done (none, l, r)) st
section
variable {prog : Program} {w : World} {A : Around} {E : Value → Shared → Prop} {s : Shared} {a₀ : Array Keyed} {st₀ : SortSt}
inductive InsP (a₀ xs : Array Keyed) (st₀ : SortSt) (lo n k : Nat) : ForInStep (Option Bool × Unit) → SortSt → Prop
  | go {st} (B : SB a₀ st₀ st) (h : Ahead lo xs (arrOf st)) (hs : SOn (arrOf st) lo (lo + k)) : InsP a₀ xs st₀ lo n k (.yield (none, ())) st

/-- a short run is filled up by insertion -/
theorem w_binarySort {st : SortSt} {lo n ok : Nat} {Q : Bool → SortSt → Prop} (h0 : IntKeys a₀) (hn : lo + n ≤ a₀.size) (hn1 : 1 ≤ n) (hok : ok ≤ n) (hB : SB a₀ st₀ st) (hs : SOn (arrOf st) lo (lo + ok))
    (h : ∀ st', SB a₀ st₀ st' → Ahead lo (arrOf st) (arrOf st') → SOn (arrOf st') lo (lo + n) → Q true st') : wpS (model prog w) A E s (binarySort' lo n ok) Q st := by
  rw [binarySort'_eq]
  refine wpS_bind (wpS_loop (fun k => InsP a₀ (arrOf st) st₀ lo n k) (fun k c st' _ hkn hP => ?_) ?_ (fun k c st' hP => nomatch hP) fun c st' hP => ?_)
  · cases hP with | go B' ha hs' =>
    have hk : lo + k < a₀.size := Nat.lt_of_lt_of_le (Nat.add_lt_add_left hkn lo) hn
    refine wpS_bind (wpS_loop (BisP (arrOf st') st' lo k) (fun x c st'' _ hx hP => ?_) (.go ⟨Nat.zero_le _, Nat.le_refl _, Nat.le_refl _, fun i h1 h2 => absurd h1 (Nat.not_le_of_lt h2), fun i h1 h2 => absurd h1 (Nat.not_le_of_lt h2)⟩) (fun x c st'' hP => ?_) fun c st'' hP => ?_)
    · cases hP with | @go l r B =>
      refine wpS_ite (fun hge => wpS_pure (.brk ⟨B.lr, B.rk, Nat.le_trans (Nat.le_add_right _ x) B.m, B.below, B.above⟩ hge)) fun hge => ?_
      have hlt := Nat.not_le.mp hge
      refine wpS_bind (ltK B' h0 hk (Nat.lt_trans (Nat.add_lt_add_left (Nat.lt_of_lt_of_le (half_lt hlt) B.rk) lo) hk) (wpS_ite (fun hl => ?_) fun hl => ?_))
      · exact wpS_pure (.go (B.less hlt hs' (of_decide_eq_true hl)))
      · exact wpS_pure (.go (B.ge hlt hs' fun q => hl (decide_eq_true q)))
    all_goals
      have fin : ∀ l r, Bis (arrOf st') lo k 0 l r → r ≤ l → wpS (model prog w) A E s (moveDown' (lo + k) (lo + l) >>= fun _ => pure (ForInStep.yield (none, ()))) (InsP a₀ (arrOf st) st₀ lo n (k + 1)) st' := fun l r B hr => by
        obtain rfl := Nat.le_antisymm B.lr hr
        have I := ins_sorted (by rw [B'.size]; exact hk) B.rk hs' B.below B.above
        rw [moveDown'_eq]
        exact wpS_bind (wpS_modify (wpS_pure (.go (B'.setArr (bubble_perm _ _ _)) (ha.trans I.2) I.1)))
      cases hP
    · exact fin _ _ ‹_› ‹_›
    · rename_i l r B
      exact fin _ _ ⟨B.lr, B.rk, Nat.le_trans (Nat.le_add_right _ _) B.m, B.below, B.above⟩ (Nat.le_of_add_le_add_right (Nat.le_trans (Nat.add_le_add_left (Nat.le_max_right 0 k) r) (Nat.le_trans B.m (Nat.le_of_eq (Nat.add_comm _ _)))))
  · refine .go hB Ahead.refl fun i j hi hij hj => ?_
    by_cases h1 : ok = 0
    · have : i = j := by subst h1; exact Nat.le_antisymm hij (Nat.le_trans (Nat.le_of_lt_succ hj) hi)
      subst this; exact Int.le_refl _
    · exact hs i j hi hij (by rwa [Nat.max_eq_left (Nat.pos_of_ne_zero h1)] at hj)
  · rw [Nat.max_eq_right (Nat.max_le.mpr ⟨hok, hn1⟩)] at hP
    cases hP with | go B' ha hs' => exact wpS_pure (h _ B' ha hs')
end

/-- the gallop: how far an array's part is below a key -/
noncomputable def gallop' : Bool → Keyed → Array Keyed → Nat → Nat → Nat → StateT SortSt Sem (Option Nat) := sortPriv% PySem.Builtin.gallop
noncomputable def beyond' (left : Bool) (key : Keyed) (arr : Array Keyed) (base i : Nat) : StateT SortSt Sem (Option Bool) := do
  let x ← elem' arr (base + i)
  if left then lt' x key else return (← lt' key x).map (!·)
theorem gallop'_eq (left : Bool) (key : Keyed) (arr : Array Keyed) (base n hint : Nat) : gallop' left key arr base n hint = (do
  let mut lastofs := 0
  let mut ofs := 1
  let mut lo := 0
  let mut hi := 0
  let some right ← beyond' left key arr base hint | return none
  if right then
    let maxofs := n - hint
    for _ in [0:n] do
      if ofs ≥ maxofs then break
      let some more ← beyond' left key arr base (hint + ofs) | return none
      if !more then break
      lastofs := ofs
      ofs := 2 * ofs + 1
    lo := hint + lastofs + 1
    hi := hint + min ofs maxofs
  else
    let maxofs := hint + 1
    for _ in [0:n] do
      if ofs ≥ maxofs then break
      let some found ← beyond' left key arr base (hint - ofs) | return none
      if found then break
      lastofs := ofs
      ofs := 2 * ofs + 1
    lo := hint + 1 - min ofs maxofs
    hi := hint - lastofs
  for _ in [0:n] do
    if lo ≥ hi then break
    let m := lo + (hi - lo) / 2
    let some more ← beyond' left key arr base m | return none
    if more then lo := m + 1 else hi := m
  return some hi) := rfl
end Mine
namespace Mine
set_option maxRecDepth 100000
set_option maxHeartbeats 1000000
section
variable {prog : Program} {w : World} {A : Around} {E : Value → Shared → Prop} {s : Shared} {a₀ : Array Keyed} {st₀ : SortSt}

noncomputable def IsKey (kk : Int) (key : Keyed) : Prop := ∃ t p, key = (.int kk t, p)
theorem key_at {arr : Array Keyed} (ha : IntKeys arr) {i : Nat} (hi : i < arr.size) : ∃ x, arr[i]? = some x ∧ IsKey (K arr i) x := by
  obtain ⟨n, t, hn⟩ := ha arr[i] (by simp)
  refine ⟨arr[i], getElem?_pos arr i hi, t, arr[i].2, ?_⟩
  have e2 : arr[i] = (.int n t, arr[i].2) := Prod.ext hn rfl
  have : K arr i = n := by unfold K; rw [getElem?_pos arr i hi, e2]; rfl
  rw [this]; exact e2
theorem w_lt {st : SortSt} {x y : Keyed} {a b : Int} {Q : Option Bool → SortSt → Prop} (hk : kindOf st = oneType') (hx : IsKey a x) (hy : IsKey b y) (h : Q (some (decide (a < b))) st) : wpS (model prog w) A E s (lt' x y) Q st := by
  obtain ⟨t, p, rfl⟩ := hx
  obtain ⟨u, q, rfl⟩ := hy
  rw [lt'_eq]
  refine wpS_bind (wpS_get ?_)
  rw [hk, keyLt'_oneType]
  refine wpS_bind (wpS_lift (wpAny_attempt (oneLt_int ⟨rfl, ?_⟩)))
  exact wpS_pure h
theorem w_elem {st : SortSt} {arr : Array Keyed} {i : Nat} {x : Keyed} {Q : Keyed → SortSt → Prop} (hx : arr[i]? = some x) (h : Q x st) : wpS (model prog w) A E s (elem' arr i) Q st := by
  rw [elem'_eq, hx]; exact wpS_pure h
noncomputable def bey (left : Bool) (kk : Int) (arr : Array Keyed) (base i : Nat) : Bool := if left then decide (K arr (base + i) < kk) else !decide (kk < K arr (base + i))
theorem w_beyond {st : SortSt} {left : Bool} {key : Keyed} {arr : Array Keyed} {base i : Nat} {kk : Int} {Q : Option Bool → SortSt → Prop} (hk : kindOf st = oneType') (hkey : IsKey kk key) (ha : IntKeys arr) (hi : base + i < arr.size)
    (h : Q (some (bey left kk arr base i)) st) : wpS (model prog w) A E s (beyond' left key arr base i) Q st := by
  obtain ⟨x, hx, hix⟩ := key_at ha hi
  unfold beyond'
  refine wpS_bind (w_elem hx ?_)
  cases left with
  | true => exact w_lt hk hix hkey h
  | false => exact wpS_bind (w_lt hk hkey hix (wpS_pure h))
theorem bey_anti {left : Bool} {kk : Int} {arr : Array Keyed} {base n i j : Nat} (hs : SOn arr base (base + n)) (hij : i ≤ j) (hj : j < n) (h : bey left kk arr base j = true) : bey left kk arr base i = true := by
  have := hs (base + i) (base + j) (by omega) (by omega) (by omega)
  unfold bey at h ⊢
  cases left with
  | true => simp only [if_true, decide_eq_true_eq] at h ⊢; omega
  | false => simp only [Bool.false_eq_true, if_false, Bool.not_eq_true', decide_eq_false_iff_not] at h ⊢; omega

noncomputable def searchL (left : Bool) (key : Keyed) (arr : Array Keyed) (base n lo hi : Nat) : StateT SortSt Sem (Option Nat) := do
  let c ← forIn [0:n] ((none, lo, hi) : Option (Option Nat) × Nat × Nat) fun _ c =>
      if c.snd.fst ≥ c.snd.snd then pure (ForInStep.done (none, c.snd.fst, c.snd.snd))
      else do
        let x ← beyond' left key arr base (c.snd.fst + (c.snd.snd - c.snd.fst) / 2)
        match x with
        | some more =>
          if more = true then pure (ForInStep.yield (none, c.snd.fst + (c.snd.snd - c.snd.fst) / 2 + 1, c.snd.snd))
          else pure (ForInStep.yield (none, c.snd.fst, c.snd.fst + (c.snd.snd - c.snd.fst) / 2))
        | _ => pure (ForInStep.done (some none, c.snd.fst, c.snd.snd))
  match c.fst with
  | some r => pure r
  | none => pure (some c.snd.snd)
theorem wpS_eq {α : Type} {m m' : StateT SortSt Sem α} {Q : α → SortSt → Prop} {st : SortSt} (e : m = m') (h : wpS (model prog w) A E s m' Q st) : wpS (model prog w) A E s m Q st := e ▸ h
structure Srch (f : Nat → Bool) (n x lo hi : Nat) : Prop where
  lh : lo ≤ hi
  hn : hi ≤ n
  m : hi + x ≤ n + lo
  b1 : ∀ i, i < lo → f i = true
  b2 : ∀ i, hi ≤ i → i < n → f i = false
/-- true ahead of a place, false from it on -/
structure Fall (f : Nat → Bool) (n : Nat) : Prop where
  down : ∀ i j, i ≤ j → j < n → f j = true → f i = true
theorem Fall.up {f : Nat → Bool} {n : Nat} (F : Fall f n) {i j : Nat} (h1 : i ≤ j) (h2 : j < n) (h : f i = false) : f j = false := by
  cases e : f j with
  | false => rfl
  | true => rw [F.down i j h1 h2 e] at h; cases h
theorem mid_lt {lo hi : Nat} (h : lo < hi) : lo + (hi - lo) / 2 < hi := by omega
theorem Srch.more {f : Nat → Bool} {n x lo hi : Nat} (S : Srch f n x lo hi) (F : Fall f n) (h : lo < hi) (hb : f (lo + (hi - lo) / 2) = true) : Srch f n (x + 1) (lo + (hi - lo) / 2 + 1) hi :=
  ⟨mid_lt h, S.hn, Nat.succ_le_succ (Nat.le_trans S.m (Nat.add_le_add_left (Nat.le_add_right _ _) n)), fun i hi' => F.down i _ (Nat.le_of_lt_succ hi') (Nat.lt_of_lt_of_le (mid_lt h) S.hn) hb, S.b2⟩
theorem Srch.less {f : Nat → Bool} {n x lo hi : Nat} (S : Srch f n x lo hi) (F : Fall f n) (h : lo < hi) (hb : f (lo + (hi - lo) / 2) = false) : Srch f n (x + 1) lo (lo + (hi - lo) / 2) :=
  ⟨Nat.le_add_right _ _, Nat.le_trans (Nat.le_of_lt (mid_lt h)) S.hn, Nat.le_trans (by rw [← Nat.add_assoc, Nat.add_right_comm]; exact Nat.add_le_add_right (mid_lt h) x) S.m, S.b1, fun i h1 h2 => F.up h1 h2 hb⟩
inductive SrchP (f : Nat → Bool) (st : SortSt) (n x : Nat) : ForInStep (Option (Option Nat) × Nat × Nat) → SortSt → Prop
  | go {lo hi} (S : Srch f n x lo hi) : SrchP f st n x (.yield (none, lo, hi)) st
  | brk {lo hi} (S : Srch f n 0 lo hi) (h : hi ≤ lo) : SrchP f st n x (.done (none, lo, hi)) st
theorem fall_bey {left : Bool} {kk : Int} {arr : Array Keyed} {base n : Nat} (hs : SOn arr base (base + n)) : Fall (bey left kk arr base) n := ⟨fun _ _ h1 h2 h => bey_anti hs h1 h2 h⟩
theorem Srch.fin {f : Nat → Bool} {n x lo hi : Nat} (S : Srch f n x lo hi) (h : hi ≤ lo) : hi ≤ n ∧ (∀ i, i < hi → f i = true) ∧ ∀ i, hi ≤ i → i < n → f i = false :=
  ⟨S.hn, fun i h1 => S.b1 i (Nat.lt_of_lt_of_le h1 h), S.b2⟩
theorem w_search {st : SortSt} {left : Bool} {key : Keyed} {arr : Array Keyed} {base n lo hi : Nat} {kk : Int} {Q : Option Nat → SortSt → Prop} (hk : kindOf st = oneType') (hkey : IsKey kk key) (ha : IntKeys arr) (hn : base + n ≤ arr.size) (F : Fall (bey left kk arr base) n)
    (S : Srch (bey left kk arr base) n 0 lo hi) (h : ∀ hi, (hi ≤ n ∧ (∀ i, i < hi → bey left kk arr base i = true) ∧ ∀ i, hi ≤ i → i < n → bey left kk arr base i = false) → Q (some hi) st) :
    wpS (model prog w) A E s (searchL left key arr base n lo hi) Q st := by
  refine wpS_bind (wpS_loop (SrchP (bey left kk arr base) st n) (fun x c st' _ _ hP => ?_) (.go S) (fun x c st' hP => ?_) (fun c st' hP => ?_))
  · cases hP with | @go lo hi S =>
    refine wpS_ite (fun hge => wpS_pure (.brk ⟨S.lh, S.hn, Nat.le_trans (Nat.le_add_right _ x) S.m, S.b1, S.b2⟩ hge)) fun hge => ?_
    have hlt := Nat.not_le.mp hge
    refine wpS_bind (w_beyond hk hkey ha (Nat.lt_of_lt_of_le (Nat.add_lt_add_left (Nat.lt_of_lt_of_le (mid_lt hlt) S.hn) base) hn) (wpS_ite (fun hb => ?_) fun hb => ?_))
    · exact wpS_pure (.go (S.more F hlt hb))
    · exact wpS_pure (.go (S.less F hlt (eq_false_of_ne_true hb)))
  · cases hP with | brk S hh => exact wpS_pure (h _ (S.fin hh))
  · cases hP with | @go lo hi S => exact wpS_pure (h _ (S.fin (Nat.le_of_add_le_add_left (Nat.le_trans (Nat.le_of_eq (Nat.add_comm _ _)) (Nat.le_trans (Nat.add_le_add_left (Nat.le_max_right 0 n) hi) S.m)))))

structure Gr (f : Nat → Bool) (n hint la oo : Nat) : Prop where
  lt : la < oo
  fit : hint + la < n
  t : f (hint + la) = true
theorem Gr.srch {f : Nat → Bool} {n hint la oo : Nat} (G : Gr f n hint la oo) (F : Fall f n) (h : n - hint ≤ oo ∨ (hint + oo < n ∧ f (hint + oo) = false)) : Srch f n 0 (hint + la + 1) (hint + min oo (n - hint)) := by
  obtain ⟨lt, fit, t⟩ := G
  have e1 : min oo (n - hint) ≤ n - hint := Nat.min_le_right _ _
  have l1 : hint + la + 1 ≤ hint + min oo (n - hint) := Nat.add_le_add_left (Nat.le_min.mpr ⟨lt, by omega⟩ : la + 1 ≤ _) hint
  have l2 : hint + min oo (n - hint) ≤ n := by omega
  refine ⟨l1, l2, Nat.le_trans l2 (Nat.le_add_right _ _), fun i hi => F.down i _ (Nat.le_of_lt_succ hi) fit t, fun i h1 h2 => ?_⟩
  rcases h with h | ⟨h, h3⟩
  · rw [Nat.min_eq_right h] at h1; omega
  · exact F.up (Nat.le_trans (Nat.add_le_add_left (Nat.le_min.mpr ⟨Nat.le_refl _, by omega⟩) hint) h1) h2 h3
structure Gl (f : Nat → Bool) (hint la oo : Nat) : Prop where
  lt : la < oo
  fit : la ≤ hint
  t : f (hint - la) = false
theorem Gl.srch {f : Nat → Bool} {n hint la oo : Nat} (G : Gl f hint la oo) (F : Fall f n) (hh : hint < n) (h : hint + 1 ≤ oo ∨ (oo ≤ hint ∧ f (hint - oo) = true)) : Srch f n 0 (hint + 1 - min oo (hint + 1)) (hint - la) := by
  obtain ⟨lt, fit, t⟩ := G
  refine ⟨by omega, by omega, by omega, fun i hi => ?_, fun i h1 h2 => F.up h1 h2 t⟩
  rcases h with h | ⟨h, h3⟩
  · rw [Nat.min_eq_right h, Nat.sub_self] at hi; cases hi
  · exact F.down i _ (by omega) (by omega) h3
inductive GrP (f : Nat → Bool) (st : SortSt) (n hint x : Nat) : ForInStep (Option (Option Nat) × Nat × Nat) → SortSt → Prop
  | go {la oo} (G : Gr f n hint la oo) (h : x + 1 ≤ oo) : GrP f st n hint x (.yield (none, la, oo)) st
  | brk {la oo} (G : Gr f n hint la oo) (h : n - hint ≤ oo ∨ (hint + oo < n ∧ f (hint + oo) = false)) : GrP f st n hint x (.done (none, la, oo)) st
inductive GlP (f : Nat → Bool) (st : SortSt) (n hint x : Nat) : ForInStep (Option (Option Nat) × Nat × Nat) → SortSt → Prop
  | go {la oo} (G : Gl f hint la oo) (h : x + 1 ≤ oo) : GlP f st n hint x (.yield (none, la, oo)) st
  | brk {la oo} (G : Gl f hint la oo) (h : hint + 1 ≤ oo ∨ (oo ≤ hint ∧ f (hint - oo) = true)) : GlP f st n hint x (.done (none, la, oo)) st
theorem dbl {x oo : Nat} (h : x + 1 ≤ oo) : x + 1 + 1 ≤ 2 * oo + 1 := by omega
theorem dbl_lt {oo : Nat} : oo < 2 * oo + 1 := by omega
theorem w_gallop {st : SortSt} {left : Bool} {key : Keyed} {arr : Array Keyed} {base n hint : Nat} {kk : Int} {Q : Option Nat → SortSt → Prop} (hk : kindOf st = oneType') (hkey : IsKey kk key) (ha : IntKeys arr) (hn : base + n ≤ arr.size) (hh : hint < n) (hs : SOn arr base (base + n))
    (h : ∀ hi, (hi ≤ n ∧ (∀ i, i < hi → bey left kk arr base i = true) ∧ ∀ i, hi ≤ i → i < n → bey left kk arr base i = false) → Q (some hi) st) :
    wpS (model prog w) A E s (gallop' left key arr base n hint) Q st := by
  have F : Fall (bey left kk arr base) n := fall_bey hs
  have at' : ∀ {i}, i < n → base + i < arr.size := fun hi => Nat.lt_of_lt_of_le (Nat.add_lt_add_left hi base) hn
  rw [gallop'_eq]
  refine wpS_bind (w_beyond hk hkey ha (at' hh) (wpS_ite (fun hb => ?_) fun hb => ?_))
  · refine wpS_bind (wpS_mono (wpS_loop (Q := fun c st' => ∃ la oo, c = (none, la, oo) ∧ st' = st ∧ Gr (bey left kk arr base) n hint la oo ∧ (n - hint ≤ oo ∨ (hint + oo < n ∧ bey left kk arr base (hint + oo) = false))) (GrP (bey left kk arr base) st n hint) (fun x c st' _ _ hP => ?_) (.go ⟨Nat.zero_lt_one, hh, hb⟩ (Nat.le_refl _)) (fun x c st' hP => ?_) (fun c st' hP => ?_)) ?_)
    · cases hP with | @go la oo G hx =>
      refine wpS_ite (fun hge => wpS_pure (.brk G (.inl hge))) fun hge => ?_
      have hlt : hint + oo < n := Nat.add_lt_of_lt_sub' (Nat.not_le.mp hge)
      refine wpS_bind (w_beyond hk hkey ha (at' hlt) (wpS_ite (fun hb => ?_) fun hb => ?_))
      · exact wpS_pure (.brk G (.inr ⟨hlt, by simpa using hb⟩))
      · exact wpS_pure (.go ⟨dbl_lt, hlt, by simpa using hb⟩ (dbl hx))
    · cases hP with | brk G hr => exact ⟨_, _, rfl, rfl, G, hr⟩
    · cases hP with | go G hx => exact ⟨_, _, rfl, rfl, G, .inl (Nat.le_trans (Nat.sub_le _ _) (Nat.le_trans (Nat.le_max_right 0 n) (Nat.le_of_succ_le hx)))⟩
    · rintro c st' ⟨la, oo, rfl, rfl, G, hr⟩
      exact wpS_eq (m' := searchL left key arr base n (hint + la + 1) (hint + min oo (n - hint))) (bind_eq rfl fun c => by obtain ⟨r, l, u⟩ := c; cases r <;> rfl) (w_search hk hkey ha hn F (G.srch F hr) h)
  · refine wpS_bind (wpS_mono (wpS_loop (Q := fun c st' => ∃ la oo, c = (none, la, oo) ∧ st' = st ∧ Gl (bey left kk arr base) hint la oo ∧ (hint + 1 ≤ oo ∨ (oo ≤ hint ∧ bey left kk arr base (hint - oo) = true))) (GlP (bey left kk arr base) st n hint) (fun x c st' _ _ hP => ?_) (.go ⟨Nat.zero_lt_one, Nat.zero_le _, eq_false_of_ne_true hb⟩ (Nat.le_refl _)) (fun x c st' hP => ?_) (fun c st' hP => ?_)) ?_)
    · cases hP with | @go la oo G hx =>
      refine wpS_ite (fun hge => wpS_pure (.brk G (.inl hge))) fun hge => ?_
      have hlt : oo ≤ hint := Nat.le_of_lt_succ (Nat.not_le.mp hge)
      refine wpS_bind (w_beyond hk hkey ha (at' (Nat.lt_of_le_of_lt (Nat.sub_le _ _) hh)) (wpS_ite (fun hb => ?_) fun hb => ?_))
      · exact wpS_pure (.brk G (.inr ⟨hlt, hb⟩))
      · exact wpS_pure (.go ⟨dbl_lt, hlt, eq_false_of_ne_true hb⟩ (dbl hx))
    · cases hP with | brk G hr => exact ⟨_, _, rfl, rfl, G, hr⟩
    · cases hP with | go G hx => exact ⟨_, _, rfl, rfl, G, .inl (Nat.le_trans (Nat.succ_le_succ (Nat.le_of_lt_succ (Nat.lt_of_lt_of_le hh (Nat.le_trans (Nat.le_max_right 0 n) (Nat.le_succ _))))) (by omega))⟩
    · rintro c st' ⟨la, oo, rfl, rfl, G, hr⟩
      exact wpS_eq (m' := searchL left key arr base n (hint + 1 - min oo (hint + 1)) (hint - la)) (bind_eq rfl fun c => by obtain ⟨r, l, u⟩ := c; cases r <;> rfl) (w_search hk hkey ha hn F (G.srch F hh hr) h)
theorem gal_f {st : SortSt} {key : Keyed} {arr : Array Keyed} {base n hint : Nat} {kk : Int} {Q : Option Nat → SortSt → Prop} (hk : kindOf st = oneType') (hkey : IsKey kk key) (ha : IntKeys arr) (hn : base + n ≤ arr.size) (hh : hint < n) (hs : SOn arr base (base + n))
    (h : ∀ k, k ≤ n → (∀ i, base ≤ i → i < base + k → K arr i ≤ kk) → (∀ i, base + k ≤ i → i < base + n → kk < K arr i) → Q (some k) st) : wpS (model prog w) A E s (gallop' false key arr base n hint) Q st :=
  w_gallop hk hkey ha hn hh hs fun k ⟨h1, h2, h3⟩ => h k h1
    (fun i a b => by
      obtain ⟨j, rfl⟩ := Nat.exists_eq_add_of_le a
      exact Int.not_lt.mp (of_decide_eq_false (by simpa [bey] using h2 j (Nat.lt_of_add_lt_add_left b))))
    (fun i a b => by
      obtain ⟨j, rfl⟩ := Nat.exists_eq_add_of_le (Nat.le_of_add_right_le a)
      simpa [bey] using h3 j (Nat.le_of_add_le_add_left a) (Nat.lt_of_add_lt_add_left b))
theorem gal_t {st : SortSt} {key : Keyed} {arr : Array Keyed} {base n hint : Nat} {kk : Int} {Q : Option Nat → SortSt → Prop} (hk : kindOf st = oneType') (hkey : IsKey kk key) (ha : IntKeys arr) (hn : base + n ≤ arr.size) (hh : hint < n) (hs : SOn arr base (base + n))
    (h : ∀ k, k ≤ n → (∀ i, base ≤ i → i < base + k → K arr i < kk) → (∀ i, base + k ≤ i → i < base + n → kk ≤ K arr i) → Q (some k) st) : wpS (model prog w) A E s (gallop' true key arr base n hint) Q st :=
  w_gallop hk hkey ha hn hh hs fun k ⟨h1, h2, h3⟩ => h k h1
    (fun i a b => by
      obtain ⟨j, rfl⟩ := Nat.exists_eq_add_of_le a
      simpa [bey] using h2 j (Nat.lt_of_add_lt_add_left b))
    (fun i a b => by
      obtain ⟨j, rfl⟩ := Nat.exists_eq_add_of_le (Nat.le_of_add_right_le a)
      simpa [bey] using h3 j (Nat.le_of_add_le_add_left a) (Nat.lt_of_add_lt_add_left b))
end
end Mine
namespace Mine
set_option maxRecDepth 100000
set_option maxHeartbeats 1000000
noncomputable def setMinGallop' : Nat → StateT SortSt Sem Unit := sortPriv% PySem.Builtin.setMinGallop
theorem setMinGallop'_eq (g : Nat) : setMinGallop' g = modify fun s => SortSt.mk' (kindOf s) (arrOf s) (pendingOf s) g (failedOf s) := rfl
noncomputable def mergeLo' : Array Keyed → Array Keyed → StateT SortSt Sem (Array Keyed) := sortPriv% PySem.Builtin.mergeLo
/-- the merge's ends -/
noncomputable def dn (a b out : Array Keyed) (ia ib : Nat) : Array Keyed := out ++ a.extract ia a.size ++ b.extract ib b.size
noncomputable def lst (a b out : Array Keyed) (ia ib : Nat) : Array Keyed := out ++ b.extract ib b.size ++ a.extract ia a.size
noncomputable abbrev C7 := Option (Array Keyed) × Array Keyed × Nat × Nat × Nat × Nat × Nat
noncomputable abbrev C6 := Option (Array Keyed) × Array Keyed × Nat × Nat × Nat × Nat
noncomputable abbrev C5 := Option (Array Keyed) × Array Keyed × Nat × Nat × Nat
noncomputable def lo4 (a b out : Array Keyed) (ia ib mg k k1 : Nat) : StateT SortSt Sem (ForInStep C7) := do
  let x ← elem' a ia
  if ia + 1 + 1 == a.size then pure (.done (some (lst a b (out.push x) (ia + 1) ib), out.push x, ia + 1, ib, mg, k, k1))
  else if k < 7 && k1 < 7 then pure (.done (none, out.push x, ia + 1, ib, mg, k, k1)) else pure (.yield (none, out.push x, ia + 1, ib, mg, k, k1))
noncomputable def lo3 (a b out : Array Keyed) (ia ib mg k bc : Nat) : StateT SortSt Sem (ForInStep C7) := do
  let x ← elem' a ia
  let r ← gallop' true x b ib (b.size - ib) 0
  match r with
  | some k1 =>
    if k1 > 0 then
      if ib + k1 == b.size then pure (.done (some (dn a b (out ++ b.extract ib (ib + k1)) ia (ib + k1)), out ++ b.extract ib (ib + k1), ia, ib + k1, mg, k, k1))
      else lo4 a b (out ++ b.extract ib (ib + k1)) ia (ib + k1) mg k k1
    else lo4 a b out ia ib mg k k1
  | _ => pure (.done (some (dn a b out ia ib), out, ia, ib, mg, k, bc))
noncomputable def lo2 (a b out : Array Keyed) (ia ib mg k bc : Nat) : StateT SortSt Sem (ForInStep C7) := do
  let x ← elem' b ib
  if ib + 1 == b.size then pure (.done (some (dn a b (out.push x) ia (ib + 1)), out.push x, ia, ib + 1, mg, k, bc))
  else lo3 a b (out.push x) ia (ib + 1) mg k bc
noncomputable def lo1 (a b out : Array Keyed) (ia ib mg ac bc : Nat) : StateT SortSt Sem (ForInStep C7) := do
  setMinGallop' mg
  let x ← elem' b ib
  let r ← gallop' false x a ia (a.size - ia) 0
  match r with
  | some k =>
    if k > 0 then
      if ia + k + 1 == a.size then pure (.done (some (lst a b (out ++ a.extract ia (ia + k)) (ia + k) ib), out ++ a.extract ia (ia + k), ia + k, ib, mg, k, bc))
      else if ia + k == a.size then pure (.done (some (dn a b (out ++ a.extract ia (ia + k)) (ia + k) ib), out ++ a.extract ia (ia + k), ia + k, ib, mg, k, bc))
      else lo2 a b (out ++ a.extract ia (ia + k)) (ia + k) ib mg k bc
    else lo2 a b out ia ib mg k bc
  | _ => pure (.done (some (dn a b out ia ib), out, ia, ib, mg, ac, bc))
noncomputable def lo0 (a b : Array Keyed) (c : C7) : StateT SortSt Sem (ForInStep C7) :=
  if c.snd.snd.snd.snd.fst > 1 then lo1 a b c.snd.fst c.snd.snd.fst c.snd.snd.snd.fst (c.snd.snd.snd.snd.fst - 1) c.snd.snd.snd.snd.snd.fst c.snd.snd.snd.snd.snd.snd
  else lo1 a b c.snd.fst c.snd.snd.fst c.snd.snd.snd.fst c.snd.snd.snd.snd.fst c.snd.snd.snd.snd.snd.fst c.snd.snd.snd.snd.snd.snd
noncomputable def li (a b : Array Keyed) (mg : Nat) (out : Array Keyed) (ia ib ac bc : Nat) : StateT SortSt Sem (ForInStep C6) := do
  let x ← elem' b ib
  let y ← elem' a ia
  let r ← lt' x y
  match r with
  | some bWins =>
    if bWins then do
      let x ← elem' b ib
      if ib + 1 == b.size then pure (.done (some (dn a b (out.push x) ia (ib + 1)), out.push x, ia, ib + 1, 0, bc + 1))
      else if bc + 1 ≥ mg then pure (.done (none, out.push x, ia, ib + 1, 0, bc + 1)) else pure (.yield (none, out.push x, ia, ib + 1, 0, bc + 1))
    else do
      let y ← elem' a ia
      if ia + 1 + 1 == a.size then pure (.done (some (lst a b (out.push y) (ia + 1) ib), out.push y, ia + 1, ib, ac + 1, 0))
      else if ac + 1 ≥ mg then pure (.done (none, out.push y, ia + 1, ib, ac + 1, 0)) else pure (.yield (none, out.push y, ia + 1, ib, ac + 1, 0))
  | _ => pure (.done (some (dn a b out ia ib), out, ia, ib, ac, bc))
noncomputable def lp (a b : Array Keyed) (c : C6) (mg : Nat) : StateT SortSt Sem (ForInStep C5) := do
  let d ← forIn [0:a.size + b.size] ((none, c.snd.fst, c.snd.snd.fst, c.snd.snd.snd.fst, mg + 1, c.snd.snd.snd.snd.fst, c.snd.snd.snd.snd.snd) : C7) fun _ d => lo0 a b d
  match d.fst with
  | some r => pure (.done (some r, d.snd.fst, d.snd.snd.fst, d.snd.snd.snd.fst, d.snd.snd.snd.snd.fst))
  | none => do
    setMinGallop' (d.snd.snd.snd.snd.fst + 1)
    pure (.yield (none, d.snd.fst, d.snd.snd.fst, d.snd.snd.snd.fst, d.snd.snd.snd.snd.fst + 1))
noncomputable def lo (a b : Array Keyed) (c : C5) : StateT SortSt Sem (ForInStep C5) := do
  let d ← forIn [0:a.size + b.size] ((none, c.snd.fst, c.snd.snd.fst, c.snd.snd.snd.fst, 0, 0) : C6) fun _ d => li a b c.snd.snd.snd.snd d.snd.fst d.snd.snd.fst d.snd.snd.snd.fst d.snd.snd.snd.snd.fst d.snd.snd.snd.snd.snd
  match d.fst with
  | some r => pure (.done (some r, d.snd.fst, d.snd.snd.fst, d.snd.snd.snd.fst, c.snd.snd.snd.snd))
  | none => do
    rule "list.sort.gallop"
    lp a b d c.snd.snd.snd.snd
theorem ite_eq {α : Type} {c : Prop} [Decidable c] {a b a' b' : α} (h1 : a = a') (h2 : b = b') : (if c then a else b) = (if c then a' else b') := by rw [h1, h2]
theorem forIn_eq {β : Type} {r : Std.Legacy.Range} {b : β} {f g : Nat → β → StateT SortSt Sem (ForInStep β)} (h : ∀ i c, f i c = g i c) : forIn r b f = forIn r b g := by rw [show f = g from funext fun i => funext fun c => h i c]
theorem mergeLo'_eq (a b : Array Keyed) : mergeLo' a b = (do
  rule "list.sort.merge-lo"
  let x ← elem' b 0
  if 1 == b.size then pure (dn a b #[x] 0 1) else
  if 0 + 1 == a.size then pure (lst a b #[x] 0 1) else do
  let s ← get
  let c ← forIn [0:a.size + b.size] ((none, #[x], 0, 1, gallopOf s) : C5) fun _ c => lo a b c
  match c.fst with
  | some r => pure r
  | none => unsupported "internal:list.sort.merge-bound") := by
  refine bind_eq rfl fun _ => bind_eq rfl fun x => ite_eq rfl (ite_eq rfl (bind_eq rfl fun s => bind_eq (forIn_eq fun i c => ?_) fun c => by obtain ⟨r, c⟩ := c; cases r <;> rfl))
  exact bind_eq rfl fun d => by
    obtain ⟨r, d⟩ := d
    cases r with
    | some r => rfl
    | none => exact bind_eq rfl fun _ => bind_eq rfl fun d => by obtain ⟨r, d⟩ := d; cases r <;> rfl
end Mine
namespace Mine
set_option maxRecDepth 100000
set_option maxHeartbeats 1000000
theorem K_app {xs ys : Array Keyed} {i : Nat} : K (xs ++ ys) i = if i < xs.size then K xs i else K ys (i - xs.size) := by
  by_cases h : i < xs.size
  · rw [if_pos h]; exact K_congr (Array.getElem?_append_left h)
  · rw [if_neg h]; exact K_congr (Array.getElem?_append_right (Nat.not_lt.mp h))
theorem K_ext {a : Array Keyed} {i j k : Nat} (hk : k < j - i) (hj : j ≤ a.size) : K (a.extract i j) k = K a (i + k) :=
  K_congr (by rw [Array.getElem?_extract, if_pos (by omega)])
theorem ext_size {a : Array Keyed} {i j : Nat} (hj : j ≤ a.size) : (a.extract i j).size = j - i := by
  rw [Array.size_extract, Nat.min_eq_left hj]
structure Mg (a b out : Array Keyed) (ia ib : Nat) : Prop where
  ha : ia ≤ a.size
  hb : ib ≤ b.size
  perm : out.toList.Perm (a.toList.take ia ++ b.toList.take ib)
  srt : SOn out 0 out.size
  la : ∀ i j, i < out.size → ia ≤ j → j < a.size → K out i ≤ K a j
  lb : ∀ i j, i < out.size → ib ≤ j → j < b.size → K out i ≤ K b j
theorem take_ext {a : Array Keyed} {i k : Nat} : a.toList.take i ++ (a.extract i (i + k)).toList = a.toList.take (i + k) := by
  rw [Array.toList_extract, List.extract_eq_take_drop, show i + k - i = k by omega, List.take_add]
theorem app_cases {xs ys : Array Keyed} {i : Nat} (h : i < (xs ++ ys).size) : (i < xs.size ∧ K (xs ++ ys) i = K xs i) ∨ ∃ d, d < ys.size ∧ i = xs.size + d ∧ K (xs ++ ys) i = K ys d := by
  rcases Nat.lt_or_ge i xs.size with c | c
  · exact .inl ⟨c, by rw [K_app, if_pos c]⟩
  · obtain ⟨d, rfl⟩ := Nat.exists_eq_add_of_le c
    rw [Array.size_append] at h
    exact .inr ⟨d, Nat.lt_of_add_lt_add_left h, rfl, by rw [K_app, if_neg (Nat.not_lt_of_le c), Nat.add_sub_cancel_left]⟩
theorem SOn.append {xs ys : Array Keyed} (h1 : SOn xs 0 xs.size) (h2 : SOn ys 0 ys.size) (h : ∀ i j, i < xs.size → j < ys.size → K xs i ≤ K ys j) : SOn (xs ++ ys) 0 (xs ++ ys).size := fun i j _ hij hj => by
  rcases app_cases (Nat.lt_of_le_of_lt hij hj) with ⟨a, e⟩ | ⟨d, a, rfl, e⟩ <;> rcases app_cases hj with ⟨b, f⟩ | ⟨c, b, rfl, f⟩ <;> rw [e, f]
  · exact h1 i j (Nat.zero_le _) hij b
  · exact h i c a b
  · exact absurd (Nat.lt_of_le_of_lt hij b) (Nat.not_lt_of_le (Nat.le_add_right _ _))
  · exact h2 d c (Nat.zero_le _) (Nat.le_of_add_le_add_left hij) b
theorem SOn.ext {a : Array Keyed} {i j : Nat} (h : SOn a 0 a.size) (hj : j ≤ a.size) : SOn (a.extract i j) 0 (a.extract i j).size := fun x y _ h2 h3 => by
  rw [ext_size hj] at h3
  rw [K_ext (Nat.lt_of_le_of_lt h2 h3) hj, K_ext h3 hj]
  exact h _ _ (Nat.zero_le _) (Nat.add_le_add_left h2 i) (Nat.lt_of_lt_of_le (Nat.add_lt_of_lt_sub' h3) hj)
/-- a key of a part, at its own place -/
theorem ext_at {a : Array Keyed} {i j d : Nat} (hj : j ≤ a.size) (hd : d < (a.extract i j).size) : i + d < j ∧ K (a.extract i j) d = K a (i + d) := by
  rw [ext_size hj] at hd
  exact ⟨Nat.add_lt_of_lt_sub' hd, K_ext hd hj⟩
theorem Mg.segA {a b out : Array Keyed} {ia ib k : Nat} (M : Mg a b out ia ib) (sa : SOn a 0 a.size) (hk : ia + k ≤ a.size) (hle : ∀ i j, ia ≤ i → i < ia + k → ib ≤ j → j < b.size → K a i ≤ K b j) : Mg a b (out ++ a.extract ia (ia + k)) (ia + k) ib := by
  have at' := fun d => ext_at (a := a) (i := ia) (j := ia + k) (d := d) hk
  refine ⟨hk, M.hb, ?_, M.srt.append (sa.ext hk) fun i j hi hj => ?_, fun i j hi h1 h2 => ?_, fun i j hi h1 h2 => ?_⟩
  · rw [Array.toList_append, ← take_ext]
    refine (M.perm.append_right _).trans ?_
    rw [List.append_assoc, List.append_assoc]
    exact List.Perm.append_left _ List.perm_append_comm
  · rw [(at' j hj).2]; exact M.la i _ hi (Nat.le_add_right _ _) (Nat.lt_of_lt_of_le (at' j hj).1 hk)
  · rcases app_cases hi with ⟨c, e⟩ | ⟨d, c, rfl, e⟩ <;> rw [e]
    · exact M.la i j c (Nat.le_of_add_right_le h1) h2
    · rw [(at' d c).2]; exact sa _ _ (Nat.zero_le _) (Nat.le_trans (Nat.le_of_lt (at' d c).1) h1) h2
  · rcases app_cases hi with ⟨c, e⟩ | ⟨d, c, rfl, e⟩ <;> rw [e]
    · exact M.lb i j c h1 h2
    · rw [(at' d c).2]; exact hle _ j (Nat.le_add_right _ _) (at' d c).1 h1 h2
theorem Mg.swap {a b out : Array Keyed} {ia ib : Nat} (M : Mg a b out ia ib) : Mg b a out ib ia := ⟨M.hb, M.ha, M.perm.trans List.perm_append_comm, M.srt, M.lb, M.la⟩
theorem Mg.segB {a b out : Array Keyed} {ia ib k : Nat} (M : Mg a b out ia ib) (sb : SOn b 0 b.size) (hk : ib + k ≤ b.size) (hle : ∀ i j, ib ≤ i → i < ib + k → ia ≤ j → j < a.size → K b i ≤ K a j) : Mg a b (out ++ b.extract ib (ib + k)) ia (ib + k) :=
  (M.swap.segA sb hk hle).swap
/-- what a merge gives -/
noncomputable def Res (a b r : Array Keyed) : Prop := r.toList.Perm (a.toList ++ b.toList) ∧ SOn r 0 r.size
theorem Mg.res {a b out : Array Keyed} (M : Mg a b out a.size b.size) : Res a b out := by
  refine ⟨?_, M.srt⟩
  have := M.perm
  rwa [List.take_of_length_le (by simp), List.take_of_length_le (by simp)] at this
theorem ext_nil {a : Array Keyed} : a.extract a.size a.size = #[] := by
  apply Array.eq_empty_of_size_eq_zero
  rw [Array.size_extract]; omega
theorem Mg.doneA {a b out : Array Keyed} {ia ib : Nat} (M : Mg a b out ia ib) (sa : SOn a 0 a.size) (h : ib = b.size) : Res a b (out ++ a.extract ia a.size ++ b.extract ib b.size) := by
  subst h
  obtain ⟨k, hk⟩ : ∃ k, a.size = ia + k := ⟨a.size - ia, by have := M.ha; omega⟩
  have M2 := M.segA (k := k) sa (by omega) (fun i j _ _ h1 h2 => by omega)
  rw [← hk] at M2
  rw [ext_nil, Array.append_empty]
  exact M2.res
theorem Mg.lastA {a b out : Array Keyed} {ia ib : Nat} (M : Mg a b out ia ib) (sa : SOn a 0 a.size) (sb : SOn b 0 b.size) (h : ia + 1 = a.size) (hl : ∀ j, j < b.size → K b j ≤ K a (a.size - 1)) : Res a b (out ++ b.extract ib b.size ++ a.extract ia a.size) := by
  obtain ⟨k, hk⟩ : ∃ k, b.size = ib + k := ⟨b.size - ib, by have := M.hb; omega⟩
  have M2 := M.segB (k := k) sb (by omega) (fun i j h1 h2 h3 h4 => by
    have : j = a.size - 1 := by omega
    rw [this]; exact hl i (by omega))
  rw [← hk] at M2
  have M3 := M2.segA (k := 1) sa (by omega) (fun i j _ _ h1 h2 => by omega)
  rw [h] at M3
  exact M3.res
theorem ext_one {a : Array Keyed} {i : Nat} {x : Keyed} (hx : a[i]? = some x) : a.extract i (i + 1) = #[x] := by
  obtain ⟨h, e⟩ := Array.getElem?_eq_some_iff.mp hx
  apply Array.ext_getElem?
  intro j
  rw [Array.getElem?_extract]
  by_cases hj : j = 0
  · subst hj
    rw [if_pos (by omega)]; simpa using hx
  · rw [if_neg (by omega)]; simp; omega
end Mine
namespace Mine
set_option maxRecDepth 100000
set_option maxHeartbeats 1000000
/-- only the gallop's measure turns -/
structure SG (st st' : SortSt) : Prop where
  arr : arrOf st' = arrOf st
  pend : pendingOf st' = pendingOf st
  kind : kindOf st' = kindOf st
  failed : failedOf st' = failedOf st
theorem SG.refl {st : SortSt} : SG st st := ⟨rfl, rfl, rfl, rfl⟩
theorem SG.trans {a b c : SortSt} (x : SG a b) (y : SG b c) : SG a c := ⟨y.arr.trans x.arr, y.pend.trans x.pend, y.kind.trans x.kind, y.failed.trans x.failed⟩
structure MIn (a b : Array Keyed) : Prop where
  ka : IntKeys a
  kb : IntKeys b
  sa : SOn a 0 a.size
  sb : SOn b 0 b.size
  a1 : 1 ≤ a.size
  b1 : 1 ≤ b.size
  first : K b 0 ≤ K a 0
  last : ∀ j, j < b.size → K b j < K a (a.size - 1)
theorem Mg.pushB {a b out : Array Keyed} {ia ib : Nat} {x : Keyed} (M : Mg a b out ia ib) (I : MIn a b) (hx : b[ib]? = some x) (hlt : ib < b.size) (hle : ia < a.size → K b ib ≤ K a ia) : Mg a b (out.push x) ia (ib + 1) := by
  have := M.segB (k := 1) I.sb hlt (fun i j h1 h2 h3 h4 => by
    have : i = ib := by omega
    subst this
    exact Int.le_trans (hle (by omega)) (I.sa ia j (Nat.zero_le _) h3 h4))
  rw [ext_one hx] at this
  rw [← Array.append_singleton]; exact this
theorem Mg.pushA {a b out : Array Keyed} {ia ib : Nat} {x : Keyed} (M : Mg a b out ia ib) (I : MIn a b) (hx : a[ia]? = some x) (hlt : ia < a.size) (hle : ib < b.size → K a ia ≤ K b ib) : Mg a b (out.push x) (ia + 1) ib := by
  have := M.segA (k := 1) I.sa hlt (fun i j h1 h2 h3 h4 => by
    have : i = ia := by omega
    subst this
    exact Int.le_trans (hle (by omega)) (I.sb ib j (Nat.zero_le _) h3 h4))
  rw [ext_one hx] at this
  rw [← Array.append_singleton]; exact this
theorem Mg.start {a b : Array Keyed} {x : Keyed} (I : MIn a b) (hx : b[0]? = some x) : Mg a b #[x] 0 1 := by
  have M0 : Mg a b #[] 0 0 := ⟨Nat.zero_le _, Nat.zero_le _, by simp, fun i j _ _ h => by simp at h, fun i j h => by simp at h, fun i j h => by simp at h⟩
  exact M0.pushB I hx I.b1 fun _ => I.first
end Mine
namespace Mine
set_option maxRecDepth 100000
set_option maxHeartbeats 1000000
section
variable {prog : Program} {w : World} {A : Around} {E : Value → Shared → Prop} {s : Shared}
theorem at_of {a : Array Keyed} (ha : IntKeys a) {i : Nat} (hi : i < a.size) : ∃ x, a[i]? = some x ∧ IsKey (K a i) x := key_at ha hi

theorem SOn.sub {a : Array Keyed} {l m n : Nat} (h : SOn a 0 n) (hm : m ≤ n) : SOn a l m := fun i j _ h2 h3 => h i j (Nat.zero_le _) h2 (Nat.lt_of_lt_of_le h3 hm)
/-- a's part that goes ahead of a key of b -/
theorem w_galA {st : SortSt} {a b : Array Keyed} {ia ib : Nat} {x : Keyed} {Q : Option Nat → SortSt → Prop} (I : MIn a b) (hk : kindOf st = oneType') (kx : IsKey (K b ib) x) (hib : ib < b.size) (hia : ia < a.size)
    (h : ∀ k, ia + k < a.size → (∀ i, ia ≤ i → i < ia + k → K a i ≤ K b ib) → K b ib < K a (ia + k) → Q (some k) st) : wpS (model prog w) A E s (gallop' false x a ia (a.size - ia) 0) Q st := by
  have e := Nat.add_sub_cancel' (Nat.le_of_lt hia)
  refine gal_f hk kx I.ka (Nat.le_of_eq e) (Nat.sub_pos_of_lt hia) (I.sa.sub (Nat.le_of_eq e)) fun k h1 h2 h3 => ?_
  rw [e] at h3
  have h4 : ia + k < a.size := by
    rcases Nat.lt_or_ge (ia + k) a.size with h4 | h4
    · exact h4
    · exact absurd (I.last ib hib) (Int.not_lt.mpr (h2 _ (Nat.le_sub_one_of_lt hia) (by omega)))
  exact h k h4 h2 (h3 _ (Nat.le_refl _) h4)
/-- b's part that goes ahead of a key of a -/
theorem w_galB {st : SortSt} {a b : Array Keyed} {ia ib : Nat} {x : Keyed} {Q : Option Nat → SortSt → Prop} (I : MIn a b) (hk : kindOf st = oneType') (kx : IsKey (K a ia) x) (hib : ib < b.size)
    (h : ∀ k, ib + k ≤ b.size → (∀ i, ib ≤ i → i < ib + k → K b i < K a ia) → (∀ i, ib + k ≤ i → i < b.size → K a ia ≤ K b i) → Q (some k) st) : wpS (model prog w) A E s (gallop' true x b ib (b.size - ib) 0) Q st := by
  have e := Nat.add_sub_cancel' (Nat.le_of_lt hib)
  refine gal_t hk kx I.kb (Nat.le_of_eq e) (Nat.sub_pos_of_lt hib) (I.sb.sub (Nat.le_of_eq e)) fun k h1 h2 h3 => ?_
  rw [e] at h3
  exact h k (by omega) h2 h3
theorem w_setMin {st : SortSt} {g : Nat} {Q : Unit → SortSt → Prop} (h : ∀ st', SG st st' → Q () st') : wpS (model prog w) A E s (setMinGallop' g) Q st := by
  rw [setMinGallop'_eq]
  exact wpS_modify (h _ ⟨rfl, rfl, rfl, rfl⟩)
/-- where the merge is: n keys at least are placed, both parts are open -/
structure LoS (a b : Array Keyed) (st₀ : SortSt) (n : Nat) (out : Array Keyed) (ia ib : Nat) (st : SortSt) : Prop where
  G : SG st₀ st
  M : Mg a b out ia ib
  hia : ia + 1 < a.size
  hib : ib < b.size
  hn : n ≤ ia + ib
inductive P7 (a b : Array Keyed) (st₀ : SortSt) (n : Nat) : ForInStep C7 → SortSt → Prop
  | fin {r st} (c : Array Keyed × Nat × Nat × Nat × Nat × Nat) (G : SG st₀ st) (R : Res a b r) : P7 a b st₀ n (.done (some r, c)) st
  | brk {out ia ib st} (c : Nat × Nat × Nat) (L : LoS a b st₀ n out ia ib st) : P7 a b st₀ n (.done (none, out, ia, ib, c)) st
  | go {out ia ib st} (c : Nat × Nat × Nat) (L : LoS a b st₀ n out ia ib st) : P7 a b st₀ n (.yield (none, out, ia, ib, c)) st
inductive P6 (a b : Array Keyed) (st₀ : SortSt) (n : Nat) : ForInStep C6 → SortSt → Prop
  | fin {r st} (c : Array Keyed × Nat × Nat × Nat × Nat) (G : SG st₀ st) (R : Res a b r) : P6 a b st₀ n (.done (some r, c)) st
  | brk {out ia ib st} (c : Nat × Nat) (L : LoS a b st₀ n out ia ib st) : P6 a b st₀ n (.done (none, out, ia, ib, c)) st
  | go {out ia ib st} (c : Nat × Nat) (L : LoS a b st₀ n out ia ib st) : P6 a b st₀ n (.yield (none, out, ia, ib, c)) st
inductive P5 (a b : Array Keyed) (st₀ : SortSt) (n : Nat) : ForInStep C5 → SortSt → Prop
  | fin {r st} (c : Array Keyed × Nat × Nat × Nat) (G : SG st₀ st) (R : Res a b r) : P5 a b st₀ n (.done (some r, c)) st
  | go {out ia ib st} (c : Nat) (L : LoS a b st₀ n out ia ib st) : P5 a b st₀ n (.yield (none, out, ia, ib, c)) st

section
variable {a b : Array Keyed} {st₀ st : SortSt} {n : Nat} {out : Array Keyed} {ia ib : Nat}
theorem MIn.lastLe (I : MIn a b) : ∀ j, j < b.size → K b j ≤ K a (a.size - 1) := fun j hj => Int.le_of_lt (I.last j hj)
theorem w_lo4 {mg k k1 : Nat} (I : MIn a b) (G : SG st₀ st) (M : Mg a b out ia ib) (hia : ia + 1 < a.size) (hib : ib < b.size) (hn : n ≤ ia + 1 + ib) (hle : K a ia ≤ K b ib) :
    wpS (model prog w) A E s (lo4 a b out ia ib mg k k1) (P7 a b st₀ n) st := by
  have hia' := Nat.lt_of_succ_lt hia
  obtain ⟨x, hx, -⟩ := at_of I.ka hia'
  have M2 := M.pushA I hx hia' (fun _ => hle)
  refine wpS_bind (w_elem hx (wpS_beq (fun he => wpS_pure (.fin _ G (M2.lastA I.sa I.sb he I.lastLe))) fun he => ?_))
  have L : LoS a b st₀ n (out.push x) (ia + 1) ib st := ⟨G, M2, Nat.lt_of_le_of_ne hia he, hib, hn⟩
  exact wpS_ite (fun _ => wpS_pure (.brk _ L)) fun _ => wpS_pure (.go _ L)
theorem w_lo3 {mg k bc : Nat} (I : MIn a b) (hk : kindOf st₀ = oneType') (G : SG st₀ st) (M : Mg a b out ia ib) (hia : ia + 1 < a.size) (hib : ib < b.size) (hn : n ≤ ia + 1 + ib) :
    wpS (model prog w) A E s (lo3 a b out ia ib mg k bc) (P7 a b st₀ n) st := by
  obtain ⟨x, hx, kx⟩ := at_of I.ka (Nat.lt_of_succ_lt hia)
  refine wpS_bind (w_elem hx (wpS_bind (w_galB I (G.kind.trans hk) kx hib fun k1 g1 g2 g3 => wpS_ite (fun _ => ?_) fun h0 => ?_)))
  · have M3 := M.segB (k := k1) I.sb g1 (fun i j q1 q2 q3 q4 => Int.le_trans (Int.le_of_lt (g2 i q1 q2)) (I.sa _ _ (Nat.zero_le _) q3 q4))
    refine wpS_beq (fun he => wpS_pure (.fin _ G (M3.doneA I.sa he))) fun he => ?_
    have hlt := Nat.lt_of_le_of_ne g1 he
    exact w_lo4 I G M3 hia hlt (Nat.le_trans hn (by omega)) (g3 _ (Nat.le_refl _) hlt)
  · obtain rfl := Nat.eq_zero_of_not_pos h0
    exact w_lo4 I G M hia hib hn (g3 ib (Nat.le_refl _) hib)
theorem w_lo2 {mg k bc : Nat} (I : MIn a b) (hk : kindOf st₀ = oneType') (G : SG st₀ st) (M : Mg a b out ia ib) (hia : ia + 1 < a.size) (hib : ib < b.size) (hn : n ≤ ia + ib) (hle : K b ib ≤ K a ia) :
    wpS (model prog w) A E s (lo2 a b out ia ib mg k bc) (P7 a b st₀ n) st := by
  obtain ⟨x, hx, -⟩ := at_of I.kb hib
  have M2 := M.pushB I hx hib (fun _ => hle)
  refine wpS_bind (w_elem hx (wpS_beq (fun he => wpS_pure (.fin _ G (M2.doneA I.sa he))) fun he => ?_))
  exact w_lo3 I hk G M2 hia (Nat.lt_of_le_of_ne hib he) (by omega)
theorem w_lo1 {mg ac bc : Nat} (I : MIn a b) (hk : kindOf st₀ = oneType') (L : LoS a b st₀ n out ia ib st) : wpS (model prog w) A E s (lo1 a b out ia ib mg ac bc) (P7 a b st₀ n) st := by
  obtain ⟨G3, M, hia, hib, hn⟩ := L
  obtain ⟨x, hx, kx⟩ := at_of I.kb hib
  refine wpS_bind (w_setMin fun st4 g4 => ?_)
  have G := G3.trans g4
  refine wpS_bind (w_elem hx (wpS_bind (w_galA I (G.kind.trans hk) kx hib (Nat.lt_of_succ_lt hia) fun k h1 h2 h3 => wpS_ite (fun _ => ?_) fun h0 => ?_)))
  · have M1 := M.segA (k := k) I.sa (Nat.le_of_lt h1) (fun i j q1 q2 q3 q4 => Int.le_trans (h2 i q1 q2) (I.sb _ _ (Nat.zero_le _) q3 q4))
    refine wpS_beq (fun he => wpS_pure (.fin _ G (M1.lastA I.sa I.sb he I.lastLe))) fun he => wpS_beq (fun he => absurd he (Nat.ne_of_lt h1)) fun _ => ?_
    exact w_lo2 I hk G M1 (Nat.lt_of_le_of_ne h1 he) hib (by omega) (Int.le_of_lt h3)
  · obtain rfl := Nat.eq_zero_of_not_pos h0
    exact w_lo2 I hk G M hia hib hn (Int.le_of_lt h3)
theorem w_li {mg ac bc : Nat} (I : MIn a b) (hk : kindOf st₀ = oneType') (L : LoS a b st₀ n out ia ib st) : wpS (model prog w) A E s (li a b mg out ia ib ac bc) (P6 a b st₀ (n + 1)) st := by
  obtain ⟨G, M, hia, hib, hn⟩ := L
  have hia' := Nat.lt_of_succ_lt hia
  obtain ⟨x, hx, kx⟩ := at_of I.kb hib
  obtain ⟨y, hy, ky⟩ := at_of I.ka hia'
  refine wpS_bind (w_elem hx (wpS_bind (w_elem hy (wpS_bind (w_lt (G.kind.trans hk) kx ky (wpS_ite (fun hlt => ?_) fun hlt => ?_))))))
  · have M2 := M.pushB I hx hib fun _ => Int.le_of_lt (of_decide_eq_true hlt)
    refine wpS_bind (w_elem hx (wpS_beq (fun he => wpS_pure (.fin _ G (M2.doneA I.sa he))) fun he => ?_))
    have L : LoS a b st₀ (n + 1) (out.push x) ia (ib + 1) st := ⟨G, M2, hia, Nat.lt_of_le_of_ne hib he, Nat.succ_le_succ hn⟩
    exact wpS_ite (fun _ => wpS_pure (.brk _ L)) fun _ => wpS_pure (.go _ L)
  · have M2 := M.pushA I hy hia' fun _ => Int.not_lt.mp fun h => hlt (decide_eq_true h)
    refine wpS_bind (w_elem hy (wpS_beq (fun he => wpS_pure (.fin _ G (M2.lastA I.sa I.sb he I.lastLe))) fun he => ?_))
    have L : LoS a b st₀ (n + 1) (out.push y) (ia + 1) ib st := ⟨G, M2, Nat.lt_of_le_of_ne hia he, hib, by omega⟩
    exact wpS_ite (fun _ => wpS_pure (.brk _ L)) fun _ => wpS_pure (.go _ L)
theorem LoS.le {n n' : Nat} (L : LoS a b st₀ n out ia ib st) (h : n' ≤ n) : LoS a b st₀ n' out ia ib st := ⟨L.G, L.M, L.hia, L.hib, Nat.le_trans h L.hn⟩
theorem LoS.left (L : LoS a b st₀ n out ia ib st) : n < a.size + b.size := Nat.lt_of_le_of_lt L.hn (Nat.add_lt_add (Nat.lt_of_succ_lt L.hia) L.hib)
theorem w_lp {ac bc mg : Nat} {r : Option (Array Keyed)} (I : MIn a b) (hk : kindOf st₀ = oneType') (L : LoS a b st₀ n out ia ib st) : wpS (model prog w) A E s (lp a b (r, out, ia, ib, ac, bc) mg) (P5 a b st₀ n) st := by
  refine wpS_bind (wpS_loop (fun _ => P7 a b st₀ n) (fun i c st _ _ h => ?_) (.go (mg + 1, ac, bc) L) (fun i c st h => ?_) (fun c st h => ?_))
  · cases h with
    | go c L => exact wpS_ite (fun _ => w_lo1 I hk L) fun _ => w_lo1 I hk L
  · cases h with
    | fin c G R => exact wpS_pure (.fin _ G R)
    | brk c L => exact wpS_bind (w_setMin fun st4 g4 => wpS_pure (.go _ ⟨L.G.trans g4, L.M, L.hia, L.hib, L.hn⟩))
  · cases h with
    | go c L => exact wpS_bind (w_setMin fun st4 g4 => wpS_pure (.go _ ⟨L.G.trans g4, L.M, L.hia, L.hib, L.hn⟩))
theorem w_lo {mg : Nat} {r : Option (Array Keyed)} (I : MIn a b) (hk : kindOf st₀ = oneType') (L : LoS a b st₀ n out ia ib st) : wpS (model prog w) A E s (lo a b (r, out, ia, ib, mg)) (P5 a b st₀ (n + 1)) st := by
  refine wpS_bind (wpS_loop (fun i => P6 a b st₀ (n + i)) (fun i c st _ _ h => ?_) (.go (0, 0) L) (fun i c st h => ?_) (fun c st h => ?_))
  · cases h with
    | go c L => exact w_li I hk L
  · cases h with
    | fin c G R => exact wpS_pure (.fin _ G R)
    | brk c L => exact wpS_bind (wpS_lift (wpAny_rule ⟨rfl, w_lp I hk (L.le (by omega))⟩))
  · cases h with
    | go c L => exact absurd L.left (by omega)
end
theorem w_mergeLo {st : SortSt} {a b : Array Keyed} {Q : Array Keyed → SortSt → Prop} (I : MIn a b) (hk : kindOf st = oneType') (hQ : ∀ r st', SG st st' → Res a b r → Q r st') : wpS (model prog w) A E s (mergeLo' a b) Q st := by
  rw [mergeLo'_eq]
  refine wpS_bind (wpS_lift (wpAny_rule ⟨rfl, ?_⟩))
  obtain ⟨x, hx, -⟩ := at_of I.kb I.b1
  have M1 := Mg.start I hx
  refine wpS_bind (w_elem hx (wpS_beq (fun he => wpS_pure (hQ _ _ SG.refl (M1.doneA I.sa he))) fun hb => wpS_beq (fun he => wpS_pure (hQ _ _ SG.refl (M1.lastA I.sa I.sb he I.lastLe))) fun ha => ?_))
  refine wpS_bind (wpS_get (wpS_bind (wpS_loop (fun i => P5 a b st (i + 1)) (fun i c st _ _ h => ?_) (.go _ ⟨SG.refl, M1, Nat.lt_of_le_of_ne I.a1 ha, Nat.lt_of_le_of_ne I.b1 hb, Nat.le_refl _⟩) (fun i c st h => ?_) (fun c st h => ?_))))
  · cases h with
    | go c L => exact w_lo I hk L
  · cases h with
    | fin c G R => exact wpS_pure (hQ _ _ G R)
  · cases h with
    | go c L => exact absurd L.left (by omega)
end
end Mine
namespace Mine
set_option maxRecDepth 100000
set_option maxHeartbeats 1000000
noncomputable def mergeHi' : Array Keyed → Array Keyed → StateT SortSt Sem (Array Keyed) := sortPriv% PySem.Builtin.mergeHi
noncomputable def dnH (a b : Array Keyed) (na nb : Nat) (out : Array Keyed) : Array Keyed := a.extract 0 na ++ b.extract 0 nb ++ out.reverse
noncomputable def fob (a b : Array Keyed) (na nb : Nat) (out : Array Keyed) : Array Keyed := b.extract 0 nb ++ a.extract 0 na ++ out.reverse
noncomputable abbrev D7 := Option (Array Keyed) × Nat × Nat × Array Keyed × Nat × Nat × Nat
noncomputable abbrev D6 := Option (Array Keyed) × Nat × Nat × Array Keyed × Nat × Nat
noncomputable abbrev D5 := Option (Array Keyed) × Nat × Nat × Array Keyed × Nat
noncomputable def hi4 (a b : Array Keyed) (na nb : Nat) (out : Array Keyed) (mg k k1 : Nat) : StateT SortSt Sem (ForInStep D7) := do
  let x ← elem' a (na - 1)
  if na - 1 == 0 then pure (.done (some (dnH a b (na - 1) nb (out.push x)), na - 1, nb, out.push x, mg, k, k1))
  else if k < 7 && k1 < 7 then pure (.done (none, na - 1, nb, out.push x, mg, k, k1)) else pure (.yield (none, na - 1, nb, out.push x, mg, k, k1))
noncomputable def hi3 (a b : Array Keyed) (na nb : Nat) (out : Array Keyed) (mg k bc : Nat) : StateT SortSt Sem (ForInStep D7) := do
  let x ← elem' a (na - 1)
  let r ← gallop' true x b 0 nb (nb - 1)
  match r with
  | some p =>
    if nb - p > 0 then
      if p == 1 then pure (.done (some (fob a b na p (out ++ (b.extract p nb).reverse)), na, p, out ++ (b.extract p nb).reverse, mg, k, nb - p))
      else if p == 0 then pure (.done (some (dnH a b na p (out ++ (b.extract p nb).reverse)), na, p, out ++ (b.extract p nb).reverse, mg, k, nb - p))
      else hi4 a b na p (out ++ (b.extract p nb).reverse) mg k (nb - p)
    else hi4 a b na nb out mg k (nb - p)
  | _ => pure (.done (some (dnH a b na nb out), na, nb, out, mg, k, bc))
noncomputable def hi2 (a b : Array Keyed) (na nb : Nat) (out : Array Keyed) (mg k bc : Nat) : StateT SortSt Sem (ForInStep D7) := do
  let x ← elem' b (nb - 1)
  if nb - 1 == 1 then pure (.done (some (fob a b na (nb - 1) (out.push x)), na, nb - 1, out.push x, mg, k, bc))
  else hi3 a b na (nb - 1) (out.push x) mg k bc
noncomputable def hi1 (a b : Array Keyed) (na nb : Nat) (out : Array Keyed) (mg ac bc : Nat) : StateT SortSt Sem (ForInStep D7) := do
  setMinGallop' mg
  let x ← elem' b (nb - 1)
  let r ← gallop' false x a 0 na (na - 1)
  match r with
  | some p =>
    if na - p > 0 then
      if p == 0 then pure (.done (some (dnH a b p nb (out ++ (a.extract p na).reverse)), p, nb, out ++ (a.extract p na).reverse, mg, na - p, bc))
      else hi2 a b p nb (out ++ (a.extract p na).reverse) mg (na - p) bc
    else hi2 a b na nb out mg (na - p) bc
  | _ => pure (.done (some (dnH a b na nb out), na, nb, out, mg, ac, bc))
noncomputable def hi0 (a b : Array Keyed) (c : D7) : StateT SortSt Sem (ForInStep D7) :=
  if c.snd.snd.snd.snd.fst > 1 then hi1 a b c.snd.fst c.snd.snd.fst c.snd.snd.snd.fst (c.snd.snd.snd.snd.fst - 1) c.snd.snd.snd.snd.snd.fst c.snd.snd.snd.snd.snd.snd
  else hi1 a b c.snd.fst c.snd.snd.fst c.snd.snd.snd.fst c.snd.snd.snd.snd.fst c.snd.snd.snd.snd.snd.fst c.snd.snd.snd.snd.snd.snd
noncomputable def hli (a b : Array Keyed) (mg na nb : Nat) (out : Array Keyed) (ac bc : Nat) : StateT SortSt Sem (ForInStep D6) := do
  let x ← elem' b (nb - 1)
  let y ← elem' a (na - 1)
  let r ← lt' x y
  match r with
  | some aWins =>
    if aWins then do
      let y ← elem' a (na - 1)
      if na - 1 == 0 then pure (.done (some (dnH a b (na - 1) nb (out.push y)), na - 1, nb, out.push y, ac + 1, 0))
      else if ac + 1 ≥ mg then pure (.done (none, na - 1, nb, out.push y, ac + 1, 0)) else pure (.yield (none, na - 1, nb, out.push y, ac + 1, 0))
    else do
      let x ← elem' b (nb - 1)
      if nb - 1 == 1 then pure (.done (some (fob a b na (nb - 1) (out.push x)), na, nb - 1, out.push x, 0, bc + 1))
      else if bc + 1 ≥ mg then pure (.done (none, na, nb - 1, out.push x, 0, bc + 1)) else pure (.yield (none, na, nb - 1, out.push x, 0, bc + 1))
  | _ => pure (.done (some (dnH a b na nb out), na, nb, out, ac, bc))
noncomputable def hlp (a b : Array Keyed) (c : D6) (mg : Nat) : StateT SortSt Sem (ForInStep D5) := do
  let d ← forIn [0:a.size + b.size] ((none, c.snd.fst, c.snd.snd.fst, c.snd.snd.snd.fst, mg + 1, c.snd.snd.snd.snd.fst, c.snd.snd.snd.snd.snd) : D7) fun _ d => hi0 a b d
  match d.fst with
  | some r => pure (.done (some r, d.snd.fst, d.snd.snd.fst, d.snd.snd.snd.fst, d.snd.snd.snd.snd.fst))
  | none => do
    setMinGallop' (d.snd.snd.snd.snd.fst + 1)
    pure (.yield (none, d.snd.fst, d.snd.snd.fst, d.snd.snd.snd.fst, d.snd.snd.snd.snd.fst + 1))
noncomputable def hlo (a b : Array Keyed) (c : D5) : StateT SortSt Sem (ForInStep D5) := do
  let d ← forIn [0:a.size + b.size] ((none, c.snd.fst, c.snd.snd.fst, c.snd.snd.snd.fst, 0, 0) : D6) fun _ d => hli a b c.snd.snd.snd.snd d.snd.fst d.snd.snd.fst d.snd.snd.snd.fst d.snd.snd.snd.snd.fst d.snd.snd.snd.snd.snd
  match d.fst with
  | some r => pure (.done (some r, d.snd.fst, d.snd.snd.fst, d.snd.snd.snd.fst, c.snd.snd.snd.snd))
  | none => do
    rule "list.sort.gallop"
    hlp a b d c.snd.snd.snd.snd
theorem mergeHi'_eq (a b : Array Keyed) : mergeHi' a b = (do
  rule "list.sort.merge-hi"
  let x ← elem' a (a.size - 1)
  if a.size - 1 == 0 then pure (dnH a b (a.size - 1) b.size #[x]) else
  if b.size == 1 then pure (fob a b (a.size - 1) b.size #[x]) else do
  let s ← get
  let c ← forIn [0:a.size + b.size] ((none, a.size - 1, b.size, #[x], gallopOf s) : D5) fun _ c => hlo a b c
  match c.fst with
  | some r => pure r
  | none => unsupported "internal:list.sort.merge-bound") := by
  refine bind_eq rfl fun _ => bind_eq rfl fun x => ite_eq rfl (ite_eq rfl (bind_eq rfl fun s => bind_eq (forIn_eq fun i c => ?_) fun c => by obtain ⟨r, c⟩ := c; cases r <;> rfl))
  exact bind_eq rfl fun d => by
    obtain ⟨r, d⟩ := d
    cases r with
    | some r => rfl
    | none => exact bind_eq rfl fun _ => bind_eq rfl fun d => by obtain ⟨r, d⟩ := d; cases r <;> rfl

/-- the merge from above: r holds a from na on and b from nb on -/
structure Mh (a b r : Array Keyed) (na nb : Nat) : Prop where
  ha : na ≤ a.size
  hb : nb ≤ b.size
  perm : r.toList.Perm (a.toList.drop na ++ b.toList.drop nb)
  srt : SOn r 0 r.size
  la : ∀ i j, i < r.size → j < na → K a j ≤ K r i
  lb : ∀ i j, i < r.size → j < nb → K b j ≤ K r i
theorem Mh.swap {a b r : Array Keyed} {na nb : Nat} (M : Mh a b r na nb) : Mh b a r nb na := ⟨M.hb, M.ha, M.perm.trans List.perm_append_comm, M.srt, M.lb, M.la⟩
theorem drop_ext {a : Array Keyed} {i n : Nat} (h : i ≤ n) : (a.extract i n).toList ++ a.toList.drop n = a.toList.drop i := by
  rw [Array.toList_extract, List.extract_eq_take_drop]
  have e : a.toList.drop n = (a.toList.drop i).drop (n - i) := by rw [List.drop_drop]; congr 1; omega
  rw [e, List.take_append_drop]
theorem Mh.segA {a b r : Array Keyed} {na nb k : Nat} (M : Mh a b r na nb) (sa : SOn a 0 a.size) (hk : k ≤ na) (hle : ∀ i j, k ≤ i → i < na → j < nb → K b j ≤ K a i) : Mh a b (a.extract k na ++ r) k nb := by
  have at' := fun d => ext_at (a := a) (i := k) (j := na) (d := d) M.ha
  have lt' : ∀ d, d < (a.extract k na).size → k + d < a.size := fun d h => Nat.lt_of_lt_of_le (at' d h).1 M.ha
  refine ⟨Nat.le_trans hk M.ha, M.hb, ?_, (sa.ext M.ha).append M.srt fun i j hi hj => ?_, fun i j hi h1 => ?_, fun i j hi h1 => ?_⟩
  · rw [Array.toList_append, ← drop_ext hk, List.append_assoc]
    exact List.Perm.append_left _ M.perm
  · rw [(at' i hi).2]; exact M.la j _ hj (at' i hi).1
  · rcases app_cases hi with ⟨c, e⟩ | ⟨d, c, rfl, e⟩ <;> rw [e]
    · rw [(at' i c).2]; exact sa _ _ (Nat.zero_le _) (Nat.le_trans (Nat.le_of_lt h1) (Nat.le_add_right _ _)) (lt' i c)
    · exact M.la d j c (Nat.lt_of_lt_of_le h1 hk)
  · rcases app_cases hi with ⟨c, e⟩ | ⟨d, c, rfl, e⟩ <;> rw [e]
    · rw [(at' i c).2]; exact hle _ j (Nat.le_add_right _ _) (at' i c).1 h1
    · exact M.lb d j c h1
theorem Mh.segB {a b r : Array Keyed} {na nb k : Nat} (M : Mh a b r na nb) (sb : SOn b 0 b.size) (hk : k ≤ nb) (hle : ∀ i j, k ≤ i → i < nb → j < na → K a j ≤ K b i) : Mh a b (b.extract k nb ++ r) na k :=
  (M.swap.segA sb hk hle).swap
theorem Mh.res {a b r : Array Keyed} (M : Mh a b r 0 0) : Res a b r := ⟨M.perm, M.srt⟩
theorem ext_zero {a : Array Keyed} : a.extract 0 0 = #[] := by
  apply Array.eq_empty_of_size_eq_zero
  rw [Array.size_extract]; omega
theorem Mh.done {a b r : Array Keyed} {na nb : Nat} (M : Mh a b r.reverse na nb) (sb : SOn b 0 b.size) (h : na = 0) : Res a b (dnH a b na nb r) := by
  unfold dnH
  subst h
  have M2 := M.segB (k := 0) sb (Nat.zero_le _) (fun i j _ _ h => by omega)
  rw [ext_zero, Array.empty_append]
  exact M2.res
theorem Mh.firstOfB {a b r : Array Keyed} {na nb : Nat} (M : Mh a b r.reverse na nb) (sa : SOn a 0 a.size) (sb : SOn b 0 b.size) (h : nb = 1) (hl : ∀ i, i < a.size → K b 0 ≤ K a i) : Res a b (fob a b na nb r) := by
  unfold fob
  subst h
  have M2 := M.segA (k := 0) sa (Nat.zero_le _) (fun i j _ h1 h2 => by
    have : j = 0 := by omega
    subst this
    exact hl i (by have := M.ha; omega))
  have M3 := M2.segB (k := 0) sb (Nat.zero_le _) (fun i j _ _ h => by omega)
  rw [Array.append_assoc]
  exact M3.res
theorem ext_one' {a : Array Keyed} {n : Nat} {x : Keyed} (h : 1 ≤ n) (hx : a[n - 1]? = some x) : a.extract (n - 1) n = #[x] := by
  have := ext_one hx
  rwa [show n - 1 + 1 = n by omega] at this
theorem Mh.pushA {a b out : Array Keyed} {na nb : Nat} {x : Keyed} (M : Mh a b out.reverse na nb) (I : MIn a b) (h1 : 1 ≤ na) (hx : a[na - 1]? = some x) (hle : 1 ≤ nb → K b (nb - 1) ≤ K a (na - 1)) : Mh a b (out.push x).reverse (na - 1) nb := by
  have hb := M.hb
  have := M.segA (k := na - 1) I.sa (by omega) (fun i j h1 h2 h3 => by
    have : i = na - 1 := by omega
    subst this
    exact Int.le_trans (I.sb j (nb - 1) (Nat.zero_le _) (by omega) (by omega)) (hle (by omega)))
  rw [ext_one' h1 hx] at this
  rw [← Array.append_singleton, Array.reverse_append]; exact this
theorem Mh.pushB {a b out : Array Keyed} {na nb : Nat} {x : Keyed} (M : Mh a b out.reverse na nb) (I : MIn a b) (h1 : 1 ≤ nb) (hx : b[nb - 1]? = some x) (hle : 1 ≤ na → K a (na - 1) ≤ K b (nb - 1)) : Mh a b (out.push x).reverse na (nb - 1) := by
  have ha := M.ha
  have := M.segB (k := nb - 1) I.sb (by omega) (fun i j h1 h2 h3 => by
    have : i = nb - 1 := by omega
    subst this
    exact Int.le_trans (I.sa j (na - 1) (Nat.zero_le _) (by omega) (by omega)) (hle (by omega)))
  rw [ext_one' h1 hx] at this
  rw [← Array.append_singleton, Array.reverse_append]; exact this
theorem Mh.segA' {a b out : Array Keyed} {na nb k : Nat} (M : Mh a b out.reverse na nb) (sa : SOn a 0 a.size) (hk : k ≤ na) (hle : ∀ i j, k ≤ i → i < na → j < nb → K b j ≤ K a i) : Mh a b (out ++ (a.extract k na).reverse).reverse k nb := by
  rw [Array.reverse_append, Array.reverse_reverse]; exact M.segA sa hk hle
theorem Mh.segB' {a b out : Array Keyed} {na nb k : Nat} (M : Mh a b out.reverse na nb) (sb : SOn b 0 b.size) (hk : k ≤ nb) (hle : ∀ i j, k ≤ i → i < nb → j < na → K a j ≤ K b i) : Mh a b (out ++ (b.extract k nb).reverse).reverse na k := by
  rw [Array.reverse_append, Array.reverse_reverse]; exact M.segB sb hk hle
theorem Mh.start {a b : Array Keyed} {x : Keyed} (I : MIn a b) (hx : a[a.size - 1]? = some x) : Mh a b (#[x] : Array Keyed).reverse (a.size - 1) b.size := by
  have M0 : Mh a b (#[] : Array Keyed).reverse a.size b.size := ⟨Nat.le_refl _, Nat.le_refl _, by simp, fun i j _ _ h => by simp at h, fun i j h => by simp at h, fun i j h => by simp at h⟩
  exact M0.pushA I I.a1 hx fun h => Int.le_of_lt (I.last _ (by omega))
end Mine
namespace Mine
set_option maxRecDepth 100000
set_option maxHeartbeats 1000000
/-- where the merge from above is: at most n keys are left, both parts are open -/
structure HiS (a b : Array Keyed) (st₀ : SortSt) (n na nb : Nat) (out : Array Keyed) (st : SortSt) : Prop where
  G : SG st₀ st
  M : Mh a b out.reverse na nb
  hna : 1 ≤ na
  hnb : 2 ≤ nb
  hn : n + (na + nb) ≤ a.size + b.size
inductive R7 (a b : Array Keyed) (st₀ : SortSt) (n : Nat) : ForInStep D7 → SortSt → Prop
  | fin {r st} (c : Nat × Nat × Array Keyed × Nat × Nat × Nat) (G : SG st₀ st) (R : Res a b r) : R7 a b st₀ n (.done (some r, c)) st
  | brk {na nb out st} (c : Nat × Nat × Nat) (L : HiS a b st₀ n na nb out st) : R7 a b st₀ n (.done (none, na, nb, out, c)) st
  | go {na nb out st} (c : Nat × Nat × Nat) (L : HiS a b st₀ n na nb out st) : R7 a b st₀ n (.yield (none, na, nb, out, c)) st
inductive R6 (a b : Array Keyed) (st₀ : SortSt) (n : Nat) : ForInStep D6 → SortSt → Prop
  | fin {r st} (c : Nat × Nat × Array Keyed × Nat × Nat) (G : SG st₀ st) (R : Res a b r) : R6 a b st₀ n (.done (some r, c)) st
  | brk {na nb out st} (c : Nat × Nat) (L : HiS a b st₀ n na nb out st) : R6 a b st₀ n (.done (none, na, nb, out, c)) st
  | go {na nb out st} (c : Nat × Nat) (L : HiS a b st₀ n na nb out st) : R6 a b st₀ n (.yield (none, na, nb, out, c)) st
inductive R5 (a b : Array Keyed) (st₀ : SortSt) (n : Nat) : ForInStep D5 → SortSt → Prop
  | fin {r st} (c : Nat × Nat × Array Keyed × Nat) (G : SG st₀ st) (R : Res a b r) : R5 a b st₀ n (.done (some r, c)) st
  | go {na nb out st} (c : Nat) (L : HiS a b st₀ n na nb out st) : R5 a b st₀ n (.yield (none, na, nb, out, c)) st
section
variable {prog : Program} {w : World} {A : Around} {E : Value → Shared → Prop} {s : Shared}
variable {a b : Array Keyed} {st₀ st : SortSt} {n : Nat} {out : Array Keyed} {na nb : Nat}
theorem w_galA' {x : Keyed} {Q : Option Nat → SortSt → Prop} (I : MIn a b) (hk : kindOf st = oneType') (kx : IsKey (K b (nb - 1)) x) (h1 : 1 ≤ na) (h2 : na ≤ a.size)
    (h : ∀ k, k ≤ na → (∀ i, i < k → K a i ≤ K b (nb - 1)) → (∀ i, k ≤ i → i < na → K b (nb - 1) < K a i) → Q (some k) st) : wpS (model prog w) A E s (gallop' false x a 0 na (na - 1)) Q st := by
  have e := Nat.zero_add na
  refine gal_f hk kx I.ka (by rw [e]; exact h2) (Nat.sub_one_lt_of_lt h1) (I.sa.sub (by rw [e]; exact h2)) fun k h1 h2 h3 => ?_
  rw [e] at h3
  rw [Nat.zero_add] at h2 h3
  exact h k h1 (fun i hi => h2 i (Nat.zero_le _) hi) h3
theorem w_galB' {x : Keyed} {Q : Option Nat → SortSt → Prop} (I : MIn a b) (hst : K b 0 < K a 0) (hk : kindOf st = oneType') (kx : IsKey (K a (na - 1)) x) (ha : na ≤ a.size) (ha1 : 1 ≤ na) (h1 : 1 ≤ nb) (h2 : nb ≤ b.size)
    (h : ∀ k, 1 ≤ k → k ≤ nb → (∀ i, i < k → K b i < K a (na - 1)) → (∀ i, k ≤ i → i < nb → K a (na - 1) ≤ K b i) → Q (some k) st) : wpS (model prog w) A E s (gallop' true x b 0 nb (nb - 1)) Q st := by
  have e := Nat.zero_add nb
  refine gal_t hk kx I.kb (by rw [e]; exact h2) (Nat.sub_one_lt_of_lt h1) (I.sb.sub (by rw [e]; exact h2)) fun k g1 g2 g3 => ?_
  rw [e] at g3
  rw [Nat.zero_add] at g2 g3
  refine h k ?_ g1 (fun i hi => g2 i (Nat.zero_le _) hi) g3
  rcases Nat.eq_zero_or_pos k with h0 | h0
  · exact absurd (Int.lt_of_lt_of_le hst (I.sa 0 (na - 1) (Nat.zero_le _) (Nat.zero_le _) (Nat.lt_of_lt_of_le (Nat.sub_one_lt_of_lt ha1) ha))) (Int.not_lt.mpr (g3 0 (Nat.le_of_eq h0) h1))
  · exact h0
theorem MIn.fstLe (I : MIn a b) : ∀ i, i < a.size → K b 0 ≤ K a i := fun i hi => Int.le_trans I.first (I.sa 0 i (Nat.zero_le _) (Nat.zero_le _) hi)
theorem pred_lt {x n : Nat} (h : 1 ≤ x) (hn : x ≤ n) : x - 1 < n := Nat.lt_of_lt_of_le (Nat.sub_one_lt_of_lt h) hn
theorem ge2 {x : Nat} (h : 1 ≤ x) (h2 : x ≠ 1) : 2 ≤ x := Nat.lt_of_le_of_ne h (Ne.symm h2)

theorem w_hi4 {mg k k1 : Nat} (I : MIn a b) (G : SG st₀ st) (M : Mh a b out.reverse na nb) (hna : 1 ≤ na) (hnb : 2 ≤ nb) (hn : n + (na - 1 + nb) ≤ a.size + b.size) (hle : K b (nb - 1) ≤ K a (na - 1)) :
    wpS (model prog w) A E s (hi4 a b na nb out mg k k1) (R7 a b st₀ n) st := by
  obtain ⟨x, hx, -⟩ := at_of I.ka (pred_lt hna M.ha)
  have M2 := M.pushA I hna hx (fun _ => hle)
  refine wpS_bind (w_elem hx (wpS_beq (fun he => wpS_pure (.fin _ G (M2.done I.sb he))) fun he => ?_))
  have L : HiS a b st₀ n (na - 1) nb (out.push x) st := ⟨G, M2, Nat.pos_of_ne_zero he, hnb, hn⟩
  exact wpS_ite (fun _ => wpS_pure (.brk _ L)) fun _ => wpS_pure (.go _ L)
theorem w_hi3 {mg k bc : Nat} (I : MIn a b) (hst : K b 0 < K a 0) (hk : kindOf st₀ = oneType') (G : SG st₀ st) (M : Mh a b out.reverse na nb) (hna : 1 ≤ na) (hnb : 2 ≤ nb) (hn : n + (na - 1 + nb) ≤ a.size + b.size) :
    wpS (model prog w) A E s (hi3 a b na nb out mg k bc) (R7 a b st₀ n) st := by
  have lt1 := pred_lt hna M.ha
  obtain ⟨x, hx, kx⟩ := at_of I.ka lt1
  refine wpS_bind (w_elem hx (wpS_bind (w_galB' I hst (G.kind.trans hk) kx M.ha hna (Nat.le_of_succ_le hnb) M.hb fun p g0 g1 g2 g3 => ?_)))
  refine wpS_ite (fun _ => ?_) fun h0 => ?_
  · have M3 := M.segB' (k := p) I.sb g1 (fun i j q1 q2 q3 => Int.le_trans (I.sa j (na - 1) (Nat.zero_le _) (Nat.le_sub_one_of_lt q3) lt1) (g3 i q1 q2))
    refine wpS_beq (fun he => wpS_pure (.fin _ G (M3.firstOfB I.sa I.sb he I.fstLe))) fun he => wpS_beq (fun h0 => absurd h0 (Nat.ne_of_gt g0)) fun _ => ?_
    exact w_hi4 I G M3 hna (ge2 g0 he) (Nat.le_trans (Nat.add_le_add_left (Nat.add_le_add_left g1 _) _) hn) (Int.le_of_lt (g2 _ (Nat.sub_one_lt_of_lt g0)))
  · exact w_hi4 I G M hna hnb hn (Int.le_of_lt (g2 _ (by omega)))
theorem w_hi2 {mg k bc : Nat} (I : MIn a b) (hst : K b 0 < K a 0) (hk : kindOf st₀ = oneType') (G : SG st₀ st) (M : Mh a b out.reverse na nb) (hna : 1 ≤ na) (hnb : 2 ≤ nb) (hn : n + (na + nb) ≤ a.size + b.size) (hle : K a (na - 1) ≤ K b (nb - 1)) :
    wpS (model prog w) A E s (hi2 a b na nb out mg k bc) (R7 a b st₀ n) st := by
  have h1 := Nat.le_of_succ_le hnb
  obtain ⟨x, hx, -⟩ := at_of I.kb (pred_lt h1 M.hb)
  have M2 := M.pushB I h1 hx (fun _ => hle)
  refine wpS_bind (w_elem hx (wpS_beq (fun he => wpS_pure (.fin _ G (M2.firstOfB I.sa I.sb he I.fstLe))) fun he => ?_))
  exact w_hi3 I hst hk G M2 hna (ge2 (Nat.le_sub_one_of_lt hnb) he) (by omega)
theorem w_hi1 {mg ac bc : Nat} (I : MIn a b) (hst : K b 0 < K a 0) (hk : kindOf st₀ = oneType') (L : HiS a b st₀ n na nb out st) : wpS (model prog w) A E s (hi1 a b na nb out mg ac bc) (R7 a b st₀ n) st := by
  obtain ⟨G3, M, hna, hnb, hn⟩ := L
  have lt1 := pred_lt (Nat.le_of_succ_le hnb) M.hb
  obtain ⟨x, hx, kx⟩ := at_of I.kb lt1
  refine wpS_bind (w_setMin fun st4 g4 => ?_)
  have G := G3.trans g4
  refine wpS_bind (w_elem hx (wpS_bind (w_galA' I (G.kind.trans hk) kx hna M.ha fun p h1 h2 h3 => wpS_ite (fun _ => ?_) fun h0 => ?_)))
  · have M1 := M.segA' (k := p) I.sa h1 (fun i j q1 q2 q3 => Int.le_trans (I.sb j (nb - 1) (Nat.zero_le _) (Nat.le_sub_one_of_lt q3) lt1) (Int.le_of_lt (h3 i q1 q2)))
    refine wpS_beq (fun he => wpS_pure (.fin _ G (M1.done I.sb he))) fun he => ?_
    exact w_hi2 I hst hk G M1 (Nat.pos_of_ne_zero he) hnb (Nat.le_trans (Nat.add_le_add_left (Nat.add_le_add_right h1 _) _) hn) (h2 _ (Nat.sub_one_lt he))
  · exact w_hi2 I hst hk G M hna hnb hn (h2 _ (by omega))
theorem w_hli {mg ac bc : Nat} (I : MIn a b) (hk : kindOf st₀ = oneType') (L : HiS a b st₀ n na nb out st) : wpS (model prog w) A E s (hli a b mg na nb out ac bc) (R6 a b st₀ (n + 1)) st := by
  obtain ⟨G, M, hna, hnb, hn⟩ := L
  have hb1 := Nat.le_of_succ_le hnb
  obtain ⟨x, hx, kx⟩ := at_of I.kb (pred_lt hb1 M.hb)
  obtain ⟨y, hy, ky⟩ := at_of I.ka (pred_lt hna M.ha)
  refine wpS_bind (w_elem hx (wpS_bind (w_elem hy (wpS_bind (w_lt (G.kind.trans hk) kx ky (wpS_ite (fun hlt => ?_) fun hlt => ?_))))))
  · have M2 := M.pushA I hna hy fun _ => Int.le_of_lt (of_decide_eq_true hlt)
    refine wpS_bind (w_elem hy (wpS_beq (fun he => wpS_pure (.fin _ G (M2.done I.sb he))) fun he => ?_))
    have L : HiS a b st₀ (n + 1) (na - 1) nb (out.push y) st := ⟨G, M2, Nat.pos_of_ne_zero he, hnb, by omega⟩
    exact wpS_ite (fun _ => wpS_pure (.brk _ L)) fun _ => wpS_pure (.go _ L)
  · have M2 := M.pushB I hb1 hx fun _ => Int.not_lt.mp fun h => hlt (decide_eq_true h)
    refine wpS_bind (w_elem hx (wpS_beq (fun he => wpS_pure (.fin _ G (M2.firstOfB I.sa I.sb he I.fstLe))) fun he => ?_))
    have L : HiS a b st₀ (n + 1) na (nb - 1) (out.push x) st := ⟨G, M2, hna, ge2 (Nat.le_sub_one_of_lt hnb) he, by omega⟩
    exact wpS_ite (fun _ => wpS_pure (.brk _ L)) fun _ => wpS_pure (.go _ L)
theorem HiS.le {n n' : Nat} (L : HiS a b st₀ n na nb out st) (h : n' ≤ n) : HiS a b st₀ n' na nb out st := ⟨L.G, L.M, L.hna, L.hnb, Nat.le_trans (Nat.add_le_add_right h _) L.hn⟩
theorem HiS.left (L : HiS a b st₀ n na nb out st) : n < a.size + b.size := Nat.lt_of_lt_of_le (Nat.lt_add_of_pos_right (Nat.add_pos_left L.hna _)) L.hn
theorem w_hlp {ac bc mg : Nat} {r : Option (Array Keyed)} (I : MIn a b) (hst : K b 0 < K a 0) (hk : kindOf st₀ = oneType') (L : HiS a b st₀ n na nb out st) : wpS (model prog w) A E s (hlp a b (r, na, nb, out, ac, bc) mg) (R5 a b st₀ n) st := by
  refine wpS_bind (wpS_loop (fun _ => R7 a b st₀ n) (fun i c st _ _ h => ?_) (.go (mg + 1, ac, bc) L) (fun i c st h => ?_) (fun c st h => ?_))
  · cases h with
    | go c L => exact wpS_ite (fun _ => w_hi1 I hst hk L) fun _ => w_hi1 I hst hk L
  · cases h with
    | fin c G R => exact wpS_pure (.fin _ G R)
    | brk c L => exact wpS_bind (w_setMin fun st4 g4 => wpS_pure (.go _ ⟨L.G.trans g4, L.M, L.hna, L.hnb, L.hn⟩))
  · cases h with
    | go c L => exact wpS_bind (w_setMin fun st4 g4 => wpS_pure (.go _ ⟨L.G.trans g4, L.M, L.hna, L.hnb, L.hn⟩))
theorem w_hlo {mg : Nat} {r : Option (Array Keyed)} (I : MIn a b) (hst : K b 0 < K a 0) (hk : kindOf st₀ = oneType') (L : HiS a b st₀ n na nb out st) : wpS (model prog w) A E s (hlo a b (r, na, nb, out, mg)) (R5 a b st₀ (n + 1)) st := by
  refine wpS_bind (wpS_loop (fun i => R6 a b st₀ (n + i)) (fun i c st _ _ h => ?_) (.go (0, 0) L) (fun i c st h => ?_) (fun c st h => ?_))
  · cases h with
    | go c L => exact w_hli I hk L
  · cases h with
    | fin c G R => exact wpS_pure (.fin _ G R)
    | brk c L => exact wpS_bind (wpS_lift (wpAny_rule ⟨rfl, w_hlp I hst hk (L.le (by omega))⟩))
  · cases h with
    | go c L => exact absurd L.left (by omega)
end
section
variable {prog : Program} {w : World} {A : Around} {E : Value → Shared → Prop} {s : Shared}
theorem w_mergeHi {st : SortSt} {a b : Array Keyed} {Q : Array Keyed → SortSt → Prop} (I : MIn a b) (hst : K b 0 < K a 0) (hk : kindOf st = oneType') (hQ : ∀ r st', SG st st' → Res a b r → Q r st') : wpS (model prog w) A E s (mergeHi' a b) Q st := by
  rw [mergeHi'_eq]
  refine wpS_bind (wpS_lift (wpAny_rule ⟨rfl, ?_⟩))
  obtain ⟨x, hx, -⟩ := at_of I.ka (pred_lt I.a1 (Nat.le_refl _))
  have M1 := Mh.start I hx
  refine wpS_bind (w_elem hx (wpS_beq (fun he => wpS_pure (hQ _ _ SG.refl (M1.done I.sb he))) fun ha => wpS_beq (fun he => wpS_pure (hQ _ _ SG.refl (M1.firstOfB I.sa I.sb he I.fstLe))) fun hb => ?_))
  refine wpS_bind (wpS_get (wpS_bind (wpS_loop (fun i => R5 a b st (i + 1)) (fun i c st _ _ h => ?_) (.go _ ⟨SG.refl, M1, Nat.pos_of_ne_zero ha, ge2 I.b1 hb, by have := I.a1; omega⟩) (fun i c st h => ?_) (fun c st h => ?_))))
  · cases h with
    | go c L => exact w_hlo I hst hk L
  · cases h with
    | fin c G R => exact wpS_pure (hQ _ _ G R)
  · cases h with
    | go c L => exact absurd L.left (by omega)
end
end Mine
namespace Mine
set_option maxRecDepth 100000
set_option maxHeartbeats 1000000
theorem mergeAt'_eq (i : Nat) : mergeAt' i = (do
  let s ← get
  let (some (sa, na, power), some (sb, nb, _)) := ((pendingOf s)[i]?, (pendingOf s)[i + 1]?) | unsupported "internal:list.sort.pending"
  set (setPending s (((pendingOf s).setIfInBounds i (sa, na + nb, power)).eraseIdxIfInBounds (i + 1)))
  let some k ← gallop' false (← elem' (arrOf s) sb) (arrOf s) sa na 0 | return false
  let (sa, na) := (sa + k, na - k)
  if na == 0 then return true
  let some nb ← gallop' true (← elem' (arrOf s) (sa + na - 1)) (arrOf s) sb nb (nb - 1) | return false
  if nb == 0 then return true
  let x := (arrOf s).extract sa sb
  let y := (arrOf s).extract sb (sb + nb)
  let merged ← if na ≤ nb then mergeLo' x y else mergeHi' x y
  modify fun s => setArr s (merged.toList.zipIdx.foldl (fun a (p, j) => a.setIfInBounds (sa + j) p) (arrOf s))
  return (failedOf (← get)).isNone) := rfl

theorem fold_get (base : Nat) : ∀ (m : List Keyed) (n : Nat) (arr : Array Keyed) (i : Nat), base + n + m.length ≤ arr.size →
    ((m.zipIdx n).foldl (fun a (p, j) => a.setIfInBounds (base + j) p) arr)[i]? = if base + n ≤ i ∧ i < base + n + m.length then m[i - (base + n)]? else arr[i]?
  | [], n, arr, i, h => by rw [if_neg fun q => Nat.lt_irrefl _ (Nat.lt_of_le_of_lt q.1 q.2)]; rfl
  | p :: m, n, arr, i, h => by
    have h' : base + (n + 1) + m.length ≤ (arr.setIfInBounds (base + n) p).size := by
      rw [Array.size_setIfInBounds, ← Nat.add_assoc, Nat.add_right_comm]; exact h
    refine (fold_get base m (n + 1) (arr.setIfInBounds (base + n) p) i h').trans ?_
    have e : base + (n + 1) + m.length = base + n + (p :: m).length := by rw [List.length_cons, ← Nat.add_assoc, ← Nat.add_assoc, Nat.add_right_comm]
    rw [e]
    rcases Nat.lt_trichotomy i (base + n) with c | c | c
    · rw [if_neg fun q => Nat.lt_asymm c q.1, if_neg fun q => Nat.not_lt_of_le q.1 c, Array.getElem?_setIfInBounds_ne (Nat.ne_of_gt c)]
    · subst c
      rw [if_neg fun q => Nat.lt_irrefl _ q.1, if_pos ⟨Nat.le_refl _, Nat.lt_add_of_pos_right (Nat.succ_pos _)⟩, Nat.sub_self, List.getElem?_cons_zero]
      exact Array.getElem?_setIfInBounds_self_of_lt (Nat.lt_of_lt_of_le (Nat.lt_add_of_pos_right (Nat.succ_pos _)) h)
    · obtain ⟨d, rfl⟩ := Nat.exists_eq_add_of_lt c
      by_cases g : base + n + d + 1 < base + n + (p :: m).length
      · rw [if_pos ⟨c, g⟩, if_pos ⟨Nat.le_of_lt c, g⟩, ← Nat.add_assoc, Nat.add_assoc (base + n) d 1, Nat.add_sub_cancel_left, List.getElem?_cons_succ, Nat.add_comm d 1, ← Nat.add_assoc, Nat.add_sub_cancel_left]
      · rw [if_neg fun q => g q.2, if_neg fun q => g q.2, Array.getElem?_setIfInBounds_ne (Nat.ne_of_lt c)]
noncomputable def put (m arr : Array Keyed) (base : Nat) : Array Keyed := m.toList.zipIdx.foldl (fun a (p, j) => a.setIfInBounds (base + j) p) arr
theorem put_get {m arr : Array Keyed} {base i : Nat} (h : base + m.size ≤ arr.size) : (put m arr base)[i]? = if base ≤ i ∧ i < base + m.size then m[i - base]? else arr[i]? := by
  unfold put
  rw [fold_get base m.toList 0 arr i (by simpa using h)]
  simp
theorem put_K {m arr : Array Keyed} {base i : Nat} (h : base + m.size ≤ arr.size) : K (put m arr base) i = if base ≤ i ∧ i < base + m.size then K m (i - base) else K arr i := by
  by_cases h1 : base ≤ i ∧ i < base + m.size
  · rw [if_pos h1]; exact K_congr (by rw [put_get h, if_pos h1])
  · rw [if_neg h1]; exact K_congr (by rw [put_get h, if_neg h1])
theorem put_list {m arr : Array Keyed} {base : Nat} (h : base + m.size ≤ arr.size) : (put m arr base).toList = arr.toList.take base ++ (m.toList ++ arr.toList.drop (base + m.size)) := by
  apply List.ext_getElem?
  intro i
  rw [Array.getElem?_toList, put_get h]
  have hl : (arr.toList.take base).length = base := by rw [List.length_take, Array.length_toList]; omega
  by_cases h1 : i < base
  · rw [if_neg (by omega), List.getElem?_append_left (by omega), List.getElem?_take_of_lt h1, Array.getElem?_toList]
  · rw [List.getElem?_append_right (by omega), hl]
    by_cases h2 : i < base + m.size
    · rw [if_pos (by omega), List.getElem?_append_left (by rw [Array.length_toList]; omega), Array.getElem?_toList]
    · rw [if_neg (by omega), List.getElem?_append_right (by rw [Array.length_toList]; omega), List.getElem?_drop, Array.length_toList, Array.getElem?_toList]
      congr 1; omega
theorem K_mem {m a b : Array Keyed} (h : m.toList.Perm (a.toList ++ b.toList)) {i : Nat} (hi : i < m.size) : (∃ j, j < a.size ∧ K m i = K a j) ∨ ∃ j, j < b.size ∧ K m i = K b j := by
  have h1 : m[i] ∈ m.toList := by simp
  rcases List.mem_append.mp (h.mem_iff.mp h1) with h2 | h2
  · obtain ⟨j, hj, e⟩ := List.getElem_of_mem h2
    rw [Array.length_toList] at hj
    rw [Array.getElem_toList] at e
    exact .inl ⟨j, hj, K_congr (by rw [getElem?_pos m i hi, getElem?_pos a j hj, e])⟩
  · obtain ⟨j, hj, e⟩ := List.getElem_of_mem h2
    rw [Array.length_toList] at hj
    rw [Array.getElem_toList] at e
    exact .inr ⟨j, hj, K_congr (by rw [getElem?_pos m i hi, getElem?_pos b j hj, e])⟩
theorem IntKeys.ext {a : Array Keyed} (h : IntKeys a) {i j : Nat} : IntKeys (a.extract i j) := fun p hp => by
  refine h p ?_
  rw [Array.toList_extract, List.extract_eq_take_drop] at hp
  exact List.mem_of_mem_drop (List.mem_of_mem_take hp)

section
variable {prog : Program} {w : World} {A : Around} {E : Value → Shared → Prop} {s : Shared}
theorem wpS_set {σ : Type} {M : Model} {x st : σ} {Q : PUnit → σ → Prop} (h : Q ⟨⟩ x) : wpS M A E s (set x : StateT σ Sem PUnit) Q st := by
  unfold wpS; rw [StateT.run_set]; exact wpAny_pure ⟨rfl, h⟩

theorem SOn.glue {zs : Array Keyed} {a p q : Nat} (v : Int) (h1 : SOn zs a p) (h2 : SOn zs p q) (l : ∀ i, a ≤ i → i < p → K zs i ≤ v) (r : ∀ i, p ≤ i → i < q → v ≤ K zs i) : SOn zs a q := fun i j g1 g2 g3 => by
  rcases Nat.lt_or_ge j p with c | c
  · exact h1 i j g1 g2 c
  · rcases Nat.lt_or_ge i p with d | d
    · exact Int.le_trans (l i g1 d) (r j c g3)
    · exact h2 i j d g2 g3
/-- what a merge of the two trimmed parts makes -/
theorem merged_sorted {xs r : Array Keyed} {na nb k n2 : Nat} (hsz : na + nb ≤ xs.size) (s1 : SOn xs 0 na) (s2 : SOn xs na (na + nb)) (hk : k < na) (hn : n2 ≤ nb) (hb : 1 ≤ nb)
    (c1 : ∀ i, 0 ≤ i → i < k → K xs i ≤ K xs na) (c2 : ∀ i, k ≤ i → i < na → K xs na < K xs i) (c4 : ∀ i, na ≤ i → i < na + n2 → K xs i < K xs (na - 1)) (c3 : ∀ i, na + n2 ≤ i → i < na + nb → K xs (na - 1) ≤ K xs i)
    (hr : Res (xs.extract k na) (xs.extract na (na + n2)) r) : (put r xs k).Perm xs ∧ SOn (put r xs k) 0 (na + nb) := by
  obtain ⟨hp, hs⟩ := hr
  have z2 : na + n2 ≤ xs.size := Nat.le_trans (Nat.add_le_add_left hn na) hsz
  have z1 : na ≤ xs.size := Nat.le_trans (Nat.le_add_right _ _) z2
  have l1 : (xs.extract k na).size = na - k := ext_size z1
  have l2 : (xs.extract na (na + n2)).size = n2 := (ext_size z2).trans (Nat.add_sub_cancel_left ..)
  have hz : k + r.size = na + n2 := by
    have := hp.length_eq
    rw [List.length_append, Array.length_toList, Array.length_toList, Array.length_toList, l1, l2] at this
    rw [this, ← Nat.add_assoc, Nat.add_sub_cancel' (Nat.le_of_lt hk)]
  have hfit : k + r.size ≤ xs.size := by rw [hz]; exact z2
  have pred : na - 1 < na := Nat.sub_one_lt_of_lt hk
  have bnd : ∀ i, i < r.size → K xs na ≤ K r i ∧ K r i ≤ K xs (na - 1) := fun i hi => by
    rcases K_mem hp hi with ⟨j, hj, e⟩ | ⟨j, hj, e⟩
    · rw [l1] at hj
      have hj' : k + j < na := Nat.add_lt_of_lt_sub' hj
      rw [e, K_ext hj z1]
      exact ⟨Int.le_of_lt (c2 _ (Nat.le_add_right _ _) hj'), s1 _ _ (Nat.zero_le _) (Nat.le_sub_one_of_lt hj') pred⟩
    · rw [l2] at hj
      rw [e, K_ext (by rw [Nat.add_sub_cancel_left]; exact hj) z2]
      exact ⟨s2 _ _ (Nat.le_refl _) (Nat.le_add_right _ _) (Nat.add_lt_add_left (Nat.lt_of_lt_of_le hj hn) na), Int.le_of_lt (c4 _ (Nat.le_add_right _ _) (Nat.add_lt_add_left hj na))⟩
  have kl : ∀ i, i < k → K (put r xs k) i = K xs i := fun i h => by rw [put_K hfit, if_neg fun q => Nat.not_lt_of_le q.1 h]
  have km : ∀ i, i < r.size → K (put r xs k) (k + i) = K r i := fun i h => by rw [put_K hfit, if_pos ⟨Nat.le_add_right _ _, Nat.add_lt_add_left h k⟩, Nat.add_sub_cancel_left]
  have kr : ∀ i, na + n2 ≤ i → K (put r xs k) i = K xs i := fun i h => by rw [put_K hfit, if_neg fun q => Nat.not_lt_of_le h (by rw [← hz]; exact q.2)]
  have mid : ∀ i, k ≤ i → i < na + n2 → ∃ j, j < r.size ∧ k + j = i := fun i h1 h2 => by
    obtain ⟨j, rfl⟩ := Nat.exists_eq_add_of_le h1
    exact ⟨j, Nat.lt_of_add_lt_add_left (by rw [hz]; exact h2), rfl⟩
  have nn : na < na + nb := Nat.lt_add_of_pos_right hb
  refine ⟨?_, SOn.glue (p := k) (K xs na) (fun i j h1 h2 h3 => ?_) (SOn.glue (p := na + n2) (K xs (na - 1)) (fun i j h1 h2 h3 => ?_) (fun i j h1 h2 h3 => ?_) (fun i h1 h2 => ?_) fun i h1 h2 => ?_) (fun i h1 h2 => ?_) fun i h1 h2 => ?_⟩
  · apply Array.perm_iff_toList_perm.mpr
    rw [put_list hfit]
    have e1 : xs.toList = xs.toList.take k ++ ((xs.extract k na).toList ++ (xs.extract na (na + n2)).toList ++ xs.toList.drop (k + r.size)) := by
      rw [List.append_assoc, hz, drop_ext (Nat.le_add_right _ _), drop_ext (Nat.le_of_lt hk), List.take_append_drop]
    conv => rhs; rw [e1]
    exact List.Perm.append_left _ (hp.append_right _)
  · rw [kl i (Nat.lt_of_le_of_lt h2 h3), kl j h3]; exact s1 i j h1 h2 (Nat.lt_trans h3 hk)
  · obtain ⟨x, hx, rfl⟩ := mid i h1 (Nat.lt_of_le_of_lt h2 h3)
    obtain ⟨y, hy, rfl⟩ := mid j (Nat.le_trans h1 h2) h3
    rw [km x hx, km y hy]; exact hs x y (Nat.zero_le _) (Nat.le_of_add_le_add_left h2) hy
  · rw [kr i h1, kr j (Nat.le_trans h1 h2)]; exact s2 i j (Nat.le_trans (Nat.le_add_right _ _) h1) h2 h3
  · obtain ⟨x, hx, rfl⟩ := mid i h1 h2
    rw [km x hx]; exact (bnd x hx).2
  · rw [kr i h1]; exact c3 i h1 h2
  · rw [kl i h2]; exact c1 i h1 h2
  · rcases Nat.lt_or_ge i (na + n2) with c | c
    · obtain ⟨x, hx, rfl⟩ := mid i h1 c
      rw [km x hx]; exact (bnd x hx).1
    · rw [kr i c]; exact s2 na i (Nat.le_refl _) (Nat.le_trans (Nat.le_add_right _ _) c) h2
end
end Mine
namespace Mine
set_option maxRecDepth 100000
set_option maxHeartbeats 1000000
/-- what two trimmed runs are to each other -/
theorem trimmed {xs : Array Keyed} {n1 m k : Nat} (h0 : IntKeys xs) (hk : k < n1) (hm : 1 ≤ m) (hz : n1 + m ≤ xs.size) (s1 : SOn xs 0 n1) (s2 : SOn xs n1 (n1 + m)) (c2 : K xs n1 < K xs k) (c4 : ∀ i, n1 ≤ i → i < n1 + m → K xs i < K xs (n1 - 1)) :
    MIn (xs.extract k n1) (xs.extract n1 (n1 + m)) ∧ K (xs.extract n1 (n1 + m)) 0 < K (xs.extract k n1) 0 := by
  have hz1 : n1 ≤ xs.size := Nat.le_trans (Nat.le_add_right _ _) hz
  have z1 : (xs.extract k n1).size = n1 - k := ext_size hz1
  have z2 : (xs.extract n1 (n1 + m)).size = m := (ext_size hz).trans (Nat.add_sub_cancel_left ..)
  have v1 : ∀ i, i < n1 - k → K (xs.extract k n1) i = K xs (k + i) := fun i hi => K_ext hi hz1
  have v2 : ∀ i, i < m → K (xs.extract n1 (n1 + m)) i = K xs (n1 + i) := fun i hi => K_ext (by rw [Nat.add_sub_cancel_left]; exact hi) hz
  have hp : 0 < n1 - k := Nat.sub_pos_of_lt hk
  have hst : K (xs.extract n1 (n1 + m)) 0 < K (xs.extract k n1) 0 := by rw [v1 0 hp, v2 0 hm]; exact c2
  refine ⟨⟨Mine.IntKeys.ext h0, Mine.IntKeys.ext h0, fun i j q1 q2 q3 => ?_, fun i j q1 q2 q3 => ?_, by rw [z1]; exact hp, by rw [z2]; exact hm, Int.le_of_lt hst, fun j hj => ?_⟩, hst⟩
  · rw [z1] at q3
    rw [v1 i (Nat.lt_of_le_of_lt q2 q3), v1 j q3]; exact s1 _ _ (Nat.zero_le _) (Nat.add_le_add_left q2 k) (Nat.add_lt_of_lt_sub' q3)
  · rw [z2] at q3
    rw [v2 i (Nat.lt_of_le_of_lt q2 q3), v2 j q3]; exact s2 _ _ (Nat.le_add_right _ _) (Nat.add_le_add_left q2 n1) (Nat.add_lt_add_left q3 n1)
  · rw [z2] at hj
    rw [z1, v2 j hj, v1 _ (Nat.sub_one_lt_of_lt hp), ← Nat.add_sub_assoc hp, Nat.add_sub_cancel' (Nat.le_of_lt hk)]
    exact c4 _ (Nat.le_add_right _ _) (Nat.add_lt_add_left hj n1)
theorem SOn.sub2 {xs : Array Keyed} {a m n : Nat} (h : SOn xs a n) (hm : m ≤ n) : SOn xs a m := fun i j h1 h2 h3 => h i j h1 h2 (Nat.lt_of_lt_of_le h3 hm)
theorem psz {n1 n2 p1 p2 : Nat} : (((#[(0, n1, p1), (n1, n2, p2)] : Array (Nat × Nat × Nat)).setIfInBounds 0 (0, n1 + n2, p1)).eraseIdxIfInBounds (0 + 1)).size ≤ 1 := by simp [Array.eraseIdxIfInBounds]
/-- the merged part is laid -/
noncomputable def lay (k : Nat) (r : Array Keyed) : StateT SortSt Sem Bool := do
  modify fun s => setArr s (put r (arrOf s) k)
  let s ← get
  pure (failedOf s).isNone
noncomputable def mrg (xs : Array Keyed) (k n1 m : Nat) : StateT SortSt Sem Bool :=
  if n1 - k ≤ m then mergeLo' (xs.extract k n1) (xs.extract n1 (n1 + m)) >>= lay k else mergeHi' (xs.extract k n1) (xs.extract n1 (n1 + m)) >>= lay k
section
variable {prog : Program} {w : World} {A : Around} {E : Value → Shared → Prop} {s : Shared}
theorem w_mrg {xs : Array Keyed} {k n1 m : Nat} {st : SortSt} {Q : Bool → SortSt → Prop} (hx : arrOf st = xs) (hk : kindOf st = oneType') (hf : failedOf st = none) (I : MIn (xs.extract k n1) (xs.extract n1 (n1 + m)))
    (hst : K (xs.extract n1 (n1 + m)) 0 < K (xs.extract k n1) 0) (h : ∀ r st', SG st st' → Res (xs.extract k n1) (xs.extract n1 (n1 + m)) r → Q true (setArr st' (put r xs k))) :
    wpS (model prog w) A E s (mrg xs k n1 m) Q st := by
  have fin : ∀ r st', SG st st' → Res (xs.extract k n1) (xs.extract n1 (n1 + m)) r → wpS (model prog w) A E s (lay k r) Q st' := fun r st' G hr => by
    refine wpS_bind (wpS_modify (wpS_bind (wpS_get (wpS_pure ?_))))
    have e : arrOf st' = xs := G.arr.trans hx
    have f : failedOf (setArr st' (put r (arrOf st') k)) = none := G.failed.trans hf
    rw [f, e]
    exact h r st' G hr
  exact wpS_ite (fun _ => wpS_bind (w_mergeLo I hk fun r st' G hr => fin r st' G hr)) fun _ => wpS_bind (w_mergeHi I hst hk fun r st' G hr => fin r st' G hr)
theorem SOn.over {xs : Array Keyed} {n1 n2 : Nat} (s1 : SOn xs 0 n1) (s2 : SOn xs n1 (n1 + n2)) (h : ∀ i, 0 ≤ i → i < n1 → K xs i ≤ K xs n1) : SOn xs 0 (n1 + n2) :=
  s1.glue (K xs n1) s2 h fun i h1 h2 => s2 n1 i (Nat.le_refl _) h1 h2
theorem w_mergeAt {st : SortSt} {n1 n2 p1 p2 : Nat} {Q : Bool → SortSt → Prop} (h0 : IntKeys (arrOf st)) (hk : kindOf st = oneType') (hf : failedOf st = none) (hp : pendingOf st = #[(0, n1, p1), (n1, n2, p2)])
    (l1 : 1 ≤ n1) (l2 : 1 ≤ n2) (hsz : n1 + n2 ≤ (arrOf st).size) (s1 : SOn (arrOf st) 0 n1) (s2 : SOn (arrOf st) n1 (n1 + n2))
    (h : ∀ st', (arrOf st').Perm (arrOf st) → kindOf st' = oneType' → failedOf st' = none → (pendingOf st').size ≤ 1 → SOn (arrOf st') 0 (n1 + n2) → Q true st') :
    wpS (model prog w) A E s (mergeAt' 0) Q st := by
  have hz := Nat.lt_of_lt_of_le (Nat.lt_add_of_pos_right l2) hsz
  obtain ⟨x, hx, kx⟩ := at_of h0 hz
  obtain ⟨y, hy, ky⟩ := at_of h0 (Nat.lt_of_le_of_lt (Nat.sub_le n1 1) hz)
  have zn := Nat.zero_add n1
  rw [mergeAt'_eq]
  refine wpS_bind (wpS_get ?_)
  rw [hp]
  generalize hxs : arrOf st = xs at *
  refine wpS_bind (wpS_set (wpS_bind (w_elem hx (wpS_bind (gal_f hk kx h0 (by rw [zn]; exact Nat.le_of_lt hz) l1 (by rw [zn]; exact s1) fun k h1 c1 c2 => wpS_beq (fun he => wpS_pure ?_) fun he => ?_)))))
  · rw [Nat.le_antisymm h1 (Nat.le_of_sub_eq_zero he), zn] at c1
    exact h _ (by rw [← hxs]) hk hf psz (by rw [← hxs] at *; exact s1.over s2 c1)
  rw [Nat.zero_add] at c1
  rw [zn, Nat.zero_add] at c2
  have hkn : k < n1 := Nat.lt_of_le_of_ne h1 fun e => he (Nat.sub_eq_zero_of_le (Nat.le_of_eq e.symm))
  have ke : 0 + k + (n1 - k) - 1 = n1 - 1 := by rw [Nat.zero_add, Nat.add_sub_cancel' h1]
  refine wpS_bind (w_elem (by rw [ke]; exact hy) (wpS_bind (gal_t hk ky h0 hsz (Nat.sub_one_lt_of_lt l2) s2 fun m g1 c4 c3 => wpS_beq (fun hm => ?_) fun hm => ?_)))
  · refine absurd (c2 (n1 - 1) (Nat.le_sub_one_of_lt hkn) (Nat.sub_one_lt_of_lt hkn)) (Int.not_lt.mpr (c3 n1 (Nat.le_of_eq (by rw [hm]; rfl)) (Nat.lt_add_of_pos_right l2)))
  have T := trimmed h0 hkn (Nat.pos_of_ne_zero hm) (Nat.le_trans (Nat.add_le_add_left g1 n1) hsz) s1 (s2.sub2 (Nat.add_le_add_left g1 n1)) (c2 k (Nat.le_refl _) hkn) c4
  rw [Nat.zero_add]
  refine w_mrg hxs hk hf T.1 T.2 fun r st' G hr => ?_
  have ms := merged_sorted hsz s1 s2 hkn g1 l2 c1 c2 c4 c3 hr
  exact h _ ms.1 (G.kind.trans hk) (G.failed.trans hf) (Nat.le_trans (Nat.le_of_eq (congrArg Array.size G.pend)) psz) ms.2
end
end Mine
namespace Mine
set_option maxRecDepth 100000
set_option maxHeartbeats 1000000
theorem minRun_half {n : Nat} (h : n < 128) (h2 : 2 ≤ n) : minRun' n n 0 ≤ n ∧ n ≤ minRun' n n 0 + minRun' n n 0 ∧ 1 ≤ minRun' n n 0 := by
  obtain ⟨f, rfl⟩ := Nat.exists_eq_add_of_le' h2
  rw [minRun'_succ]
  by_cases h64 : f + 2 < 64
  · rw [if_pos h64]; exact ⟨Nat.le_refl _, Nat.le_add_right _ _, Nat.le_of_succ_le h2⟩
  · rw [if_neg h64, minRun'_succ, if_pos (by omega), Nat.zero_max]; omega
section
variable {prog : Program} {w : World} {A : Around} {E : Value → Shared → Prop} {s : Shared} {a₀ : Array Keyed}
theorem SB.self {st₀ st : SortSt} (h : SB a₀ st₀ st) : SB a₀ st st := ⟨h.perm, h.kind, h.failed, rfl⟩
theorem SB.pended {st₀ st : SortSt} {p : Array (Nat × Nat × Nat)} (h : SB a₀ st₀ st) : SB a₀ (setPending st p) (setPending st p) := ⟨h.perm, h.kind, h.failed, rfl⟩
/-- one run that covers all; two runs side by side -/
noncomputable def OneRun (a₀ : Array Keyed) (st : SortSt) : Prop := SB a₀ st st ∧ (pendingOf st).size ≤ 1 ∧ SOn (arrOf st) 0 a₀.size
noncomputable def TwoRuns (a₀ : Array Keyed) (st : SortSt) : Prop := SB a₀ st st ∧ ∃ n1 n2 p1 p2, pendingOf st = #[(0, n1, p1), (n1, n2, p2)] ∧ 1 ≤ n1 ∧ 1 ≤ n2 ∧ n1 + n2 = a₀.size ∧ SOn (arrOf st) 0 n1 ∧ SOn (arrOf st) n1 (n1 + n2)
theorem SOn.ahead {xs ys : Array Keyed} {n : Nat} (h : SOn xs 0 n) (a : Ahead n xs ys) : SOn ys 0 n := fun i j h1 h2 h3 => by
  rw [a i (by omega), a j h3]; exact h i j h1 h2 h3

noncomputable def lastPw (pw : Nat) (s : SortSt) : SortSt := setPending s ((pendingOf s).modify ((pendingOf s).size - 1) fun (st, len, _) => (st, len, pw))
noncomputable def addRun (lo n : Nat) (s : SortSt) : SortSt := setPending s ((pendingOf s).push (lo, n, 0))
noncomputable def popStep (pw : Nat) : StateT SortSt Sem (ForInStep (Option Unit × Unit)) := do
  let s ← get
  match (if (pendingOf s).size > 1 then (pendingOf s)[(pendingOf s).size - 2]? else none) with
  | some (_, _, older) =>
    if older ≤ pw then pure (.done (none, ()))
    else do
      let ok ← mergeAt' ((pendingOf s).size - 2)
      if !ok then pure (.done (some (), ())) else pure (.yield (none, ()))
  | _ => pure (.done (none, ()))
noncomputable def pushRun (size lo n : Nat) : StateT SortSt Sem (ForInStep (Option Unit × Nat)) := do
  let s ← get
  match (pendingOf s).back? with
  | some (s1, n1, _) => do
    let c ← forIn [0:size] ((none, ()) : Option Unit × Unit) fun _ _ => popStep (power' size (2 * s1 + n1) (2 * s1 + n1 + n1 + n) size)
    match c.fst with
    | some r => pure (.done (some r, lo))
    | none => do
      modify (lastPw (power' size (2 * s1 + n1) (2 * s1 + n1 + n1 + n) size))
      modify (addRun lo n)
      pure (.yield (none, lo + n))
  | _ => do
    modify (addRun lo n)
    pure (.yield (none, lo + n))
noncomputable def runStep (size mr lo : Nat) : StateT SortSt Sem (ForInStep (Option Unit × Nat)) :=
  if lo ≥ size then pure (.done (none, lo)) else do
  let x ← countRun' lo (size - lo)
  match x with
  | some m =>
    if m < mr then do
      rule "list.sort.binary-insertion"
      let ok ← binarySort' lo (min (size - lo) mr) m
      if !ok then pure (.done (some (), lo)) else pushRun size lo (min (size - lo) mr)
    else pushRun size lo m
  | _ => pure (.done (some (), lo))
noncomputable def endStep : StateT SortSt Sem (ForInStep (Option Unit × Unit)) := do
  let s ← get
  if (pendingOf s).size ≤ 1 then pure (.done (none, ())) else do
  let ok ← mergeAt' (if (if (pendingOf s).size - 2 > 0 then (pendingOf s)[(pendingOf s).size - 2 - 1]?.map (·.2.1) else none).any (· < ((pendingOf s)[(pendingOf s).size - 2 + 1]?.elim 0 (·.2.1))) then (pendingOf s).size - 2 - 1 else (pendingOf s).size - 2)
  if !ok then pure (.done (some (), ())) else pure (.yield (none, ()))
theorem sortRunsN_eq : sortRuns' = (do
    let s ← get
    let c ← forIn [0:(arrOf s).size] ((none, 0) : Option Unit × Nat) fun _ c => runStep (arrOf s).size (minRun' (arrOf s).size (arrOf s).size 0) c.snd
    match c.fst with
    | some r => pure r
    | none => do
      let c ← forIn [0:(arrOf s).size] ((none, ()) : Option Unit × Unit) fun _ _ => endStep
      match c.fst with
      | some r => pure r
      | none => pure ()) := by
  refine bind_eq rfl fun s => bind_eq (forIn_eq fun i c => ite_eq rfl (bind_eq rfl fun x => ?_)) fun c => ?_
  · cases x with
    | none => rfl
    | some m =>
      refine ite_eq (bind_eq rfl fun _ => bind_eq rfl fun ok => ite_eq rfl ?_) ?_
      all_goals
        refine bind_eq rfl fun s2 => ?_
        generalize (pendingOf s2).back? = q
        cases q with
        | none => rfl
        | some q => exact bind_eq rfl fun c => by obtain ⟨r, c⟩ := c; cases r <;> rfl
  · obtain ⟨r, c⟩ := c
    cases r with
    | some r => rfl
    | none => exact bind_eq rfl fun c => by obtain ⟨r, c⟩ := c; cases r <;> rfl
inductive StayP (st : SortSt) : ForInStep (Option Unit × Unit) → SortSt → Prop
  | go : StayP st (.yield (none, ())) st
  | brk : StayP st (.done (none, ())) st
inductive EndP (a₀ : Array Keyed) (x : Nat) : ForInStep (Option Unit × Unit) → SortSt → Prop
  | one {st} (T : OneRun a₀ st) : EndP a₀ x (.yield (none, ())) st
  | two {st} (hx : x = 0) (T : TwoRuns a₀ st) : EndP a₀ x (.yield (none, ())) st
  | brk {st} (T : OneRun a₀ st) : EndP a₀ x (.done (none, ())) st
/-- the runs so far, x turns done -/
inductive RunP (a₀ : Array Keyed) (st₀ : SortSt) (mr x : Nat) : ForInStep (Option Unit × Nat) → SortSt → Prop
  | go0 {st} (hx : x = 0) (B : SB a₀ st₀ st) : RunP a₀ st₀ mr x (.yield (none, 0)) st
  | go1 {n1 p st} (hx : x = 1) (B : SB a₀ st st) (hm : mr ≤ n1) (h1 : 1 ≤ n1) (h2 : n1 ≤ a₀.size) (hp : pendingOf st = #[(0, n1, p)]) (hs : SOn (arrOf st) 0 n1) : RunP a₀ st₀ mr x (.yield (none, n1)) st
  | go2 {st} (hx : 2 ≤ x) (T : TwoRuns a₀ st) : RunP a₀ st₀ mr x (.yield (none, a₀.size)) st
  | brk {st} (T : OneRun a₀ st ∨ TwoRuns a₀ st) : RunP a₀ st₀ mr x (.done (none, a₀.size)) st
theorem w_pushRun0 {st₀ st : SortSt} {size mr n : Nat} (hpe : pendingOf st₀ = #[]) (B : SB a₀ st₀ st) (hm : mr ≤ n) (h1 : 1 ≤ n) (h2 : n ≤ a₀.size) (hs : SOn (arrOf st) 0 n) :
    wpS (model prog w) A E s (pushRun size 0 n) (RunP a₀ st₀ mr 1) st := by
  have hp : pendingOf st = #[] := B.pend.trans hpe
  refine wpS_bind (wpS_get ?_)
  rw [hp]
  have hq : pendingOf (addRun 0 n st) = #[(0, n, 0)] := by show (pendingOf st).push (0, n, 0) = _; rw [hp]; rfl
  have g := RunP.go1 (a₀ := a₀) (st₀ := st₀) (mr := mr) (x := 1) rfl (B.pended (p := (pendingOf st).push (0, n, 0))) hm h1 h2 hq hs
  exact wpS_bind (wpS_modify (wpS_pure (by rw [Nat.zero_add n]; exact g)))
theorem w_pushRun1 {st₀ st1 st : SortSt} {size mr n1 n p : Nat} (hp : pendingOf st1 = #[(0, n1, p)]) (B : SB a₀ st1 st) (h1 : 1 ≤ n1) (hn : 1 ≤ n) (hz : n1 + n = a₀.size) (hs : SOn (arrOf st) 0 n1) (hs2 : SOn (arrOf st) n1 (n1 + n)) :
    wpS (model prog w) A E s (pushRun size n1 n) (RunP a₀ st₀ mr 2) st := by
  have hp : pendingOf st = #[(0, n1, p)] := B.pend.trans hp
  have T : ∀ pw, TwoRuns a₀ (addRun n1 n (lastPw pw st)) := fun pw => ⟨B.pended, n1, n, pw, 0, by show ((pendingOf st).modify ((pendingOf st).size - 1) _).push _ = _; rw [hp]; rfl, h1, hn, hz, hs, hs2⟩
  refine wpS_bind (wpS_get ?_)
  rw [hp]
  refine wpS_bind (wpS_loop (fun _ => StayP st) (fun x c st' _ _ h => ?_) .go (fun x c st' h => ?_) fun c st' h => ?_)
  · cases h
    refine wpS_bind (wpS_get ?_)
    rw [hp]
    exact wpS_pure .brk
  all_goals
    cases h
    refine wpS_bind (wpS_modify (wpS_bind (wpS_modify (wpS_pure ?_))))
    rw [hz]
    exact .go2 (Nat.le_refl _) (T _)
theorem w_runStep {st₀ st : SortSt} {mr x : Nat} {c : Option Unit × Nat} (h0 : IntKeys a₀) (hpe : pendingOf st₀ = #[]) (mr1 : mr ≤ a₀.size) (mr0 : 1 ≤ mr) (mr2 : a₀.size ≤ mr + mr) (hP : RunP a₀ st₀ mr x (.yield c) st) :
    wpS (model prog w) A E s (runStep a₀.size mr c.snd) (RunP a₀ st₀ mr (x + 1)) st := by
  cases hP with
  | go0 hx B =>
    subst hx
    have z := Nat.zero_add a₀.size
    have a1 := Nat.le_trans mr0 mr1
    refine wpS_ite (fun h => absurd (Nat.le_trans a1 h) (Nat.lt_irrefl 0)) fun _ => ?_
    refine wpS_bind (w_countRun (lo := 0) h0 (by rw [Nat.sub_zero, z]; exact Nat.le_refl _) a1 B fun m st2 B2 _ hm1 hm2 hs2 => ?_)
    refine wpS_ite (fun hlt => ?_) fun hlt => ?_
    · refine wpS_bind (wpS_lift (wpAny_rule ⟨rfl, ?_⟩))
      rw [Nat.sub_zero, Nat.min_eq_right mr1]
      refine wpS_bind (w_binarySort (lo := 0) h0 (by rw [Nat.zero_add]; exact mr1) mr0 (Nat.le_of_lt hlt) B2 hs2 fun st3 B3 _ hs3 => ?_)
      rw [Nat.zero_add] at hs3
      exact w_pushRun0 hpe B3 (Nat.le_refl _) mr0 mr1 hs3
    · rw [Nat.zero_add] at hs2
      exact w_pushRun0 hpe B2 (Nat.not_lt.mp hlt) hm1 hm2 hs2
  | @go1 n1 p _ hx B hm h1 h2 hp hs =>
    subst hx
    refine wpS_ite (fun h => ?_) fun h => ?_
    · obtain rfl := Nat.le_antisymm h2 h
      exact wpS_pure (.brk (.inl ⟨B, by rw [hp]; exact Nat.le_refl _, hs⟩))
    have hlt := Nat.not_le.mp h
    have e := Nat.add_sub_cancel' h2
    have l1 : 1 ≤ a₀.size - n1 := Nat.sub_pos_of_lt hlt
    have lm : a₀.size - n1 ≤ mr := Nat.sub_le_of_le_add (Nat.le_trans mr2 (Nat.add_le_add_left hm mr))
    refine wpS_bind (w_countRun h0 (Nat.le_of_eq e) l1 B fun m st2 B2 ha2 hm1 hm2 hs2 => ?_)
    refine wpS_ite (fun hl => ?_) fun hl => ?_
    · refine wpS_bind (wpS_lift (wpAny_rule ⟨rfl, ?_⟩))
      rw [Nat.min_eq_left lm]
      refine wpS_bind (w_binarySort h0 (Nat.le_of_eq e) l1 hm2 B2 hs2 fun st3 B3 ha3 hs3 => ?_)
      exact w_pushRun1 hp B3 h1 l1 e ((hs.ahead ha2).ahead ha3) hs3
    · obtain rfl := Nat.le_antisymm hm2 (Nat.le_trans lm (Nat.not_lt.mp hl))
      exact w_pushRun1 hp B2 h1 l1 e (hs.ahead ha2) hs2
  | go2 hx T => exact wpS_ite (fun _ => wpS_pure (.brk (.inr T))) fun h => absurd (Nat.le_refl _) h
theorem w_endStep {st : SortSt} {x : Nat} {c : Option Unit × Unit} (h0 : IntKeys a₀) (hP : EndP a₀ x (.yield c) st) : wpS (model prog w) A E s endStep (EndP a₀ (x + 1)) st := by
  cases hP with
  | one T => exact wpS_bind (wpS_get (wpS_ite (fun _ => wpS_pure (.brk T)) fun h => absurd T.2.1 h))
  | two hx T =>
    obtain ⟨B, n1, n2, p1, p2, hp, l1, l2, hz, s1, s2⟩ := T
    have ik : IntKeys (arrOf st) := fun q hq => h0 q ((Array.perm_iff_toList_perm.mp B.perm).mem_iff.mp hq)
    refine wpS_bind (wpS_get ?_)
    rw [hp]
    refine wpS_ite (fun h => absurd h (by simp)) fun _ => wpS_bind (w_mergeAt ik B.kind B.failed hp l1 l2 (by rw [B.size]; exact Nat.le_of_eq hz) s1 s2 fun st3 a1 a2 a3 a4 a5 => wpS_pure (.one ⟨⟨a1.trans B.perm, a2, a3, rfl⟩, a4, by rw [← hz]; exact a5⟩))
theorem w_sortRuns {st : SortSt} {Q : Unit → SortSt → Prop} (h0 : IntKeys a₀) (hB : SB a₀ st st) (hpe : pendingOf st = #[]) (h2 : 2 ≤ a₀.size) (h128 : a₀.size < 128)
    (h : ∀ st', (arrOf st').Perm a₀ → failedOf st' = none → SOn (arrOf st') 0 a₀.size → Q () st') : wpS (model prog w) A E s sortRuns' Q st := by
  rw [sortRunsN_eq]
  refine wpS_bind (wpS_get ?_)
  obtain ⟨mr1, mr2, mr0⟩ := minRun_half h128 h2
  rw [hB.size]
  generalize minRun' a₀.size a₀.size 0 = mr at mr1 mr2 mr0
  have fin : ∀ st', OneRun a₀ st' ∨ TwoRuns a₀ st' → wpS (model prog w) A E s (do
      let c ← forIn [0:a₀.size] ((none, ()) : Option Unit × Unit) fun _ _ => endStep
      match c.fst with
      | some r => pure r
      | none => pure ()) Q st' := fun st' T => by
    refine wpS_bind (wpS_loop (EndP a₀) (fun x c st'' _ _ hP => w_endStep h0 hP) ?_ (fun x c st'' hP => ?_) fun c st'' hP => ?_)
    · rcases T with T | T
      · exact .one T
      · exact .two rfl T
    · cases hP with | brk T => exact wpS_pure (h _ T.1.perm T.1.failed T.2.2)
    · cases hP with
      | one T => exact wpS_pure (h _ T.1.perm T.1.failed T.2.2)
      | two hx T => exact absurd (Nat.le_trans h2 (Nat.le_trans (Nat.le_max_right 0 _) (Nat.le_of_eq hx))) (by decide)
  refine wpS_bind (wpS_loop (RunP a₀ st mr) (fun x c st' _ _ hP => w_runStep h0 hpe mr1 mr0 mr2 hP) (.go0 rfl hB) (fun x c st' hP => ?_) fun c st' hP => ?_)
  · cases hP with | brk T => exact fin _ T
  · have m2 : 2 ≤ max 0 a₀.size := Nat.le_trans h2 (Nat.le_max_right 0 _)
    cases hP with
    | go0 hx => rw [hx] at m2; cases m2
    | go1 hx => rw [hx] at m2; exact absurd m2 (by decide)
    | go2 hx T => exact fin _ (.inr T)
end
end Mine
namespace Mine
set_option maxRecDepth 100000
set_option maxHeartbeats 1000000
section
variable {prog : Program} {w : World} {A : Around} {E : Value → Shared → Prop} {s : Shared}
theorem sort_core {D : Addr} {vs : List Value} {ns : List Int} {n : Nat} {Q : Value → Shared → Prop} (ho : s.heap.get? D = some (listOf vs.toArray n)) (hI : IntsAre vs ns) (hl : ns.length < 128)
  (q : ∀ h' out ns' n', (∀ b o, b ≠ D → s.heap.get? b = some o → h'.get? b = some o) → h'.get? D = some (listOf out n') → IntsAre out.toList ns' → ns'.Perm ns → ns'.Pairwise (· ≤ ·) → Q .none { s with heap := h' }) :
  wpAny (model prog w) A (call (.builtin "list.sort") [.ref D]) Q E s := by
  refine wpAny_call_entry slot_list_sort ⟨_, ho, rfl⟩ entry_list_sort ?_ (args_list_sort _)
  rw [list_sort_plain]
  have hD : D < s.heap.objs.size := Heap.lt_size ho
  have hz : vs.toArray.size = vs.length := by simp
  have hvl : vs.length < 128 := by rw [hI.length]; exact hl
  have hpz : (pairsOf vs).size = vs.length := pairsOf_size vs
  refine wpAny_bind (listItems_at ho rfl ?_)
  refine wpAny_bind (listUpdate_at ho rfl ?_ (hsz := by rw [hz, sizeLine_eq]; omega))
  obtain ⟨e1, ho1⟩ : ∃ e1, (s.heap.update D (Obj.mapSeq fun _ => #[])).get? D = some (seqObj "list" #[] e1) := ⟨_, get?_update_seq ho (fun _ => #[])⟩
  refine wpAny_bind (seqEpoch_at ho1 rfl ?_)
  refine wpAny_bind (wpAny_newTuple ?_ (by rw [sizeLine_eq]; simp; omega))
  refine wpAny_bind (wpAny_newList ?_)
  refine wpAny_holding ?_
  have keep : ∀ b o, b ≠ D → s.heap.get? b = some o → (((s.heap.update D (Obj.mapSeq fun _ => #[])).push (seqObj "tuple" vs.toArray 0)).push (seqObj "list" #[] 0)).get? b = some o := fun b o hb e =>
    Heap.get?_push_of_some _ (Heap.get?_push_of_some _ ((Heap.get?_update_other _ _ (Ne.symm hb)).trans e))
  have ho2 : (((s.heap.update D (Obj.mapSeq fun _ => #[])).push (seqObj "tuple" vs.toArray 0)).push (seqObj "list" #[] 0)).get? D = some (seqObj "list" #[] e1) :=
    Heap.get?_push_of_some _ (Heap.get?_push_of_some _ ho1)
  generalize ((s.heap.update D (Obj.mapSeq fun _ => #[])).push (seqObj "tuple" vs.toArray 0)).push (seqObj "list" #[] 0) = H at keep ho2
  show wpAny (model prog w) _ _ _ E { s with heap := H }
  dsimp only
  have fin : ∀ st' : SortSt, (arrOf st').Perm (pairsOf vs) → SOn (arrOf st') 0 (pairsOf vs).size → Q .none { s with heap := H.update D (Obj.mapSeq fun _ => (arrOf st').map (·.2)) } := fun st' hp hs => by
    obtain ⟨ns', h1, h2, h3⟩ := sorted_out hI hp (fun i j h1 h2 => hs i j (Nat.zero_le _) h1 h2)
    exact q _ _ ns' _ (fun b o hb e => (Heap.get?_update_other _ _ (Ne.symm hb)).trans (keep b o hb e)) (get?_update_seq ho2 _) h1 h2 h3
  have sz : ∀ st' : SortSt, (arrOf st').Perm (pairsOf vs) → ((arrOf st').map (·.2)).size ≤ sizeLine + 1 := fun st' hp => by
    rw [Array.size_map, hp.size_eq, hpz, sizeLine_eq]; omega
  by_cases h2 : vs.toArray.size < 2
  · rw [if_pos h2, if_pos h2]
    refine wpAny_bind (wpAny_pure ?_)
    rw [StateT.run_pure]
    refine wpAny_bind (wpAny_pure ?_)
    dsimp only
    refine wpAny_bind (seqEpoch_at ho2 rfl ?_)
    refine wpAny_bind (listUpdate_at ho2 rfl ?_ (hsz2 := sz (SortSt.mk' general' (pairsOf vs) #[] 7 none) (Array.Perm.refl _)))
    simp only [bne_self_eq_false, Bool.false_eq_true, if_false]
    refine wpAny_pure ⟨_, rfl, fin (SortSt.mk' general' (pairsOf vs) #[] 7 none) (Array.Perm.refl _) fun i j _ hij hj => ?_⟩
    have : i = j := by omega
    subst this; exact Int.le_refl _
  · rw [if_neg h2, if_neg h2]
    obtain ⟨v1, v2, rest, rfl⟩ : ∃ v1 v2 rest, vs = v1 :: v2 :: rest := by
      match vs, hz, h2 with
      | [], _, h2 => simp at h2
      | [_], _, h2 => simp at h2
      | v1 :: v2 :: rest, _, _ => exact ⟨v1, v2, rest, rfl⟩
    rw [keyKind_ints hI]
    refine wpAny_bind (wpAny_pure ?_)
    refine wpAny_bind (wpAny_mono (w_sortRuns (a₀ := pairsOf (v1 :: v2 :: rest)) (st := SortSt.mk' oneType' (pairsOf (v1 :: v2 :: rest)) #[] 7 none)
      (Q := fun _ st' => (arrOf st').Perm (pairsOf (v1 :: v2 :: rest)) ∧ failedOf st' = none ∧ SOn (arrOf st') 0 (pairsOf (v1 :: v2 :: rest)).size)
      hI.intKeys ⟨Array.Perm.refl _, rfl, rfl, rfl⟩ rfl (by omega) (by omega) fun st' a1 a2 a3 => ⟨a1, a2, a3⟩) ?_ fun _ _ e => e)
    rintro ⟨⟨⟩, st'⟩ s' ⟨rfl, hp, hf, hs⟩
    dsimp only
    refine wpAny_bind (seqEpoch_at ho2 rfl ?_)
    refine wpAny_bind (listUpdate_at ho2 rfl ?_ (hsz2 := sz st' hp))
    rw [hf]
    simp only [bne_self_eq_false, Bool.false_eq_true, if_false]
    exact wpAny_pure ⟨_, rfl, fin st' hp hs⟩
end
section
variable {prog : Program} {K : Frag} {CN CL C : Addr} {w : World} {g h₀ h h' : Heap} {L : Addr} {m : Str → Option Value} {st : LS} {A : Around} {E : Value → Shared → Prop} {s : Shared} {tk tk₀ : Nat}
/-- sorted of a list of ints -/
theorem sorted_list {l : Addr} {vs : List Value} {ns : List Int} {Q : Value → Shared → Prop} (hl : h.IsList l vs.toArray) (hI : IntsAre vs ns) (hz : ns.length < 128)
  (q : ∀ h' tk b out ns' n', Grow h h' → h.get? b = none → h'.get? b = some (listOf out n') → IntsAre out.toList ns' → ns'.Perm ns → ns'.Pairwise (· ≤ ·) → Q (.ref b) (up s h' tk)) :
  wpAny (model prog w) A (call (.builtin "sorted") [.ref l]) Q E (up s h tk) := by
  refine call_function_entry kind_sorted plain_sorted entry_sorted (args_sorted1 _) ?_
  unfold Builtin.«sorted»
  have hvl : vs.length < 128 := by rw [hI.length]; exact hz
  refine wpAny_bind (m := checkCount "sorted" 1 1 _) (wpAny_pure ?_)
  refine wpAny_bind (collect_list hl ?_ (by rw [sizeLine_eq]; omega))
  refine wpAny_bind (wpAny_newList ?_ (by rw [sizeLine_eq]; omega))
  generalize hH : ((up s h tk).heap.push (seqObj "list" #[] 0)).update (up s h tk).heap.objs.size (Obj.mapSeq (· ++ vs.toArray)) = H
  have G : Grow h H := fun b o e => by
    rw [← hH]
    have hb : b ≠ h.objs.size := Nat.ne_of_lt (Heap.lt_size e)
    exact (Heap.get?_update_other _ _ (Ne.symm hb)).trans (Heap.get?_push_of_some _ e)
  have hHs : H.objs.size = h.objs.size + 1 := by rw [← hH, Heap.size_update, size_push']; rfl
  have ho : (H.push (seqObj "list" vs.toArray 0)).get? H.objs.size = some (listOf vs.toArray 0) := Heap.get?_push_size _ rfl
  have fr : h.get? H.objs.size = none := by
    cases e : h.get? H.objs.size with
    | none => rfl
    | some o => exact absurd (Heap.lt_size (G _ _ e)) (Nat.lt_irrefl _)
  refine wpAny_bind (wpAny_holding (sort_core (s := up s (H.push (seqObj "list" vs.toArray 0)) tk) ho hI hz fun h' out ns' n' k a1 a2 a3 a4 => ?_))
  refine wpAny_pure ⟨_, rfl, q h' tk _ out ns' n' (fun b o e => k b o (fun q => by rw [q, fr] at e; cases e) (Heap.get?_push_of_some _ (G b o e))) fr a1 a2 a3 a4⟩

theorem ints_of_keys : ∀ {vs : List Value} {kvs : List (Int × Value)}, vs.length = kvs.length → (∀ (j : Nat) (v : Value), vs[j]? = some v → ∃ (k : Int) (x : Value), kvs[j]? = some (k, x) ∧ (intKind prog w).is k v = true) → IntsAre vs (kvs.map (·.1))
  | [], [], _, _ => .nil
  | [], _ :: _, h, _ => by cases h
  | _ :: _, [], h, _ => by cases h
  | v :: vs, (k, x) :: kvs, h, hv => by
    obtain ⟨k', x', e, hk⟩ := hv 0 v rfl
    simp only [List.getElem?_cons_zero, Option.some.injEq, Prod.mk.injEq] at e
    obtain ⟨rfl, rfl⟩ := e
    obtain ⟨t, rfl⟩ := Value.isInt_shape hk
    exact .cons _ _ (ints_of_keys (by simpa using h) fun j v e => hv (j + 1) v e)
/-- sorted of a dict's keys -/
theorem sorted_keys {r d : Addr} {o : Obj} {kvs : List (Int × Value)} {Q : Value → Shared → Prop} (F : Fr g L h m) (hh : A.handled = none) (hr : h.get? r = some { cls := .type "dict_keys", data := .fields #[.ref d] }) (hd : h.get? d = some o) (hod : OD (TI prog w K) o kvs) (hz : kvs.length < 128)
  (q : ∀ h' tk b out ns' n', Grow h h' → h.get? b = none → h'.get? b = some (listOf out n') → IntsAre out.toList ns' → ns'.Perm (kvs.map (·.1)) → ns'.Pairwise (· ≤ ·) → Q (.ref b) (up s h' tk)) :
  wpAny (model prog w) A (call (.builtin "sorted") [.ref r]) Q E (up s h tk) := by
  obtain ⟨ep, hat⟩ := hod.dictAt hd
  refine call_function_entry kind_sorted plain_sorted entry_sorted (args_sorted1 _) ?_
  unfold Builtin.«sorted»
  refine wpAny_bind (m := checkCount "sorted" 1 1 _) (wpAny_pure ?_)
  refine wpAny_bind (kdu_collect (A := A.in1) (s := up s h tk) (kdl_keys (knd := intKind prog w) (r := r) (kvs := kvs) (ep := ep)) hh ⟨⟨_, hr, rfl, rfl⟩, hat⟩ (by rw [sizeLine_eq]; omega) fun H tk' acc G hacc => ?_)
  have hl : acc.toList.length = kvs.length := by rw [Array.length_toList]; exact hacc.1
  refine wpAny_bind (wpAny_newList ?_ (by rw [hl, sizeLine_eq]; omega))
  have hI : IntsAre acc.toList (kvs.map (·.1)) := by
    have hz2 : ∀ (j : Nat) (v : Value), acc.toList[j]? = some v → ∃ (k : Int) (x : Value), kvs[j]? = some (k, x) ∧ (intKind prog w).is k v = true := fun j v e => hacc.2 j v (by rw [← Array.getElem?_toList]; exact e)
    exact ints_of_keys hl hz2
  have ho : (H.push (seqObj "list" acc.toList.toArray 0)).get? H.objs.size = some (listOf acc.toList.toArray 0) := Heap.get?_push_size _ rfl
  have fr : h.get? H.objs.size = none := by
    cases e : h.get? H.objs.size with
    | none => rfl
    | some o => exact absurd (Heap.lt_size (G _ _ e)) (Nat.lt_irrefl _)
  refine wpAny_bind (wpAny_holding (sort_core (s := up s (H.push (seqObj "list" acc.toList.toArray 0)) tk') ho hI (by rw [List.length_map]; exact hz) fun h' out ns' n' k a1 a2 a3 a4 => ?_))
  refine wpAny_pure ⟨_, rfl, q h' tk' _ out ns' n' (fun b o e => k b o (fun q => by rw [q, fr] at e; cases e) (Heap.get?_push_of_some _ (G b o e))) fr a1 a2 a3 a4⟩
end
end Mine
namespace Mine
set_option maxRecDepth 100000
set_option maxHeartbeats 1000000
theorem fill : PySem.Challenge.rw_ji0029_02 = PySem.Challenge.rw_ji0029_02 ∧ hd2.heap_39 = hd2.heap_39 := by k_fill; exact ⟨rfl, rfl⟩
noncomputable abbrev CN : Addr := 46
noncomputable abbrev CL : Addr := 182

theorem pcN (P : Params) : PlainCls (hd2.heap_39 P) 46 := ⟨by k_is, by k_is, by k_is, by k_is, by k_is⟩
theorem pcL (P : Params) : PlainCls (hd2.heap_39 P) 182 := ⟨by k_is, by k_is, by k_is, by k_is, by k_is⟩
theorem aN_prev (P : Params) : Attr (hd2.heap_39 P) 46 "prev" := ⟨by k_is⟩
theorem aN_next (P : Params) : Attr (hd2.heap_39 P) 46 "next_key" := ⟨by k_is⟩
theorem aN_key (P : Params) : Attr (hd2.heap_39 P) 46 "key" := ⟨by k_is⟩
theorem aN_value (P : Params) : Attr (hd2.heap_39 P) 46 "value" := ⟨by k_is⟩
theorem aN_cln (P : Params) : Attr (hd2.heap_39 P) 46 "cleanup" := ⟨by k_is⟩
theorem aN_size (P : Params) : Attr (hd2.heap_39 P) 46 "size" := ⟨by k_is⟩
theorem aL_cache (P : Params) : Attr (hd2.heap_39 P) 182 "_cache" := ⟨by k_is⟩
theorem aL_mru (P : Params) : Attr (hd2.heap_39 P) 182 "_most_recently_used" := ⟨by k_is⟩
theorem aL_lru (P : Params) : Attr (hd2.heap_39 P) 182 "_least_recently_used" := ⟨by k_is⟩
theorem aL_max (P : Params) : Attr (hd2.heap_39 P) 182 "_max_cache" := ⟨by k_is⟩
theorem aL_after (P : Params) : Attr (hd2.heap_39 P) 182 "_after_cleanup_count" := ⟨by k_is⟩


local macro_rules | `(tactic| walk_at "NF") => `(tactic| first | exact nPrev (aN_prev _) | exact nNext (aN_next _) | exact nKey (aN_key _) | exact nVal (aN_value _) | exact nCln (aN_cln _))
local macro_rules | `(tactic| walk_at "CF") => `(tactic| first | exact cMru (aL_mru _) | exact cLru (aL_lru _) | exact cMx (aL_max _) | exact cAf (aL_after _))
local macro_rules | `(tactic| walk_at "pv") => `(tactic| first
  | exact Pv.nn
  | (refine' Pv.name (by assumption) ?hv ?hk ?hl ?hd; (case hv => first | exact rfl | assumption); (case hk => exact rfl); (case hl => exact rfl); (case hd => decide))
  | (refine' Pv.glob (by assumption) (by assumption) (by assumption) ?he ?hk ?hx ?hd; (case he => k_is); (case hk => exact rfl); (case hx => exact rfl); (case hd => decide))
  | (refine' Pv.dd (by assumption) (by assumption) (pcL _) ?hp (aL_cache _) ?hsh; (case hsh => exact rfl); (case hp => walk_at "pv"))
  | (refine' Pv.cache (by assumption) (by assumption) (pcL _) ?hp ?hn ?hsh; (case hn => walk_at "CF"); (case hsh => exact rfl); (case hp => walk_at "pv"))
  | (refine' Pv.node (by assumption) (by assumption) (pcN _) ?hp ?hr ?hn ?hsh; (case hn => walk_at "NF"); (case hsh => exact rfl); (case hp => walk_at "pv"); (case hr => assumption)))



section
variable {prog : Program} {w : World} {A : Around} {E : Value → Shared → Prop} {s : Shared} {h : Heap} {tk₀ : Nat} {p : Program} {loose : List Str} {mg mb : Str → Option Value} {h₀ : Heap} {st : LS} {r : Rg}
  {Ky : Type} [DecidableEq Ky] {T' : DT prog w (hd2.heap_39 w.params) Ky} {kvs : List (Ky × Value)}

/-- the cache had none -/
theorem c_rec0 {Q : Value → Shared → Prop} (B : Base (hd2.heap_39 w.params) p loose mg mb h₀ st h) (R : Rep 46 182 w st h) (hroom : A.depth < recursionLimit) (hr : r ∈ st.reg)
   (hm : st.mru = .none)
   (hQ : ∀ h' tk, Ctr 46 182 w st { st with mru := .ref r.x, lru := .ref r.x } h h' → Q .none (up s h' tk)) :
   wpAny (model prog w) A (call (.ref 142) [.ref st.c, .ref r.x]) Q E (up s h tk₀) := by
  refine' enter (binds := [("self", Value.ref st.c), ("node", Value.ref r.x)]) B R ?ho ?hcd hroom ?hb ?hl ?hco ?hgen ?hk ?hcell ?_
  ((case ho => k_dflt k_is); (case hcd => k_dflt k_is); (case hb => exact BindsTo.of_eq rfl); (case hl => exact locs rfl); (case hco => exact rfl); (case hgen => exact rfl); (case hk => exact rfl); (case hcell => decide))
  intro g L h1 tk k k' X T S
  (refine wpAny_execs_cons ?_; refine' if_is ?hpl ?hpr ?hc ?_ ?_ rfl; (case hpl => walk_at "pv"); (case hpr => walk_at "pv"))
  case hc => exact isB_plain S.ok.mru
  rotate_left
  · intro q; rw [hm] at q; cases q
  intro _ tk1
  (refine wpAny_execs_cons ?_; refine' as_cache (by assumption) (by assumption) (pcL _) ?he ?hp ?hn ?hv ?_ rfl; (case he => walk_at "pv"); (case hp => walk_at "pv"); (case hn => walk_at "CF"))
  case hv => exact Nb.ref
  intro h2 tk2 S2
  (refine wpAny_execs_cons ?_; refine' as_cache (by assumption) (by assumption) (pcL _) ?he ?hp ?hn ?hv ?_ rfl; (case he => walk_at "pv"); (case hp => walk_at "pv"); (case hn => walk_at "CF"))
  case hv => exact Nb.ref
  intro h3 tk3 S3
  refine wpAny_execs_cons (wpAny_Return_none ?_)
  exact hQ _ _ (S3.back k fun a ha => .inl ha)
/-- it is the latest -/
theorem c_rec1 {Q : Value → Shared → Prop} (B : Base (hd2.heap_39 w.params) p loose mg mb h₀ st h) (R : Rep 46 182 w st h) (hroom : A.depth < recursionLimit) (hr : r ∈ st.reg)
   (hm : st.mru = .ref r.x)
   (hQ : ∀ h' tk, Ctr 46 182 w st st h h' → Q .none (up s h' tk)) :
   wpAny (model prog w) A (call (.ref 142) [.ref st.c, .ref r.x]) Q E (up s h tk₀) := by
  refine' enter (binds := [("self", Value.ref st.c), ("node", Value.ref r.x)]) B R ?ho ?hcd hroom ?hb ?hl ?hco ?hgen ?hk ?hcell ?_
  ((case ho => k_dflt k_is); (case hcd => k_dflt k_is); (case hb => exact BindsTo.of_eq rfl); (case hl => exact locs rfl); (case hco => exact rfl); (case hgen => exact rfl); (case hk => exact rfl); (case hcell => decide))
  intro g L h1 tk k k' X T S
  (refine wpAny_execs_cons ?_; refine' if_is ?hpl ?hpr ?hc ?_ ?_ rfl; (case hpl => walk_at "pv"); (case hpr => walk_at "pv"))
  case hc => exact isB_plain S.ok.mru
  · intro q; rw [hm] at q; cases q
  intro _ tk1
  (refine wpAny_execs_cons ?_; refine' if_is ?hpl ?hpr ?hc ?_ ?_ rfl; (case hpl => walk_at "pv"); (case hpr => walk_at "pv"))
  case hc => rw [hm]; exact isB_self
  rotate_left
  · intro q; cases q
  intro _ tk2
  refine wpAny_execs_cons (wpAny_Return_none ?_)
  exact hQ _ _ (S.back k fun a ha => .inl ha)

theorem c_rec2 {Q : Value → Shared → Prop} (B : Base (hd2.heap_39 w.params) p loose mg mb h₀ st h) (R : Rep 46 182 w st h) (hroom : A.depth < recursionLimit) (hu : A.units + 16 < cLine) (hr : r ∈ st.reg)
   {mr lr : Rg} {po qo : Option Rg} (hm : st.mru = .ref mr.x) (hmr : mr ∈ st.reg) (hne : r.x ≠ mr.x) (hl : st.lru = .ref lr.x) (hlr : lr ∈ st.reg)
   (hp : (st.F r.x).prev = optV po) (hpr : ∀ p, po = some p → p ∈ st.reg ∧ r.x ≠ p.x) (hd : OD T' st.od kvs)
   (hq0 : qo = none → (st.F r.x).next = .none) (hq : ∀ q, qo = some q → q ∈ st.reg ∧ r.x ≠ q.x ∧ ∃ k, T'.isK k (st.F r.x).next ∧ valueAt kvs k = some (.ref q.x))
   (hQ : ∀ h' tk, Ctr 46 182 w st (recAcc st r mr po qo) h h' → Q .none (up s h' tk)) :
   wpAny (model prog w) A (call (.ref 142) [.ref st.c, .ref r.x]) Q E (up s h tk₀) := by
  refine' enter (binds := [("self", Value.ref st.c), ("node", Value.ref r.x)]) B R ?ho ?hcd hroom ?hb ?hl ?hco ?hgen ?hk ?hcell ?_
  ((case ho => k_dflt k_is); (case hcd => k_dflt k_is); (case hb => exact BindsTo.of_eq rfl); (case hl => exact locs rfl); (case hco => exact rfl); (case hgen => exact rfl); (case hk => exact rfl); (case hcell => decide))
  intro g L h1 tk k k' X T S
  have hu' : ∀ env, (A.deeper env).units + 8 < cLine := fun env => by simp only [Around.deeper_units]; omega
  (refine wpAny_execs_cons ?_; refine' if_is ?hpl ?hpr ?hc ?_ ?_ rfl; (case hpl => walk_at "pv"); (case hpr => walk_at "pv"))
  case hc => exact isB_plain S.ok.mru
  · intro q; rw [hm] at q; cases q
  intro _ tk1
  (refine wpAny_execs_cons ?_; refine' if_is ?hpl ?hpr ?hc ?_ ?_ rfl; (case hpl => walk_at "pv"); (case hpr => walk_at "pv"))
  case hc => rw [hm]; exact isB_refs (S.ninst hr).at_ (S.ninst hmr).at_ (fun e => nomatch e)
  · intro q; exact absurd (of_decide_eq_true q) hne
  intro _ tk2
  refine wpAny_execs_nil ?_
  refine wpAny_execs_nil ?_
  -- the least recent
  refine seqP (P := fun h => St 46 182 w g L (fun y => List.lookup y ([("self", Value.ref st.c), ("node", Value.ref r.x)] : List (Str × Value)).reverse) { st with lru := if st.lru = .ref r.x then (st.F r.x).prev else st.lru } h) ?_ ?_
  · refine' if_is ?hpl ?hpr ?hc ?_ ?_ rfl
    case hpl => walk_at "pv"
    case hpr => walk_at "pv"
    case hc => rw [hl]; exact isB_refs (S.ninst hr).at_ (S.ninst hlr).at_ (fun e => nomatch e)
    · intro q tk
      (refine wpAny_execs_cons ?_; refine' as_cache (by assumption) (by assumption) (pcL _) ?he ?hp ?hn ?hv ?_ rfl; (case he => walk_at "pv"); (case hp => walk_at "pv"); (case hn => walk_at "CF"))
      case hv => exact (S.ok.F _).prev
      intro h2 tk2 S2
      refine wpAny_execs_nil ⟨rfl, h2, tk2, rfl, ?_⟩
      rw [if_pos (by rw [hl, of_decide_eq_true q])]; exact S2
    · intro q tk
      refine wpAny_execs_nil ⟨rfl, h1, tk, rfl, ?_⟩
      rw [if_neg (by rw [hl]; intro e; exact of_decide_eq_false q (Value.ref.inj e).symm)]; exact S
  intro h2 tk2 S2
  -- the one before
  refine seqP (P := fun h => St 46 182 w g L (fun y => List.lookup y ([("self", Value.ref st.c), ("node", Value.ref r.x)] : List (Str × Value)).reverse) { st with lru := if st.lru = .ref r.x then (st.F r.x).prev else st.lru, F := fP st.F r.x po } h) ?_ ?_
  · refine' if_isNot ?hpl ?hpr ?hc ?_ ?_ rfl
    case hpl => walk_at "pv"
    case hpr => walk_at "pv"
    case hc => exact isB_plain (S.ok.F _).prev
    · intro q tk
      cases po with
      | none => rw [show (st.F r.x).prev = _ from hp] at q; cases q
      | some p =>
        refine wpAny_execs_cons ?_
        refine' as_node (r := p) S2 (by assumption) (pcN _) ?he ?hp (hpr p rfl).1 ?hn ?hv ?_ rfl
        case he => walk_at "pv"
        case hp => (refine' Pv.eq ?x ?y; (case x => walk_at "pv"); (case y => exact hp))
        case hn => walk_at "NF"
        case hv => exact (S.ok.F _).next
        intro h3 tk3 S3
        exact wpAny_execs_nil ⟨rfl, h3, tk3, rfl, S3⟩
    · intro q tk
      cases po with
      | none => exact wpAny_execs_nil ⟨rfl, h2, tk, rfl, S2⟩
      | some p => rw [show (st.F r.x).prev = _ from hp] at q; cases q
  intro h3 tk3 S3
  generalize hF2 : fP st.F r.x po = F2 at S3 ⊢
  have e2 : F2 r.x = st.F r.x := by
    subst hF2
    cases po with
    | none => rfl
    | some p => exact setF_ne (hpr p rfl).2
  -- the one behind
  refine seqP (P := fun h => ∃ m', m' "self" = some (.ref st.c) ∧ m' "node" = some (.ref r.x) ∧ St 46 182 w g L m' { st with lru := if st.lru = .ref r.x then (st.F r.x).prev else st.lru, F := fQ F2 r.x qo } h) ?_ ?_
  · refine' if_isNot ?hpl ?hpr ?hc ?_ ?_ rfl
    case hpl => walk_at "pv"
    case hpr => walk_at "pv"
    case hc => exact isB_plain (S3.ok.F _).next
    · intro q tk
      have q' : ((F2 r.x).next == Value.none) = false := q
      rw [e2] at q'
      cases qo with
      | none => rw [hq0 rfl] at q'; cases q'
      | some qr =>
        obtain ⟨hq1, hq2, ky, hq3, hq4⟩ := hq qr rfl
        refine wpAny_execs_cons ?_
        refine' as_name S3 ?he ?_ rfl rfl rfl
        case he =>
          refine' Pv.item (key := (st.F r.x).next) S3 X (hu' _) ?ho ?hi hq3 hd hq4 ?hs
          case ho => walk_at "pv"
          case hi => (refine' Pv.eq ?x ?y; (case x => walk_at "pv"); (case y => exact congrArg NF.next e2))
          case hs => with_unfolding_all rfl
        intro h4 tk4 S4
        refine wpAny_execs_cons ?_
        refine' as_node (r := qr) S4 (by assumption) (pcN _) ?he ?hp hq1 ?hn ?hv ?_ rfl
        case he => walk_at "pv"
        case hp => walk_at "pv"
        case hn => walk_at "NF"
        case hv => exact (S3.ok.F _).prev
        intro h5 tk5 S5
        exact wpAny_execs_nil ⟨rfl, h5, tk5, rfl, _, rfl, rfl, S5⟩
    · intro q tk
      have q' : ((F2 r.x).next == Value.none) = true := q
      rw [e2] at q'
      cases qo with
      | none => exact wpAny_execs_nil ⟨rfl, h3, tk, rfl, _, rfl, rfl, S3⟩
      | some qr =>
        obtain ⟨hq1, hq2, ky, hq3, hq4⟩ := hq qr rfl
        exact absurd (eq_of_beq q') (T'.notNone hq3)
  intro h4 tk4 ⟨m', hself, hnode, S4⟩
  generalize hF3 : fQ F2 r.x qo = F3 at S4
  refine wpAny_execs_cons ?_
  refine' as_node (r := r) S4 X (pcN _) ?he ?hp hr ?hn ?hv ?_ rfl
  case he =>
    refine' Pv.node (r := mr) S4 X (pcN _) ?hpx hmr ?hnx rfl
    case hpx => (refine' Pv.eq ?x ?y; (case x => walk_at "pv"); (case y => exact hm))
    case hnx => walk_at "NF"
  case hp => walk_at "pv"
  case hn => walk_at "NF"
  case hv => exact (S4.ok.F _).key
  intro h5 tk5 S5
  refine wpAny_execs_cons ?_
  refine' as_node (r := mr) S5 X (pcN _) ?he ?hp hmr ?hn ?hv ?_ rfl
  case he => walk_at "pv"
  case hp => (refine' Pv.eq ?x ?y; (case x => walk_at "pv"); (case y => exact hm))
  case hn => walk_at "NF"
  case hv => exact Nb.ref
  intro h6 tk6 S6
  (refine wpAny_execs_cons ?_; refine' as_cache (by assumption) (by assumption) (pcL _) ?he ?hp ?hn ?hv ?_ rfl; (case he => walk_at "pv"); (case hp => walk_at "pv"); (case hn => walk_at "CF"))
  case hv => exact Nb.ref
  intro h7 tk7 S7
  refine wpAny_execs_cons ?_
  refine' as_node (r := r) S7 X (pcN _) ?he ?hp hr ?hn ?hv ?_ rfl
  case he => walk_at "pv"
  case hp => walk_at "pv"
  case hn => walk_at "NF"
  case hv => exact Nb.none
  intro h8 tk8 S8
  subst hF3 hF2
  exact wpAny_execs_nil (hQ _ _ (S8.back k fun a ha => .inl ha))
end
section
variable {prog : Program} {w : World} {A : Around} {E : Value → Shared → Prop} {s : Shared} {h : Heap} {tk₀ : Nat} {p : Program} {loose : List Str} {mg mb : Str → Option Value} {h₀ : Heap} {st : LS} {r : Rg}
  {Ky : Type} [DecidableEq Ky] {T' : DT prog w (hd2.heap_39 w.params) Ky} {kvs : List (Ky × Value)}

/-- run_cleanup of a node without one -/
theorem c_runc {Q : Value → Shared → Prop} (B : Base (hd2.heap_39 w.params) p loose mg mb h₀ st h) (R : Rep 46 182 w st h) (hroom : A.depth < recursionLimit) (hr : r ∈ st.reg) (hc : (st.F r.x).cln = .none)
   (hQ : ∀ h' tk, Ctr 46 182 w st (let st1 := { st with F := setF st.F r.x { st.F r.x with cln := .none } }; { st1 with F := setF st1.F r.x { st1.F r.x with val := .none } }) h h' → Q .none (up s h' tk)) :
   wpAny (model prog w) A (call (.ref 43) [.ref r.x]) Q E (up s h tk₀) := by
  refine' enter (binds := [("self", Value.ref r.x)]) B R ?ho ?hcd hroom ?hb ?hl ?hco ?hgen ?hk ?hcell ?_
  ((case ho => k_dflt k_is); (case hcd => k_dflt k_is); (case hb => exact BindsTo.of_eq rfl); (case hl => exact locs rfl); (case hco => exact rfl); (case hgen => exact rfl); (case hk => exact rfl); (case hcell => decide))
  intro g L h1 tk k k' X T S
  refine seqP (P := fun h => h = h1) ?_ ?_
  · refine' if_isNot ?hpl ?hpr ?hc ?_ ?_ rfl
    case hpl => walk_at "pv"
    case hpr => walk_at "pv"
    case hc => exact isB_plain (S.ok.F _).cln
    · intro q; rw [hc] at q; cases q
    · intro _ tk; exact wpAny_execs_nil ⟨rfl, h1, tk, rfl, rfl⟩
  rintro _ tk1 rfl
  (refine wpAny_execs_cons ?_; refine' as_node (by assumption) (by assumption) (pcN _) ?he ?hp ?hr ?hn ?hv ?_ rfl; (case he => walk_at "pv"); (case hp => walk_at "pv"); (case hr => assumption); (case hn => walk_at "NF"))
  case hv => exact Nb.none
  intro h2 tk2 S2
  (refine wpAny_execs_cons ?_; refine' as_node (by assumption) (by assumption) (pcN _) ?he ?hp ?hr ?hn ?hv ?_ rfl; (case he => walk_at "pv"); (case hp => walk_at "pv"); (case hr => assumption); (case hn => walk_at "NF"))
  case hv => exact Nb.none
  intro h3 tk3 S3
  exact wpAny_execs_nil (hQ _ _ (S3.back k fun a ha => .inl ha))

theorem c_runc1 {Q : Value → Shared → Prop} (B : Base (hd2.heap_39 w.params) p loose mg mb h₀ st h) (R : Rep 46 182 w st h) (hroom : A.depth < recursionLimit) (hr : r ∈ st.reg) (hc : (st.F r.x).cln = .none)
   (hQ : ∀ h' tk, Ctr 46 182 w st { st with F := setF st.F r.x { st.F r.x with cln := .none, val := .none } } h h' → Q .none (up s h' tk)) :
   wpAny (model prog w) A (call (.ref 43) [.ref r.x]) Q E (up s h tk₀) :=
  c_runc B R hroom hr hc fun h' tk C => hQ h' tk (by simp only [setF_setF, setF_self] at C; exact C)

/-- _remove_node of the least recent one -/
theorem c_rmnode {Q : Value → Shared → Prop} (B : Base (hd2.heap_39 w.params) p loose mg mb h₀ st h) (R : Rep 46 182 w st h) (hroom : A.depth + 1 < recursionLimit) (hu : A.units + 16 < cLine) (hr : r ∈ st.reg) {po : Option Rg} {k : Ky}
   (hl : st.lru = .ref r.x) (hp : (st.F r.x).prev = optV po) (hpr : ∀ p, po = some p → p ∈ st.reg ∧ r.x ≠ p.x) (hn : (st.F r.x).next = .none) (hc : (st.F r.x).cln = .none)
   (hd : OD T' st.od kvs) (hz : kvs.length ≤ 100000) (hk : T'.isK k (st.F r.x).key) (hv : valueAt kvs k = some (.ref r.x))
   (hQ : ∀ h' tk o', OD T' o' (without kvs k) → Ctr 46 182 w st { st with lru := optV po, mru := (if po.isNone then .none else st.mru), od := o', F := rmF st.F r.x po } h h' → Q .none (up s h' tk)) :
   wpAny (model prog w) A (call (.ref 149) [.ref st.c, .ref r.x]) Q E (up s h tk₀) := by
  refine' enter (binds := [("self", Value.ref st.c), ("node", Value.ref r.x)]) B R ?ho ?hcd (Nat.lt_of_succ_lt hroom) ?hb ?hl ?hco ?hgen ?hk ?hcell ?_
  ((case ho => k_dflt k_is); (case hcd => k_dflt k_is); (case hb => exact BindsTo.of_eq rfl); (case hl => exact locs rfl); (case hco => exact rfl); (case hgen => exact rfl); (case hk => exact rfl); (case hcell => decide))
  intro g L h1 tk kk k' X T S
  have hu' : ∀ env, (A.deeper env).units + 8 < cLine := fun env => by simp only [Around.deeper_units]; omega
  have hroom' : ∀ env, (A.deeper env).depth < recursionLimit := fun env => hroom
  (refine wpAny_execs_cons ?_; refine' if_is ?hpl ?hpr ?hc ?_ ?_ rfl; (case hpl => walk_at "pv"); (case hpr => walk_at "pv"))
  case hc => rw [hl]; exact isB_self
  rotate_left
  · intro q; cases q
  intro _ tk1
  (refine wpAny_execs_cons ?_; refine' as_cache (by assumption) (by assumption) (pcL _) ?he ?hp ?hn ?hv ?_ rfl; (case he => walk_at "pv"); (case hp => walk_at "pv"); (case hn => walk_at "CF"))
  case hv => exact (S.ok.F _).prev
  intro h2 tk2 S2
  refine wpAny_execs_nil ?_
  refine wpAny_execs_cons ?_
  refine' ex_ ?_ rfl rfl
  refine' ev_pop S2 X (hu' _) ?ho ?he ?hk hd hz hv ?_ rfl rfl rfl
  case ho => walk_at "pv"
  case he => walk_at "pv"
  case hk => exact hk
  intro h3 o' tk3 hd3 S3
  -- the latest
  refine seqP (P := fun h => St 46 182 w g L (fun y => List.lookup y ([("self", Value.ref st.c), ("node", Value.ref r.x)] : List (Str × Value)).reverse) { st with lru := optV po, mru := (if po.isNone then .none else st.mru), od := o' } h) ?_ ?_
  · refine' if_is ?hpl ?hpr ?hc ?_ ?_ rfl
    case hpl => walk_at "pv"
    case hpr => walk_at "pv"
    case hc => exact isB_plain (S.ok.F _).prev
    · intro q tk
      cases po with
      | some p => rw [show (st.F r.x).prev = _ from hp] at q; cases q
      | none =>
        (refine wpAny_execs_cons ?_; refine' as_cache (by assumption) (by assumption) (pcL _) ?he ?hp ?hn ?hv ?_ rfl; (case he => walk_at "pv"); (case hp => walk_at "pv"); (case hn => walk_at "CF"))
        case hv => exact Nb.none
        intro h4 tk4 S4
        refine wpAny_execs_nil ⟨rfl, h4, tk4, rfl, ?_⟩
        rw [← hp]; exact S4
    · intro q tk
      cases po with
      | none => rw [show (st.F r.x).prev = _ from hp] at q; cases q
      | some p =>
        refine wpAny_execs_nil ⟨rfl, h3, tk, rfl, ?_⟩
        rw [← hp]; exact S3
  intro h4 tk4 S4
  refine wpAny_execs_cons ?_
  refine' ex_ ?_ rfl rfl
  refine' ev_m0 (f := 43) (x := r.x) ?hpo (S4.ninst hr) (X.keeps S4.F.keep) (pcN _) ?hf ?ht ?hkp rfl ?_ rfl
  case hpo => walk_at "pv"
  case hf => k_dflt k_is
  case ht => k_dflt k_is
  case hkp => k_dflt k_is
  intro tk5
  refine c_runc (S4.base X T) S4.rep (hroom' _) hr hc fun h5 tk5 C5 => ?_
  have S5 := S4.after C5
  clear C5
  -- the one before
  refine seqP (P := fun h => St 46 182 w g L (fun y => List.lookup y ([("self", Value.ref st.c), ("node", Value.ref r.x)] : List (Str × Value)).reverse) { st with lru := optV po, mru := (if po.isNone then .none else st.mru), od := o', F := fP (let F1 := setF st.F r.x { st.F r.x with cln := .none }; setF F1 r.x { F1 r.x with val := .none }) r.x po } h) ?_ ?_
  · have e5 : (setF (setF st.F r.x { st.F r.x with cln := .none }) r.x { (setF st.F r.x { st.F r.x with cln := .none }) r.x with val := .none } r.x).prev = optV po := by
      rw [setF_self]; show (setF _ _ _ _).prev = _; rw [setF_self]; exact hp
    refine' if_isNot ?hpl ?hpr ?hc ?_ ?_ rfl
    case hpl => walk_at "pv"
    case hpr => walk_at "pv"
    case hc => exact isB_plain (S5.ok.F _).prev
    · intro q tk
      cases po with
      | none => have q' := q; rw [show _ = _ from e5] at q'; cases q'
      | some p =>
        refine wpAny_execs_cons ?_
        refine' as_node (r := p) S5 (by assumption) (pcN _) ?he ?hp (hpr p rfl).1 ?hn ?hv ?_ rfl
        case he => walk_at "pv"
        case hp => (refine' Pv.eq ?x ?y; (case x => walk_at "pv"); (case y => exact e5))
        case hn => walk_at "NF"
        case hv => exact (S5.ok.F _).next
        intro h6 tk6 S6
        exact wpAny_execs_nil ⟨rfl, h6, tk6, rfl, S6⟩
    · intro q tk
      cases po with
      | none => exact wpAny_execs_nil ⟨rfl, h5, tk, rfl, S5⟩
      | some p => have q' := q; rw [show _ = _ from e5] at q'; cases q'
  intro h6 tk6 S6
  have e6 : (fP (let F1 := setF st.F r.x { st.F r.x with cln := .none }; setF F1 r.x { F1 r.x with val := .none }) r.x po r.x).next = .none := by
    have : (setF (setF st.F r.x { st.F r.x with cln := .none }) r.x { (setF st.F r.x { st.F r.x with cln := .none }) r.x with val := .none } r.x).next = .none := by
      rw [setF_self]; show (setF _ _ _ _).next = _; rw [setF_self]; exact hn
    cases po with
    | none => exact this
    | some p => show (setF _ _ _ _).next = _; rw [setF_ne (hpr p rfl).2]; exact this
  -- none behind
  refine seqP (P := fun h => h = h6) ?_ ?_
  · refine' if_isNot ?hpl ?hpr ?hc ?_ ?_ rfl
    case hpl => walk_at "pv"
    case hpr => walk_at "pv"
    case hc => exact isB_plain (S6.ok.F _).next
    · intro q; have q' := q; rw [show _ = _ from e6] at q'; cases q'
    · intro _ tk; exact wpAny_execs_nil ⟨rfl, h6, tk, rfl, rfl⟩
  rintro _ tk7 rfl
  (refine wpAny_execs_cons ?_; refine' as_node (by assumption) (by assumption) (pcN _) ?he ?hp ?hr ?hn ?hv ?_ rfl; (case he => walk_at "pv"); (case hp => walk_at "pv"); (case hr => assumption); (case hn => walk_at "NF"))
  case hv => exact Nb.none
  intro h8 tk8 S8
  (refine wpAny_execs_cons ?_; refine' as_node (by assumption) (by assumption) (pcN _) ?he ?hp ?hr ?hn ?hv ?_ rfl; (case he => walk_at "pv"); (case hp => walk_at "pv"); (case hr => assumption); (case hn => walk_at "NF"))
  case hv => exact Nb.none
  intro h9 tk9 S9
  exact wpAny_execs_nil (hQ _ _ o' hd3 (S9.back kk fun a ha => .inl ha))
end
section
variable {prog : Program} {w : World} {A : Around} {E : Value → Shared → Prop} {s : Shared} {h : Heap} {tk₀ : Nat} {p : Program} {loose : List Str} {mg mb : Str → Option Value} {h₀ : Heap} {st : LS} {r : Rg}
  {Ky : Type} [DecidableEq Ky] {T' : DT prog w (hd2.heap_39 w.params) Ky} {kvs : List (Ky × Value)} {k : Ky} {D : List (Ky × Rg)}

/-- _remove_lru -/
theorem c_rmlru {Q : Value → Shared → Prop} (B : Base (hd2.heap_39 w.params) p loose mg mb h₀ st h) (R : Rep 46 182 w st h) (hroom : A.depth + 2 < recursionLimit) (hu : A.units + 24 < cLine)
   (C : Cst T' st (D ++ [(k, r)]) kvs) (hz : kvs.length ≤ 100000) (hc : (st.F r.x).cln = .none)
   (hQ : ∀ h' tk st', Ctr 46 182 w st st' h h' → Fixd st st' → Cst T' st' D (without kvs k) → vw st' D = vw st D → Q .none (up s h' tk)) :
   wpAny (model prog w) A (call (.ref 156) [.ref st.c]) Q E (up s h tk₀) := by
  obtain ⟨hr, hl, ⟨po, hp, hp1, hp2, hp3⟩, hn, hk, hv⟩ := C.last
  refine' enter (binds := [("self", Value.ref st.c)]) B R ?ho ?hcd (by omega) ?hb ?hl ?hco ?hgen ?hk ?hcell ?_
  ((case ho => k_dflt k_is); (case hcd => k_dflt k_is); (case hb => exact BindsTo.of_eq rfl); (case hl => exact locs rfl); (case hco => exact rfl); (case hgen => exact rfl); (case hk => exact rfl); (case hcell => decide))
  intro g L h1 tk kk k' X T S
  refine wpAny_execs_cons ?_
  refine' assert_node S X ?he hr ?hb ?hl ?_ rfl
  case he => (refine' Pv.eq ?x ?y; (case x => walk_at "pv"); (case y => exact hl))
  case hb => k_dflt k_is
  case hl => k_dflt k_is
  intro tk1
  refine wpAny_execs_cons ?_
  refine' ex_ ?_ rfl rfl
  refine' ev_m1 (f := 149) (x := st.c) (v := .ref r.x) ?hpo ?hpe S.cinst (X.keeps S.F.keep) (pcL _) ?hf ?ht ?hkp rfl ?_ rfl rfl rfl
  case hpo => walk_at "pv"
  case hpe => (refine' Pv.eq ?x ?y; (case x => walk_at "pv"); (case y => exact hl))
  case hf => k_dflt k_is
  case ht => k_dflt k_is
  case hkp => k_dflt k_is
  intro tk2
  refine c_rmnode (S.base X T) S.rep (by show A.depth + 1 + 1 < _; omega) (by simp only [Around.deeper_units]; omega) hr hl hp (fun p e => ⟨(hp3 p e).1, (hp3 p e).2.1⟩) hn hc C.od hz hk hv fun h2 tk3 o' ho C2 => ?_
  obtain ⟨C3, e3⟩ := C.remove hp1 hp2 (fun p e => (hp3 p e).2.2) ho
  exact wpAny_execs_nil (hQ _ _ _ ((S.after C2).back kk fun a ha => .inl ha) ⟨rfl, rfl, rfl, rfl, rfl, rfl⟩ C3 e3)

/-- cleanup: the least recent ones go one by one -/
theorem c_cleanup {Q : Value → Shared → Prop} (B : Base (hd2.heap_39 w.params) p loose mg mb h₀ st h) (R : Rep 46 182 w st h) (hroom : A.depth + 3 < recursionLimit) (hu : A.units + 32 < cLine)
   (C : Cst T' st D kvs) (hz : kvs.length ≤ 100000) {a : Int} {ta : Tok} (haf : st.af = .int a ta) (ha : 0 ≤ a) (hc : ∀ q ∈ D, (st.F q.2.x).cln = .none)
   (hQ : ∀ h' tk st' kvs', Ctr 46 182 w st st' h h' → Fixd st st' → Cst T' st' (D.take a.toNat) kvs' → vw st' (D.take a.toNat) = vw st (D.take a.toNat) → Q .none (up s h' tk)) :
   wpAny (model prog w) A (call (.ref 128) [.ref st.c]) Q E (up s h tk₀) := by
  refine' enter (binds := [("self", Value.ref st.c)]) B R ?ho ?hcd (by omega) ?hb ?hl ?hco ?hgen ?hk ?hcell ?_
  ((case ho => k_dflt k_is); (case hcd => k_dflt k_is); (case hb => exact BindsTo.of_eq rfl); (case hl => exact locs rfl); (case hco => exact rfl); (case hgen => exact rfl); (case hk => exact rfl); (case hcell => decide))
  intro g L h1 tk kk k' X T S
  have hu' : ∀ env, (A.deeper env).units + 8 < cLine := fun env => by simp only [Around.deeper_units]; omega
  refine seqP (P := fun h' => ∃ st' kvs', St 46 182 w g L (fun y => List.lookup y ([("self", Value.ref st.c)] : List (Str × Value)).reverse) st' h' ∧ Ctr 46 182 w st st' h1 h' ∧ Fixd st st' ∧ Cst T' st' (D.take a.toNat) kvs' ∧ vw st' (D.take a.toNat) = vw st (D.take a.toNat)) ?_ ?_
  · refine while_inv (P := fun n h' => ∃ st1 kvs1, n ≤ D.length ∧ (a.toNat ≤ n ∨ n = D.length) ∧ St 46 182 w g L (fun y => List.lookup y ([("self", Value.ref st.c)] : List (Str × Value)).reverse) st1 h' ∧ Ctr 46 182 w st st1 h1 h' ∧ Fixd st st1 ∧ Cst T' st1 (D.take n) kvs1 ∧ vw st1 (D.take n) = vw st (D.take n)) _ ?_ D.length ?_
    · rintro n h' tk' ⟨st1, kvs1, hn1, hn2, S1, C1, F1, K1, e1⟩
      have hlen : kvs1.length = n := by rw [K1.len, List.length_take, Nat.min_eq_left hn1]
      have hz1 : kvs1.length ≤ 100000 := by rw [hlen]; have := C.len; omega
      refine wpAny_isTrue_Compare1 ?_ (by with_unfolding_all rfl)
      refine PvE.at (PvE.len S1 X ?hfn ?hdd K1.od K1.ne hz1 rfl rfl rfl) fun v tk2 hv => ?_
      case hfn => refine' Pv.builtin S1 X T ?he rfl ?hn rfl rfl ?hd; (case he => k_dflt k_is); (case hn => decide); (case hd => decide)
      case hdd =>
        refine' Pv.dd S1 X (pcL _) ?hp (aL_cache _) rfl
        case hp => exact Pv.eq (v := .ref st.c) (by walk_at "pv") (by rw [F1.c])
      obtain ⟨t, rfl⟩ := hv
      refine Pv.at (v := .int a ta) ?haf fun tk3 => ?_
      case haf =>
        refine Pv.eq (v := st1.af) ?_ (F1.af.trans haf)
        refine' Pv.cache S1 X (pcL _) ?hp (cAf (aL_after _)) rfl
        case hp => exact Pv.eq (v := .ref st.c) (by walk_at "pv") (by rw [F1.c])
      refine gt_int ?_
      refine wpAny_truthy_bool ?_
      rw [hlen]
      by_cases hgt : a < (n : Int)
      · refine WhlIf.yes (decide_eq_true hgt) ?_
        obtain ⟨n, rfl⟩ : ∃ n', n = n' + 1 := ⟨n - 1, by omega⟩
        have hlt : n < D.length := by omega
        have et : D.take (n + 1) = D.take n ++ [D[n]] := by rw [List.take_succ_eq_append_getElem hlt]
        rcases hD : D[n] with ⟨k, r⟩
        rw [hD] at et
        have K2 := K1
        rw [et] at K2
        have hr : (k, r) ∈ D := by rw [← hD]; exact List.getElem_mem hlt
        have hcr : (st1.F r.x).cln = .none := by
          have e2 := e1
          rw [et] at e2
          unfold vw at e2
          rw [List.map_append, List.map_append] at e2
          have e3 := (List.append_inj e2 (by rw [List.length_map, List.length_map])).2
          simp only [List.map_cons, List.map_nil, List.cons.injEq, Prod.mk.injEq, and_true, true_and] at e3
          rw [e3.2]; exact hc _ hr
        refine wpAny_execs_cons ?_
        refine' ex_ ?_ rfl rfl
        refine' ev_m0 (f := 156) (x := st1.c) ?hpo S1.cinst (X.keeps S1.F.keep) (pcL _) ?hf ?ht ?hkp rfl ?_ rfl
        case hpo => exact Pv.eq (v := .ref st.c) (by walk_at "pv") (by rw [F1.c])
        case hf => k_dflt k_is
        case ht => k_dflt k_is
        case hkp => k_dflt k_is
        intro tk4
        refine c_rmlru (S1.base X T) S1.rep (by show A.depth + 1 + 2 < _; omega) (by simp only [Around.deeper_units]; omega) K2 hz1 hcr fun h3 tk5 st3 C3 F3 K3 e3 => ?_
        refine wpAny_execs_nil ⟨rfl, n, h3, tk5, Nat.lt_succ_self _, rfl, st3, _, Nat.le_of_lt hlt, ?_, S1.after C3, C1.trans C3, F1.trans F3, K3, ?_⟩
        · left; omega
        · rw [e3]
          have e2 := e1
          rw [et] at e2
          unfold vw at e2 ⊢
          rw [List.map_append, List.map_append] at e2
          exact (List.append_inj e2 (by rw [List.length_map, List.length_map])).1
      · refine WhlIf.no (decide_eq_false hgt) ⟨h', tk3, rfl, st1, kvs1, S1, C1, F1, ?_⟩
        have : D.take a.toNat = D.take n := by
          rcases hn2 with q | q
          · rw [show a.toNat = n by omega]
          · rw [List.take_of_length_le (by omega), List.take_of_length_le (by omega)]
        rw [this]; exact ⟨K1, e1⟩
    · exact ⟨st, kvs, Nat.le_refl _, .inr rfl, S, Ctr.refl S.rep, Fixd.refl, by rw [List.take_length]; exact C, by rw [List.take_length]⟩
  · rintro h2 tk2 ⟨st', kvs', S', C', F', C2, e2⟩
    exact wpAny_execs_nil (hQ _ _ _ _ (S.back2 kk S' C') F' C2 e2)
end
section
variable {prog : Program} {w : World} {A : Around} {E : Value → Shared → Prop} {s : Shared} {h : Heap} {tk₀ : Nat} {p : Program} {loose : List Str} {mg mb : Str → Option Value} {h₀ : Heap} {st : LS} {r : Rg}
  {Ky : Type} [DecidableEq Ky] {T' : DT prog w (hd2.heap_39 w.params) Ky} {kvs : List (Ky × Value)} {k : Ky} {D D' : List (Ky × Rg)}

/-- _record_access of a node that is held -/
theorem c_hit {Q : Value → Shared → Prop} (B : Base (hd2.heap_39 w.params) p loose mg mb h₀ st h) (R : Rep 46 182 w st h) (hroom : A.depth < recursionLimit) (hu : A.units + 16 < cLine)
   (C : Cst T' st (D ++ (k, r) :: D') kvs)
   (hQ : ∀ h' tk st', Ctr 46 182 w st st' h h' → Fixd st st' → Cst T' st' ((k, r) :: (D ++ D')) kvs → (∀ y, (st'.F y).val = (st.F y).val ∧ (st'.F y).cln = (st.F y).cln ∧ (st'.F y).key = (st.F y).key) → Q .none (up s h' tk)) :
   wpAny (model prog w) A (call (.ref 142) [.ref st.c, .ref r.x]) Q E (up s h tk₀) := by
  have hm : (k, r) ∈ D ++ (k, r) :: D' := List.mem_append_right _ (.head _)
  have hr := C.sub _ hm
  cases D with
  | nil =>
    refine c_rec1 B R hroom hr (by rw [C.mru]; rfl) fun h' tk C' => ?_
    exact hQ _ _ _ C' Fixd.refl C fun y => ⟨rfl, rfl, rfl⟩
  | cons m l =>
    have nd := C.nd
    have nd0 := nd
    rw [List.map_append, List.nodup_append] at nd
    have s := C.seg
    rw [Seg.append] at s
    obtain ⟨-, s1, s2, s3⟩ := s
    have hml : m ∈ (m :: l) ++ (k, r) :: D' := .head _
    obtain ⟨A', a, hA', hla⟩ : ∃ A' a, m :: l = A' ++ [a] ∧ lastV (.none : Value) (m :: l) = .ref a.2.x := by
      rcases lastV_opt (A := m :: l) (p := .none) with ⟨q, -⟩ | q
      · cases q
      · exact q
    have haA : a ∈ m :: l := by rw [hA']; exact List.mem_append_right _ (.head _)
    have hlast : ∃ b ∈ (m :: l) ++ (k, r) :: D', st.lru = .ref b.2.x := by
      rcases lastV_opt (A := (m :: l) ++ (k, r) :: D') (p := .none) with ⟨q, -⟩ | ⟨A'', b, q, q2⟩
      · cases q
      · exact ⟨b, by rw [q]; exact List.mem_append_right _ (.head _), by rw [C.lru, q2]⟩
    obtain ⟨b, hb, hlru⟩ := hlast
    have ne : ∀ q ∈ m :: l, r.x ≠ q.2.x := fun q hq e => nd.2.2 _ (List.mem_map_of_mem (f := fun q : Ky × Rg => q.2.x) hq) r.x (.head _) e.symm
    have neB : ∀ q ∈ D', r.x ≠ q.2.x := by
      intro q hq e
      have := nd.2.1
      rw [List.map_cons, List.nodup_cons] at this
      exact this.1 (by show r.x ∈ _; rw [e]; exact List.mem_map_of_mem (f := fun q : Ky × Rg => q.2.x) hq)
    refine c_rec2 B R hroom hu hr (mr := m.2) (lr := b.2) (po := some a.2) (qo := D'.head?.map (·.2)) (by rw [C.mru]; rfl) (C.sub _ hml) (ne m (.head _)) hlru (C.sub _ hb) (s1.trans hla)
      (fun p e => by cases e; exact ⟨C.sub _ (List.mem_append_left _ haA), ne a haA⟩) C.od ?_ ?_ fun h' tk C' => ?_
    · intro q
      cases D' with
      | nil => exact s2
      | cons c D' => cases q
    · intro q e
      cases D' with
      | nil => cases e
      | cons c D' =>
        cases e
        have hc : c ∈ (m :: l) ++ (k, r) :: c :: D' := List.mem_append_right _ (.tail _ (.head _))
        refine ⟨C.sub _ hc, neB c (.head _), c.1, ?_, C.at hc⟩
        rw [s2]; exact C.key c hc
    · have mv := rec_move (F := st.F) (n := .none) (A := m :: l) (B := D') (m := m) (p := a) (r := (k, r)) (po := some a.2) (qo := D'.head?.map (·.2)) rfl hA' rfl rfl nd0 C.seg
      have pm : ((m :: l) ++ (k, r) :: D').Perm ((k, r) :: ((m :: l) ++ D')) := List.perm_middle
      refine hQ _ _ _ C' ⟨rfl, rfl, rfl, rfl, rfl, rfl⟩ ⟨fun q hq => C.sub q (pm.mem_iff.mpr hq), (pm.map _).nodup_iff.mp nd0, mv, rfl, ?_, fun q hq => ?_, C.od, C.perm.trans (pm.map _), C.ne⟩ fun y => ⟨recF_val y, recF_cln y, recF_key y⟩
      · show (if st.lru = .ref r.x then (st.F r.x).prev else st.lru) = lastV .none ((k, r) :: ((m :: l) ++ D'))
        rw [C.lru]
        show _ = lastV (.ref r.x) ((m :: l) ++ D')
        rw [lastV_append (p := .none), lastV_append (p := .none)]
        show (if lastV (.ref r.x) D' = _ then _ else _) = lastV (lastV (.ref m.2.x) l) D'
        cases D' with
        | nil => rw [if_pos (show lastV (.ref r.x) ([] : List (Ky × Rg)) = .ref r.x from rfl), s1]; rfl
        | cons c D' =>
          show (if lastV (.ref c.2.x) D' = _ then _ else _) = lastV (.ref c.2.x) D'
          refine if_neg fun e => ?_
          rcases lastV_opt (A := D') (p := .ref c.2.x) with ⟨-, q⟩ | ⟨A'', d, q, q2⟩
          · rw [q] at e; exact neB c (.head _) (Value.ref.inj e).symm
          · rw [q2] at e; exact neB d (.tail _ (by rw [q]; exact List.mem_append_right _ (.head _))) (Value.ref.inj e).symm
      · show T'.isK q.1 (recF st.F r.x m.2.x _ _ q.2.x).key
        rw [recF_key]; exact C.key q (pm.mem_iff.mpr hq)

/-- _record_access of a node just made and put into the dict -/
theorem c_fresh {Q : Value → Shared → Prop} (B : Base (hd2.heap_39 w.params) p loose mg mb h₀ st h) (R : Rep 46 182 w st h) (hroom : A.depth < recursionLimit) (hu : A.units + 16 < cLine)
   {kvs₀ : List (Ky × Value)} {o₀ : Obj} (C : Cst T' { st with od := o₀ } D kvs₀) (hr : r ∈ st.reg) (nr : ∀ a ∈ D, a.2.x ≠ r.x) (hk : T'.isK k (st.F r.x).key) (hn : (st.F r.x).next = .none) (hp : (st.F r.x).prev = .none)
   (ho : OD T' st.od kvs) (hkv : kvs = kvs₀ ++ [(k, .ref r.x)])
   (hQ : ∀ h' tk st', Ctr 46 182 w st st' h h' → Fixd st st' → Cst T' st' ((k, r) :: D) kvs → (∀ y, (st'.F y).val = (st.F y).val ∧ (st'.F y).cln = (st.F y).cln ∧ (st'.F y).key = (st.F y).key) → Q .none (up s h' tk)) :
   wpAny (model prog w) A (call (.ref 142) [.ref st.c, .ref r.x]) Q E (up s h tk₀) := by
  have pm : kvs.Perm (row (k, r) :: D.map row) := by
    rw [hkv]; exact (List.perm_append_singleton _ _).trans (C.perm.cons _)
  have nd : (((k, r) :: D).map (·.2.x)).Nodup := by
    rw [List.map_cons, List.nodup_cons]
    refine ⟨fun q => ?_, C.nd⟩
    obtain ⟨a, ha, e⟩ := List.mem_map.mp q
    exact nr a ha e
  cases D with
  | nil =>
    refine c_rec0 B R hroom hr C.mru fun h' tk C' => ?_
    refine hQ _ _ _ C' ⟨rfl, rfl, rfl, rfl, rfl, rfl⟩ ⟨fun q hq => by rw [List.mem_singleton.mp hq]; exact hr, nd, ⟨hp, hn, trivial⟩, rfl, rfl, fun q hq => by rw [List.mem_singleton.mp hq]; exact hk, ho, pm, C.ne⟩ fun y => ⟨rfl, rfl, rfl⟩
  | cons m l =>
    obtain ⟨b, hb, hlru⟩ : ∃ b ∈ m :: l, st.lru = .ref b.2.x := by
      rcases lastV_opt (A := m :: l) (p := .none) with ⟨q, -⟩ | ⟨A'', b, q, q2⟩
      · cases q
      · exact ⟨b, by rw [q]; exact List.mem_append_right _ (.head _), by rw [← q2]; exact C.lru⟩
    refine c_rec2 B R hroom hu hr (mr := m.2) (lr := b.2) (po := none) (qo := none) C.mru (C.sub _ (.head _)) (fun e => nr m (.head _) e.symm) hlru (C.sub _ hb) hp (fun p e => nomatch e) ho (fun _ => hn) (fun q e => nomatch e) fun h' tk C' => ?_
    refine hQ _ _ _ C' ⟨rfl, rfl, rfl, rfl, rfl, rfl⟩ ⟨fun q hq => ?_, nd, rec_new (r := (k, r)) nr C.nd C.seg, rfl, ?_, fun q hq => ?_, ho, pm, C.ne⟩ fun y => ⟨recF_val y, recF_cln y, recF_key y⟩
    · rcases List.mem_cons.mp hq with rfl | hq
      · exact hr
      · exact C.sub q hq
    · show (if st.lru = .ref r.x then (st.F r.x).prev else st.lru) = _
      rw [if_neg (by rw [hlru]; intro e; exact nr b hb (Value.ref.inj e))]
      exact C.lru
    · show T'.isK q.1 (recF st.F r.x m.2.x none none q.2.x).key
      rw [recF_key]
      rcases List.mem_cons.mp hq with rfl | hq
      · exact hk
      · exact C.key q hq
end
section
variable {prog : Program} {w : World} {A : Around} {E : Value → Shared → Prop} {s : Shared} {h : Heap} {tk₀ : Nat} {p : Program} {loose : List Str} {mg mb : Str → Option Value} {h₀ : Heap} {st : LS} {r : Rg}
  {Ky : Type} [DecidableEq Ky] {T' : DT prog w (hd2.heap_39 w.params) Ky} {kvs : List (Ky × Value)} {k : Ky} {D : List (Ky × Rg)} {key : Value}

/-- get(key, dflt) -/
theorem c_get {Q : Value → Shared → Prop} {pos : List Value} {dflt : Value} (B : Base (hd2.heap_39 w.params) p loose mg mb h₀ st h) (R : Rep 46 182 w st h) (hroom : A.depth + 1 < recursionLimit) (hu : A.units + 24 < cLine)
   (C : Cst T' st D kvs) (hk : T'.isK k key) (hpos : pos = [.ref st.c, key, dflt] ∨ (pos = [.ref st.c, key] ∧ dflt = .none))
   (hQ : ∀ h' tk st' D', Ctr 46 182 w st st' h h' → Fixd st st' → Cst T' st' D' kvs → vw st' D' = touch (vw st D) k → Q (((look (vw st D) k).map (·.1)).getD dflt) (up s h' tk)) :
   wpAny (model prog w) A (call (.ref 109) pos) Q E (up s h tk₀) := by
  refine' enter (binds := [("self", Value.ref st.c), ("key", key), ("default", dflt)]) B R ?ho ?hcd (by omega) ?hb ?hl ?hco ?hgen ?hk ?hcell ?_
  case ho => k_dflt k_is
  case hcd => k_dflt k_is
  case hb =>
    rcases hpos with rfl | ⟨rfl, rfl⟩
    · exact binds_K (show (hd2.heap_39 w.params).In h from B.X.keeps B.stays) rfl (by k_dflt k_is) rfl rfl rfl
    · exact binds_K (show (hd2.heap_39 w.params).In h from B.X.keeps B.stays) rfl (by k_dflt k_is) rfl rfl rfl
  case hl => exact locs rfl
  case hco => exact rfl
  case hgen => exact rfl
  case hk => exact rfl
  case hcell => decide
  intro g L h1 tk kk k' X T S
  have hu' : ∀ env, (A.deeper env).units + 8 < cLine := fun env => by simp only [Around.deeper_units]; omega
  refine wpAny_execs_cons ?_
  refine' as_name S ?he ?_ rfl rfl rfl
  case he =>
    refine' Pv.get2 S X (hu' _) ?ho ?hi ?hi2 hk C.od C.ne rfl rfl rfl rfl
    case ho => walk_at "pv"
    case hi => walk_at "pv"
    case hi2 => walk_at "pv"
  intro h2 tk2 S2
  by_cases hm : k ∈ D.map (·.1)
  · obtain ⟨D1, r, D2, rfl⟩ := C.split hm
    have hv := C.at (k := k) (r := r) (List.mem_append_right _ (.head _))
    have hr := C.sub (k, r) (List.mem_append_right _ (.head _))
    rw [hv] at S2
    refine seqP (P := fun h => h = h2) ?_ ?_
    · refine' if_is ?hpl ?hpr ?hc ?_ ?_ rfl
      case hpl => walk_at "pv"
      case hpr => walk_at "pv"
      case hc => exact isB_ref_none
      · intro q; cases q
      · intro _ tk; exact wpAny_execs_nil ⟨rfl, h2, tk, rfl, rfl⟩
    rintro _ tk3 rfl
    refine wpAny_execs_cons ?_
    refine' ex_ ?_ rfl rfl
    refine' ev_m1 (f := 142) (x := st.c) (v := .ref r.x) ?hpo ?hpe S2.cinst (X.keeps S2.F.keep) (pcL _) ?hf ?ht ?hkp rfl ?_ rfl rfl rfl
    case hpo => walk_at "pv"
    case hpe => walk_at "pv"
    ((case hf => k_dflt k_is); (case ht => k_dflt k_is); (case hkp => k_dflt k_is))
    intro tk4
    refine c_hit (S2.base X T) S2.rep (by show A.depth + 1 < _; omega) (by simp only [Around.deeper_units]; omega) C fun h3 tk5 st3 C3 F3 K3 e3 => ?_
    have S3 := S2.after C3
    refine wpAny_execs_cons ?_
    refine' ret_ ?hpv ?_
    case hpv =>
      refine' Pv.node (r := r) S3 X (pcN _) ?hp (by rw [F3.reg]; exact hr) (nVal (aN_value _)) rfl
      case hp => walk_at "pv"
    intro tk6
    have hq := hQ h3 tk6 st3 _ (S2.back2 kk S3 C3) F3 K3 (C.touch_hit fun y => ⟨(e3 y).1, (e3 y).2.1⟩)
    rw [C.look_hit.1] at hq
    show Q (st3.F r.x).val _
    rw [(e3 _).1]
    exact hq
  · have hv := C.notAt hm
    rw [hv] at S2
    refine wpAny_execs_cons ?_
    refine' if_is ?hpl ?hpr ?hc ?_ ?_ rfl
    case hpl => walk_at "pv"
    case hpr => walk_at "pv"
    case hc => exact isB_none
    · intro _ tk
      refine wpAny_execs_cons ?_
      refine' ret_ ?hpv ?_
      case hpv => walk_at "pv"
      intro tk6
      obtain ⟨e1, e2, -⟩ := C.look_miss hm
      have hq := hQ h2 tk6 st D (S2.back kk fun a ha => .inl ha) Fixd.refl C e2.symm
      rw [e1] at hq
      exact hq
    · intro q; cases q
end
section
variable {prog : Program} {w : World} {A : Around} {E : Value → Shared → Prop} {s : Shared} {h : Heap} {tk₀ : Nat} {p : Program} {loose : List Str} {mg mb : Str → Option Value} {h₀ : Heap} {st : LS} {r : Rg}
  {Ky : Type} [DecidableEq Ky] {T' : DT prog w (hd2.heap_39 w.params) Ky} {kvs : List (Ky × Value)} {k : Ky} {D D' : List (Ky × Rg)} {key : Value}

/-- __getitem__ of a key that is held -/
theorem c_item {Q : Value → Shared → Prop} (B : Base (hd2.heap_39 w.params) p loose mg mb h₀ st h) (R : Rep 46 182 w st h) (hroom : A.depth + 1 < recursionLimit) (hu : A.units + 24 < cLine)
   (C : Cst T' st (D ++ (k, r) :: D') kvs) (hk : T'.isK k key)
   (hQ : ∀ h' tk st', Ctr 46 182 w st st' h h' → Fixd st st' → Cst T' st' ((k, r) :: (D ++ D')) kvs → (∀ y, (st'.F y).val = (st.F y).val ∧ (st'.F y).cln = (st.F y).cln ∧ (st'.F y).key = (st.F y).key) → Q (st.F r.x).val (up s h' tk)) :
   wpAny (model prog w) A (call (.ref 79) [.ref st.c, key]) Q E (up s h tk₀) := by
  have hr : r ∈ st.reg := C.sub (k, r) (List.mem_append_right _ (.head _))
  refine' enter (binds := [("self", Value.ref st.c), ("key", key)]) B R ?ho ?hcd (by omega) ?hb ?hl ?hco ?hgen ?hk ?hcell ?_
  ((case ho => k_dflt k_is); (case hcd => k_dflt k_is); (case hb => exact BindsTo.of_eq rfl); (case hl => exact locs rfl); (case hco => exact rfl); (case hgen => exact rfl); (case hk => exact rfl); (case hcell => decide))
  intro g L h1 tk kk k' X T S
  have hu' : ∀ env, (A.deeper env).units + 8 < cLine := fun env => by simp only [Around.deeper_units]; omega
  refine wpAny_execs_cons ?_
  refine' as_name S ?he ?_ rfl rfl rfl
  case he => walk_at "pv"
  intro h2 tk2 S2
  refine wpAny_execs_cons ?_
  refine' as_name S2 ?he ?_ rfl rfl rfl
  case he =>
    refine' Pv.item S2 X (hu' _) ?ho ?hi hk C.od (C.at (List.mem_append_right _ (.head _))) ?hs
    case ho => walk_at "pv"
    case hi => walk_at "pv"
    case hs => with_unfolding_all rfl
  intro h3 tk3 S3
  cases D with
  | nil =>
    have hm : st.mru = .ref r.x := C.mru
    refine wpAny_execs_cons ?_
    refine' as_name S3 ?he ?_ rfl rfl rfl
    case he => (refine' Pv.eq ?x ?y; (case x => walk_at "pv"); (case y => exact hm))
    intro h4 tk4 S4
    refine wpAny_execs_cons ?_
    refine' if_is ?hpl ?hpr ?hc ?_ ?_ rfl
    case hpl => walk_at "pv"
    case hpr => walk_at "pv"
    case hc => exact isB_self
    rotate_left
    · intro q; cases q
    intro _ tk5
    refine wpAny_execs_cons ?_
    refine' ret_ ?hpv ?_
    case hpv =>
      refine' Pv.node (r := r) S4 X (pcN _) ?hp hr (nVal (aN_value _)) rfl
      case hp => walk_at "pv"
    intro tk6
    exact hQ h4 tk6 st (S4.back kk fun a ha => .inl ha) Fixd.refl C fun y => ⟨rfl, rfl, rfl⟩
  | cons m l =>
    obtain ⟨pr, b, H⟩ := C.hit
    refine wpAny_execs_cons ?_
    refine' as_name S3 ?he ?_ rfl rfl rfl
    case he => (refine' Pv.eq ?x ?y; (case x => walk_at "pv"); (case y => exact H.mr))
    intro h4 tk4 S4
    (refine wpAny_execs_cons ?_; refine' if_is ?hpl ?hpr ?hc ?_ ?_ rfl; (case hpl => walk_at "pv"); (case hpr => walk_at "pv"))
    case hc => exact isB_refs (S4.ninst hr).at_ (S4.ninst H.mreg).at_ (fun e => nomatch e)
    · intro q; exact absurd (of_decide_eq_true q) H.ne
    intro _ tk5
    refine wpAny_execs_nil ?_
    refine wpAny_execs_cons ?_
    refine' as_name S4 ?he ?_ rfl rfl rfl
    case he =>
      refine Pv.eq (v := (st.F r.x).prev) ?_ H.prev
      refine' Pv.node (r := r) S4 X (pcN _) ?hp hr (nPrev (aN_prev _)) rfl
      case hp => walk_at "pv"
    intro h5 tk6 S5
    refine wpAny_execs_cons ?_
    refine' as_name S5 ?he ?_ rfl rfl rfl
    case he =>
      refine' Pv.node (r := r) S5 X (pcN _) ?hp hr (nNext (aN_next _)) rfl
      case hp => walk_at "pv"
    intro h6 tk7 S6
    refine seqP (P := fun h => ∃ m', St 46 182 w g L m' { st with lru := if st.lru = .ref r.x then (st.F r.x).prev else st.lru, F := fQ st.F r.x (D'.head?.map (·.2)) } h ∧ m' "self" = some (.ref st.c) ∧ m' "node" = some (.ref r.x) ∧ m' "mru" = some (.ref m.2.x) ∧ m' "node_prev" = some (.ref pr.x) ∧ m' "next_key" = some (st.F r.x).next) ?_ ?_
    · refine' if_is ?hpl ?hpr ?hc ?_ ?_ rfl
      case hpl => walk_at "pv"
      case hpr => walk_at "pv"
      case hc => exact isB_plain (S6.ok.F _).next
      · intro q tk
        cases D' with
        | cons c D'' => exact absurd (eq_of_beq q) (T'.notNone (H.nx1 c D'' rfl).2.2.2.1)
        | nil =>
          refine wpAny_execs_cons ?_
          refine' as_cache S6 X (pcL _) ?he ?hp (cLru (aL_lru _)) ?hv ?_ rfl
          case he => (refine' Pv.eq ?x ?y; (case x => walk_at "pv"); (case y => exact H.prev.symm))
          case hp => walk_at "pv"
          case hv => exact (S6.ok.F _).prev
          intro h7 tk8 S7
          refine wpAny_execs_nil ⟨rfl, h7, tk8, rfl, _, by rw [if_pos (H.nx0 rfl).2]; exact S7, rfl, rfl, rfl, rfl, rfl⟩
      · intro q tk
        cases D' with
        | nil => rw [(H.nx0 rfl).1] at q; cases q
        | cons c D'' =>
          obtain ⟨q1, q2, q3, q4, q5, q6⟩ := H.nx1 c D'' rfl
          refine wpAny_execs_cons ?_
          refine' as_name S6 ?he ?_ rfl rfl rfl
          case he =>
            refine' Pv.item S6 X (hu' _) ?ho ?hi q4 C.od q5 ?hs
            case ho => walk_at "pv"
            case hi => walk_at "pv"
            case hs => with_unfolding_all rfl
          intro h7 tk8 S7
          refine wpAny_execs_cons ?_
          refine' as_node (r := c.2) S7 X (pcN _) ?he ?hp q1 ?hn ?hv ?_ rfl
          case he => (refine' Pv.eq ?x ?y; (case x => walk_at "pv"); (case y => exact H.prev.symm))
          case hp => walk_at "pv"
          case hn => exact nPrev (aN_prev _)
          case hv => exact (S6.ok.F _).prev
          intro h8 tk9 S8
          refine wpAny_execs_nil ⟨rfl, h8, tk9, rfl, _, by rw [if_neg q6]; exact S8, rfl, rfl, rfl, rfl, rfl⟩
    rintro h7 tk8 ⟨m', S7, e1, e2, e3, e4, e5⟩
    have eQ : fQ st.F r.x (D'.head?.map (·.2)) r.x = st.F r.x := by
      cases D' with
      | nil => rfl
      | cons c D'' => exact setF_ne (H.nx1 c D'' rfl).2.1
    have eF := fP_fQ (F := st.F) (qo := D'.head?.map (·.2)) H.pne fun q hq => by
      cases D' with
      | nil => cases hq
      | cons c D'' => cases hq; exact ⟨(H.nx1 c D'' rfl).2.1, (H.nx1 c D'' rfl).2.2.1⟩
    have Hout := H.out
    generalize hFQ : fQ st.F r.x (D'.head?.map (·.2)) = FQ at S7 eQ eF
    refine wpAny_execs_cons ?_
    refine' assert_node (r := pr) S7 X ?he H.preg ?hb ?hl ?_ rfl
    case he => walk_at "pv"
    case hb => k_dflt k_is
    case hl => k_dflt k_is
    intro tk9
    refine wpAny_execs_cons ?_
    refine' assert_node (r := m.2) S7 X ?he H.mreg ?hb ?hl ?_ rfl
    case he => walk_at "pv"
    case hb => k_dflt k_is
    case hl => k_dflt k_is
    intro tk10
    refine wpAny_execs_cons ?_
    refine' as_node (r := pr) S7 X (pcN _) ?he ?hp H.preg (nNext (aN_next _)) ?hv ?_ rfl
    case he => (refine' Pv.eq (v' := (FQ r.x).next) ?x ?y; (case x => walk_at "pv"); (case y => rw [eQ]))
    case hp => walk_at "pv"
    case hv => exact (S7.ok.F _).next
    intro h8 tk11 S8
    have S8' : St 46 182 w g L m' { st with lru := if st.lru = .ref r.x then (st.F r.x).prev else st.lru, F := fP FQ r.x (some pr) } h8 := S8
    clear S8
    rw [eF] at S8'
    generalize hFP : fQ (fP st.F r.x (some pr)) r.x (D'.head?.map (·.2)) = FP at S8'
    refine wpAny_execs_cons ?_
    refine' as_node (r := r) S8' X (pcN _) ?he ?hp hr (nNext (aN_next _)) ?hv ?_ rfl
    case he =>
      refine' Pv.node (r := m.2) S8' X (pcN _) ?hpx H.mreg (nKey (aN_key _)) rfl
      case hpx => walk_at "pv"
    case hp => walk_at "pv"
    case hv => exact (S8'.ok.F _).key
    intro h9 tk12 S9
    refine wpAny_execs_cons ?_
    refine' as_node (r := m.2) S9 X (pcN _) ?he ?hp H.mreg (nPrev (aN_prev _)) ?hv ?_ rfl
    case he => walk_at "pv"
    case hp => walk_at "pv"
    case hv => exact Nb.ref
    intro h10 tk13 S10
    refine wpAny_execs_cons ?_
    refine' as_cache S10 X (pcL _) ?he ?hp (cMru (aL_mru _)) ?hv ?_ rfl
    case he => walk_at "pv"
    case hp => walk_at "pv"
    case hv => exact Nb.ref
    intro h11 tk14 S11
    refine wpAny_execs_cons ?_
    refine' as_node (r := r) S11 X (pcN _) ?he ?hp hr (nPrev (aN_prev _)) ?hv ?_ rfl
    case he => walk_at "pv"
    case hp => walk_at "pv"
    case hv => exact Nb.none
    intro h12 tk15 S12
    subst hFP
    have S12' : St 46 182 w g L m' (recAcc st r m.2 (some pr) (D'.head?.map (·.2))) h12 := S12
    refine wpAny_execs_cons ?_
    refine' ret_ ?hpv ?_
    case hpv =>
      refine' Pv.node (r := r) S12' X (pcN _) ?hp hr (nVal (aN_value _)) rfl
      case hp => walk_at "pv"
    intro tk16
    have hq := hQ h12 tk16 _ (S12'.back kk fun a ha => .inl ha) ⟨rfl, rfl, rfl, rfl, rfl, rfl⟩ Hout fun y => ⟨recF_val y, recF_cln y, recF_key y⟩
    show Q ((recF st.F r.x m.2.x (some pr) (D'.head?.map (·.2))) r.x).val _
    rw [recF_val]; exact hq

/-- __getitem__ of a key that is not held -/
theorem c_miss {Q : Value → Shared → Prop} {outer : List Env} (B : Base (hd2.heap_39 w.params) p loose mg mb h₀ st h) (R : Rep 46 182 w st h) (hroom : A.depth + 1 < recursionLimit) (hu : A.units + 24 < cLine) (hh : A.handled = none)
   (C : Cst T' st D kvs) (hk : T'.isK k key) (hm : k ∉ D.map (·.1)) (BB : Below A h₀ outer h) (hfr : ∀ env ∈ outer, ∀ a ∈ addrs st, env.frame ≠ some a)
   (hE : ∀ (e : Addr) (g h' : Heap) (tk : Nat), (∀ b o, b ∉ addrs st → h.get? b = some o → g.get? b = some o) → RaisedN h₀ outer e (.type "KeyError") (ledger 46 182 w.params st) h' → g.UpToSlots h' → E (.ref e) (up s h' tk)) :
   wpAny (model prog w) A (call (.ref 79) [.ref st.c, key]) Q E (up s h tk₀) := by
  refine' enterE (binds := [("self", Value.ref st.c), ("key", key)]) B R ?ho ?hcd (by omega) ?hb ?hl ?hco ?hgen ?hk ?hcell ?_
  ((case ho => k_dflt k_is); (case hcd => k_dflt k_is); (case hb => exact BindsTo.of_eq rfl); (case hl => exact locs rfl); (case hco => exact rfl); (case hgen => exact rfl); (case hk => exact rfl); (case hcell => decide))
  intro g L h1 tk kk k' X T S
  have hu' : ∀ env, (A.deeper env).units + 8 < cLine := fun env => by simp only [Around.deeper_units]; omega
  refine wpAny_execs_cons ?_
  refine' as_name S ?he ?_ rfl rfl rfl
  case he => walk_at "pv"
  intro h2 tk2 S2
  have BG : Below A h₀ outer g := ⟨BB.stack, fun b o e => kk b o (fun q => by rw [B.off b q] at e; cases e) (B.stays b o e), frames_off kk BB.frames hfr⟩
  refine wpAny_execs_cons (wpAny_Assign_Name ?_ rfl)
  refine Subscript_ (Pv.at (v := .ref st.dd) (by walk_at "pv") fun tk3 => Pv.at (v := key) (by walk_at "pv") fun tk4 => ?_)
  refine tail_any (s := up s h2 tk4) (C.od.typeIs (s := up s h2 tk4) S2.dget) PySem.F.slot_dict_getitem.lookup ?_ (by with_unfolding_all rfl)
  refine C.od.getItemMiss (s := up s h2 tk4) (X.keeps S2.F.keep) (hu' _) hk S2.dget (C.notAt hm) C.ne hh fun h3 e tk5 hx => ?_
  exact leave_newK BG hx S2.F S2.N fun h4 hR hsm => hE e g h4 tk5 kk hR hsm
end
section
variable {prog : Program} {w : World} {A : Around} {E : Value → Shared → Prop} {s : Shared} {g h : Heap} {L : Addr} {m : Str → Option Value} {tk tk₀ : Nat} {p : Program} {loose : List Str} {mg mb : Str → Option Value} {h₀ : Heap} {st : LS} {r : Rg}
  {key val cln : Value} {cn : Str} {cs : Scope} {a : Addr} {cd : Value}

/-- _LRUNode(key, value, cleanup=cleanup) -/
theorem ev_make {Q : Value → Shared → Prop} {e1 e2 e3 : Expr} {np pos kp : Pos} (S : St 46 182 w g L m st h) (X : (hd2.heap_39 w.params).In g) (T : TopRead p loose mg mb g) (hroom : A.depth + 2 < recursionLimit)
   (he1 : Pv prog w A (envOf cn cs L a cd) e1 key h) (he2 : Pv prog w A (envOf cn cs L a cd) e2 val h) (he3 : Pv prog w A (envOf cn cs L a cd) e3 cln h) (nk : Nb key) (nv : Nb val) (nc : Nb cln)
   (hk : cs.kind = .function) (hx : (envOf cn cs L a cd).kindOf "_LRUNode" = some .globalImplicit)
   (h1 : starEach [e1, e2] (envOf cn cs L a cd) = (false, eval e1 (envOf cn cs L a cd)) :: starEach [e2] (envOf cn cs L a cd)) (h2 : starEach [e2] (envOf cn cs L a cd) = (false, eval e2 (envOf cn cs L a cd)) :: starEach [] (envOf cn cs L a cd))
   (hpl : ((backTo pos (starEach [e1, e2] (envOf cn cs L a cd))).any (·.1) || (backToKw pos (keywordEach [⟨some "cleanup", e3, kp⟩] (envOf cn cs L a cd))).any (·.1.isNone)) = false)
   (q : ∀ h' tk x dx t, x ∉ addrs st → dx ∉ addrs st → g.get? x = none → g.get? dx = none → St 46 182 w g L m { st with reg := ⟨x, dx, t⟩ :: st.reg, F := setF st.F x ⟨.none, .none, key, val, cln⟩ } h' → Q (.ref x) (up s h' tk)) :
   wpAny (model prog w) A (eval (.Call (.Name "_LRUNode" np) [e1, e2] [⟨some "cleanup", e3, kp⟩] pos) (envOf cn cs L a cd)) Q E (up s h tk) := by
  refine wpAny_Call_Name_kw (Pv.at (Pv.glob S X T (v := .ref 46) (by k_dflt k_is) hk hx (by decide)) fun tk1 => ?_)
  refine callWith_KW X (by k_dflt k_is) rfl (spliced_more (he1.at fun tk2 => spliced_more (he2.at fun tk3 => spliced_none ?_) h2) h1) hpl h1
  refine kws_cons (he3.at fun tk4 => kws_nil ⟨X.keeps S.F.keep, ?_⟩)
  show wpAny _ _ (call (.ref 46) [key, val] [("cleanup", cln)]) _ _ _
  refine call_cls (s := up s h tk4) S.F X S.N (by k_dflt k_is) (by k_dflt k_is) (by k_dflt k_is) fun x dx h' F' N' hd hlt => ?_
  have nd : ∀ z, dx ≤ z → z ∉ addrs st := fun z hz hm => by
    rw [← ledger_addrs 46 182 w.params] at hm
    obtain ⟨q, hq, e⟩ := List.mem_map.mp hm
    have e : q.1 = z := e
    exact Nat.lt_irrefl z (Nat.lt_of_lt_of_le (e ▸ hd q hq) hz)
  have N2 : News g L h' [(x, instObj 46 dx), (dx, dictOf [] 0)] := fun q hq => N' q (by
    rcases List.mem_cons.mp hq with rfl | hq
    · exact .head _
    · rw [List.mem_singleton.mp hq]; exact .tail _ (.head _))
  have S' : St 46 182 w g L m st h' := ⟨F', fun q hq => N' q (.tail _ (.tail _ hq)), S.wf, S.ok⟩
  have nx := N2 _ (.head _)
  have ndx := N2 _ (.tail _ (.head _))
  have ne : x ≠ dx := fun e => Nat.lt_irrefl dx (e ▸ hlt)
  refine' enterN (s := s) (h := h') (tk₀ := tk4) (l := [(x, instObj 46 dx), (dx, dictOf [] 0)]) (binds := [("self", Value.ref x), ("key", key), ("value", val), ("cleanup", cln)]) X T F'.keep ?hl0 ?ho ?hcd ?hroom ?hb ?hl ?hco ?hgen ?hk ?hcell ?_
  case hl0 => exact fun q hq => ⟨(N2 q hq).1, (N2 q hq).2.2⟩
  case ho => k_dflt k_is
  case hcd => k_dflt k_is
  case hroom => show A.depth + 1 < _; omega
  case hb => exact binds_K (show (hd2.heap_39 w.params).In h' from X.keeps F'.keep) rfl (by k_dflt k_is) rfl rfl rfl
  case hl => exact locs rfl
  case hco => exact rfl
  case hgen => exact rfl
  case hk => exact rfl
  case hcell => decide
  intro g2 L2 h2 tk5 kk X2 T2 F2 N3
  have I2 : Ini 46 g2 L2 (fun y => List.lookup y ([("self", Value.ref x), ("key", key), ("value", val), ("cleanup", cln)] : List (Str × Value)).reverse) x dx [] 0 h2 := ⟨F2, N3, ne⟩
  refine wpAny_execs_cons ?_
  refine' as_init I2 X2 (pcN _) ?ha ?he ?hp rfl ?hu (Nat.le_of_ble_eq_true rfl) ?_ rfl
  case hp => (refine' Ini.pvName (by assumption) ?hv ?hk ?hl ?hd; (case hv => exact rfl); (case hk => exact rfl); (case hl => exact rfl); (case hd => decide))
  case ha => exact aN_prev _
  case hu => exact fun _ => rfl
  case he => exact Pv.nn
  intro h3 tk6 t0 I3
  (refine wpAny_execs_cons ?_; refine' as_init (by assumption) (by assumption) (pcN _) ?ha ?he ?hp rfl ?hu (Nat.le_of_ble_eq_true rfl) ?_ rfl; (case hp => (refine' Ini.pvName (by assumption) ?hv ?hk ?hl ?hd; (case hv => exact rfl); (case hk => exact rfl); (case hl => exact rfl); (case hd => decide))))
  case ha => exact aN_next _
  case hu => exact fun _ => rfl
  case he => refine' Ini.pvGlob I3 X2 T2 ?he ?hk ?hx ?hd; (case he => k_dflt k_is); (case hk => exact rfl); (case hx => exact rfl); (case hd => decide)
  intro h4 tk7 t1 I4
  (refine wpAny_execs_cons ?_; refine' as_init (by assumption) (by assumption) (pcN _) ?ha ?he ?hp rfl ?hu (Nat.le_of_ble_eq_true rfl) ?_ rfl; (case hp => (refine' Ini.pvName (by assumption) ?hv ?hk ?hl ?hd; (case hv => exact rfl); (case hk => exact rfl); (case hl => exact rfl); (case hd => decide))))
  case ha => exact aN_key _
  case hu => exact fun _ => rfl
  case he => (refine' Ini.pvName (by assumption) ?hv ?hk ?hl ?hd; (case hv => exact rfl); (case hk => exact rfl); (case hl => exact rfl); (case hd => decide))
  intro h5 tk8 t2 I5
  (refine wpAny_execs_cons ?_; refine' as_init (by assumption) (by assumption) (pcN _) ?ha ?he ?hp rfl ?hu (Nat.le_of_ble_eq_true rfl) ?_ rfl; (case hp => (refine' Ini.pvName (by assumption) ?hv ?hk ?hl ?hd; (case hv => exact rfl); (case hk => exact rfl); (case hl => exact rfl); (case hd => decide))))
  case ha => exact aN_value _
  case hu => exact fun _ => rfl
  case he => (refine' Ini.pvName (by assumption) ?hv ?hk ?hl ?hd; (case hv => exact rfl); (case hk => exact rfl); (case hl => exact rfl); (case hd => decide))
  intro h6 tk9 t3 I6
  (refine wpAny_execs_cons ?_; refine' as_init (by assumption) (by assumption) (pcN _) ?ha ?he ?hp rfl ?hu (Nat.le_of_ble_eq_true rfl) ?_ rfl; (case hp => (refine' Ini.pvName (by assumption) ?hv ?hk ?hl ?hd; (case hv => exact rfl); (case hk => exact rfl); (case hl => exact rfl); (case hd => decide))))
  case ha => exact aN_cln _
  case hu => exact fun _ => rfl
  case he => (refine' Ini.pvName (by assumption) ?hv ?hk ?hl ?hd; (case hv => exact rfl); (case hk => exact rfl); (case hl => exact rfl); (case hd => decide))
  intro h7 tk10 t4 I7
  (refine wpAny_execs_cons ?_; refine' as_init (by assumption) (by assumption) (pcN _) ?ha ?he ?hp rfl ?hu (Nat.le_of_ble_eq_true rfl) ?_ rfl; (case hp => (refine' Ini.pvName (by assumption) ?hv ?hk ?hl ?hd; (case hv => exact rfl); (case hk => exact rfl); (case hl => exact rfl); (case hd => decide))))
  case ha => exact aN_size _
  case hu => exact fun _ => rfl
  case he => exact Pv.nn
  intro h8 tk11 t5 I8
  refine wpAny_execs_nil ⟨rfl, ?_⟩
  have S8 : St 46 182 w g L m st h8 := S'.keep2 (as := [x, dx]) (fun b o n e => I8.F.keep b o (kk b o n e)) fun z hz => by
    rcases List.mem_cons.mp hz with rfl | hz
    · exact ⟨nd _ (Nat.le_of_lt hlt), nx.2⟩
    · rw [List.mem_singleton.mp hz]; exact ⟨nd _ (Nat.le_refl _), ndx.2⟩
  refine q h8 tk11 x dx (fun i => [t0, t1, t2, t3, t4, t5].getD i 0) (nd _ (Nat.le_of_lt hlt)) (nd _ (Nat.le_refl _)) nx.2.2 ndx.2.2 (S8.join (nd _ (Nat.le_of_lt hlt)) (nd _ (Nat.le_refl _)) ne ⟨Nb.none, Nb.none, nk, nv, nc⟩ fun z hz => ?_)
  rcases List.mem_cons.mp hz with rfl | hz
  · exact ⟨(I8.N _ (.head _)).1, nx.2⟩
  · rw [List.mem_singleton.mp hz]; exact ⟨(I8.N _ (.tail _ (.head _))).1, ndx.2⟩
end
section
variable {prog : Program} {w : World} {A : Around} {E : Value → Shared → Prop} {s : Shared} {h : Heap} {tk₀ : Nat} {p : Program} {loose : List Str} {mg mb : Str → Option Value} {h₀ : Heap} {st : LS} {r : Rg}
  {Ky : Type} [DecidableEq Ky] {T' : DT prog w (hd2.heap_39 w.params) Ky} {kvs : List (Ky × Value)} {k : Ky} {D D' : List (Ky × Rg)} {key val : Value}

/-- what an addition leaves of the entries -/
noncomputable def added (V : List (Ky × Value × Value)) (k : Ky) (x : Value × Value) (mx af : Int) : List (Ky × Value × Value) :=
  if mx < ((ins V k x).length : Int) then (ins V k x).take af.toNat else ins V k x

inductive AddHeld {prog : Program} {Ky : Type} [DecidableEq Ky] {K : Frag} {w₀ : World} (T' : DT prog w₀ K Ky) (st st1 : LS) (D : List (Ky × Rg)) (kvs : List (Ky × Value)) (k : Ky) (val : Value) (r : Rg) : Prop
  | mk (D1 D2 : List (Ky × Rg)) (e : D = D1 ++ (k, r) :: D2) (C : Cst T' st1 D kvs) (h : ∀ y, (st1.F y).val = (if y = r.x then val else (st.F y).val) ∧ (st1.F y).cln = (if y = r.x then .none else (st.F y).cln))
structure AddNew {prog : Program} {Ky : Type} [DecidableEq Ky] {K : Frag} {w₀ : World} (T' : DT prog w₀ K Ky) (st st1 : LS) (D : List (Ky × Rg)) (kvs : List (Ky × Value)) (k : Ky) (val : Value) (r : Rg) : Prop where
  nk : k ∉ D.map (·.1)
  C : ∃ o₀, Cst T' { st1 with od := o₀ } D kvs
  hr : r ∈ st1.reg
  nr : ∀ a ∈ D, a.2.x ≠ r.x
  kk : T'.isK k (st1.F r.x).key
  nx : (st1.F r.x).next = .none
  pv : (st1.F r.x).prev = .none
  od : OD T' st1.od (kvs ++ [(k, .ref r.x)])
  v : (st1.F r.x).val = val
  c : (st1.F r.x).cln = .none
  same : ∀ a ∈ D, (st1.F a.2.x).val = (st.F a.2.x).val ∧ (st1.F a.2.x).cln = (st.F a.2.x).cln
/-- after the first part of add: the node is at hand, held already or new -/
inductive AddMid {prog : Program} {Ky : Type} [DecidableEq Ky] {K : Frag} {w₀ : World} (T' : DT prog w₀ K Ky) (w : World) (g : Heap) (L : Addr) (st : LS) (h : Heap) (D : List (Ky × Rg)) (kvs : List (Ky × Value)) (k : Ky) (val : Value) (h' : Heap) : Prop
  | mk (st1 : LS) (r : Rg) (m' : Str → Option Value) (S : St 46 182 w g L m' st1 h') (e1 : m' "self" = some (.ref st.c)) (e2 : m' "node" = some (.ref r.x)) (C : Ctr 46 182 w st st1 h h') (F : FixA st st1) (H : AddHeld T' st st1 D kvs k val r ∨ AddNew T' st st1 D kvs k val r)
/-- after the use of add's node -/
inductive AddUse {prog : Program} {Ky : Type} [DecidableEq Ky] {K : Frag} {w₀ : World} (T' : DT prog w₀ K Ky) (w : World) (g : Heap) (L : Addr) (st : LS) (h : Heap) (D : List (Ky × Rg)) (k : Ky) (val : Value) (m' : Str → Option Value) (h' : Heap) : Prop
  | mk (st2 : LS) (D2 : List (Ky × Rg)) (kvs2 : List (Ky × Value)) (S : St 46 182 w g L m' st2 h') (C : Ctr 46 182 w st st2 h h') (F : FixA st st2) (K2 : Cst T' st2 D2 kvs2) (e : vw st2 D2 = ins (vw st D) k (val, .none))
/-- add(key, value) -/
theorem c_add {Q : Value → Shared → Prop} (B : Base (hd2.heap_39 w.params) p loose mg mb h₀ st h) (R : Rep 46 182 w st h) (hroom : A.depth + 5 < recursionLimit) (hu : A.units + 48 < cLine)
   (C : Cst T' st D kvs) (hk : T'.isK k key) (nv : Nb val) (hz : kvs.length + 1 ≤ 100000) {mx af : Int} {tm ta : Tok} (hmx : st.mx = .int mx tm) (haf : st.af = .int af ta) (ha : 0 ≤ af) (hc : ∀ q ∈ D, (st.F q.2.x).cln = .none)
   (hQ : ∀ h' tk st' D' kvs', Ctr 46 182 w st st' h h' → FixA st st' → Cst T' st' D' kvs' → vw st' D' = added (vw st D) k (val, .none) mx af → Q .none (up s h' tk)) :
   wpAny (model prog w) A (call (.ref 94) [.ref st.c, key, val]) Q E (up s h tk₀) := by
  refine' enter (binds := [("self", Value.ref st.c), ("key", key), ("value", val), ("cleanup", Value.none)]) B R ?ho ?hcd (by omega) ?hb ?hl ?hco ?hgen ?hk ?hcell ?_
  case ho => k_dflt k_is
  case hcd => k_dflt k_is
  case hb => exact binds_K (show (hd2.heap_39 w.params).In h from B.X.keeps B.stays) rfl (by k_dflt k_is) rfl rfl rfl
  case hl => exact locs rfl
  case hco => exact rfl
  case hgen => exact rfl
  case hk => exact rfl
  case hcell => decide
  intro g L h1 tk kk k' X T S
  have hu' : ∀ env, (A.deeper env).units + 8 < cLine := fun env => by simp only [Around.deeper_units]; omega
  refine seqP (P := fun h => h = h1) ?_ ?_
  · refine' if_is ?hpl ?hpr ?hc ?_ ?_ rfl
    case hpl => walk_at "pv"
    case hpr => walk_at "pv"
    case hc => exact isB_plain (T'.nb hk)
    · intro q; exact absurd (eq_of_beq q) (T'.notNone hk)
    · intro _ tk; exact wpAny_execs_nil ⟨rfl, h1, tk, rfl, rfl⟩
  rintro h1 tk1 rfl
  -- held or new
  refine seqP (P := AddMid T' w g L st h D kvs k val) ?_ ?_
  · refine' if_in S X (hu' _) ?hpl ?hpr hk C.od C.ne ?_ ?_ (by with_unfolding_all rfl)
    case hpl => walk_at "pv"
    case hpr => walk_at "pv"
    · intro hin tk2
      have hm : k ∈ D.map (·.1) := by
        by_cases q : k ∈ D.map (·.1)
        · exact q
        · rw [C.notAt q] at hin; cases hin
      obtain ⟨D1, r, D2, rfl⟩ := C.split hm
      have hr : r ∈ st.reg := C.sub (k, r) (List.mem_append_right _ (.head _))
      refine wpAny_execs_cons ?_
      refine' as_name S ?he ?_ rfl rfl rfl
      case he =>
        refine' Pv.item S X (hu' _) ?ho ?hi hk C.od (C.at (List.mem_append_right _ (.head _))) ?hs
        case ho => walk_at "pv"
        case hi => walk_at "pv"
        case hs => with_unfolding_all rfl
      intro h2 tk3 S2
      refine wpAny_execs_cons ?_
      refine' ex_ ?_ rfl rfl
      refine' ev_m0 (f := 43) (x := r.x) ?hpo (S2.ninst hr) (X.keeps S2.F.keep) (pcN _) ?hf ?ht ?hkp rfl ?_ rfl
      case hpo => walk_at "pv"
      ((case hf => k_dflt k_is); (case ht => k_dflt k_is); (case hkp => k_dflt k_is))
      intro tk4
      refine c_runc1 (S2.base X T) S2.rep (by show A.depth + 1 < _; omega) hr (hc _ (List.mem_append_right _ (.head _))) fun h3 tk5 C3 => ?_
      have S3 := S2.after C3
      refine wpAny_execs_cons ?_
      refine' as_node (r := r) S3 X (pcN _) ?he ?hp hr (nVal (aN_value _)) ?hv ?_ rfl
      case he => walk_at "pv"
      case hp => walk_at "pv"
      case hv => exact nv
      intro h4 tk6 S4
      refine wpAny_execs_cons ?_
      refine' as_node (r := r) S4 X (pcN _) ?he ?hp hr (nCln (aN_cln _)) ?hv ?_ rfl
      case he => walk_at "pv"
      case hp => walk_at "pv"
      case hv => exact Nb.none
      intro h5 tk7 S5
      simp only [setF_setF, setF_self] at S5
      refine wpAny_execs_nil ⟨rfl, h5, tk7, rfl, _, r, _, S5, rfl, rfl, S5.back kk fun a ha => .inl ha, ⟨rfl, rfl, rfl, rfl, rfl⟩, .inl ⟨D1, D2, rfl, C.congr fun y => ?_, fun y => ?_⟩⟩
      · show (setF _ _ _ _).prev = _ ∧ (setF _ _ _ _).next = _ ∧ (setF _ _ _ _).key = _
        by_cases hy : y = r.x
        · subst hy; rw [setF_self]; exact ⟨rfl, rfl, rfl⟩
        · rw [setF_ne hy]; exact ⟨rfl, rfl, rfl⟩
      · by_cases hy : y = r.x
        · subst hy; rw [if_pos rfl, if_pos rfl]; show (setF _ _ _ _).val = _ ∧ (setF _ _ _ _).cln = _; rw [setF_self]; exact ⟨rfl, rfl⟩
        · rw [if_neg hy, if_neg hy]; show (setF _ _ _ _).val = _ ∧ (setF _ _ _ _).cln = _; rw [setF_ne hy]; exact ⟨rfl, rfl⟩
    · intro hin tk2
      have hm : k ∉ D.map (·.1) := fun q => by
        obtain ⟨D1, r, D2, rfl⟩ := C.split q
        rw [C.at (List.mem_append_right _ (.head _))] at hin; cases hin
      refine wpAny_execs_cons (wpAny_Assign_Name ?_ rfl)
      refine' ev_make S X T (by show A.depth + 1 + 2 < _; omega) ?he1 ?he2 ?he3 (T'.nb hk) nv Nb.none rfl rfl rfl rfl rfl ?_
      case he1 => walk_at "pv"
      case he2 => walk_at "pv"
      case he3 => walk_at "pv"
      intro h2 tk3 x dx t nx ndx gx gdx S2
      refine store_ (s := up s h2 tk3) S2 (fun h3 tk4 S3 => ?_) rfl rfl
      show wpAny _ _ (execs _ _) _ _ (up s h3 tk4)
      refine wpAny_execs_cons ?_
      refine' as_item S3 X (hu' _) ?he ?ho ?hi hk C.od (by omega) ?_ rfl
      case he => walk_at "pv"
      case ho => walk_at "pv"
      case hi => walk_at "pv"
      intro h4 o' tk5 ho' S4
      have hst : stored kvs k (.ref x) = kvs ++ [(k, .ref x)] := by
        unfold stored
        rw [if_neg]
        rw [List.any_eq_true]
        rintro ⟨kv, hkv, he⟩
        have : k ∈ (D.map row).map (·.1) := (C.perm.map _).mem_iff.mp (List.mem_map.mpr ⟨kv, hkv, of_decide_eq_true he⟩)
        rw [row_keys] at this
        exact hm this
      rw [hst] at ho'
      have ax : ∀ a ∈ D, a.2.x ≠ x := fun a ha e => nx (by
        rw [← e]
        exact List.mem_cons_of_mem _ (List.mem_cons_of_mem _ (List.mem_cons_of_mem _ (List.mem_append_left _ (mem_regAddrs (C.sub a ha)).1))))
      refine wpAny_execs_nil ⟨rfl, h4, tk5, rfl, _, ⟨x, dx, t⟩, _, S4, rfl, rfl, S4.back kk fun a ha => ?_, ⟨rfl, rfl, rfl, rfl, rfl⟩, .inr ⟨hm, ⟨st.od, ?_⟩, .head _, ax, ?_, ?_, ?_, ho', ?_, ?_, fun a ha => ?_⟩⟩
      · have none_of : ∀ z, z ∉ addrs st → g.get? z = none → h.get? z = none := fun z hz gz => by
          cases q : h.get? z with
          | none => rfl
          | some o => rw [kk z o hz q] at gz; cases gz
        simp only [addrs, regAddrs, List.mem_cons, List.cons_append, List.mem_append] at ha ⊢
        rcases ha with ha | ha | ha | rfl | rfl | ha
        · exact .inl (.inl ha)
        · exact .inl (.inr (.inl ha))
        · exact .inl (.inr (.inr (.inl ha)))
        · exact .inr (none_of _ nx gx)
        · exact .inr (none_of _ ndx gdx)
        · exact .inl (.inr (.inr (.inr ha)))
      · refine ⟨fun a ha => .tail _ (C.sub a ha), C.nd, ?_, C.mru, C.lru, fun a ha => ?_, C.od, C.perm, C.ne⟩
        · exact seg_off ax C.seg
        · show T'.isK a.1 (setF st.F x _ a.2.x).key
          rw [setF_ne (ax a ha)]; exact C.key a ha
      · show T'.isK k (setF st.F x _ x).key
        rw [setF_self]; exact hk
      · show (setF st.F x _ x).next = _; rw [setF_self]
      · show (setF st.F x _ x).prev = _; rw [setF_self]
      · show (setF st.F x _ x).val = _; rw [setF_self]
      · show (setF st.F x _ x).cln = _; rw [setF_self]
      · show (setF st.F x _ a.2.x).val = _ ∧ (setF st.F x _ a.2.x).cln = _
        rw [setF_ne (ax a ha)]; exact ⟨rfl, rfl⟩
  rintro h2 tk2 ⟨st1, r, m', S1, e1, e2, C1, F1, H⟩
  have kp : ∀ {z : Addr} {v : Value} {env : Env} {x : Str} {pos : Pos}, True := trivial
  -- the use
  refine seqP (P := AddUse T' w g L st h D k val m') ?_ ?_
  · refine' ex_ ?_ rfl rfl
    refine' ev_m1 (f := 142) (x := st1.c) (v := .ref r.x) ?hpo ?hpe S1.cinst (X.keeps S1.F.keep) (pcL _) ?hf ?ht ?hkp rfl ?_ rfl rfl rfl
    case hpo => exact Pv.eq (v := .ref st.c) (by walk_at "pv") (by rw [F1.c])
    case hpe => walk_at "pv"
    ((case hf => k_dflt k_is); (case ht => k_dflt k_is); (case hkp => k_dflt k_is))
    intro tk3
    rcases H with ⟨D1, D2, rfl, K1, hv⟩ | ⟨hm, ⟨o₀, K1⟩, hr, nr, hkey, hn, hp, ho, hv1, hv2, hv3⟩
    · refine c_hit (S1.base X T) S1.rep (by show A.depth + 1 < _; omega) (by simp only [Around.deeper_units]; omega) K1 fun h3 tk4 st3 C3 F3 K3 e3 => ?_
      refine ⟨rfl, h3, tk4, rfl, st3, _, kvs, S1.after C3, C1.trans C3, F1.trans F3.a, K3, ?_⟩
      have hnd := K1.nd
      rw [List.map_append, List.nodup_append] at hnd
      have hnd2 := hnd.2.1
      rw [List.map_cons, List.nodup_cons] at hnd2
      rw [vw_cons]
      unfold ins
      rw [C.look_hit.2, (e3 r.x).1, (e3 r.x).2.1, (hv r.x).1, (hv r.x).2, if_pos rfl, if_pos rfl]
      refine congrArg _ (vw_congr fun a ha => ?_)
      have hne : a.2.x ≠ r.x := by
        rcases List.mem_append.mp ha with q | q
        · exact hnd.2.2 _ (List.mem_map_of_mem (f := fun q : Ky × Rg => q.2.x) q) _ (.head _)
        · exact fun e => hnd2.1 (by show r.x ∈ _; rw [← e]; exact List.mem_map_of_mem (f := fun q : Ky × Rg => q.2.x) q)
      rw [(e3 a.2.x).1, (e3 a.2.x).2.1, (hv a.2.x).1, (hv a.2.x).2, if_neg hne, if_neg hne]
      exact ⟨rfl, rfl⟩
    · refine c_fresh (S1.base X T) S1.rep (by show A.depth + 1 < _; omega) (by simp only [Around.deeper_units]; omega) K1 hr nr hkey hn hp ho rfl fun h3 tk4 st3 C3 F3 K3 e3 => ?_
      refine ⟨rfl, h3, tk4, rfl, st3, _, _, S1.after C3, C1.trans C3, F1.trans F3.a, K3, ?_⟩
      rw [vw_cons]
      unfold ins
      rw [(C.look_miss hm).2.2, (e3 r.x).1, (e3 r.x).2.1, hv1, hv2]
      refine congrArg _ (vw_congr fun a ha => ?_)
      rw [(e3 a.2.x).1, (e3 a.2.x).2.1]; exact hv3 a ha
  rintro h3 tk3 ⟨st2, D2, kvs2, S2, C2, F2, K2, e3⟩
  have hlen : kvs2.length = (ins (vw st D) k (val, Value.none)).length := by rw [← e3, K2.len]; unfold vw; rw [List.length_map]
  have hz2 : kvs2.length ≤ 100000 := by
    have h1 : (rest (vw st D) k).length ≤ (vw st D).length := List.length_filter_le _ _
    have h2 : (vw st D).length = D.length := by unfold vw; rw [List.length_map]
    have h3 := C.len
    rw [hlen]; show (_ :: rest (vw st D) k).length ≤ _
    rw [List.length_cons]; omega
  refine wpAny_execs_cons ?_
  refine' if_gt (a := (kvs2.length : Int)) (b := mx) (tb := tm) ?hpl ?hpr ?_ ?_ (by with_unfolding_all rfl)
  case hpl =>
    refine PvE.len S2 X ?hfn ?hdd K2.od K2.ne hz2 rfl rfl rfl
    case hfn => refine' Pv.builtin S2 X T ?he rfl ?hn rfl rfl ?hd; (case he => k_dflt k_is); (case hn => decide); (case hd => decide)
    case hdd =>
      refine' Pv.dd S2 X (pcL _) ?hp (aL_cache _) rfl
      case hp => exact Pv.eq (v := .ref st.c) (by walk_at "pv") (by rw [F2.c])
  case hpr =>
    refine Pv.eq (v := st2.mx) ?_ (F2.mx.trans hmx)
    refine' Pv.cache S2 X (pcL _) ?hp (cMx (aL_max _)) rfl
    case hp => exact Pv.eq (v := .ref st.c) (by walk_at "pv") (by rw [F2.c])
  · intro hgt tk4
    refine wpAny_execs_cons ?_
    refine' ex_ ?_ rfl rfl
    refine' ev_m0 (f := 128) (x := st2.c) ?hpo S2.cinst (X.keeps S2.F.keep) (pcL _) ?hf ?ht ?hkp rfl ?_ rfl
    case hpo => exact Pv.eq (v := .ref st.c) (by walk_at "pv") (by rw [F2.c])
    ((case hf => k_dflt k_is); (case ht => k_dflt k_is); (case hkp => k_dflt k_is))
    intro tk5
    have hc2 : ∀ q ∈ D2, (st2.F q.2.x).cln = .none := by
      have all : ∀ e ∈ vw st2 D2, e.2.2 = Value.none := by
        rw [e3]
        intro e he
        rcases List.mem_cons.mp he with rfl | he
        · rfl
        · have he' : e ∈ vw st D := (List.mem_filter.mp he).1
          obtain ⟨a, ha, rfl⟩ := List.mem_map.mp he'
          exact hc a ha
      exact fun q hq => all _ (List.mem_map.mpr ⟨q, hq, rfl⟩)
    refine c_cleanup (S2.base X T) S2.rep (by show A.depth + 1 + 3 < _; omega) (by simp only [Around.deeper_units]; omega) K2 hz2 (F2.af.trans haf) ha hc2 fun h4 tk6 st4 kvs4 C4 F4 K4 e4 => ?_
    have S4 := S2.after C4
    refine wpAny_execs_nil (wpAny_execs_nil (hQ h4 tk6 st4 _ kvs4 (S4.back kk (C2.trans C4).fresh) (F2.trans F4.a) K4 ?_))
    unfold added
    rw [if_pos (by rw [← hlen]; exact hgt), e4, ← e3]
    unfold vw
    rw [List.map_take]
  · intro hgt tk4
    refine wpAny_execs_nil (wpAny_execs_nil (hQ h3 tk4 st2 _ kvs2 (S2.back kk C2.fresh) F2 K2 ?_))
    unfold added
    rw [if_neg (by rw [← hlen]; exact hgt), e3]
end
section
variable {prog : Program} {w : World} {A : Around} {E : Value → Shared → Prop} {s : Shared} {h : Heap} {tk₀ : Nat} {p : Program} {loose : List Str} {mg mb : Str → Option Value} {h₀ : Heap} {st : LS} {r : Rg}
  {Ky : Type} [DecidableEq Ky] {T' : DT prog w (hd2.heap_39 w.params) Ky} {kvs : List (Ky × Value)} {k : Ky} {D D' : List (Ky × Rg)} {key val : Value}

theorem Cst.isSome (C : Cst T' st D kvs) : (valueAt kvs k).isSome = (look (vw st D) k).isSome := by
  by_cases hm : k ∈ D.map (·.1)
  · obtain ⟨D1, r, D2, rfl⟩ := C.split hm
    rw [C.at (k := k) (r := r) (List.mem_append_right _ (.head _)), C.look_hit.1]; rfl
  · rw [C.notAt hm, (C.look_miss hm).1]; rfl

/-- key in cache -/
theorem c_in {Q : Value → Shared → Prop} (B : Base (hd2.heap_39 w.params) p loose mg mb h₀ st h) (R : Rep 46 182 w st h) (hroom : A.depth < recursionLimit) (hu : A.units + 16 < cLine)
   (C : Cst T' st D kvs) (hk : T'.isK k key)
   (hQ : ∀ h' tk, Ctr 46 182 w st st h h' → Q (.bool (look (vw st D) k).isSome) (up s h' tk)) :
   wpAny (model prog w) A (call (.ref 72) [.ref st.c, key]) Q E (up s h tk₀) := by
  refine' enter (binds := [("self", Value.ref st.c), ("key", key)]) B R ?ho ?hcd (by omega) ?hb ?hl ?hco ?hgen ?hk ?hcell ?_
  ((case ho => k_dflt k_is); (case hcd => k_dflt k_is); (case hb => exact BindsTo.of_eq rfl); (case hl => exact locs rfl); (case hco => exact rfl); (case hgen => exact rfl); (case hk => exact rfl); (case hcell => decide))
  intro g L h1 tk kk k' X T S
  have hu' : ∀ env, (A.deeper env).units + 8 < cLine := fun env => by simp only [Around.deeper_units]; omega
  refine wpAny_execs_cons ?_
  refine' ret_ ?hp ?_
  case hp =>
    refine' Pv.isIn S X (hu' _) ?hl ?hr hk C.od C.ne (by with_unfolding_all rfl)
    case hl => walk_at "pv"
    case hr => walk_at "pv"
  intro tk2
  show Q (.bool (valueAt kvs k).isSome) _
  rw [C.isSome]
  exact hQ _ _ (S.back kk fun a ha => .inl ha)
/-- len(cache) -/
theorem c_len {Q : Value → Shared → Prop} (B : Base (hd2.heap_39 w.params) p loose mg mb h₀ st h) (R : Rep 46 182 w st h) (hroom : A.depth < recursionLimit) (hu : A.units + 16 < cLine)
   (C : Cst T' st D kvs) (hz : kvs.length ≤ 100000)
   (hQ : ∀ h' tk t, Ctr 46 182 w st st h h' → Q (.int D.length t) (up s h' tk)) :
   wpAny (model prog w) A (call (.ref 86) [.ref st.c]) Q E (up s h tk₀) := by
  refine' enter (binds := [("self", Value.ref st.c)]) B R ?ho ?hcd (by omega) ?hb ?hl ?hco ?hgen ?hk ?hcell ?_
  ((case ho => k_dflt k_is); (case hcd => k_dflt k_is); (case hb => exact BindsTo.of_eq rfl); (case hl => exact locs rfl); (case hco => exact rfl); (case hgen => exact rfl); (case hk => exact rfl); (case hcell => decide))
  intro g L h1 tk kk k' X T S
  refine wpAny_execs_cons ?_
  refine' ret_E (P := fun v => ∃ t, v = .int kvs.length t) ?hp ?_
  case hp =>
    refine PvE.len S X ?hfn ?hdd C.od C.ne hz rfl rfl rfl
    case hfn => refine' Pv.builtin S X T ?he rfl ?hn rfl rfl ?hd; (case he => k_dflt k_is); (case hn => decide); (case hd => decide)
    case hdd => walk_at "pv"
  rintro v tk2 ⟨t, rfl⟩
  show Q (.int (kvs.length : Nat) t) _
  rw [C.len]
  exact hQ _ _ _ (S.back kk fun a ha => .inl ha)
/-- cache_size() -/
theorem c_size {Q : Value → Shared → Prop} (B : Base (hd2.heap_39 w.params) p loose mg mb h₀ st h) (R : Rep 46 182 w st h) (hroom : A.depth < recursionLimit)
   (hQ : ∀ h' tk, Ctr 46 182 w st st h h' → Q st.mx (up s h' tk)) :
   wpAny (model prog w) A (call (.ref 101) [.ref st.c]) Q E (up s h tk₀) := by
  refine' enter (binds := [("self", Value.ref st.c)]) B R ?ho ?hcd (by omega) ?hb ?hl ?hco ?hgen ?hk ?hcell ?_
  ((case ho => k_dflt k_is); (case hcd => k_dflt k_is); (case hb => exact BindsTo.of_eq rfl); (case hl => exact locs rfl); (case hco => exact rfl); (case hgen => exact rfl); (case hk => exact rfl); (case hcell => decide))
  intro g L h1 tk kk k' X T S
  refine wpAny_execs_cons ?_
  refine' ret_ ?hp ?_
  case hp => walk_at "pv"
  intro tk2
  exact hQ _ _ (S.back kk fun a ha => .inl ha)

/-- what a resize leaves -/
structure FixR (st st' : LS) : Prop where
  c : st'.c = st.c
  dd : st'.dd = st.dd
  reg : st'.reg = st.reg
  ex : st'.ex = st.ex
/-- _update_max_cache(n) -/
theorem c_upd {Q : Value → Shared → Prop} (B : Base (hd2.heap_39 w.params) p loose mg mb h₀ st h) (R : Rep 46 182 w st h) (hroom : A.depth + 4 < recursionLimit) (hu : A.units + 40 < cLine)
   (C : Cst T' st D kvs) (hz : kvs.length ≤ 100000) {n : Int} {tn : Tok} (hn0 : 0 ≤ n) (hn1 : n < 1000000) (hc : ∀ q ∈ D, (st.F q.2.x).cln = .none)
   (hQ : ∀ h' tk st' kvs', Ctr 46 182 w st st' h h' → FixR st st' → st'.mx = .int n tn → IsI ((n * 8).fdiv 10) st'.af → Cst T' st' (D.take ((n * 8).fdiv 10).toNat) kvs' → vw st' (D.take ((n * 8).fdiv 10).toNat) = vw st (D.take ((n * 8).fdiv 10).toNat) → Q .none (up s h' tk)) :
   wpAny (model prog w) A (call (.ref 179) [.ref st.c, .int n tn] [("after_cleanup_count", .none)]) Q E (up s h tk₀) := by
  refine' enter (binds := [("self", Value.ref st.c), ("max_cache", .int n tn), ("after_cleanup_count", .none)]) B R ?ho ?hcd (by omega) ?hb ?hl ?hco ?hgen ?hk ?hcell ?_
  case ho => k_dflt k_is
  case hcd => k_dflt k_is
  case hb => exact binds_K (show (hd2.heap_39 w.params).In h from B.X.keeps B.stays) rfl (by k_dflt k_is) rfl rfl rfl
  case hl => exact locs rfl
  case hco => exact rfl
  case hgen => exact rfl
  case hk => exact rfl
  case hcell => decide
  intro g L h1 tk kk k' X T S
  (refine wpAny_execs_cons ?_; refine' as_cache (by assumption) (by assumption) (pcL _) ?he ?hp ?hn ?hv ?_ rfl; (case he => walk_at "pv"); (case hp => walk_at "pv"); (case hn => walk_at "CF"))
  case hv => exact Nb.int
  intro h2 tk2 S2
  refine seqP (P := fun h' => ∃ st1, St 46 182 w g L (fun y => List.lookup y ([("self", Value.ref st.c), ("max_cache", .int n tn), ("after_cleanup_count", .none)] : List (Str × Value)).reverse) st1 h' ∧ FixR st st1 ∧ st1.mx = .int n tn ∧ IsI ((n * 8).fdiv 10) st1.af ∧ st1.c = st.c ∧ Cst T' st1 D kvs ∧ (∀ D : List (Ky × Rg), vw st1 D = vw st D) ∧ (∀ q, st1.F q = st.F q) ∧ addrs st1 = addrs st) ?_ ?_
  · refine' if_is ?hpl ?hpr ?hc ?_ ?_ rfl
    case hpl => walk_at "pv"
    case hpr => walk_at "pv"
    case hc => exact isB_none
    · intro _ tk3
      refine wpAny_execs_cons ?_
      refine' as_cacheE (P := IsI ((n * 8).fdiv 10)) S2 X (pcL _) ?he ?hp (cAf (aL_after _)) (fun v hv => hv.nb) ?_ rfl
      case he =>
        refine PvI.fdiv (PvI.mul (PvI.of (t := tn) ?hm) PvI.const ?hmul) PvI.const (by decide) (by decide)
        case hm => (refine' Pv.eq ?x ?y; (case x => walk_at "pv"); (case y => rfl))
        case hmul => exact IntMulOk.of_right (by decide)
      case hp => walk_at "pv"
      intro v hv h3 tk4 S3
      exact wpAny_execs_nil ⟨rfl, h3, tk4, rfl, _, S3, ⟨rfl, rfl, rfl, rfl⟩, rfl, hv, rfl, ⟨C.sub, C.nd, C.seg, C.mru, C.lru, C.key, C.od, C.perm, C.ne⟩, fun _ => rfl, fun _ => rfl, rfl⟩
    · intro q; cases q
  rintro h3 tk3 ⟨st1, S3, FR, e1, e2, e3, C3, e4, e5, e6⟩
  obtain ⟨ta, hta⟩ := e2
  refine wpAny_execs_cons ?_
  refine' ex_ ?_ rfl rfl
  refine' ev_m0 (f := 128) (x := st1.c) ?hpo S3.cinst (X.keeps S3.F.keep) (pcL _) ?hf ?ht ?hkp rfl ?_ rfl
  case hpo => exact Pv.eq (v := .ref st.c) (by walk_at "pv") (by rw [e3])
  ((case hf => k_dflt k_is); (case ht => k_dflt k_is); (case hkp => k_dflt k_is))
  intro tk4
  have ha : 0 ≤ (n * 8).fdiv 10 := Int.fdiv_nonneg (by omega) (by decide)
  refine c_cleanup (S3.base X T) S3.rep (by show A.depth + 1 + 3 < _; omega) (by simp only [Around.deeper_units]; omega) C3 hz hta ha (fun q hq => by rw [e5]; exact hc q hq) fun h4 tk5 st4 kvs4 C4 F4 K4 e7 => ?_
  have S4 := S3.after C4
  refine wpAny_execs_nil (hQ h4 tk5 st4 kvs4 (S4.back kk fun a ha => ?_) ⟨F4.c.trans FR.c, F4.dd.trans FR.dd, F4.reg.trans FR.reg, F4.ex.trans FR.ex⟩ (F4.mx.trans e1) ⟨ta, F4.af.trans hta⟩ K4 (e7.trans (e4 _)))
  rcases C4.fresh a ha with q | q
  · exact .inl (e6 ▸ q)
  · by_cases hm : a ∈ addrs st
    · exact .inl hm
    · refine .inr ?_
      cases z : h.get? a with
      | none => rfl
      | some o => rw [S3.F.keep a o (kk a o hm z)] at q; cases q
/-- resize(n) -/
theorem c_resize {Q : Value → Shared → Prop} (B : Base (hd2.heap_39 w.params) p loose mg mb h₀ st h) (R : Rep 46 182 w st h) (hroom : A.depth + 5 < recursionLimit) (hu : A.units + 48 < cLine)
   (C : Cst T' st D kvs) (hz : kvs.length ≤ 100000) {n : Int} {tn : Tok} (hn0 : 0 ≤ n) (hn1 : n < 1000000) (hc : ∀ q ∈ D, (st.F q.2.x).cln = .none)
   (hQ : ∀ h' tk st' kvs', Ctr 46 182 w st st' h h' → FixR st st' → st'.mx = .int n tn → IsI ((n * 8).fdiv 10) st'.af → Cst T' st' (D.take ((n * 8).fdiv 10).toNat) kvs' → vw st' (D.take ((n * 8).fdiv 10).toNat) = vw st (D.take ((n * 8).fdiv 10).toNat) → Q .none (up s h' tk)) :
   wpAny (model prog w) A (call (.ref 171) [.ref st.c, .int n tn]) Q E (up s h tk₀) := by
  refine' enter (binds := [("self", Value.ref st.c), ("max_cache", .int n tn), ("after_cleanup_count", .none)]) B R ?ho ?hcd (by omega) ?hb ?hl ?hco ?hgen ?hk ?hcell ?_
  case ho => k_dflt k_is
  case hcd => k_dflt k_is
  case hb => exact binds_K (show (hd2.heap_39 w.params).In h from B.X.keeps B.stays) rfl (by k_dflt k_is) rfl rfl rfl
  case hl => exact locs rfl
  case hco => exact rfl
  case hgen => exact rfl
  case hk => exact rfl
  case hcell => decide
  intro g L h1 tk kk k' X T S
  refine wpAny_execs_cons ?_
  refine' ex_ ?_ rfl rfl
  refine' ev_mk1 (f := 179) (x := st.c) (v := .int n tn) (v2 := .none) ?hpo ?hp1 ?hp2 S.cinst (X.keeps S.F.keep) (pcL _) ?hf ?ht ?hkp rfl ?_ rfl rfl rfl rfl
  case hpo => walk_at "pv"
  case hp1 => walk_at "pv"
  case hp2 => walk_at "pv"
  ((case hf => k_dflt k_is); (case ht => k_dflt k_is); (case hkp => k_dflt k_is))
  intro tk2
  refine c_upd (S.base X T) S.rep (by show A.depth + 1 + 4 < _; omega) (by simp only [Around.deeper_units]; omega) C hz hn0 hn1 hc fun h4 tk5 st4 kvs4 C4 F4 e1 e2 K4 e7 => ?_
  have S4 := S.after C4
  exact wpAny_execs_nil (hQ h4 tk5 st4 kvs4 (S.back2 kk S4 C4) F4 e1 e2 K4 e7)
end
section
variable {prog : Program} {w : World} {A : Around} {E : Value → Shared → Prop} {s : Shared} {g h : Heap} {L : Addr} {m : Str → Option Value} {tk tk₀ : Nat} {p : Program} {loose : List Str} {mg mb : Str → Option Value} {h₀ : Heap} {st : LS} {r : Rg}
  {Ky : Type} [DecidableEq Ky] {T' : DT prog w (hd2.heap_39 w.params) Ky} {pos : List Value}

/-- LRUCache(n) -/
theorem c_new {Q : Value → Shared → Prop} {n : Int} {tn : Tok} (F : Fr g L h m) (X : (hd2.heap_39 w.params).In g) (T : TopRead p loose mg mb g) (hroom : A.depth + 6 < recursionLimit) (hu : A.units + 40 < cLine)
   (hpos : pos = [.int n tn] ∨ (pos = [] ∧ n = 100 ∧ tn = 252)) (hn0 : 0 ≤ n) (hn1 : n < 1000000)
   (hQ : ∀ h' tk st, St 46 182 w g L m st h' → Cst T' st [] [] → st.ex = [] → st.mx = .int n tn → IsI ((n * 8).fdiv 10) st.af → Q (.ref st.c) (up s h' tk)) :
   wpAny (model prog w) A (call (.ref 182) pos []) Q E (up s h tk₀) := by
  refine call_cls (s := up s h tk₀) (news := []) F X (fun q hq => nomatch hq) (by k_dflt k_is) (by k_dflt k_is) (by k_dflt k_is) fun x dx h' F' N' hd hlt => ?_
  have ne : x ≠ dx := fun e => Nat.lt_irrefl dx (e ▸ hlt)
  refine' enterN (s := s) (h := h') (tk₀ := tk₀) (l := [(x, instObj 182 dx), (dx, dictOf [] 0)]) (binds := [("self", Value.ref x), ("max_cache", .int n tn), ("after_cleanup_count", .none)]) X T F'.keep ?hl0 ?ho ?hcd ?hroom ?hb ?hl ?hco ?hgen ?hk ?hcell ?_
  case hl0 => exact fun q hq => ⟨(N' q hq).1, (N' q hq).2.2⟩
  case ho => k_dflt k_is
  case hcd => k_dflt k_is
  case hroom => show A.depth + 1 < _; omega
  case hb =>
    rcases hpos with rfl | ⟨rfl, rfl, rfl⟩
    · exact binds_K (show (hd2.heap_39 w.params).In h' from X.keeps F'.keep) rfl (by k_dflt k_is) rfl rfl rfl
    · exact binds_K (show (hd2.heap_39 w.params).In h' from X.keeps F'.keep) rfl (by k_dflt k_is) rfl rfl rfl
  case hl => exact locs rfl
  case hco => exact rfl
  case hgen => exact rfl
  case hk => exact rfl
  case hcell => decide
  intro g2 L2 h2 tk5 kk X2 T2 F2 N3
  have I2 : IniX 182 g2 L2 (fun y => List.lookup y ([("self", Value.ref x), ("max_cache", .int n tn), ("after_cleanup_count", .none)] : List (Str × Value)).reverse) x dx [] 0 [] h2 := ⟨F2, N3, ne, fun q hq => nomatch hq⟩
  refine wpAny_execs_cons ?_
  refine' as_iniD I2 X2 (pcL _) ?ha ?hp rfl ?hu (Nat.le_of_ble_eq_true rfl) ?_ rfl
  case hp => intro h I; (refine' IniX.pvName (by assumption) ?hv ?hk ?hl ?hd; (case hv => exact rfl); (case hk => exact rfl); (case hl => exact rfl); (case hd => decide))
  case ha => exact aL_cache _
  case hu => exact fun _ _ => rfl
  intro h3 tk6 t0 dd ddL0 I3
  have c1 : g2.get? dd = none := (I3.N _ (.tail _ (.tail _ (.head _)))).2.2
  refine wpAny_execs_cons ?_
  refine' as_iniX I3 X2 (pcL _) ?ha ?he ?hp rfl ?hu (Nat.le_of_ble_eq_true rfl) ?_ rfl
  case hp => (refine' IniX.pvName (by assumption) ?hv ?hk ?hl ?hd; (case hv => exact rfl); (case hk => exact rfl); (case hl => exact rfl); (case hd => decide))
  case ha => exact aL_mru _
  case hu => exact fun _ => rfl
  case he => exact Pv.nn
  intro h4 tk7 t1 I4
  refine wpAny_execs_cons ?_
  refine' as_iniX I4 X2 (pcL _) ?ha ?he ?hp rfl ?hu (Nat.le_of_ble_eq_true rfl) ?_ rfl
  case hp => (refine' IniX.pvName (by assumption) ?hv ?hk ?hl ?hd; (case hv => exact rfl); (case hk => exact rfl); (case hl => exact rfl); (case hd => decide))
  case ha => exact aL_lru _
  case hu => exact fun _ => rfl
  case he => exact Pv.nn
  intro h5 tk8 t2 I5
  refine wpAny_execs_cons ?_
  refine' ex_ ?_ rfl rfl
  refine' ev_m2 (f := 179) (x := x) (v := .int n tn) (v2 := .none) ?hpo ?hp1 ?hp2 (W.InstAt.of_news I5.N (.head _) (.tail _ (.head _))) (X2.keeps I5.F.keep) (pcL _) ?hf ?ht ?hkp rfl ?_ rfl rfl rfl rfl
  case hpo => (refine' IniX.pvName (by assumption) ?hv ?hk ?hl ?hd; (case hv => exact rfl); (case hk => exact rfl); (case hl => exact rfl); (case hd => decide))
  case hp1 => (refine' IniX.pvName (by assumption) ?hv ?hk ?hl ?hd; (case hv => exact rfl); (case hk => exact rfl); (case hl => exact rfl); (case hd => decide))
  case hp2 => (refine' IniX.pvName (by assumption) ?hv ?hk ?hl ?hd; (case hv => exact rfl); (case hk => exact rfl); (case hl => exact rfl); (case hd => decide))
  ((case hf => k_dflt k_is); (case ht => k_dflt k_is); (case hkp => k_dflt k_is))
  intro tk9
  refine wpAny_call ?_
  refine' enterN (s := s) (h := h5) (tk₀ := tk9) (h₀ := g2) (binds := [("self", Value.ref x), ("max_cache", .int n tn), ("after_cleanup_count", .none)]) X2 T2 I5.F.keep (fun q hq => ⟨(I5.N q hq).1, (I5.N q hq).2.2⟩) ?ho ?hcd ?hroom ?hb ?hl ?hco ?hgen ?hk ?hcell ?_
  case ho => k_dflt k_is
  case hcd => k_dflt k_is
  case hroom => show A.depth + 1 + 1 < _; omega
  case hb => exact binds_K (show (hd2.heap_39 w.params).In h5 from X2.keeps I5.F.keep) rfl (by k_dflt k_is) rfl rfl rfl
  case hl => exact locs rfl
  case hco => exact rfl
  case hgen => exact rfl
  case hk => exact rfl
  case hcell => decide
  intro g6 L6 h6 tk10 kk6 X6 T6 F6 N6
  have I6 : IniX 182 g6 L6 (fun y => List.lookup y ([("self", Value.ref x), ("max_cache", .int n tn), ("after_cleanup_count", .none)] : List (Str × Value)).reverse) x dx _ _ [(dd, dictOf [] 0)] h6 := ⟨F6, N6, ne, I5.off⟩
  refine wpAny_execs_cons ?_
  refine' as_iniX I6 X6 (pcL _) ?ha ?he ?hp rfl ?hu (Nat.le_of_ble_eq_true rfl) ?_ rfl
  case hp => (refine' IniX.pvName (by assumption) ?hv ?hk ?hl ?hd; (case hv => exact rfl); (case hk => exact rfl); (case hl => exact rfl); (case hd => decide))
  case ha => exact aL_max _
  case hu => exact fun _ => rfl
  case he => (refine' IniX.pvName (by assumption) ?hv ?hk ?hl ?hd; (case hv => exact rfl); (case hk => exact rfl); (case hl => exact rfl); (case hd => decide))
  intro h7 tk11 t3 I7
  refine seqP (P := fun h' => ∃ v t4, IsI ((n * 8).fdiv 10) v ∧ IniX 182 g6 L6 (fun y => List.lookup y ([("self", Value.ref x), ("max_cache", .int n tn), ("after_cleanup_count", .none)] : List (Str × Value)).reverse) x dx (cacheEs w.params (fun i => [t0, t1, t2, t3, t4].getD i 0) dd .none .none (.int n tn) v) 5 [(dd, dictOf [] 0)] h') ?_ ?_
  · refine' if_is ?hpl ?hpr ?hc ?_ ?_ rfl
    case hpl => (refine' IniX.pvName (by assumption) ?hv ?hk ?hl ?hd; (case hv => exact rfl); (case hk => exact rfl); (case hl => exact rfl); (case hd => decide))
    case hpr => exact Pv.nn
    case hc => exact isB_none
    · intro _ tk12
      refine wpAny_execs_cons ?_
      refine' as_iniE (P := IsI ((n * 8).fdiv 10)) I7 X6 (pcL _) ?ha ?he ?hp rfl ?hu (Nat.le_of_ble_eq_true rfl) ?_ rfl
      case hp => (refine' IniX.pvName (by assumption) ?hv ?hk ?hl ?hd; (case hv => exact rfl); (case hk => exact rfl); (case hl => exact rfl); (case hd => decide))
      case ha => exact aL_after _
      case hu => exact fun _ _ => rfl
      case he =>
        refine PvI.fdiv (PvI.mul (PvI.of (t := tn) ?hm) PvI.const ?hmul) PvI.const (by decide) (by decide)
        case hm =>
          refine IniX.attr I7 X6 (pcL _) ?hp1 (aL_max _) rfl Nb.int rfl
          case hp1 => (refine' IniX.pvName (by assumption) ?hv ?hk ?hl ?hd; (case hv => exact rfl); (case hk => exact rfl); (case hl => exact rfl); (case hd => decide))
        case hmul => exact IntMulOk.of_right (by decide)
      intro v hv h8 tk13 t4 I8
      exact wpAny_execs_nil ⟨rfl, h8, tk13, rfl, v, t4, hv, I8⟩
    · intro q; cases q
  rintro h8 tk12 ⟨v, t4, ⟨ta, rfl⟩, I8⟩
  obtain ⟨st, rfl⟩ : ∃ st : LS, st = ⟨x, dx, dd, fun i => [t0, t1, t2, t3, t4].getD i 0, .none, .none, .int n tn, .int ((n * 8).fdiv 10) ta, dictOf [] 0, [], fun _ => ⟨.none, .none, .none, .none, .none⟩, []⟩ := ⟨_, rfl⟩
  have off := I8.off (dd, dictOf [] 0) (.head _)
  have gx := (N' (x, instObj 182 dx) (.head _)).2
  have gdx := (N' (dx, dictOf [] 0) (.tail _ (.head _))).2
  have up2 : ∀ b o, b ∉ [x, dx] → h'.get? b = some o → g2.get? b = some o := fun b o hb e => kk b o hb e
  have up6 : ∀ b o, b ∉ [x, dx] → h'.get? b = some o → g6.get? b = some o := fun b o hb e => kk6 b o (fun q => by
    simp only [List.map_cons, List.map_nil, List.mem_cons, List.not_mem_nil, or_false, not_or] at q hb
    rcases q with q | q | q
    · exact hb.1 q
    · exact hb.2 q
    · have := up2 b o (by simpa using hb) e
      rw [q, c1] at this; cases this) (I5.F.keep b o (up2 b o hb e))
  have nIn : ∀ b o, g.get? b = some o → b ∉ [x, dx] := fun b o e q => by
    simp only [List.mem_cons, List.not_mem_nil, or_false] at q
    rcases q with q | q
    · rw [q, gx.2] at e; cases e
    · rw [q, gdx.2] at e; cases e
  have gdd : g.get? dd = none := by
    cases e : g.get? dd with
    | none => rfl
    | some o => have := up2 dd o (nIn dd o e) (F'.keep dd o e); rw [c1] at this; cases this
  have nL : L ∉ [x, dx] := by simp only [List.mem_cons, List.not_mem_nil, or_false, not_or]; exact ⟨Ne.symm gx.1, Ne.symm gdx.1⟩
  obtain ⟨oL, esL, epL, hoL, rL⟩ := F'.ns
  have ddL : dd ≠ L := fun e => by have := up2 L oL nL hoL; rw [← e, c1] at this; cases this
  have S8 : St 46 182 w g6 L6 (fun y => List.lookup y ([("self", Value.ref x), ("max_cache", .int n tn), ("after_cleanup_count", .none)] : List (Str × Value)).reverse) ⟨x, dx, dd, fun i => [t0, t1, t2, t3, t4].getD i 0, .none, .none, .int n tn, .int ((n * 8).fdiv 10) ta, dictOf [] 0, [], fun _ => ⟨.none, .none, .none, .none, .none⟩, []⟩ h8 :=
    ⟨I8.F, I8.N, by
      show [x, dx, dd].Nodup
      simp only [List.nodup_cons, List.mem_cons, List.not_mem_nil, or_false, not_or, not_false_eq_true, List.nodup_nil, and_true]
      exact ⟨⟨ne, Ne.symm off.2⟩, Ne.symm off.1⟩, ⟨fun _ => ⟨Nb.none, Nb.none, Nb.none, Nb.none, Nb.none⟩, Nb.none, Nb.none, Nb.int, Nb.int⟩⟩
  generalize hst : (⟨x, dx, dd, fun i => [t0, t1, t2, t3, t4].getD i 0, .none, .none, .int n tn, .int ((n * 8).fdiv 10) ta, dictOf [] 0, [], fun _ => ⟨.none, .none, .none, .none, .none⟩, []⟩ : LS) = st at S8
  have ec : st.c = x := by rw [← hst]
  have edd : st.dd = dd := by rw [← hst]
  have C0 : Cst T' st [] [] := by
    rw [← hst]
    exact ⟨fun a ha => (by cases ha), List.nodup_nil, trivial, rfl, rfl, fun a ha => (by cases ha), OD.new, List.Perm.nil, beq_eq_false_iff_ne.mpr (Nat.ne_of_gt (Nat.lt_trans (Nat.lt_of_lt_of_le (modules_low T2.nolimit) F2.above) ddL0))⟩
  refine wpAny_execs_cons ?_
  refine' ex_ ?_ rfl rfl
  refine' ev_m0 (f := 128) (x := st.c) ?hpo S8.cinst (X6.keeps S8.F.keep) (pcL _) ?hf ?ht ?hkp rfl ?_ rfl
  case hpo => exact Pv.eq (v := .ref x) (by walk_at "pv") (by rw [ec])
  ((case hf => k_dflt k_is); (case ht => k_dflt k_is); (case hkp => k_dflt k_is))
  intro tk14
  have ha : 0 ≤ (n * 8).fdiv 10 := Int.fdiv_nonneg (by omega) (by decide)
  refine c_cleanup (S8.base X6 T6) S8.rep (by show A.depth + 1 + 1 + 1 + 3 < _; omega) (by simp only [Around.deeper_units]; rw [show (A.under (.builtin "type.__call__" ⟨.ref 182 :: pos, []⟩)).units = A.units + 1 from rfl]; omega) C0 (Nat.zero_le _) (by rw [← hst]) ha (fun q hq => by cases hq) fun h4 tk5 st4 kvs4 C4 F4 K4 e7 => ?_
  have S4 := S8.after C4
  refine wpAny_execs_nil ?_
  have fr : ∀ a ∈ addrs st4, a ≠ L ∧ g.get? a = none := fun a ha => by
    rcases C4.fresh a ha with q | q
    · rw [← hst] at q
      have q : a ∈ [x, dx, dd] := q
      simp only [List.mem_cons, List.not_mem_nil, or_false] at q
      rcases q with rfl | rfl | rfl
      · exact gx
      · exact gdx
      · exact ⟨ddL, gdd⟩
    · refine ⟨fun e => ?_, ?_⟩
      · rw [e, S8.F.keep L oL (up6 L oL nL hoL)] at q; cases q
      · cases z : g.get? a with
        | none => rfl
        | some o => rw [S8.F.keep a o (up6 a o (nIn a o z) (F'.keep a o z))] at q; cases q
  have ec4 : st4.c = x := F4.c.trans ec
  have SF : St 46 182 w g L m st4 h4 := ⟨⟨⟨oL, esL, epL, S4.F.keep L oL (up6 L oL nL hoL), rL⟩, fun b o e => S4.F.keep b o (up6 b o (nIn b o e) (F'.keep b o e)), F'.above⟩, fun q hq => ⟨(S4.N q hq).1, fr q.1 (by rw [← ledger_addrs 46 182 w.params]; exact List.mem_map_of_mem hq)⟩, S4.wf, S4.ok⟩
  have fin := hQ h4 tk5 st4 SF (by have e : kvs4 = [] := List.length_eq_zero_iff.mp (K4.len.trans (by simp)); rw [e] at K4; simpa using K4) (F4.ex.trans (by rw [← hst])) (F4.mx.trans (by rw [← hst])) ⟨ta, F4.af.trans (by rw [← hst])⟩
  rw [ec4] at fin
  exact wpAny_execs_nil ⟨rfl, fin⟩
end
section
variable {prog : Program} {w : World} {A : Around} {E : Value → Shared → Prop} {s : Shared} {h : Heap} {tk₀ : Nat} {p : Program} {loose : List Str} {mg mb : Str → Option Value} {h₀ : Heap} {st : LS} {r : Rg}
  {kvs : List (Int × Value)} {D : List (Int × Rg)}

/-- cache.items() -/
theorem c_items {Q : Value → Shared → Prop} (B : Base (hd2.heap_39 w.params) p loose mg mb h₀ st h) (R : Rep 46 182 w st h) (hroom : A.depth < recursionLimit) (hu : A.units + 16 < cLine) (hh : A.handled = none)
   (C : Cst (TI prog w (hd2.heap_39 w.params)) st D kvs) (hz : kvs.length ≤ 100000)
   (hQ : ∀ h' tk a o', Ctr 46 182 w st st h h' → (a == sysModules) = false → h.get? a = none → h'.get? a = some o' → OD (TI prog w (hd2.heap_39 w.params)) o' (kvs.map fun kv => (kv.1, nodeVal st kv.2)) → Q (.ref a) (up s h' tk)) :
   wpAny (model prog w) A (call (.ref 121) [.ref st.c]) Q E (up s h tk₀) := by
  refine' enter (binds := [("self", Value.ref st.c)]) B R ?ho ?hcd (by omega) ?hb ?hl ?hco ?hgen ?hk ?hcell ?_
  ((case ho => k_dflt k_is); (case hcd => k_dflt k_is); (case hb => exact BindsTo.of_eq rfl); (case hl => exact locs rfl); (case hco => exact rfl); (case hgen => exact rfl); (case hk => exact rfl); (case hcell => decide))
  intro g L h1 tk kk k' X T S
  refine wpAny_execs_cons (wpAny_Return_some ?_)
  refine' comp_items S X (pcN _) (aN_value _) C hh (by simp only [Around.deeper_units]; omega) hz ?hiter (by rfl) ?hcell ?hkind ?hnames ?hxa ?hxb ?hab ?hd1 ?hd2 ?hs ?hsh ?_
  case hiter =>
    intro Q q
    refine MethodCall_ (Pv.at (by walk_at "pv") fun tk => ?_) rfl
    refine C.od.method PySem.F.slot_dict_items PySem.F.type_dict_items (s := up s h1 tk) S.dget ?_
    refine callWith_method0 ?_
    have hD : (up s h1 tk).heap.DictOf (intKind prog w) st.dd kvs := by
      obtain ⟨ep, hat⟩ := C.od.dictAt S.dget
      exact hat.dictOf
    exact call_meetsIn PySem.F.slot_dict_items hD.typeIs PySem.F.entry_dict_items (PySem.F.args_dict_items_1 _) (meets_dict_items _ _ C.ne) ⟨⟨kvs, hD⟩, q _ _ _ Grow.push ⟨_, Heap.get?_push_size _ rfl, rfl, rfl⟩⟩
  case hcell => decide
  case hkind => exact rfl
  case hnames => decide
  case hxa => exact rfl
  case hxb => exact rfl
  case hab => decide
  case hd1 => decide
  case hd2 => decide
  case hs => intro _; rfl
  case hsh => intro env; rfl
  intro h' tk2 a o' G La ha ho' hod
  have S' := S.grow G
  refine hQ h' tk2 a o' (S'.back kk fun a ha => .inl ha) (beq_eq_false_iff_ne.mpr (Nat.ne_of_gt (Nat.lt_trans (Nat.lt_of_lt_of_le (modules_low T.nolimit) S.F.above) La))) ?_ ho' hod
  cases e : h.get? a with
  | none => rfl
  | some o =>
    by_cases hm : a ∈ addrs st
    · obtain ⟨q, hq, rfl⟩ := List.mem_map.mp ((ledger_addrs 46 182 w.params st).symm ▸ hm)
      rw [(S.N q hq).1] at ha; cases ha
    · rw [S.F.keep a o (kk a o hm e)] at ha; cases ha
/-- cache.keys() -/
theorem c_keys {Q : Value → Shared → Prop} (B : Base (hd2.heap_39 w.params) p loose mg mb h₀ st h) (R : Rep 46 182 w st h) (hroom : A.depth < recursionLimit) (hu : A.units + 16 < cLine) (hh : A.handled = none)
   (C : Cst (TI prog w (hd2.heap_39 w.params)) st D kvs) (hz : kvs.length ≤ 100000)
   (hQ : ∀ h' tk a, Ctr 46 182 w st st h h' → h.get? a = none → h'.get? a = some { cls := .type "dict_keys", data := .fields #[.ref st.dd] } → Q (.ref a) (up s h' tk)) :
   wpAny (model prog w) A (call (.ref 116) [.ref st.c]) Q E (up s h tk₀) := by
  refine' enter (binds := [("self", Value.ref st.c)]) B R ?ho ?hcd (by omega) ?hb ?hl ?hco ?hgen ?hk ?hcell ?_
  ((case ho => k_dflt k_is); (case hcd => k_dflt k_is); (case hb => exact BindsTo.of_eq rfl); (case hl => exact locs rfl); (case hco => exact rfl); (case hgen => exact rfl); (case hk => exact rfl); (case hcell => decide))
  intro g L h1 tk kk k' X T S
  refine wpAny_execs_cons (wpAny_Return_some ?_)
  refine MethodCall_ (Pv.at (by walk_at "pv") fun tk => ?_) rfl
  refine C.od.method PySem.F.slot_dict_keys PySem.F.type_dict_keys (s := up s h1 tk) S.dget ?_
  refine callWith_method0 ?_
  have hD : (up s h1 tk).heap.DictOf (intKind prog w) st.dd kvs := by
    obtain ⟨ep, hat⟩ := C.od.dictAt S.dget
    exact hat.dictOf
  refine call_meetsIn PySem.F.slot_dict_keys hD.typeIs PySem.F.entry_dict_keys (PySem.F.args_dict_keys_1 _) (kdl_meets_keys _ _ C.ne) ⟨⟨kvs, hD⟩, ?_⟩
  have S' : St 46 182 w g L _ st (h1.push { cls := .type "dict_keys", data := .fields #[.ref st.dd] }) := S.grow Grow.push
  refine hQ _ _ h1.objs.size (S'.back kk fun a ha => .inl ha) ?_ (Heap.get?_push_size _ rfl)
  cases e : h.get? h1.objs.size with
  | none => rfl
  | some o =>
    by_cases hm : h1.objs.size ∈ addrs st
    · obtain ⟨q, hq, e⟩ := List.mem_map.mp ((ledger_addrs 46 182 w.params st).symm ▸ hm)
      have := Heap.lt_size (S.N q hq).1
      rw [show q.1 = _ from e] at this
      exact absurd this (Nat.lt_irrefl _)
    · exact absurd (Heap.lt_size (S.F.keep _ o (kk _ o hm e))) (Nat.lt_irrefl _)
end
noncomputable def nthS (l : List Stmt) (i : Nat) : Stmt := l.getD i (.Pass default)
noncomputable def forB : Stmt → List Stmt
  | .For _ _ b _ _ => b
  | _ => []
noncomputable def ifT : Stmt → List Stmt
  | .If _ b _ _ => b
  | _ => []
noncomputable def ifE : Stmt → List Stmt
  | .If _ _ b _ => b
  | _ => []
noncomputable def fnB : Stmt → List Stmt
  | .FunctionDef _ _ b .. => b
  | _ => []
noncomputable def fnS : Stmt → Scope
  | .FunctionDef _ _ _ _ _ _ sc .. => sc
  | _ => default
noncomputable def lawF : Stmt := nthS PySem.Challenge.pw_ji0029_02.main.body 6
noncomputable def lawB : List Stmt := fnB lawF
noncomputable def lawS : Scope := fnS lawF
noncomputable def loopB : List Stmt := forB (nthS lawB 5)
noncomputable def addB : List Stmt := forB (nthS (ifT (nthS loopB 2)) 0)

/-- what the law knows between its deeds -/
structure LP (prog : Program) (w : World) (own : List (Addr × Obj)) (st : LS) (m : Str → Option Value) (size : Int) (D : List (Int × Rg)) (kvs : List (Int × Value)) (la : Addr) (its : List Value) (ln : Nat) (ha : Addr) (ho : Obj) (hk : List (Int × Value)) : Prop where
  C : Cst (TI prog w (hd2.heap_39 w.params)) st D kvs
  ex : st.ex = own ++ [(la, listOf its.toArray ln), (ha, ho)]
  it : IntsAre its (D.map (·.1))
  od : OD (TI prog w (hd2.heap_39 w.params)) ho hk
  hp : hk.Perm ((vw st D).map fun e => (e.1, e.2.1))
  cl : ∀ q ∈ D, (st.F q.2.x).cln = .none
  vi : ∀ q ∈ D, ∃ i, IsI i (st.F q.2.x).val
  len : (D.length : Int) ≤ size
  s1 : 1 ≤ size
  s2 : size ≤ 100
  mx : IsI size st.mx
  af : IsI ((size * 8).fdiv 10) st.af
  ne : (ha == sysModules) = false
  mc : m "cache" = some (.ref st.c)
  ms : ∃ v, m "size" = some v ∧ IsI size v
  ml : m "line" = some (.ref la)
  mh : m "held" = some (.ref ha)
inductive LQ (prog : Program) (w : World) (own : List (Addr × Obj)) (st : LS) (m : Str → Option Value) (size : Int) : Prop
  | mk (D : List (Int × Rg)) (kvs : List (Int × Value)) (la : Addr) (its : List Value) (ln : Nat) (ha : Addr) (ho : Obj) (hk : List (Int × Value)) (h : LP prog w own st m size D kvs la its ln ha ho hk)
/-- a turn of the adding loop is done -/
inductive AddEnd (prog : Program) (w : World) (g : Heap) (L : Addr) (own : List (Addr × Obj)) (s : Shared) (size n key : Int) (fl : Flow) (s' : Shared) : Prop
  | mk (e : fl = .next) (h' : Heap) (tk' : Nat) (m' : Str → Option Value) (st' : LS) (es : s' = up s h' tk') (S : St 46 182 w g L m' st' h') (Q : LQ prog w own st' m' size) (hn : ∃ v, m' "n" = some v ∧ IsI n v) (hk : ∃ v, m' "key" = some v ∧ IsI key v)
/-- held has lost the keys of the line's end -/
inductive PopP (prog : Program) (w : World) (g : Heap) (L : Addr) (st : LS) (X : Obj → List (Addr × Obj)) (W : List (Int × Value)) (m : Str → Option Value) (h' : Heap) : Prop
  | mk (ho7 : Obj) (hk7 : List (Int × Value)) (m7 : Str → Option Value) (S : St 46 182 w g L m7 (st.withEx (X ho7)) h') (od : OD (TI prog w (hd2.heap_39 w.params)) ho7 hk7) (p : hk7.Perm W) (hm : ∀ x : Str, (x == "old") = false → m7 x = m x)

theorem withEx_self {st : LS} {ex : List (Addr × Obj)} (h : st.ex = ex) : st.withEx ex = st := by subst h; rfl
theorem withEx_withEx {st : LS} {e1 e2 : List (Addr × Obj)} : (st.withEx e1).withEx e2 = st.withEx e2 := rfl

section
variable {prog : Program} {w : World} {A : Around} {E : Value → Shared → Prop} {s : Shared} {g h : Heap} {L : Addr} {m m' : Str → Option Value} {tk tk₀ : Nat} {p : Program} {loose : List Str} {mg mb : Str → Option Value} {h₀ : Heap} {st : LS} {r : Rg}
  {f : Addr} {cd : Value} {cn : Str} {own own' : List (Addr × Obj)} {size : Int} {D : List (Int × Rg)} {kvs : List (Int × Value)} {la : Addr} {its : List Value} {ln : Nat} {ha : Addr} {ho : Obj} {hk : List (Int × Value)}

theorem LP.push (P : LP prog w own st m size D kvs la its ln ha ho hk) : LP prog w (own' ++ own) (st.withEx (own' ++ st.ex)) m size D kvs la its ln ha ho hk :=
  ⟨P.C.withEx, by show own' ++ st.ex = _; rw [P.ex, List.append_assoc], P.it, P.od, P.hp, P.cl, P.vi, P.len, P.s1, P.s2, P.mx, P.af, P.ne, P.mc, P.ms, P.ml, P.mh⟩
theorem LQ.push (P : LQ prog w own st m size) : LQ prog w (own' ++ own) (st.withEx (own' ++ st.ex)) m size :=
  let ⟨_, _, _, _, _, _, _, _, P⟩ := P; ⟨_, _, _, _, _, _, _, _, P.push⟩
theorem LQ.pop (P : LQ prog w (own' ++ own) st m size) : ∃ st', st'.withEx (own' ++ st'.ex) = st ∧ LQ prog w own st' m size := by
  obtain ⟨D, kvs, la, its, ln, ha, ho, hk, P⟩ := P
  refine ⟨st.withEx (own ++ [(la, listOf its.toArray ln), (ha, ho)]), ?_, D, kvs, la, its, ln, ha, ho, hk, P.C.withEx, rfl, P.it, P.od, P.hp, P.cl, P.vi, P.len, P.s1, P.s2, P.mx, P.af, P.ne, P.mc, P.ms, P.ml, P.mh⟩
  rw [withEx_withEx]
  exact withEx_self (by rw [P.ex, List.append_assoc]; rfl)
theorem LP.mem (P : LP prog w own st m size D kvs la its ln ha ho hk) (hc : m' "cache" = m "cache") (hs : m' "size" = m "size") (hl : m' "line" = m "line") (hh : m' "held" = m "held") : LP prog w own st m' size D kvs la its ln ha ho hk :=
  ⟨P.C, P.ex, P.it, P.od, P.hp, P.cl, P.vi, P.len, P.s1, P.s2, P.mx, P.af, P.ne, hc.trans P.mc, (by rw [hs]; exact P.ms), hl.trans P.ml, hh.trans P.mh⟩

/-- the line's end is cut off, in the line and in held -/
inductive CutEnd (prog : Program) (w : World) (g : Heap) (L : Addr) (own : List (Addr × Obj)) (s : Shared) (st : LS) (ha : Addr) (its : List Value) (W : List (Int × Value)) (m : Str → Option Value) (fl : Flow) (s' : Shared) : Prop
  | mk (e : fl = .next) (h' : Heap) (tk' : Nat) (b : Addr) (ho7 : Obj) (hk7 : List (Int × Value)) (m7 : Str → Option Value) (es : s' = up s h' tk') (S : St 46 182 w g L m7 (st.withEx (own ++ [(b, listOf its.toArray 0), (ha, ho7)])) h') (od : OD (TI prog w (hd2.heap_39 w.params)) ho7 hk7) (p : hk7.Perm W)
    (ml : m7 "line" = some (.ref b)) (hm : ∀ x : Str, (x == "old") = false → (x == "line") = false → m7 x = m x)
theorem law_cut {its : List Value} {ln af : Nat} {la ha : Addr} {ho : Obj} {hk0 : List (Int × Value)} {W : List (Int × Value × Value)} {ts : Tok} {p1 p2 p3 p4 p5 p6 p7 p8 p9 p10 p11 p12 p13 p14 p15 np lp cp dp bp np' lp' cp' dp' bp' : Pos} {k1 k2 k1' k2' : Nat} {pl : Sem Bool}
    (S : St 46 182 w g L m (st.withEx (own ++ ([(la, listOf its.toArray ln)] ++ [(ha, ho)]))) h) (X : (hd2.heap_39 w.params).In g) (hu' : A.units + 8 < cLine) (hh : A.handled = none) (hint : IntsAre its (W.map (·.1)))
    (hod : OD (TI prog w (hd2.heap_39 w.params)) ho hk0) (hp : hk0.Perm (W.map pr)) (hWl : W.length ≤ 101) (haf1 : af ≤ W.length) (ml : m "line" = some (.ref la)) (mh : m "held" = some (.ref ha)) (ms : m "size" = some (.int size ts)) (haf' : (size * 8).fdiv 10 = (af : Int))
    (hsh : eval ((Expr.Attribute (.Name "held" p5) "pop" p6).Call [.Name "old" p7] [] p8) (envOf cn lawS L f cd) = (do
          let ov ← eval (.Name "held" p5) (envOf cn lawS L f cd)
          standAt p6.atName
          let __x ← holding [ov] (getMethod ov "pop" pl)
          match __x with
            | (fv, first) => callWith p8 fv first (backTo p8 (starEach [.Name "old" p7] (envOf cn lawS L f cd))) [])) :
    wpAny (model prog w) A (execs [.For (.Name "old" p1) (.Subscript (.Name "line" p2) (.Slice (some (.BinOp (.BinOp (.Name "size" np) .Mult (.Constant (.int 8) k1 cp) lp) .FloorDiv (.Constant (.int 10) k2 dp) bp)) none none p3) p4) [.Expr (.Call (.Attribute (.Name "held" p5) "pop" p6) [.Name "old" p7] [] p8) p9] [] p10,
      .Assign [.Name "line" p11] (.Subscript (.Name "line" p12) (.Slice none (some (.BinOp (.BinOp (.Name "size" np') .Mult (.Constant (.int 8) k1' cp') lp') .FloorDiv (.Constant (.int 10) k2' dp') bp')) none p13) p14) p15] (envOf cn lawS L f cd))
      (CutEnd prog w g L own s st ha (its.take af) ((W.take af).map pr) m) (fun _ _ => False) (up s h tk₀) := by
  have hzW : its.length ≤ 100000 := by rw [hint.length, List.length_map]; omega
  have hzs : its.length = W.length := by rw [hint.length, List.length_map]
  have hpI : ∀ {h : Heap} {m : Str → Option Value} {st : LS}, St 46 182 w g L m st h → m "size" = some (.int size ts) → ∀ {np lp cp dp bp : Pos} {k1 k2 : Nat}, PvI prog w A (envOf cn lawS L f cd) (.BinOp (.BinOp (.Name "size" np) .Mult (.Constant (.int 8) k1 cp) lp) .FloorDiv (.Constant (.int 10) k2 dp) bp) (af : Int) h := by
    intro h m st S hs np lp cp dp bp k1 k2
    refine PvI.eq (PvI.fdiv (PvI.mul (PvI.of (t := ts) ?hm) PvI.const ?hmul) PvI.const (by decide) (by decide)) haf'
    case hm => walk_at "pv"
    case hmul => exact IntMulOk.of_right (by decide)
  have hL6 : h.IsList la its.toArray := ⟨_, (S.exGet' (pre := own) (post := [(ha, ho)]) rfl).1, rfl, _, rfl⟩
  -- the pops
  refine seqP (P := PopP prog w g L st (fun ho7 => own ++ ([(la, listOf its.toArray ln)] ++ [(ha, ho7)])) ((W.take af).map pr) m) ?_ ?_
  · refine for_st (n := W.length - af) (Pe := fun i v => (its.drop af)[i]? = some v) (P := fun i st7 m7 => ∃ ho7 hk7, st7 = st.withEx (own ++ ([(la, listOf its.toArray ln)] ++ [(ha, ho7)])) ∧ OD (TI prog w (hd2.heap_39 w.params)) ho7 hk7 ∧ hk7.Perm (((W.take af) ++ (W.drop af).drop i).map pr) ∧ ∀ x : Str, (x == "old") = false → m7 x = m x) S rfl rfl rfl ?_ ⟨ho, hk0, rfl, hod, by rw [List.drop_zero, List.take_append_drop]; exact hp, fun _ _ => rfl⟩ ?_ ?_ (by intro _; rfl) PassesOwn.never
    · refine ev_slice hL6 hzW ?ho (fun _ _ _ hs q => part_int (hpI S ms) hs q) (fun _ _ _ hs q => part_none hs q) ?_ (by intro _ _; rfl)
      case ho => walk_at "pv"
      intro h' tk b G hb hb'
      rw [slicePick_from _ af (by rw [List.size_toArray, hzs]; exact haf1)] at hb'
      have := sets_list (prog := prog) (w := w) (s := s) (tk := tk) (E := fun _ _ => False) hh G (l := b) (items := (its.drop af).toArray) ⟨_, hb', rfl, _, rfl⟩ hb
      rw [show (its.drop af).toArray.size = W.length - af by rw [List.size_toArray, List.length_drop, hzs]] at this
      refine wpAny_mono this (fun it s2 x => ?_) fun _ _ x => x
      refine ⟨?_⟩
      obtain ⟨I, fp, Sw, h2, tk2, a1, a2, a3, a4, a5⟩ := x.go
      refine ⟨I, fp, Sw, h2, tk2, a1, a2, a3, ?_, a5⟩
      simpa only [List.getElem?_toArray] using a4
    · rintro i v m7 st7 own' h7 tk9 hi hv ⟨ho7, hk7, rfl, hod7, hp7, hm7⟩ S7
      have hvi := hint.drop af
      obtain ⟨⟨kx, vx, cx⟩, he⟩ : ∃ e, (W.drop af)[i]? = some e := ⟨(W.drop af)[i]'(by rw [List.length_drop]; exact hi), by rw [List.getElem?_eq_getElem]⟩
      obtain ⟨kn, tn, hk0, hkn2⟩ : ∃ kn tn, v = Value.int kn tn ∧ ((W.map (·.1)).drop af)[i]? = some kn := by
        obtain ⟨kn, tn, e1, e2⟩ := hvi.at i v hv
        exact ⟨kn, tn, e1, e2⟩
      subst hk0
      have : kn = kx := by
        rw [← List.map_drop, List.getElem?_map, he] at hkn2
        exact (Option.some.inj hkn2).symm
      subst this
      have hdrop : (W.drop af).drop i = (kn, vx, cx) :: (W.drop af).drop (i + 1) := by
        have hlt : i < (W.drop af).length := by rw [List.length_drop]; exact hi
        rw [List.drop_eq_getElem_cons hlt, Option.some.inj ((List.getElem?_eq_getElem hlt).symm.trans he)]
      rw [hdrop, List.map_append, List.map_cons] at hp7
      obtain ⟨hv7, hp8⟩ := pop_perm (k := kn) (v := vx) hod7.nodup hp7
      have mh7 : (fun y => if y = Str.ofString "old" then some (Value.int kn tn) else m7 y) "held" = some (.ref ha) := (hm7 "held" (by decide)).trans mh
      have mo7 : (fun y => if y = Str.ofString "old" then some (Value.int kn tn) else m7 y) "old" = some (Value.int kn tn) := rfl
      have hm8 : ∀ x : Str, (x == "old") = false → (fun y => if y = Str.ofString "old" then some (Value.int kn tn) else m7 y) x = m x := fun x hx => by
        show (if x = _ then _ else _) = _
        rw [if_neg (fun e => by rw [e] at hx; simp at hx)]
        exact hm7 x hx
      generalize (fun y => if y = Str.ofString "old" then some (Value.int kn tn) else m7 y) = m8 at S7 mh7 mo7 hm8
      refine wpAny_execs_cons ?_
      refine' ex_ ?_ rfl rfl
      refine' ex_pop (a := ha) (key := .int kn tn) (k := kn) (pre := own' ++ (own ++ [(la, listOf its.toArray ln)])) (post := []) S7 X hu' (by show own' ++ (own ++ _) = _; simp only [List.append_assoc]) ?ho ?he TI.isK_int hod7 ?hz hv7 ?_ rfl rfl hsh
      case ho => walk_at "pv"
      case he => walk_at "pv"
      case hz =>
        rw [hp7.length_eq]
        simp only [List.length_append, List.length_map, List.length_cons, List.length_take, List.length_drop]
        omega
      intro h8 ho8 tk10 hod8 S8
      refine wpAny_execs_nil ⟨h8, tk10, m8, st.withEx (own ++ ([(la, listOf its.toArray ln)] ++ [(ha, ho8)])), rfl, ?_, ho8, _, rfl, hod8, ?_, hm8⟩
      · have e : (st.withEx (own ++ ([(la, listOf its.toArray ln)] ++ [(ha, ho8)]))).withEx (own' ++ (st.withEx (own ++ ([(la, listOf its.toArray ln)] ++ [(ha, ho8)]))).ex) = ((st.withEx (own ++ ([(la, listOf its.toArray ln)] ++ [(ha, ho7)]))).withEx (own' ++ (st.withEx (own ++ ([(la, listOf its.toArray ln)] ++ [(ha, ho7)]))).ex)).withEx (own' ++ (own ++ [(la, listOf its.toArray ln)]) ++ (ha, ho8) :: []) := by
          simp only [withEx_withEx, withEx_ex, List.append_assoc]
        rw [e]; exact S8
      · rw [List.map_append]; exact hp8
    · rintro m7 st7 h7 tk9 ⟨ho7, hk7, rfl, hod7, hp7, hm7⟩ S7
      refine ⟨rfl, h7, tk9, rfl, ho7, hk7, m7, S7, hod7, ?_, hm7⟩
      have : (W.drop af).drop (W.length - af) = [] := List.drop_eq_nil_of_le (Nat.le_of_eq List.length_drop)
      rw [this, List.append_nil] at hp7
      exact hp7
  rintro h7 tk9 ⟨ho7, hk7, m7, S7, hod7, hp7, hm7⟩
  have ml7 := (hm7 "line" (by decide)).trans ml
  have ms7 := (hm7 "size" (by decide)).trans ms
  have hL7 : h7.IsList la its.toArray := ⟨_, (S7.exGet' (pre := own) (post := [(ha, ho7)]) rfl).1, rfl, _, rfl⟩
  refine wpAny_execs_cons (wpAny_Assign_Name ?_ rfl)
  refine ev_slice hL7 hzW ?ho (fun _ _ _ hs q => part_none hs q) (fun _ _ _ hs q => part_int (hpI S7 ms7) hs q) ?_ (by intro _ _; rfl)
  case ho => walk_at "pv"
  intro h8 tk10 b G hb hb'
  rw [slicePick_upto _ af (by rw [List.size_toArray, hzs]; exact haf1)] at hb'
  have S8 := S7.addEx G hb hb'
  have S9 := (S8.subEx (ex := (b, listOf (its.take af).toArray 0) :: (own ++ [(ha, ho7)])) (List.Sublist.cons_cons _ (List.Sublist.append_left (by exact List.sublist_append_right _ _) own)))
  have S10 := S9.permEx (ex := own ++ [(b, listOf (its.take af).toArray 0), (ha, ho7)]) List.perm_middle
  simp only [withEx_withEx] at S10
  refine store_ (s := up s h8 tk10) S10 (fun h9 tk11 S11 => ?_) rfl rfl
  show wpAny _ _ (execs _ _) _ _ (up s h9 tk11)
  refine wpAny_execs_nil ⟨rfl, h9, tk11, b, ho7, hk7, _, rfl, S11, hod7, hp7, rfl, fun x h1 h2 => ?_⟩
  show (if x = _ then _ else _) = _
  rw [if_neg (fun e => by rw [e] at h2; simp at h2)]
  exact hm7 x h1
/-- one key goes in -/
theorem law_add {n key k : Int} (S : St 46 182 w g L m st h) (X : (hd2.heap_39 w.params).In g) (T : TopRead p loose mg mb g) (hroom : A.depth + 20 < recursionLimit) (hu : A.units + 100 < cLine) (hh : A.handled = none)
   (P : LQ prog w own st m size) (hn : ∃ v, m "n" = some v ∧ IsI n v) (hkey : ∃ v, m "key" = some v ∧ IsI key v) (hk : ∃ v, m "k" = some v ∧ IsI k v) :
   wpAny (model prog w) A (execs addB (envOf cn lawS L f cd)) (AddEnd prog w g L own s size n key) (fun _ _ => False) (up s h tk₀) := by
  obtain ⟨D, kvs, la, its, ln, ha, ho, hkv, P⟩ := P
  obtain ⟨vn, hn, hvn⟩ := hn
  obtain ⟨vk, hkey, hvk⟩ := hkey
  obtain ⟨vk', hk, hvk'⟩ := hk
  refine gen_ (a := (key + k).fmod 150) fun sp hsp => ?_
  refine wpAny_execs_cons ?_
  refine' as_nameE (P := IsI sp) S ?he ?_ rfl rfl rfl
  case he =>
    rw [← hsp]
    refine PvI.mod (PvI.add (PvI.ofI ?h1 hvk) (PvI.ofI ?h2 hvk')) PvI.const (by decide)
    case h1 => walk_at "pv"
    case h2 => walk_at "pv"
  rintro vspot ⟨tspot, rfl⟩ h1 tk1 S1
  refine wpAny_execs_cons ?_
  refine' as_nameE (P := IsI (((n.fdiv 9000).fmod 1000) + k)) S1 ?he ?_ rfl rfl rfl
  case he =>
    refine PvI.add (PvI.mod (PvI.fdiv (PvI.ofI ?h1 hvn) PvI.const (by decide) (by decide)) PvI.const (by decide)) (PvI.ofI ?h2 hvk')
    case h1 => walk_at "pv"
    case h2 => walk_at "pv"
  rintro vfresh hfresh h2 tk2 S2
  obtain ⟨vs, hvs, ts, rfl⟩ := P.ms
  obtain ⟨tm, hmx⟩ := P.mx
  obtain ⟨taf, haf⟩ := P.af
  obtain ⟨m2, hm2, S2⟩ : ∃ m2, (∀ x v, (fun y => if y = Str.ofString "fresh" then some vfresh else if y = Str.ofString "spot" then some (Value.int sp tspot) else m y) x = some v → m2 x = some v) ∧ St 46 182 w g L m2 st h2 := ⟨_, fun _ _ e => e, S2⟩
  have mc2 : m2 "cache" = some (.ref st.c) := hm2 _ _ P.mc
  have ml2 : m2 "line" = some (.ref la) := hm2 _ _ P.ml
  have mh2 : m2 "held" = some (.ref ha) := hm2 _ _ P.mh
  have ms2 : m2 "size" = some (.int size ts) := hm2 _ _ hvs
  have mf2 : m2 "fresh" = some vfresh := hm2 _ _ rfl
  have msp2 : m2 "spot" = some (Value.int sp tspot) := hm2 _ _ rfl
  have mn2 : m2 "n" = some vn := hm2 _ _ hn
  have mk2 : m2 "key" = some vk := hm2 _ _ hkey
  have s1 := P.s1
  have s2 := P.s2
  have hlen := P.len
  have hDl : D.length ≤ 100 := by omega
  have hz : kvs.length ≤ 100 := by rw [P.C.len]; exact hDl
  have haf0 : 0 ≤ (size * 8).fdiv 10 := Int.fdiv_nonneg (by omega) (by decide)
  have hu' : A.units + 8 < cLine := by omega
  refine wpAny_execs_cons ?_
  refine' ex_ ?_ rfl rfl
  refine' ev_m2 (f := 94) (x := st.c) (v := .int sp tspot) (v2 := vfresh) ?hpo ?hp1 ?hp2 S2.cinst (X.keeps S2.F.keep) (pcL _) ?hf ?ht ?hkp rfl ?_ rfl rfl rfl rfl
  case hpo => walk_at "pv"
  case hp1 => walk_at "pv"
  case hp2 => walk_at "pv"
  ((case hf => k_dflt k_is); (case ht => k_dflt k_is); (case hkp => k_dflt k_is))
  intro tk3
  refine c_add (S2.base X T) S2.rep (by omega) (by omega) P.C TI.isK_int hfresh.nb (by omega) hmx haf haf0 P.cl fun h3 tk4 st3 D3 kvs3 C3 F3 K3 e3 => ?_
  have S3 := S2.after C3
  have ex3 := F3.ex.trans P.ex
  have hcc : m2 "cache" = some (.ref st3.c) := by rw [F3.c]; exact mc2
  have hnV : ((vw st D).map (·.1)).Nodup := by rw [vw_keys]; exact P.C.keys_nd
  have hkn : (hkv.map (·.1)).Nodup := P.od.nodup
  have hVk : (vw st D).map (·.1) = D.map (·.1) := vw_keys
  -- line.remove
  refine seqP (P := fun h' => ∃ its1 ln1, St 46 182 w g L m2 (st3.withEx (own ++ (la, listOf its1.toArray ln1) :: [(ha, ho)])) h' ∧ IntsAre its1 ((D.map (·.1)).erase sp)) ?_ ?_
  · refine' if_exIn (pre := own ++ [(la, listOf its.toArray ln)]) (post := []) S3 X hu' (by rw [ex3, List.append_assoc]; rfl) ?hl ?hr TI.isK_int P.od P.ne ?_ ?_ (by with_unfolding_all rfl)
    case hl => walk_at "pv"
    case hr => walk_at "pv"
    · intro hin tk5
      have hmem : sp ∈ D.map (·.1) := by rw [← hVk]; exact (isSome_mem P.hp hkn).mp hin
      refine wpAny_execs_cons ?_
      refine' ex_ ?_ rfl rfl
      refine' ex_remove (k := sp) S3 (by rw [ex3]) ?ho ?he P.it hmem (by rw [List.length_map]; omega) ?_ rfl rfl rfl
      case ho => walk_at "pv"
      case he => exact PvI.of (t := tspot) (by walk_at "pv")
      intro h' q tk hi S'
      exact wpAny_execs_nil ⟨rfl, h', tk, rfl, q, _, S', hi⟩
    · intro hin tk5
      have hmem : sp ∉ D.map (·.1) := fun q => by
        rw [← hVk] at q
        rw [(isSome_mem P.hp hkn).mpr q] at hin; cases hin
      refine wpAny_execs_nil ⟨rfl, h3, tk5, rfl, its, ln, ?_, by rw [List.erase_of_not_mem hmem]; exact P.it⟩
      rw [withEx_self (by rw [ex3])]; exact S3
  rintro h4 tk5 ⟨its1, ln1, S4, hi1⟩
  -- line.insert
  refine wpAny_execs_cons ?_
  refine' ex_ ?_ rfl rfl
  refine' ex_insert (k := sp) (t := tspot) S4 rfl ?ho PvI.const ?he hi1 (by rw [List.length_erase]; split <;> rw [List.length_map] <;> omega) ?_ rfl rfl rfl rfl
  case ho => walk_at "pv"
  case he => walk_at "pv"
  intro h5 tk6 S5
  rw [withEx_withEx] at S5
  refine gen_ (a := ins (vw st D) sp (vfresh, Value.none)) fun W hW => ?_
  have hi2 : IntsAre (Value.int sp tspot :: its1) (W.map (·.1)) := by
    rw [← hW, ins_keys hnV, hVk]; exact .cons _ _ hi1
  -- held[spot] = fresh
  refine wpAny_execs_cons ?_
  refine' ex_item (v := vfresh) (key := .int sp tspot) (k := sp) (pre := own ++ [(la, listOf (Value.int sp tspot :: its1).toArray (ln1 + 1))]) (post := []) S5 X hu' (by show own ++ _ = _; rw [List.append_assoc]; rfl) ?he ?ho ?hi TI.isK_int P.od ?hz ?_ rfl
  case he => walk_at "pv"
  case ho => walk_at "pv"
  case hi => walk_at "pv"
  case hz => rw [P.hp.length_eq, List.length_map]; unfold vw; rw [List.length_map]; omega
  intro h6 ho6 tk7 hod6 S6
  rw [withEx_withEx, List.append_assoc] at S6
  have hp6 := stored_perm (k := sp) (v := vfresh) (c := Value.none) hkn P.hp
  refine gen_ (a := stored hkv sp vfresh) fun hk6 hkv6 => ?_
  rw [hkv6] at hod6 hp6
  rw [hW] at hp6
  have hWn : (W.map (·.1)).Nodup := by rw [← hW]; exact ins_nodup hnV
  have hWl : W.length ≤ 101 := by
    rw [← hW]
    show (_ :: rest (vw st D) sp).length ≤ _
    have h1 : (rest (vw st D) sp).length ≤ (vw st D).length := List.length_filter_le _ _
    have h2 : (vw st D).length = D.length := by unfold vw; rw [List.length_map]
    rw [List.length_cons]; omega
  have hWv : ∀ e ∈ W, e.2.2 = Value.none ∧ ∃ i, IsI i e.2.1 := by
    rw [← hW]
    intro e he
    rcases mem_ins he with rfl | he
    · exact ⟨rfl, _, hfresh⟩
    · obtain ⟨a, ha, rfl⟩ := List.mem_map.mp he
      exact ⟨P.cl a ha, P.vi a ha⟩
  have e3' : vw st3 D3 = if size < (W.length : Int) then W.take ((size * 8).fdiv 10).toNat else W := by
    rw [e3]; unfold added; rw [hW]
  clear e3
  have hD3 : ∀ U, vw st3 D3 = U → (∀ e ∈ U, e ∈ W) → (∀ q ∈ D3, (st3.F q.2.x).cln = .none) ∧ ∀ q ∈ D3, ∃ i, IsI i (st3.F q.2.x).val := by
    intro U e hU
    have key : ∀ q ∈ D3, (q.1, (st3.F q.2.x).val, (st3.F q.2.x).cln) ∈ W := fun q hq => hU _ (e ▸ List.mem_map.mpr ⟨q, hq, rfl⟩)
    exact ⟨fun q hq => (hWv _ (key q hq)).1, fun q hq => (hWv _ (key q hq)).2⟩
  have hlW : (W.length : Int) = ((W.map (·.1)).length : Int) := by rw [List.length_map]
  refine wpAny_execs_cons ?_
  refine' if_int (a := (W.length : Int)) (b := size) .gt ?hl ?hr ?_ ?_ (by with_unfolding_all rfl)
  case hl =>
    refine PvI.eq ?_ hlW.symm
    refine PvI.exLen (a := la) (its := Value.int sp tspot :: its1) (n := ln1 + 1) S6 (List.mem_append_right _ (.head _)) ?hfn ?ho hi2 (by rw [List.length_map]; omega) rfl rfl rfl
    case hfn => refine' Pv.builtin S6 X T ?he rfl ?hn rfl rfl ?hd; (case he => k_dflt k_is); (case hn => decide); (case hd => decide)
    case ho => walk_at "pv"
  case hr => exact PvI.of (t := ts) (by walk_at "pv")
  · intro hgt tk8
    have hgt : size < (W.length : Int) := of_decide_eq_true hgt
    rw [if_pos hgt] at e3'
    obtain ⟨af, haf'⟩ : ∃ af : Nat, (size * 8).fdiv 10 = (af : Int) := ⟨((size * 8).fdiv 10).toNat, (Int.toNat_of_nonneg haf0).symm⟩
    have haf1 : af ≤ W.length := by
      have h1 : (size * 8).fdiv 10 ≤ size := by
        rw [Int.fdiv_eq_ediv_of_nonneg _ (by decide)]; omega
      omega
    rw [haf', Int.toNat_natCast] at e3'
    refine wpAny_mono (law_cut S6 X hu' hh hi2 hod6 hp6 hWl haf1 ml2 mh2 ms2 haf' rfl) (fun fl s' hf => ?_) fun _ _ e => e
    obtain ⟨rfl, h9, tk11, b, ho7, hk7, m7, rfl, S11, hod7, hp7, ml7, hm7⟩ := hf
    have mc7 := (hm7 "cache" (by decide) (by decide)).trans hcc
    have mh7 := (hm7 "held" (by decide) (by decide)).trans mh2
    have ms7 := (hm7 "size" (by decide) (by decide)).trans ms2
    have mn7 := (hm7 "n" (by decide) (by decide)).trans mn2
    have mk7 := (hm7 "key" (by decide) (by decide)).trans mk2
    refine wpAny_execs_nil ⟨rfl, h9, tk11, _, _, rfl, S11, ⟨D3, kvs3, b, (Value.int sp tspot :: its1).take af, 0, ha, ho7, hk7, ?_⟩, ⟨vn, mn7, hvn⟩, ⟨vk, mk7, hvk⟩⟩
    obtain ⟨c1, c2⟩ := hD3 _ e3' fun e he => List.mem_of_mem_take he
    refine ⟨K3.withEx, rfl, ?_, hod7, ?_, c1, c2, ?_, s1, s2, ⟨tm, F3.mx.trans hmx⟩, ⟨taf, F3.af.trans haf⟩, P.ne, mc7, ⟨_, ms7, ts, rfl⟩, ml7, mh7⟩
    · rw [← vw_keys (st := st3), e3', List.map_take]; exact hi2.take af
    · rw [vw_withEx, e3']; exact hp7
    · have : D3.length = (W.take af).length := by rw [← e3']; unfold vw; rw [List.length_map]
      rw [this, List.length_take]
      have h1 : (size * 8).fdiv 10 ≤ size := by
        rw [Int.fdiv_eq_ediv_of_nonneg _ (by decide)]; omega
      omega
  · intro hgt tk8
    have hgt : ¬ size < (W.length : Int) := of_decide_eq_false hgt
    rw [if_neg hgt] at e3'
    refine wpAny_execs_nil (wpAny_execs_nil ⟨rfl, h6, tk8, m2, _, rfl, S6, ⟨D3, kvs3, la, Value.int sp tspot :: its1, ln1 + 1, ha, ho6, hk6, ?_⟩, ⟨_, mn2, hvn⟩, ⟨_, mk2, hvk⟩⟩)
    obtain ⟨c1, c2⟩ := hD3 W e3' fun e he => he
    refine ⟨K3.withEx, rfl, ?_, hod6, ?_, c1, c2, ?_, s1, s2, ⟨tm, F3.mx.trans hmx⟩, ⟨taf, F3.af.trans haf⟩, P.ne, hcc, ⟨_, ms2, ts, rfl⟩, ml2, mh2⟩
    · rw [← vw_keys (st := st3), e3']; exact hi2
    · rw [vw_withEx, e3']; exact hp6
    · have : D3.length = W.length := by rw [← e3']; unfold vw; rw [List.length_map]
      rw [this]; omega
end
section
variable {prog : Program} {w : World} {A : Around} {E : Value → Shared → Prop} {s : Shared} {g h : Heap} {L : Addr} {m m' : Str → Option Value} {tk tk₀ : Nat} {p : Program} {loose : List Str} {mg mb : Str → Option Value} {h₀ : Heap} {st : LS} {r : Rg}
  {f : Addr} {cd : Value} {cn : Str} {own own' : List (Addr × Obj)} {size : Int}

/-- a deed's end -/
inductive DeedEnd (prog : Program) (w : World) (g : Heap) (L : Addr) (own : List (Addr × Obj)) (s : Shared) (n key : Int) (fl : Flow) (s' : Shared) : Prop
  | mk (e : fl = .next) (h' : Heap) (tk' : Nat) (m' : Str → Option Value) (st' : LS) (size' : Int) (es : s' = up s h' tk') (S : St 46 182 w g L m' st' h') (Q : LQ prog w own st' m' size') (hn : ∃ v, m' "n" = some v ∧ IsI n v) (hk : ∃ v, m' "key" = some v ∧ IsI key v)

/-- for k in range(..): the keys go in -/
theorem law_adds {n key : Int} (S : St 46 182 w g L m st h) (X : (hd2.heap_39 w.params).In g) (T : TopRead p loose mg mb g) (hroom : A.depth + 20 < recursionLimit) (hu : A.units + 100 < cLine) (hh : A.handled = none)
   (P : LQ prog w own st m size) (hn : ∃ v, m "n" = some v ∧ IsI n v) (hkey : ∃ v, m "key" = some v ∧ IsI key v) :
   wpAny (model prog w) A (exec (nthS (ifT (nthS loopB 2)) 0) (envOf cn lawS L f cd)) (DeedEnd prog w g L own s n key) (fun _ _ => False) (up s h tk₀) := by
  obtain ⟨vn, hn', hvn⟩ := hn
  obtain ⟨N, hN⟩ : ∃ N : Nat, (1 + (n.fdiv 750).fmod 12 : Int) = (N : Int) ∧ N ≤ 100000 := by
    have h1 := Int.fmod_nonneg_of_pos (n.fdiv 750) (b := 12) (by decide)
    have h2 := Int.fmod_lt_of_pos (n.fdiv 750) (b := 12) (by decide)
    exact ⟨(1 + (n.fdiv 750).fmod 12).toNat, by omega, by omega⟩
  refine for_st (n := N) (Pe := fun i v => IsI i v) (P := fun i st1 m1 => LQ prog w own st1 m1 size ∧ (∃ v, m1 "n" = some v ∧ IsI n v) ∧ (∃ v, m1 "key" = some v ∧ IsI key v)) S rfl rfl rfl ?_ ⟨P, ⟨vn, hn', hvn⟩, hkey⟩ ?_ ?_ (by intro _; rfl) PassesOwn.never
  · refine Call_ ?_ rfl
    refine Pv.at (v := .type "range") ?hr fun tk1 => ?_
    case hr => refine' Pv.builtin S X T ?he rfl ?hn rfl rfl ?hd; (case he => k_dflt k_is); (case hn => decide); (case hd => decide)
    refine PyProof.Rows.callWith_type1 (spliced_more (PvE.at (P := IsI (N : Int)) (PvI.eq (PvI.add PvI.const (PvI.mod (PvI.fdiv (PvI.ofI ?h1 hvn) PvI.const (by decide) (by decide)) PvI.const (by decide))) hN.1) fun v tk2 hv => spliced_none ?_)) rfl rfl
    case h1 => walk_at "pv"
    obtain ⟨t, rfl⟩ := hv
    refine call_range_1 (s := up s h tk2) ?_
    exact sets_range (s := s) hh Grow.push (IsRange.new _ _ _ _ _ _ _) hN.2
  · rintro i v m1 st1 own' h1 tk1 hi hv ⟨P1, ⟨v1, e1, i1⟩, ⟨v2, e2, i2⟩⟩ S1
    have P2 : LQ prog w (own' ++ own) (st1.withEx (own' ++ st1.ex)) (fun y => if y = Str.ofString "k" then some v else m1 y) size := by
      obtain ⟨D, kvs, la, its, ln, ha, ho, hk, Q⟩ := P1.push (own' := own')
      exact ⟨D, kvs, la, its, ln, ha, ho, hk, Q.mem rfl rfl rfl rfl⟩
    refine wpAny_mono (law_add (n := n) (key := key) (k := i) S1 X T hroom hu hh P2 ⟨v1, e1, i1⟩ ⟨v2, e2, i2⟩ ⟨v, rfl, hv⟩) (fun fl s' hf => ?_) fun _ _ e => e
    · obtain ⟨rfl, h2, tk2, m2, st2, rfl, S2, Q2, q1, q2⟩ := hf
      obtain ⟨st3, rfl, Q3⟩ := Q2.pop
      exact ⟨h2, tk2, m2, st3, rfl, S2, Q3, q1, q2⟩
  · rintro m1 st1 h1 tk1 ⟨P1, q1, q2⟩ S1
    exact ⟨rfl, h1, tk1, m1, st1, size, rfl, S1, P1, q1, q2⟩
end
noncomputable def getB : List Stmt := ifT (nthS (ifE (nthS loopB 2)) 0)
noncomputable def itemB : List Stmt := ifT (nthS (ifE (nthS (ifE (nthS loopB 2)) 0)) 0)
noncomputable def sizeB : List Stmt := ifE (nthS (ifE (nthS (ifE (nthS loopB 2)) 0)) 0)

section
variable {prog : Program} {w : World} {A : Around} {E : Value → Shared → Prop} {s : Shared} {g h : Heap} {L : Addr} {m m' : Str → Option Value} {tk tk₀ : Nat} {p : Program} {loose : List Str} {mg mb : Str → Option Value} {h₀ : Heap} {st st' : LS} {r : Rg}
  {f : Addr} {cd : Value} {cn : Str} {own own' : List (Addr × Obj)} {size : Int} {D D' : List (Int × Rg)} {kvs kvs' : List (Int × Value)} {la : Addr} {its : List Value} {ln : Nat} {ha : Addr} {ho : Obj} {hk : List (Int × Value)} {k : Int}

theorem touch_all {V : List (Int × Value × Value)} (hn : (V.map (·.1)).Nodup) {R : Int × Value × Value → Prop} (h : ∀ e ∈ V, R e) : ∀ e ∈ touch V k, R e := fun e he => h e ((touch_perm hn).mem_iff.mp he)

/-- behind a look-up the key is the latest of the line too -/
theorem law_touch1 {n : Int} (S : St 46 182 w g L m st' h) (X : (hd2.heap_39 w.params).In g) (T : TopRead p loose mg mb g) (hu : A.units + 100 < cLine)
   (P : LP prog w own st m size D kvs la its ln ha ho hk) (F : FixA st st') (C' : Cst (TI prog w (hd2.heap_39 w.params)) st' D' kvs') (hv : vw st' D' = touch (vw st D) k)
   (hn : ∃ v, m "n" = some v ∧ IsI n v) (hkey : ∃ v, m "key" = some v ∧ IsI k v) :
   wpAny (model prog w) A (exec (nthS getB 2) (envOf cn lawS L f cd)) (DeedEnd prog w g L own s n k) (fun _ _ => False) (up s h tk₀) := by
  obtain ⟨vk, hkey, tk', rfl⟩ := hkey
  have hVn : ((vw st D).map (·.1)).Nodup := by rw [vw_keys]; exact P.C.keys_nd
  have hVk : (vw st D).map (·.1) = D.map (·.1) := vw_keys
  have hkn := P.od.nodup
  have hu' : A.units + 8 < cLine := by omega
  have ex' := F.ex.trans P.ex
  have s1 := P.s1
  have s2 := P.s2
  have hlen := P.len
  have all : ∀ q ∈ D', (st'.F q.2.x).cln = .none ∧ ∃ i, IsI i (st'.F q.2.x).val := fun q hq => by
    have := touch_all (k := k) hVn (R := fun e => e.2.2 = Value.none ∧ ∃ i, IsI i e.2.1) (fun e he => by
      obtain ⟨a, ha, rfl⟩ := List.mem_map.mp he
      exact ⟨P.cl a ha, P.vi a ha⟩) (q.1, (st'.F q.2.x).val, (st'.F q.2.x).cln) (by rw [← hv]; exact List.mem_map.mpr ⟨q, hq, rfl⟩)
    exact this
  have hlen' : D'.length = D.length := by
    have h1 : (vw st' D').length = (vw st D).length := by rw [hv]; exact (touch_perm hVn).length_eq
    unfold vw at h1; rwa [List.length_map, List.length_map] at h1
  have fin : ∀ (its' : List Value) (ln' : Nat) (h' : Heap) (tk : Nat), IntsAre its' (D'.map (·.1)) → St 46 182 w g L m (st'.withEx (own ++ (la, listOf its'.toArray ln') :: [(ha, ho)])) h' → DeedEnd prog w g L own s n k .next (up s h' tk) := by
    intro its' ln' h' tk hi' S'
    refine ⟨rfl, h', tk, m, _, size, rfl, S', ⟨D', kvs', la, its', ln', ha, ho, hk, C'.withEx, rfl, hi', P.od, ?_, fun q hq => (all q hq).1, fun q hq => (all q hq).2, by rw [hlen']; exact hlen, s1, s2, ?_, ?_, P.ne, ?_, P.ms, P.ml, P.mh⟩, hn, ⟨_, hkey, tk', rfl⟩⟩
    · show hk.Perm ((vw st' D').map pr)
      rw [hv]; exact P.hp.trans ((touch_perm hVn).map pr).symm
    · show IsI size st'.mx; rw [F.mx]; exact P.mx
    · show IsI _ st'.af; rw [F.af]; exact P.af
    · show _ = some (Value.ref st'.c); rw [F.c]; exact P.mc
  have ml := P.ml
  have mh := P.mh
  refine' if_exIn (pre := own ++ [(la, listOf its.toArray ln)]) (post := []) S X hu' (by rw [ex', List.append_assoc]; rfl) ?hl ?hr TI.isK_int P.od P.ne ?_ ?_ (by with_unfolding_all rfl)
  case hl => walk_at "pv"
  case hr => walk_at "pv"
  · intro hin tk5
    have hmem : k ∈ (vw st D).map (·.1) := (isSome_mem P.hp hkn).mp hin
    refine wpAny_execs_cons ?_
    refine' ex_ ?_ rfl rfl
    refine' ex_remove (k := k) S (by rw [ex']) ?ho ?he P.it (by rw [← hVk]; exact hmem) (by rw [List.length_map]; omega) ?_ rfl rfl rfl
    case ho => walk_at "pv"
    case he => exact PvI.of (t := tk') (by walk_at "pv")
    intro h2 q tk hi2 S2
    refine wpAny_execs_cons ?_
    refine' ex_ ?_ rfl rfl
    refine' ex_insert (k := k) (t := tk') S2 rfl ?ho PvI.const ?he hi2 (by rw [List.length_erase]; split <;> rw [List.length_map] <;> omega) ?_ rfl rfl rfl rfl
    case ho => walk_at "pv"
    case he => walk_at "pv"
    intro h3 tk3 S3
    rw [withEx_withEx] at S3
    refine wpAny_execs_nil (fin _ _ h3 tk3 ?_ S3)
    obtain ⟨x, hx⟩ : ∃ x, look (vw st D) k = some x := Option.isSome_iff_exists.mp (look_isSome.mpr hmem)
    have e1 : touch (vw st D) k = ins (vw st D) k x := by unfold touch; rw [hx]
    rw [← vw_keys (st := st'), hv, e1, ins_keys hVn, hVk]
    exact .cons _ _ hi2
  · intro hin tk5
    have hmem : k ∉ (vw st D).map (·.1) := fun q => by rw [(isSome_mem P.hp hkn).mpr q] at hin; cases hin
    refine wpAny_execs_nil (fin its ln h tk5 ?_ (by rw [withEx_self (by rw [ex'])]; exact S))
    have e1 : touch (vw st D) k = vw st D := by unfold touch; rw [look_none hmem]
    rw [← vw_keys (st := st'), hv, e1, vw_keys]
    exact P.it

/-- behind a look-up the key is the latest of the line too -/
theorem law_touch2 {n : Int} (S : St 46 182 w g L m st' h) (X : (hd2.heap_39 w.params).In g) (T : TopRead p loose mg mb g) (hu : A.units + 100 < cLine)
   (P : LP prog w own st m size D kvs la its ln ha ho hk) (F : FixA st st') (C' : Cst (TI prog w (hd2.heap_39 w.params)) st' D' kvs') (hv : vw st' D' = touch (vw st D) k)
   (hn : ∃ v, m "n" = some v ∧ IsI n v) (hkey : ∃ v, m "key" = some v ∧ IsI k v) :
   wpAny (model prog w) A (exec (nthS itemB 2) (envOf cn lawS L f cd)) (DeedEnd prog w g L own s n k) (fun _ _ => False) (up s h tk₀) := by
  obtain ⟨vk, hkey, tk', rfl⟩ := hkey
  have hVn : ((vw st D).map (·.1)).Nodup := by rw [vw_keys]; exact P.C.keys_nd
  have hVk : (vw st D).map (·.1) = D.map (·.1) := vw_keys
  have hkn := P.od.nodup
  have hu' : A.units + 8 < cLine := by omega
  have ex' := F.ex.trans P.ex
  have s1 := P.s1
  have s2 := P.s2
  have hlen := P.len
  have all : ∀ q ∈ D', (st'.F q.2.x).cln = .none ∧ ∃ i, IsI i (st'.F q.2.x).val := fun q hq => by
    have := touch_all (k := k) hVn (R := fun e => e.2.2 = Value.none ∧ ∃ i, IsI i e.2.1) (fun e he => by
      obtain ⟨a, ha, rfl⟩ := List.mem_map.mp he
      exact ⟨P.cl a ha, P.vi a ha⟩) (q.1, (st'.F q.2.x).val, (st'.F q.2.x).cln) (by rw [← hv]; exact List.mem_map.mpr ⟨q, hq, rfl⟩)
    exact this
  have hlen' : D'.length = D.length := by
    have h1 : (vw st' D').length = (vw st D).length := by rw [hv]; exact (touch_perm hVn).length_eq
    unfold vw at h1; rwa [List.length_map, List.length_map] at h1
  have fin : ∀ (its' : List Value) (ln' : Nat) (h' : Heap) (tk : Nat), IntsAre its' (D'.map (·.1)) → St 46 182 w g L m (st'.withEx (own ++ (la, listOf its'.toArray ln') :: [(ha, ho)])) h' → DeedEnd prog w g L own s n k .next (up s h' tk) := by
    intro its' ln' h' tk hi' S'
    refine ⟨rfl, h', tk, m, _, size, rfl, S', ⟨D', kvs', la, its', ln', ha, ho, hk, C'.withEx, rfl, hi', P.od, ?_, fun q hq => (all q hq).1, fun q hq => (all q hq).2, by rw [hlen']; exact hlen, s1, s2, ?_, ?_, P.ne, ?_, P.ms, P.ml, P.mh⟩, hn, ⟨_, hkey, tk', rfl⟩⟩
    · show hk.Perm ((vw st' D').map pr)
      rw [hv]; exact P.hp.trans ((touch_perm hVn).map pr).symm
    · show IsI size st'.mx; rw [F.mx]; exact P.mx
    · show IsI _ st'.af; rw [F.af]; exact P.af
    · show _ = some (Value.ref st'.c); rw [F.c]; exact P.mc
  have ml := P.ml
  have mh := P.mh
  refine' if_exIn (pre := own ++ [(la, listOf its.toArray ln)]) (post := []) S X hu' (by rw [ex', List.append_assoc]; rfl) ?hl ?hr TI.isK_int P.od P.ne ?_ ?_ (by with_unfolding_all rfl)
  case hl => walk_at "pv"
  case hr => walk_at "pv"
  · intro hin tk5
    have hmem : k ∈ (vw st D).map (·.1) := (isSome_mem P.hp hkn).mp hin
    refine wpAny_execs_cons ?_
    refine' ex_ ?_ rfl rfl
    refine' ex_remove (k := k) S (by rw [ex']) ?ho ?he P.it (by rw [← hVk]; exact hmem) (by rw [List.length_map]; omega) ?_ rfl rfl rfl
    case ho => walk_at "pv"
    case he => exact PvI.of (t := tk') (by walk_at "pv")
    intro h2 q tk hi2 S2
    refine wpAny_execs_cons ?_
    refine' ex_ ?_ rfl rfl
    refine' ex_insert (k := k) (t := tk') S2 rfl ?ho PvI.const ?he hi2 (by rw [List.length_erase]; split <;> rw [List.length_map] <;> omega) ?_ rfl rfl rfl rfl
    case ho => walk_at "pv"
    case he => walk_at "pv"
    intro h3 tk3 S3
    rw [withEx_withEx] at S3
    refine wpAny_execs_nil (fin _ _ h3 tk3 ?_ S3)
    obtain ⟨x, hx⟩ : ∃ x, look (vw st D) k = some x := Option.isSome_iff_exists.mp (look_isSome.mpr hmem)
    have e1 : touch (vw st D) k = ins (vw st D) k x := by unfold touch; rw [hx]
    rw [← vw_keys (st := st'), hv, e1, ins_keys hVn, hVk]
    exact .cons _ _ hi2
  · intro hin tk5
    have hmem : k ∉ (vw st D).map (·.1) := fun q => by rw [(isSome_mem P.hp hkn).mpr q] at hin; cases hin
    refine wpAny_execs_nil (fin its ln h tk5 ?_ (by rw [withEx_self (by rw [ex'])]; exact S))
    have e1 : touch (vw st D) k = vw st D := by unfold touch; rw [look_none hmem]
    rw [← vw_keys (st := st'), hv, e1, vw_keys]
    exact P.it

/-- a key asked by get, in two ways -/
theorem law_get {n : Int} (S : St 46 182 w g L m st h) (X : (hd2.heap_39 w.params).In g) (T : TopRead p loose mg mb g) (hroom : A.depth + 20 < recursionLimit) (hu : A.units + 100 < cLine) (hh : A.handled = none)
   (P : LQ prog w own st m size) (hn : ∃ v, m "n" = some v ∧ IsI n v) (hkey : ∃ v, m "key" = some v ∧ IsI k v) :
   wpAny (model prog w) A (execs getB (envOf cn lawS L f cd)) (DeedEnd prog w g L own s n k) (fun _ _ => False) (up s h tk₀) := by
  obtain ⟨D, kvs, la, its, ln, ha, ho, hkv, P⟩ := P
  obtain ⟨vk, hkey, tk', rfl⟩ := hkey
  have hVn : ((vw st D).map (·.1)).Nodup := by rw [vw_keys]; exact P.C.keys_nd
  have hkn := P.od.nodup
  have hu' : A.units + 8 < cLine := by omega
  have mc := P.mc
  have mh := P.mh
  have hlook : valueAt hkv k = (look (vw st D) k).map (·.1) := held_look P.hp hkn
  -- told = [..]
  refine wpAny_execs_cons (wpAny_Assign_Name ?_ rfl)
  refine wpAny_List (spliced_more ?_ rfl)
  refine' ev_m1 (f := 109) (x := st.c) (v := .int k tk') ?hpo ?hpe S.cinst (X.keeps S.F.keep) (pcL _) ?hf ?ht ?hkp rfl ?_ rfl rfl rfl
  case hpo => walk_at "pv"
  case hpe => walk_at "pv"
  ((case hf => k_dflt k_is); (case ht => k_dflt k_is); (case hkp => k_dflt k_is))
  intro tk1
  refine c_get (dflt := .none) (S.base X T) S.rep (by omega) (by omega) P.C TI.isK_int (.inr ⟨rfl, rfl⟩) fun h1 tk2 st1 D1 C1 F1 K1 e1 => ?_
  have S1 := S.after C1
  have mc1 : m "cache" = some (.ref st1.c) := by rw [F1.c]; exact mc
  refine spliced_more ?_ rfl
  refine' ev_m2E (f := 109) (x := st1.c) (v := .int k tk') (P := IsI (-7)) ?hpo ?hpe ?hp2 S1.cinst (X.keeps S1.F.keep) (pcL _) ?hf ?ht ?hkp rfl ?_ rfl rfl rfl rfl
  case hpo => walk_at "pv"
  case hpe => walk_at "pv"
  case hp2 => exact PvI.neg PvI.const
  ((case hf => k_dflt k_is); (case ht => k_dflt k_is); (case hkp => k_dflt k_is))
  rintro v7 tk3 ⟨t7, rfl⟩
  refine c_get (dflt := .int (-7) t7) (S1.base X T) S1.rep (by omega) (by omega) K1 TI.isK_int (.inl rfl) fun h2 tk4 st2 D2 C2 F2 K2 e2 => ?_
  have S2 := S1.after C2
  rw [e1, touch_touch] at e2
  rw [e1, look_touch]
  have hlk : ∀ x c, look (vw st D) k = some (x, c) → ∃ i t, x = .int i t := fun x c e => by
    obtain ⟨a, ha, e2⟩ := List.mem_map.mp (look_some_mem e)
    obtain ⟨i, t, hi⟩ := P.vi a ha
    cases e2
    exact ⟨i, t, hi⟩
  generalize look (vw st D) k = lk at hlook hlk
  have FA := F1.a.trans F2.a
  refine spliced_none ⟨Nat.le_of_ble_eq_true rfl, ?_⟩
  have fr2 : h2.get? h2.objs.size = none := by
    cases e : h2.get? h2.objs.size with
    | none => rfl
    | some o => exact absurd (Heap.lt_size e) (Nat.lt_irrefl _)
  have S3 := S2.addEx (o := { cls := .type "list", data := .seq [(lk.map (·.1)).getD .none, (lk.map (·.1)).getD (.int (-7) t7)].toArray }) Grow.push fr2 (Heap.get?_push_size _ rfl)
  refine store_ (s := up s (h2.push _) tk4) S3 (fun h4 tk5 S4 => ?_) rfl rfl
  show wpAny _ _ (execs _ _) _ _ (up s h4 tk5)
  have mh4 : (fun y => if y = Str.ofString "told" then some (Value.ref h2.objs.size) else m y) "held" = some (.ref ha) := mh
  have mt4 : (fun y => if y = Str.ofString "told" then some (Value.ref h2.objs.size) else m y) "told" = some (Value.ref h2.objs.size) := rfl
  have mk4 : (fun y => if y = Str.ofString "told" then some (Value.ref h2.objs.size) else m y) "key" = some (.int k tk') := hkey
  have P4 : LP prog w own st (fun y => if y = Str.ofString "told" then some (Value.ref h2.objs.size) else m y) size D kvs la its ln ha ho hkv := P.mem rfl rfl rfl rfl
  have hn4 : ∃ v, (fun y => if y = Str.ofString "told" then some (Value.ref h2.objs.size) else m y) "n" = some v ∧ IsI n v := hn
  change St 46 182 w g L (fun y => if y = Str.ofString "told" then some (Value.ref h2.objs.size) else m y) _ _ at S4
  generalize (fun y => if y = Str.ofString "told" then some (Value.ref h2.objs.size) else m y) = m4 at S4 mh4 mt4 mk4 P4 hn4
  generalize h2.objs.size = b at S4 mt4
  have ex4 : ((b, ({ cls := .type "list", data := .seq [(lk.map (·.1)).getD .none, (lk.map (·.1)).getD (.int (-7) t7)].toArray } : Obj)) :: st2.ex) = ((b, ({ cls := .type "list", data := .seq [(lk.map (·.1)).getD .none, (lk.map (·.1)).getD (.int (-7) t7)].toArray } : Obj)) :: own ++ [(la, listOf its.toArray ln)]) ++ (ha, ho) :: [] := by rw [FA.ex.trans P.ex]; simp
  have hin4 : (ha, ho) ∈ (st2.withEx ((b, ({ cls := .type "list", data := .seq [(lk.map (·.1)).getD .none, (lk.map (·.1)).getD (.int (-7) t7)].toArray } : Obj)) :: st2.ex)).ex := by
    rw [withEx_ex, ex4]; exact List.mem_append_right _ (.head _)
  have hb4 := (S4.exGet (a := b) (.head _)).1
  refine seqP (P := fun h' => St 46 182 w g L m4 st2 h') ?_ ?_
  · refine wpAny_If (wpAny_isTrue_Compare1 (Pv.at (v := .ref b) ?ht fun tk6 => ?_) (by with_unfolding_all rfl))
    case ht => walk_at "pv"
    refine wpAny_List (spliced_more (Pv.at (Pv.exGet1 (k := k) (key := .int k tk') S4 X hu' hin4 ?ho ?he TI.isK_int P.od P.ne rfl rfl rfl) fun tk7 => ?_) rfl)
    case ho => walk_at "pv"
    case he => walk_at "pv"
    refine spliced_more (PvE.at (PvE.exGet2 (k := k) (key := .int k tk') (P := IsI (-7)) S4 X hu' hin4 ?ho2 ?he2 (PvI.neg PvI.const) TI.isK_int P.od P.ne rfl rfl rfl rfl) fun v8 tk8 hv8 => ?_) rfl
    case ho2 => walk_at "pv"
    case he2 => walk_at "pv"
    obtain ⟨d8, ⟨t8, rfl⟩, rfl⟩ := hv8
    refine spliced_none ⟨Nat.le_of_ble_eq_true rfl, ?_⟩
    have S5 : St 46 182 w g L m4 st2 (h4.push { cls := .type "list", data := .seq [(valueAt hkv k).getD .none, (valueAt hkv k).getD (.int (-7) t8)].toArray }) := by
      have := (S4.grow (h' := h4.push { cls := .type "list", data := .seq [(valueAt hkv k).getD .none, (valueAt hkv k).getD (.int (-7) t8)].toArray }) Grow.push).subEx (ex := st2.ex) (List.sublist_cons_self _ _)
      rw [withEx_withEx, withEx_self rfl] at this
      exact this
    have hb5 : (h4.push { cls := .type "list", data := .seq [(valueAt hkv k).getD .none, (valueAt hkv k).getD (.int (-7) t8)].toArray }).get? b = some { cls := .type "list", data := .seq [(lk.map (·.1)).getD .none, (lk.map (·.1)).getD (.int (-7) t7)].toArray } := Heap.get?_push_of_some _ hb4
    have hc5 : (h4.push { cls := .type "list", data := .seq [(valueAt hkv k).getD .none, (valueAt hkv k).getD (.int (-7) t8)].toArray }).get? h4.objs.size = some { cls := .type "list", data := .seq [(valueAt hkv k).getD .none, (valueAt hkv k).getD (.int (-7) t8)].toArray } := Heap.get?_push_size _ rfl
    have key : ∀ (Q : Value → Shared → Prop), Q (.bool false) (up s (h4.push { cls := .type "list", data := .seq [(valueAt hkv k).getD .none, (valueAt hkv k).getD (.int (-7) t8)].toArray }) tk8) → wpAny (model prog w) A (compareOp .NotEq (.ref b) (.ref h4.objs.size)) Q (fun _ _ => False) (up s (h4.push { cls := .type "list", data := .seq [(valueAt hkv k).getD .none, (valueAt hkv k).getD (.int (-7) t8)].toArray }) tk8) := by
      intro Q hQ
      rw [hlook] at hb5 hc5 hQ ⊢
      cases lk with
      | none =>
        refine ne_dataH_same (da := .list [.none, .int (-7)]) (db := .list [.none, .int (-7)]) (Reads.list hb5 rfl rfl (.cons .none (.cons (.int _ _) .nil))) (Reads.list hc5 rfl rfl (.cons .none (.cons (.int _ _) .nil))) (by decide) (by decide) (by omega) (by decide) ?_
        have : (!PySem.Spec.same (.list [.none, .int (-7)]) (.list [.none, .int (-7)])) = false := by decide
        rw [this]; exact hQ
      | some xc =>
        obtain ⟨x, c⟩ := xc
        obtain ⟨i, t, rfl⟩ := hlk x c rfl
        refine ne_intsK (ns := [i, i]) (ms := [i, i]) ⟨_, hb5, rfl, _, rfl⟩ (.cons _ _ (.cons _ _ .nil)) ⟨_, hc5, rfl, _, rfl⟩ (.cons _ _ (.cons _ _ .nil)) (by omega) ?_
        rw [decide_eq_true rfl]; exact hQ
    refine key _ (wpAny_truthy_bool ?_)
    rw [if_neg Bool.false_ne_true]
    exact wpAny_execs_nil ⟨rfl, _, tk8, rfl, S5⟩
  rintro h6 tk6 S6
  refine wpAny_execs_cons (wpAny_mono (law_touch1 (k := k) S6 X T hu P4 FA K2 e2 hn4 ⟨_, mk4, tk', rfl⟩) (fun fl s' hf => ?_) fun _ _ e => e)
  obtain ⟨rfl, z1, z2, z3, z4, z5, z6, z7, z8, z9, z10⟩ := hf
  exact wpAny_execs_nil ⟨rfl, z1, z2, z3, z4, z5, z6, z7, z8, z9, z10⟩
end
section
variable {prog : Program} {w : World} {A A₀ : Around} {E : Value → Shared → Prop} {s : Shared} {g h : Heap} {L : Addr} {m m' : Str → Option Value} {tk tk₀ : Nat} {loose : List Str} {mg mb : Str → Option Value} {h₀ : Heap} {st st' : LS} {r : Rg}
  {f : Addr} {cd : Value} {cn : Str} {own own' : List (Addr × Obj)} {size : Int} {D D' : List (Int × Rg)} {kvs kvs' : List (Int × Value)} {la : Addr} {its : List Value} {ln : Nat} {ha : Addr} {ho : Obj} {hk : List (Int × Value)} {k : Int}

theorem PvE.mono {P P' : Value → Prop} {env : Env} {e : Expr} (hp : PvE prog w A env e P h) (q : ∀ v, P v → P' v) : PvE prog w A env e P' h := fun s Q E hs z => hp s Q E hs fun v tk hv => z v tk (q v hv)

/-- a key asked by [] -/
theorem law_item {n : Int} {outer : List Env} (S : St 46 182 w g L m st h) (X : (hd2.heap_39 w.params).In g) (T : TopRead hd2.view_39 loose mg mb g) (K0 : Below A₀ g outer g) (hout : outer = []) (hroom : A₀.depth + 20 < recursionLimit) (hu : A₀.units + 110 < cLine) (hh : A₀.handled = none)
   (hloose : ("KeyError" : Str) ∉ loose) (hcl : ("KeyError" : Str) ∉ (clssOf hd2.view_39 loose).map (·.name))
   (P : LQ prog w own st m size) (hn : ∃ v, m "n" = some v ∧ IsI n v) (hkey : ∃ v, m "key" = some v ∧ IsI k v) :
   wpAny (model prog w) (A₀.deeper (envOf cn lawS L f cd)) (execs itemB (envOf cn lawS L f cd)) (DeedEnd prog w g L own s n k) (fun _ _ => False) (up s h tk₀) := by
  subst hout
  obtain ⟨D, kvs, la, its, ln, ha, ho, hkv, P⟩ := P
  obtain ⟨vk, hkey, tk', rfl⟩ := hkey
  have hVn : ((vw st D).map (·.1)).Nodup := by rw [vw_keys]; exact P.C.keys_nd
  have hkn := P.od.nodup
  have hd : (A₀.deeper (envOf cn lawS L f cd)).depth = A₀.depth + 1 := rfl
  have hu1 : (A₀.deeper (envOf cn lawS L f cd)).units = A₀.units + 3 := rfl
  have hu' : (A₀.deeper (envOf cn lawS L f cd)).units + 8 < cLine := by omega
  have mc := P.mc
  have mh := P.mh
  have hlook : valueAt hkv k = (look (vw st D) k).map (·.1) := held_look P.hp hkn
  have hlk : ∀ x c, look (vw st D) k = some (x, c) → ∃ i, IsI i x := fun x c e => by
    obtain ⟨a, ha, e2⟩ := List.mem_map.mp (look_some_mem e)
    obtain ⟨i, hi⟩ := P.vi a ha
    cases e2
    exact ⟨i, hi⟩
  obtain ⟨ans, hans⟩ : ∃ ans : Int, ∀ d, IsI (-1) d → IsI ans (((look (vw st D) k).map (·.1)).getD d) := by
    cases e : look (vw st D) k with
    | none => exact ⟨-1, fun d hd => hd⟩
    | some xc =>
      obtain ⟨i, hi⟩ := hlk xc.1 xc.2 e
      exact ⟨i, fun d _ => hi⟩
  refine seqP (P := fun h' => ∃ st2 D2 m2, St 46 182 w g L m2 st2 h' ∧ FixA st st2 ∧ Cst (TI prog w (hd2.heap_39 w.params)) st2 D2 kvs ∧ vw st2 D2 = touch (vw st D) k ∧ (∃ v, m2 "told" = some v ∧ IsI ans v) ∧ ∀ x : Str, (x == "told") = false → m2 x = m x) ?_ ?_
  · have upd : ∀ (v : Value) (x : Str), (x == "told") = false → (fun y => if y = Str.ofString "told" then some v else m y) x = m x := fun v x hx => by
      show (if x = _ then _ else _) = _
      rw [if_neg (fun e => by rw [e] at hx; simp at hx)]
    refine wpAny_Try_except ?_
    refine wpAny_execs_cons (wpAny_Assign_Name ?_ rfl)
    refine Subscript_ (Pv.at (v := .ref st.c) (by walk_at "pv") fun tk1 => Pv.at (v := .int k tk') (by walk_at "pv") fun tk2 => ?_)
    refine sub_K (s := up s h tk2) (C := 182) (f := 79) S.F X S.cinst (by k_dflt k_is) (by k_dflt k_is) (by k_dflt k_is) ?_ (by with_unfolding_all rfl)
    by_cases hm : k ∈ D.map (·.1)
    · obtain ⟨D1, r, D2, rfl⟩ := P.C.split hm
      refine c_item (S.base X T) S.rep (by show A₀.depth + 1 + 1 < _; omega) (by simp only [Around.in1_units, Around.deeper_units]; omega) P.C TI.isK_int fun h1 tk3 st1 C1 F1 K1 e1 => ?_
      have S1 := S.after C1
      refine store_ (s := up s h1 tk3) S1 (fun h2 tk4 S2 => ?_) rfl rfl
      show wpAny _ _ (execs _ _) _ _ (up s h2 tk4)
      refine wpAny_execs_nil (wpAny_execs_nil ⟨rfl, h2, tk4, rfl, st1, _, _, S2, F1.a, K1, P.C.touch_hit fun y => ⟨(e1 y).1, (e1 y).2.1⟩, ⟨_, rfl, ?_⟩, upd _⟩)
      have := hans (.int (-1) 0) ⟨0, rfl⟩
      rw [P.C.look_hit.1] at this
      exact this
    · have BB : Below (A₀.deeper (envOf cn lawS L f cd)) g [envOf cn lawS L f cd] h := K0.push (name := cn) (a := f) (cd := cd) S.F rfl
      refine c_miss (outer := [envOf cn lawS L f cd]) (S.base X T) S.rep (by show A₀.depth + 1 + 1 < _; omega) (by simp only [Around.in1_units, Around.deeper_units]; omega) hh P.C TI.isK_int hm ⟨BB.stack, BB.stays, BB.frames⟩ ?_ ?_
      · intro env he a ha hf
        rw [List.mem_singleton.mp he] at hf
        exact (S.off a ha).1 (Option.some.inj hf).symm
      · intro e g2 h2 tk3 kk R hsm
        have offL : L ∉ addrs st := fun q => (S.off L q).1 rfl
        have F2 : Fr g L g2 m := by
          obtain ⟨oL, es, ep, hoL, rL⟩ := S.F.ns
          exact ⟨⟨oL, es, ep, kk L oL offL hoL, rL⟩, fun b o hb => kk b o (fun q => by rw [(S.off b q).2] at hb; cases hb) (S.F.keep b o hb), S.F.above⟩
        refine caught_N0 (x := "KeyError") (X := "KeyError") (T' := "KeyError") (s' := up s h2 tk3) K0 F2 hsm R T PyProof.Rows.Boot.«KeyError» kr_isExc_KeyError kr_notTuple_KeyError (by rw [isSubtype_type]; kernel_rfl) (fun h3 F3 N3 => ?_) (by decide +kernel) hloose (h4c := hcl)
        have S3 : St 46 182 w g L m st h3 := ⟨F3, N3, S.wf, S.ok⟩
        show wpAny _ _ (execs _ _) _ _ (up s h3 tk3)
        refine wpAny_execs_cons ?_
        refine' as_nameE (P := IsI (-1)) S3 (PvI.neg PvI.const) ?_ rfl rfl rfl
        intro v hv h4 tk4 S4
        refine wpAny_execs_nil ⟨rfl, h4, tk4, rfl, st, D, _, S4, ⟨rfl, rfl, rfl, rfl, rfl⟩, P.C, (P.C.look_miss hm).2.1.symm, ⟨v, rfl, ?_⟩, upd _⟩
        have := hans v hv
        rw [(P.C.look_miss hm).1] at this
        exact this
  rintro h2 tk2 ⟨st2, D2, m2, S2, F2, K2, e2, ⟨vt, ht2, hvt⟩, hm2⟩
  have mh2 : m2 "held" = some (.ref ha) := (hm2 "held" (by decide)).trans mh
  have mk2 : m2 "key" = some (.int k tk') := (hm2 "key" (by decide)).trans hkey
  have P2 : LP prog w own st m2 size D kvs la its ln ha ho hkv := P.mem (hm2 "cache" (by decide)) (hm2 "size" (by decide)) (hm2 "line" (by decide)) (hm2 "held" (by decide))
  have hn2 : ∃ v, m2 "n" = some v ∧ IsI n v := by rw [hm2 "n" (by decide)]; exact hn
  have hin2 : (ha, ho) ∈ st2.ex := by rw [F2.ex, P.ex]; exact List.mem_append_right _ (.tail _ (.head _))
  refine seqP (P := fun h' => h' = h2) ?_ ?_
  · refine' if_int (a := ans) (b := ans) .ne ?hl ?hr ?_ ?_ (by with_unfolding_all rfl)
    case hl => exact PvI.ofI (v := vt) (by walk_at "pv") hvt
    case hr =>
      refine PvE.mono (PvE.exGet2 (k := k) (key := .int k tk') (P := IsI (-1)) S2 X hu' hin2 ?ho2 ?he2 (PvI.neg PvI.const) TI.isK_int P.od P.ne rfl rfl rfl rfl) ?_
      case ho2 => walk_at "pv"
      case he2 => walk_at "pv"
      rintro v ⟨d, hd, rfl⟩
      rw [hlook]; exact hans d hd
    · intro q; simp at q
    · intro _ tk; exact wpAny_execs_nil ⟨rfl, h2, tk, rfl, rfl⟩
  rintro _ tk3 rfl
  refine wpAny_execs_cons (wpAny_mono (law_touch2 (k := k) S2 X T (by omega) P2 F2 K2 e2 hn2 ⟨_, mk2, tk', rfl⟩) (fun fl s' hf => ?_) fun _ _ e => e)
  obtain ⟨rfl, z1, z2, z3, z4, z5, z6, z7, z8, z9, z10⟩ := hf
  exact wpAny_execs_nil ⟨rfl, z1, z2, z3, z4, z5, z6, z7, z8, z9, z10⟩
end
theorem hits_all {A : Around} {s : Shared} {kb : List (Int × Value)} : ∀ {ka : List (Int × Value)}, (∀ e ∈ ka, valueAt kb e.1 = some e.2 ∧ ∃ i, IsI i e.2) → KeqHits A s kb ka true
  | [], _ => .nil
  | (k, v) :: ka, h => by
    obtain ⟨h1, i, t, h2⟩ := h (k, v) (.head _)
    have h2 : v = .int i t := h2
    subst h2
    have e : SeqAt.EqAt A s (.int i t) (.int i t) true := by
      have := SeqAt.EqAt.int_int (A := A) (s := s) i t i t
      rwa [beq_self_eq_true] at this
    exact .hit h1 e (hits_all fun e he => h e (.tail _ he))

section
variable {prog : Program} {w : World} {A A₀ : Around} {E : Value → Shared → Prop} {s : Shared} {g h : Heap} {L : Addr} {m m' : Str → Option Value} {tk tk₀ : Nat} {p : Program} {loose : List Str} {mg mb : Str → Option Value} {h₀ : Heap} {st st' : LS} {r : Rg}
  {f : Addr} {cd : Value} {cn : Str} {own own' : List (Addr × Obj)} {size : Int} {D D' : List (Int × Rg)} {kvs kvs' : List (Int × Value)} {la : Addr} {its : List Value} {ln : Nat} {ha : Addr} {ho : Obj} {hk : List (Int × Value)} {k : Int}

theorem items_perm (C : Cst (TI prog w (hd2.heap_39 w.params)) st D kvs) : (kvs.map fun kv => (kv.1, nodeVal st kv.2)).Perm ((vw st D).map pr) := by
  refine (C.perm.map _).trans ?_
  rw [List.map_map]
  unfold vw
  rw [List.map_map]
  exact List.Perm.refl _

/-- the cache tells what the law's own map and line hold -/
theorem law_check {n : Int} (S : St 46 182 w g L m st h) (X : (hd2.heap_39 w.params).In g) (T : TopRead p loose mg mb g) (hroom : A.depth + 20 < recursionLimit) (hu : A.units + 110 < cLine) (hh : A.handled = none)
   (P : LQ prog w own st m size) :
   wpAny (model prog w) A (exec (nthS loopB 3) (envOf cn lawS L f cd)) (NextP s (St 46 182 w g L m st)) (fun _ _ => False) (up s h tk₀) := by
  obtain ⟨D, kvs, la, its, ln, ha, ho, hkv, P⟩ := P
  have hkn := P.od.nodup
  have hu' : A.units + 8 < cLine := by omega
  have s1 := P.s1
  have s2 := P.s2
  have hlen := P.len
  have hDl : D.length ≤ 100 := by omega
  have hz : kvs.length ≤ 100 := by rw [P.C.len]; exact hDl
  have mc := P.mc
  have mh := P.mh
  have ml := P.ml
  refine wpAny_If (isTrue_or (wpAny_isTrue_Compare1 ?_ (by with_unfolding_all rfl)))
  refine' ev_m0 (f := 121) (x := st.c) ?hpo S.cinst (X.keeps S.F.keep) (pcL _) ?hf ?ht ?hkp rfl ?_ rfl
  case hpo => walk_at "pv"
  ((case hf => k_dflt k_is); (case ht => k_dflt k_is); (case hkp => k_dflt k_is))
  intro tk1
  refine c_items (S.base X T) S.rep (by omega) (by omega) hh P.C (by omega) fun h1 tk2 a o' C1 hsa ha1 ha2 hod => ?_
  have S1 := S.after C1
  refine Pv.at (v := .ref ha) (by walk_at "pv") fun tk3 => ?_
  have hpm := items_perm P.C
  generalize hka : (kvs.map fun kv => (kv.1, nodeVal st kv.2)) = ka at hod hpm
  have hpm2 : ka.Perm hkv := hpm.trans P.hp.symm
  have hga : g.get? a = none := by
    cases e : g.get? a with
    | none => rfl
    | some o => rw [S.F.keep a o e] at ha1; cases ha1
  have hin : (ha, ho) ∈ st.ex := by rw [P.ex]; exact List.mem_append_right _ (.tail _ (.head _))
  obtain ⟨ep1, d1⟩ := hod.dictAt ha2
  obtain ⟨ep2, d2⟩ := P.od.dictAt (S1.exGet hin).1
  refine keq_ne (s := up s h1 tk3) (r := true) hsa P.ne d1.dictOf d2.dictOf (by omega) (fun _ => hits_all fun e he => ?_) ?_
  · refine ⟨valueAt_mem hkn (hpm2.mem_iff.mp he), ?_⟩
    obtain ⟨q, hq, rfl⟩ := List.mem_map.mp (hpm.mem_iff.mp he)
    obtain ⟨z, hz, rfl⟩ := List.mem_map.mp hq
    exact P.vi z hz
  have hl : (ka.length == hkv.length) = true := by rw [hpm2.length_eq]; exact beq_self_eq_true _
  rw [hl]
  refine wpAny_truthy_bool ?_
  rw [if_neg (by decide)]
  refine isTrue_or (wpAny_isTrue_Compare1 ?_ (by with_unfolding_all rfl))
  refine Call_ (Pv.at (v := .builtin "len") ?hfn fun tk4 => ?_) rfl
  case hfn => refine' Pv.builtin S1 X T ?he rfl ?hn rfl rfl ?hd; (case he => k_dflt k_is); (case hn => decide); (case hd => decide)
  refine callWith_builtin1 (spliced_more (Pv.at (v := .ref st.c) (by walk_at "pv") fun tk5 => spliced_none ?_) rfl) rfl rfl
  refine W.len_K (s := up s h1 tk5) (C := 182) (f := 86) S1.F X S1.cinst (by k_dflt k_is) (by k_dflt k_is) ?_
  refine c_len (S1.base X T) S1.rep (by show A.depth < _; omega) (by simp only [Around.in1_units]; omega) P.C (by omega) fun h2 tk6 t2 C2 => ?_
  have S2 := S1.after C2
  refine ⟨⟨by omega, by omega⟩, ?_⟩
  refine PvE.at (s := s) (h := h2) (tk := tk6 + 1) (P := IsI (D.length : Int)) (PvI.eq (PvI.exLen (a := la) (its := its) (n := ln) S2 ?hin ?hfn ?ho P.it (by rw [List.length_map]; omega) rfl rfl rfl) (by rw [List.length_map])) fun v tk7 hv => ?_
  case hin => rw [P.ex]; exact List.mem_append_right _ (.head _)
  case hfn => refine' Pv.builtin S2 X T ?he rfl ?hn rfl rfl ?hd; (case he => k_dflt k_is); (case hn => decide); (case hd => decide)
  case ho => walk_at "pv"
  obtain ⟨t, rfl⟩ := hv
  refine ne_int (s := up s h2 tk7) (wpAny_truthy_bool ?_)
  rw [if_neg (by simp)]
  refine isTrue_or_nil ?_
  rw [if_neg Bool.false_ne_true]
  exact wpAny_execs_nil ⟨rfl, h2, tk7, rfl, S2⟩
end
section
variable {prog : Program} {w : World} {A A₀ : Around} {E : Value → Shared → Prop} {s : Shared} {g h : Heap} {L : Addr} {m m' : Str → Option Value} {tk tk₀ : Nat} {p : Program} {loose : List Str} {mg mb : Str → Option Value} {h₀ : Heap} {st st' : LS} {r : Rg}
  {f : Addr} {cd : Value} {cn : Str} {own own' : List (Addr × Obj)} {size : Int} {D D' : List (Int × Rg)} {kvs kvs' : List (Int × Value)} {la : Addr} {its : List Value} {ln : Nat} {ha : Addr} {ho : Obj} {hk : List (Int × Value)} {k : Int}

/-- (key in cache) != (key in held) -/
theorem law_isin {n : Int} (S : St 46 182 w g L m st h) (X : (hd2.heap_39 w.params).In g) (T : TopRead p loose mg mb g) (hroom : A.depth + 20 < recursionLimit) (hu : A.units + 110 < cLine) (hh : A.handled = none)
   (P : LQ prog w own st m size) (hkey : ∃ v, m "key" = some v ∧ IsI k v) :
   wpAny (model prog w) A (exec (nthS sizeB 3) (envOf cn lawS L f cd)) (NextP s (St 46 182 w g L m st)) (fun _ _ => False) (up s h tk₀) := by
  obtain ⟨D, kvs, la, its, ln, ha, ho, hkv, P⟩ := P
  obtain ⟨vk, hkey, tk', rfl⟩ := hkey
  have hkn := P.od.nodup
  have hu' : A.units + 8 < cLine := by omega
  have mc := P.mc
  have mh := P.mh
  have hlook : valueAt hkv k = (look (vw st D) k).map (·.1) := held_look P.hp hkn
  refine wpAny_If (wpAny_isTrue_Compare1 (wpAny_Compare1 (Pv.at (v := .int k tk') (by walk_at "pv") fun tk1 => Pv.at (v := .ref st.c) (by walk_at "pv") fun tk2 => ?_) (by with_unfolding_all rfl)) (by with_unfolding_all rfl))
  refine in_K (s := up s h tk2) (C := 182) (f := 72) S.F X S.cinst (by k_dflt k_is) (by k_dflt k_is) ?_
  refine c_in (S.base X T) S.rep (by omega) (by omega) P.C TI.isK_int fun h1 tk3 C1 => wpAny_truthy_bool ?_
  have S1 := S.after C1
  refine Pv.at (v := .bool (valueAt hkv k).isSome) ?hin fun tk4 => ?_
  case hin =>
    refine' Pv.exIn (pre := own ++ [(la, listOf its.toArray ln)]) (post := []) S1 X hu' (by rw [P.ex, List.append_assoc]; rfl) ?hl ?hr TI.isK_int P.od P.ne (by with_unfolding_all rfl)
    case hl => walk_at "pv"
    case hr => walk_at "pv"
  have e : (valueAt hkv k).isSome = (look (vw st D) k).isSome := by rw [hlook, Option.isSome_map]
  rw [e]
  refine SeqAt.RcNeAt.bool_bool _ _ prog w _ _ (wpAny_truthy_bool ?_)
  rw [beq_self_eq_true, if_neg (by decide)]
  exact wpAny_execs_nil ⟨rfl, h1, tk4, rfl, S1⟩

inductive SizeP (prog : Program) (w : World) (g : Heap) (L : Addr) (own : List (Addr × Obj)) (sz n k : Int) (h' : Heap) : Prop
  | mk (st5 : LS) (m5 : Str → Option Value) (S : St 46 182 w g L m5 st5 h') (Q : LQ prog w own st5 m5 sz) (hn : ∃ v, m5 "n" = some v ∧ IsI n v) (hk : ∃ v, m5 "key" = some v ∧ IsI k v)
/-- the size is turned -/
theorem law_size {n : Int} (S : St 46 182 w g L m st h) (X : (hd2.heap_39 w.params).In g) (T : TopRead p loose mg mb g) (hroom : A.depth + 20 < recursionLimit) (hu : A.units + 110 < cLine) (hh : A.handled = none)
   (P : LQ prog w own st m size) (hn : ∃ v, m "n" = some v ∧ IsI n v) (hkey : ∃ v, m "key" = some v ∧ IsI k v) :
   wpAny (model prog w) A (execs sizeB (envOf cn lawS L f cd)) (DeedEnd prog w g L own s n k) (fun _ _ => False) (up s h tk₀) := by
  obtain ⟨D, kvs, la, its, ln, ha, ho, hkv, P⟩ := P
  obtain ⟨vn, hn, hvn⟩ := hn
  obtain ⟨vk, hkey, tk', rfl⟩ := hkey
  refine gen_ (a := 1 + (n.fdiv 750).fmod 40) fun sz hsz => ?_
  have hsz1 : (1 : Int) ≤ sz := by rw [← hsz]; have := Int.fmod_nonneg_of_pos (n.fdiv 750) (b := 40) (by decide); omega
  have hsz2 : sz ≤ 40 := by rw [← hsz]; have := Int.fmod_lt_of_pos (n.fdiv 750) (b := 40) (by decide); omega
  have s1 := P.s1
  have s2 := P.s2
  have hlen := P.len
  have hDl : D.length ≤ 100 := by omega
  have hz : kvs.length ≤ 100 := by rw [P.C.len]; exact hDl
  have hkn := P.od.nodup
  have hu' : A.units + 8 < cLine := by omega
  refine wpAny_execs_cons ?_
  refine' as_nameE (P := IsI sz) S ?he ?_ rfl rfl rfl
  case he =>
    rw [← hsz]
    refine PvI.add PvI.const (PvI.mod (PvI.fdiv (PvI.ofI ?h1 hvn) PvI.const (by decide) (by decide)) PvI.const (by decide))
    case h1 => walk_at "pv"
  rintro vsz ⟨ts, rfl⟩ h0 tk0 S0
  obtain ⟨m2, hm2, S0⟩ : ∃ m2, (∀ x v, (fun y => if y = Str.ofString "size" then some (Value.int sz ts) else m y) x = some v → m2 x = some v) ∧ St 46 182 w g L m2 st h0 := ⟨_, fun _ _ e => e, S0⟩
  have mc2 : m2 "cache" = some (.ref st.c) := hm2 _ _ P.mc
  have ml2 : m2 "line" = some (.ref la) := hm2 _ _ P.ml
  have mh2 : m2 "held" = some (.ref ha) := hm2 _ _ P.mh
  have ms2 : m2 "size" = some (.int sz ts) := hm2 _ _ rfl
  have mn2 : m2 "n" = some vn := hm2 _ _ hn
  have mk2 : m2 "key" = some (.int k tk') := hm2 _ _ hkey
  refine wpAny_execs_cons ?_
  refine' ex_ ?_ rfl rfl
  refine' ev_m1 (f := 171) (x := st.c) (v := .int sz ts) ?hpo ?hpe S0.cinst (X.keeps S0.F.keep) (pcL _) ?hf ?ht ?hkp rfl ?_ rfl rfl rfl
  case hpo => walk_at "pv"
  case hpe => walk_at "pv"
  ((case hf => k_dflt k_is); (case ht => k_dflt k_is); (case hkp => k_dflt k_is))
  intro tk1
  have haf0 : 0 ≤ (sz * 8).fdiv 10 := Int.fdiv_nonneg (by omega) (by decide)
  have haf2 : (sz * 8).fdiv 10 ≤ sz := by rw [Int.fdiv_eq_ediv_of_nonneg _ (by decide)]; omega
  obtain ⟨af, haf'⟩ : ∃ af : Nat, (sz * 8).fdiv 10 = (af : Int) := ⟨((sz * 8).fdiv 10).toNat, (Int.toNat_of_nonneg haf0).symm⟩
  refine c_resize (S0.base X T) S0.rep (by omega) (by omega) P.C (by omega) (by omega) (by omega) P.cl fun h1 tk8 st1 kvs3 C3 FR emx eaf K3 e3' => ?_
  rw [haf', Int.toNat_natCast] at K3 e3'
  have S1 : St 46 182 w g L m2 (st1.withEx (own ++ ([(la, listOf its.toArray ln)] ++ [(ha, ho)]))) h1 := by
    rw [withEx_self (by rw [FR.ex, P.ex]; rfl)]; exact S0.after C3
  have hcc : m2 "cache" = some (.ref st1.c) := by rw [FR.c]; exact mc2
  have e3a : vw st (D.take af) = (vw st D).take af := by unfold vw; rw [List.map_take]
  rw [e3a] at e3'
  have hi2 : IntsAre its ((vw st D).map (·.1)) := by rw [vw_keys]; exact P.it
  have hWl : (vw st D).length = D.length := by unfold vw; rw [List.length_map]
  have key : ∀ q ∈ D.take af, (q.1, (st1.F q.2.x).val, (st1.F q.2.x).cln) ∈ vw st D := fun q hq => List.mem_of_mem_take (e3' ▸ List.mem_map.mpr ⟨q, hq, rfl⟩ : _ ∈ (vw st D).take af)
  have both : ∀ q ∈ D.take af, (st1.F q.2.x).cln = .none ∧ ∃ i, IsI i (st1.F q.2.x).val := fun q hq => by
    obtain ⟨a, ha, e⟩ := List.mem_map.mp (key q hq)
    simp only [Prod.mk.injEq] at e
    rw [← e.2.2, ← e.2.1]
    exact ⟨P.cl a ha, P.vi a ha⟩
  have c1 := fun q hq => (both q hq).1
  have c2 := fun q hq => (both q hq).2
  have hp6 : hkv.Perm ((vw st D).map pr) := P.hp
  refine gen_ (a := vw st D) fun W hW => ?_
  rw [hW] at e3' hi2 hWl hp6
  have his : IsI sz (.int sz ts) := ⟨ts, rfl⟩
  -- the rest falls
  refine seqP (P := SizeP prog w g L own sz n k) ?_ ?_
  · have hlW : (W.length : Int) = ((W.map (·.1)).length : Int) := by rw [List.length_map]
    refine' if_int (a := (W.length : Int)) (b := (af : Int)) .gt ?hl ?hr ?_ ?_ (by with_unfolding_all rfl)
    case hl =>
      refine PvI.eq ?_ hlW.symm
      refine PvI.exLen (a := la) (its := its) (n := ln) S1 (List.mem_append_right _ (.head _)) ?hfn ?ho hi2 (by rw [List.length_map]; omega) rfl rfl rfl
      case hfn => refine' Pv.builtin S1 X T ?he rfl ?hn rfl rfl ?hd; (case he => k_dflt k_is); (case hn => decide); (case hd => decide)
      case ho => walk_at "pv"
    case hr =>
      refine PvI.eq (PvI.fdiv (PvI.mul (PvI.of (t := ts) ?hm) PvI.const ?hmul) PvI.const (by decide) (by decide)) haf'
      case hm => walk_at "pv"
      case hmul => exact IntMulOk.of_right (by decide)
    · intro hgt tk8
      have hgt : (af : Int) < (W.length : Int) := of_decide_eq_true hgt
      have haf1 : af ≤ W.length := by omega
      refine wpAny_mono (law_cut S1 X hu' hh hi2 P.od hp6 (by omega) haf1 ml2 mh2 ms2 haf' rfl) (fun fl s' hf => ?_) fun _ _ e => e
      obtain ⟨rfl, h9, tk11, b, ho7, hk7, m7, rfl, S11, hod7, hp7, ml7, hm7⟩ := hf
      have mc7 := (hm7 "cache" (by decide) (by decide)).trans hcc
      have mh7 := (hm7 "held" (by decide) (by decide)).trans mh2
      have ms7 := (hm7 "size" (by decide) (by decide)).trans ms2
      have mn7 := (hm7 "n" (by decide) (by decide)).trans mn2
      have mk7 := (hm7 "key" (by decide) (by decide)).trans mk2
      refine ⟨rfl, h9, tk11, rfl, _, _, S11, ⟨D.take af, kvs3, b, its.take af, 0, ha, ho7, hk7, ?_⟩, ⟨vn, mn7, hvn⟩, ⟨_, mk7, tk', rfl⟩⟩
      refine ⟨K3.withEx, rfl, ?_, hod7, ?_, c1, c2, ?_, hsz1, by omega, ⟨ts, emx⟩, eaf, P.ne, mc7, ⟨_, ms7, ts, rfl⟩, ml7, mh7⟩
      · rw [List.map_take]; exact P.it.take af
      · rw [vw_withEx, e3']; exact hp7
      · rw [List.length_take]; omega
    · intro hgt tk8
      have hgt : ¬ (af : Int) < (W.length : Int) := of_decide_eq_false hgt
      have et : W.take af = W := List.take_of_length_le (by omega)
      rw [et] at e3'
      have eD : D.take af = D := List.take_of_length_le (by omega)
      refine wpAny_execs_nil ⟨rfl, h1, tk8, rfl, _, m2, S1, ⟨D.take af, kvs3, la, its, ln, ha, ho, hkv, ?_⟩, ⟨vn, mn2, hvn⟩, ⟨_, mk2, tk', rfl⟩⟩
      refine ⟨K3.withEx, rfl, ?_, P.od, ?_, c1, c2, ?_, hsz1, by omega, ⟨ts, emx⟩, eaf, P.ne, hcc, ⟨_, ms2, ts, rfl⟩, ml2, mh2⟩
      · rw [eD]; exact P.it
      · rw [vw_withEx, e3']; exact hp6
      · rw [List.length_take]; omega
  rintro h5 tk5 ⟨st5, m5, S5, P5, q1, q2⟩
  refine wpAny_execs_cons (wpAny_mono (law_isin (n := n) S5 X T hroom hu hh P5 q2) (fun fl s' hf => ?_) fun _ _ e => e)
  obtain ⟨rfl, h6, tk6, rfl, S6⟩ := hf
  exact wpAny_execs_nil ⟨rfl, h6, tk6, m5, st5, sz, rfl, S6, P5, q1, q2⟩
end
section
variable {prog : Program} {w : World} {A A₀ : Around} {E : Value → Shared → Prop} {s : Shared} {g h : Heap} {L : Addr} {m m' : Str → Option Value} {tk tk₀ : Nat} {loose : List Str} {mg mb : Str → Option Value} {h₀ : Heap} {st st' : LS} {r : Rg}
  {f : Addr} {cd : Value} {cn : Str} {own own' : List (Addr × Obj)} {size : Int} {D D' : List (Int × Rg)} {kvs kvs' : List (Int × Value)} {la : Addr} {its : List Value} {ln : Nat} {ha : Addr} {ho : Obj} {hk : List (Int × Value)} {k : Int}

inductive LoopEnd (prog : Program) (w : World) (g : Heap) (L : Addr) (own : List (Addr × Obj)) (s : Shared) (fl : Flow) (s' : Shared) : Prop
  | mk (e : fl = .next) (h' : Heap) (tk' : Nat) (m' : Str → Option Value) (st' : LS) (size' : Int) (es : s' = up s h' tk') (S : St 46 182 w g L m' st' h') (Q : LQ prog w own st' m' size')
inductive DeedP (prog : Program) (w : World) (g : Heap) (L : Addr) (own : List (Addr × Obj)) (h' : Heap) : Prop
  | mk (m' : Str → Option Value) (st' : LS) (size' : Int) (S : St 46 182 w g L m' st' h') (Q : LQ prog w own st' m' size')
/-- one deed of the script -/
theorem law_deed {n : Int} (S : St 46 182 w g L m st h) (X : (hd2.heap_39 w.params).In g) (T : TopRead hd2.view_39 loose mg mb g) (K0 : Below A₀ g [] g) (hroom : A₀.depth + 30 < recursionLimit) (hu : A₀.units + 120 < cLine) (hh : A₀.handled = none)
   (hloose : ("KeyError" : Str) ∉ loose) (hcl : ("KeyError" : Str) ∉ (clssOf hd2.view_39 loose).map (·.name))
   (P : LQ prog w own st m size) (hn : ∃ v, m "n" = some v ∧ IsI n v) :
   wpAny (model prog w) (A₀.deeper (envOf cn lawS L f cd)) (execs loopB (envOf cn lawS L f cd)) (LoopEnd prog w g L own s) (fun _ _ => False) (up s h tk₀) := by
  obtain ⟨vn, hn, hvn⟩ := hn
  have hd : (A₀.deeper (envOf cn lawS L f cd)).depth = A₀.depth + 1 := rfl
  have hu1 : (A₀.deeper (envOf cn lawS L f cd)).units = A₀.units + 3 := rfl
  have hh' : (A₀.deeper (envOf cn lawS L f cd)).handled = none := hh
  obtain ⟨D, kvs, la, its, ln, ha, ho, hk, P⟩ := P
  refine wpAny_execs_cons ?_
  refine' as_nameE (P := IsI (n.fmod 5)) S ?he ?_ rfl rfl rfl
  case he =>
    refine PvI.mod (PvI.ofI ?h1 hvn) PvI.const (by decide)
    case h1 => walk_at "pv"
  rintro vkind hkind h1 tk1 S1
  refine wpAny_execs_cons ?_
  refine' as_nameE (P := IsI ((n.fdiv 5).fmod 150)) S1 ?he ?_ rfl rfl rfl
  case he =>
    refine PvI.mod (PvI.fdiv (PvI.ofI ?h1 hvn) PvI.const (by decide) (by decide)) PvI.const (by decide)
    case h1 => walk_at "pv"
  rintro vkey hkey h2 tk2 S2
  have P2 : LQ prog w own st (fun y => if y = Str.ofString "key" then some vkey else if y = Str.ofString "kind" then some vkind else m y) size := ⟨D, kvs, la, its, ln, ha, ho, hk, P.mem rfl rfl rfl rfl⟩
  have hn2 : ∃ v, (fun y => if y = Str.ofString "key" then some vkey else if y = Str.ofString "kind" then some vkind else m y) "n" = some v ∧ IsI n v := ⟨vn, hn, hvn⟩
  have hk2 : ∃ v, (fun y => if y = Str.ofString "key" then some vkey else if y = Str.ofString "kind" then some vkind else m y) "key" = some v ∧ IsI ((n.fdiv 5).fmod 150) v := ⟨vkey, rfl, hkey⟩
  have hkd2 : (fun y => if y = Str.ofString "key" then some vkey else if y = Str.ofString "kind" then some vkind else m y) "kind" = some vkind := rfl
  generalize (fun y => if y = Str.ofString "key" then some vkey else if y = Str.ofString "kind" then some vkind else m y) = m2 at S2 P2 hn2 hk2 hkd2
  refine seqP (P := DeedP prog w g L own) ?_ ?_
  · refine' if_int (a := n.fmod 5) (b := 2) .lt ?hl PvI.const ?_ ?_ (by with_unfolding_all rfl)
    case hl => exact PvI.ofI (v := vkind) (by walk_at "pv") hkind
    · intro _ tk3
      refine wpAny_execs_cons (wpAny_mono (law_adds S2 X T (by omega) (by omega) hh' P2 hn2 hk2) (fun fl s' hf => ?_) fun _ _ e => e)
      obtain ⟨rfl, h', tk', m', st', size', rfl, S', Q', _⟩ := hf
      exact wpAny_execs_nil ⟨rfl, h', tk', rfl, m', st', size', S', Q'⟩
    · intro _ tk3
      refine wpAny_execs_cons ?_
      refine' if_int (a := n.fmod 5) (b := 2) .eq ?hl PvI.const ?_ ?_ (by with_unfolding_all rfl)
      case hl => exact PvI.ofI (v := vkind) (by walk_at "pv") hkind
      · intro _ tk4
        refine wpAny_mono (law_get S2 X T (by omega) (by omega) hh' P2 hn2 hk2) (fun fl s' hf => ?_) fun _ _ e => e
        obtain ⟨rfl, h', tk', m', st', size', rfl, S', Q', _⟩ := hf
        exact wpAny_execs_nil ⟨rfl, h', tk', rfl, m', st', size', S', Q'⟩
      · intro _ tk4
        refine wpAny_execs_cons ?_
        refine' if_int (a := n.fmod 5) (b := 3) .eq ?hl PvI.const ?_ ?_ (by with_unfolding_all rfl)
        case hl => exact PvI.ofI (v := vkind) (by walk_at "pv") hkind
        · intro _ tk5
          refine wpAny_mono (law_item S2 X T K0 rfl (by omega) (by omega) hh hloose hcl P2 hn2 hk2) (fun fl s' hf => ?_) fun _ _ e => e
          obtain ⟨rfl, h', tk', m', st', size', rfl, S', Q', _⟩ := hf
          exact wpAny_execs_nil (wpAny_execs_nil ⟨rfl, h', tk', rfl, m', st', size', S', Q'⟩)
        · intro _ tk5
          refine wpAny_mono (law_size S2 X T (by omega) (by omega) hh' P2 hn2 hk2) (fun fl s' hf => ?_) fun _ _ e => e
          obtain ⟨rfl, h', tk', m', st', size', rfl, S', Q', _⟩ := hf
          exact wpAny_execs_nil (wpAny_execs_nil ⟨rfl, h', tk', rfl, m', st', size', S', Q'⟩)
  rintro h3 tk3 ⟨m3, st3, size3, S3, P3⟩
  refine wpAny_execs_cons (wpAny_mono (law_check (n := n) S3 X T (by omega) (by omega) hh' P3) (fun fl s' hf => ?_) fun _ _ e => e)
  obtain ⟨rfl, h4, tk4, rfl, S4⟩ := hf
  exact wpAny_execs_nil ⟨rfl, h4, tk4, m3, st3, size3, rfl, S4, P3⟩
end
section
variable {prog : Program} {w : World} {A A₀ : Around} {E : Value → Shared → Prop} {s : Shared} {g h : Heap} {L : Addr} {m m' : Str → Option Value} {tk tk₀ : Nat} {p : Program} {loose : List Str} {mg mb : Str → Option Value} {h₀ : Heap} {st st' : LS} {r : Rg}
  {f : Addr} {cd : Value} {cn : Str} {own own' : List (Addr × Obj)} {size : Int} {D D' : List (Int × Rg)} {kvs kvs' : List (Int × Value)} {la : Addr} {its : List Value} {ln : Nat} {ha : Addr} {ho : Obj} {hk : List (Int × Value)} {k : Int}

/-- the end -/
theorem law_end {Q : Flow → Shared → Prop} (S : St 46 182 w g L m st h) (X : (hd2.heap_39 w.params).In g) (T : TopRead p loose mg mb g) (hroom : A.depth + 20 < recursionLimit) (hu : A.units + 110 < cLine) (hh : A.handled = none)
   (P : LQ prog w own st m size) (hQ : ∀ h' tk, (∃ st, St 46 182 w g L m st h') → Q (.ret (.bool true)) (up s h' tk)) :
   wpAny (model prog w) A (exec (nthS lawB 6) (envOf cn lawS L f cd)) Q (fun _ _ => False) (up s h tk₀) := by
  obtain ⟨D, kvs, la, its, ln, ha, ho, hkv, P⟩ := P
  have s1 := P.s1
  have s2 := P.s2
  have hlen := P.len
  have hDl : D.length ≤ 100 := by omega
  have hz : kvs.length ≤ 100 := by rw [P.C.len]; exact hDl
  have mc := P.mc
  have ml := P.ml
  obtain ⟨vs, ms, hvs⟩ := P.ms
  refine wpAny_Return_some (wpAny_And2 (wpAny_Compare1 ?_ (by with_unfolding_all rfl)))
  refine Call_ (Pv.at (v := .builtin "sorted") ?hfn fun tk1 => ?_) rfl
  case hfn => refine' Pv.builtin S X T ?he rfl ?hn rfl rfl ?hd; (case he => k_dflt k_is); (case hn => decide); (case hd => decide)
  refine callWith_builtin1 (spliced_more ?_ rfl) rfl rfl
  refine' ev_m0 (f := 116) (x := st.c) ?hpo S.cinst (X.keeps S.F.keep) (pcL _) ?hf ?ht ?hkp rfl ?_ rfl
  case hpo => walk_at "pv"
  ((case hf => k_dflt k_is); (case ht => k_dflt k_is); (case hkp => k_dflt k_is))
  intro tk2
  refine c_keys (S.base X T) S.rep (by omega) (by omega) hh P.C (by omega) fun h1 tk3 a C1 ha1 ha2 => spliced_none ?_
  have S1 := S.after C1
  refine sorted_keys S1.F hh ha2 S1.dget P.C.od (by omega) fun h2 tk4 b out ns1 n1 G2 hb1 hb2 i1 p1 w1 => ?_
  have S2 := S1.addEx G2 hb1 hb2
  refine Call_ (Pv.at (v := .builtin "sorted") ?hfn fun tk5 => ?_) rfl
  case hfn => refine' Pv.builtin S2 X T ?he rfl ?hn rfl rfl ?hd; (case he => k_dflt k_is); (case hn => decide); (case hd => decide)
  refine callWith_builtin1 (spliced_more (Pv.at (v := .ref la) (by walk_at "pv") fun tk6 => spliced_none ?_) rfl) rfl rfl
  have hla := (S2.exGet (a := la) (o := listOf its.toArray ln) (.tail _ (by rw [P.ex]; exact List.mem_append_right _ (.head _)))).1
  refine sorted_list ⟨_, hla, rfl, _, rfl⟩ P.it (by rw [List.length_map]; omega) fun h3 tk7 c out2 ns2 n2 G3 hc1 hc2 i2 p2 w2 => ?_
  have S3 := S2.grow G3
  have e : ns1 = ns2 := by
    have hp : ns1.Perm ns2 := by
      refine p1.trans ?_
      refine ((P.C.perm.map _).trans ?_).trans p2.symm
      rw [row_keys]
    exact hp.eq_of_pairwise (fun a b _ _ h1 h2 => Int.le_antisymm h1 h2) w1 w2
  have hb3 := G3 b _ hb2
  refine eq_intsK (ns := ns1) (ms := ns2) (vs := out.toList) (us := out2.toList) ⟨_, hb3, rfl, _, by rw [Array.toArray_toList]⟩ i1 ⟨_, hc2, rfl, _, by rw [Array.toArray_toList]⟩ i2 (by omega) ?_
  rw [decide_eq_true e]
  refine wpAny_truthy_bool ?_
  rw [if_pos rfl]
  refine wpAny_Compare1 ?_ (by with_unfolding_all rfl)
  refine' ev_m0 (f := 101) (x := (st.withEx ((b, listOf out n1) :: st.ex)).c) ?hpo S3.cinst (X.keeps S3.F.keep) (pcL _) ?hf ?ht ?hkp rfl ?_ rfl
  case hpo => exact Pv.eq (v := .ref st.c) (by walk_at "pv") rfl
  ((case hf => k_dflt k_is); (case ht => k_dflt k_is); (case hkp => k_dflt k_is))
  intro tk8
  refine c_size (S3.base X T) S3.rep (by omega) fun h4 tk9 C4 => ?_
  have S4 := S3.after C4
  refine Pv.at (v := vs) (by walk_at "pv") fun tk10 => ?_
  obtain ⟨t1, hmx⟩ := P.mx
  obtain ⟨t2, rfl⟩ := hvs
  have hmx : (st.withEx ((b, listOf out n1) :: st.ex)).mx = .int size t1 := hmx
  rw [hmx]
  refine eq_int ?_
  rw [beq_self_eq_true]
  exact hQ h4 tk10 ⟨_, S4⟩
end
section
variable {prog : Program} {w : World} {A A₀ : Around} {E : Value → Shared → Prop} {s : Shared} {g h : Heap} {L : Addr} {m m' : Str → Option Value} {tk tk₀ : Nat} {loose : List Str} {mg mb : Str → Option Value} {h₀ : Heap} {st st' : LS} {r : Rg}
  {f : Addr} {cd : Value} {cn : Str} {own own' : List (Addr × Obj)} {size : Int} {D D' : List (Int × Rg)} {kvs kvs' : List (Int × Value)} {la : Addr} {its : List Value} {ln : Nat} {ha : Addr} {ho : Obj} {hk : List (Int × Value)} {k : Int}

theorem as_nameF {cs : Scope} {P : Value → Prop} {Q : Flow → Shared → Prop} {x : Str} {pos pos' : Pos} {e : Expr} (F : Fr g L h m) (he : PvE prog w A (envOf cn cs L f cd) e P h)
    (q : ∀ v, P v → ∀ h' tk, Fr g L h' (fun y => if y = x then some v else m y) → Q .next (up s h' tk))
    (hk : cs.kind = .function) (hl : (envOf cn cs L f cd).kindOf x = some .local) (hs : swapsWith e (some (.Name x pos')) pos.line (envOf cn cs L f cd) = pure false) :
    wpAny (model prog w) A (exec (.Assign [.Name x pos'] e pos) (envOf cn cs L f cd)) Q E (up s h tk) :=
  wpAny_Assign_Name (he.at fun v tk hv => wpAny_storeName_local (s := up s h tk) hl F.ns (fun h' hn hs => q v hv h' _ (F.set hn hs)) (by show (cs.kind == .class || (cs.kind == .module && L != mainGlobals)) = false; rw [hk]; rfl)) hs

/-- what the cache is at the start -/
inductive L0 (prog : Program) (w : World) (st : LS) (m : Str → Option Value) (l : Addr) : Prop
  | mk (sz : Int) (ts : Tok) (C : Cst (TI prog w (hd2.heap_39 w.params)) st [] []) (ex : st.ex = []) (mx : st.mx = .int sz ts) (af : IsI ((sz * 8).fdiv 10) st.af) (s1 : 1 ≤ sz) (s2 : sz ≤ 100) (mc : m "cache" = some (.ref st.c)) (ms : ∃ v, m "size" = some v ∧ IsI sz v) (ml : m "script" = some (.ref l))

theorem law_main {Q : Flow → Shared → Prop} {l : Addr} {vs : List Value} {ns : List Int} (F : Fr g L h m) (X : (hd2.heap_39 w.params).In g) (T : TopRead hd2.view_39 loose mg mb g) (K0 : Below A₀ g [] g) (hroom : A₀.depth + 40 < recursionLimit) (hu : A₀.units + 140 < cLine) (hh : A₀.handled = none)
   (hloose : ("KeyError" : Str) ∉ loose) (hcl : ("KeyError" : Str) ∉ (clssOf hd2.view_39 loose).map (·.name))
   (hm : m "script" = some (.ref l)) (hl : g.IsList l vs.toArray) (hI : IntsAre vs ns) (hns : ns.length ≤ 100000)
   (hQ : ∀ h' tk, (∃ m st, St 46 182 w g L m st h') → Q (.ret (.bool true)) (up s h' tk)) :
   wpAny (model prog w) (A₀.deeper (envOf cn lawS L f cd)) (execs lawB (envOf cn lawS L f cd)) Q (fun _ _ => False) (up s h tk₀) := by
  have hd : (A₀.deeper (envOf cn lawS L f cd)).depth = A₀.depth + 1 := rfl
  have hu1 : (A₀.deeper (envOf cn lawS L f cd)).units = A₀.units + 3 := rfl
  have hh' : (A₀.deeper (envOf cn lawS L f cd)).handled = none := hh
  have hvl : vs.length ≤ 100000 := by rw [hI.length]; exact hns
  refine wpAny_execs_cons ?_
  refine' as_nameF (P := IsI 100) F PvI.const ?_ rfl rfl rfl
  intro v100 h100 h1 tk1 F1
  refine wpAny_execs_cons (wpAny_Assign_Name ?_ rfl)
  refine Call_ (name_K (s := up s h1 tk1) F1 X T (by k_dflt k_is) ?_ rfl rfl (by decide)) rfl
  refine callWith_K0 (X.keeps F1.keep) (by k_dflt k_is) ?_
  refine c_new (pos := []) (n := 100) (tn := 252) (T' := TI prog w (hd2.heap_39 w.params)) F1 X T (by omega) (by omega) (.inr ⟨rfl, rfl, rfl⟩) (by decide) (by decide) fun h2 tk2 st2 S2 C2 ex2 mx2 af2 => ?_
  refine store_ (s := up s h2 tk2) S2 (fun h3 tk3 S3 => ?_) rfl rfl
  show wpAny _ _ (execs _ _) _ _ (up s h3 tk3)
  have i3 : L0 prog w st2 (fun y => if y = Str.ofString "cache" then some (Value.ref st2.c) else if y = Str.ofString "size" then some v100 else m y) l :=
    ⟨100, 252, C2, ex2, mx2, af2, by decide, by decide, rfl, ⟨v100, rfl, h100⟩, hm⟩
  obtain ⟨m3, S3, i3⟩ : ∃ m3, St 46 182 w g L m3 st2 h3 ∧ L0 prog w st2 m3 l := ⟨_, S3, i3⟩
  -- the script's first
  refine seqP (P := fun h' => ∃ m' st', St 46 182 w g L m' st' h' ∧ L0 prog w st' m' l) ?_ ?_
  · have ms3 : m3 "script" = some (.ref l) := by obtain ⟨_, _, _, _, _, _, _, _, _, _, x⟩ := i3; exact x
    have hl3 : h3.IsList l vs.toArray := hl.at fun o e => S3.F.keep l o e
    refine wpAny_If (isTrue_plain (Pv.at (v := .ref l) (by walk_at "pv") fun tk4 => wpAny_truthy_list (s := up s h3 tk4) hl3 (by rw [List.size_toArray]; omega) ?_) rfl)
    cases vs with
    | nil =>
      rw [if_neg (by decide)]
      exact wpAny_execs_nil ⟨rfl, h3, tk4 + 1 + 1, rfl, m3, st2, S3, i3⟩
    | cons v0 vs0 =>
      rw [if_pos (by simp)]
      show wpAny _ _ (execs _ _) _ _ (up s h3 (tk4 + 1 + 1))
      obtain ⟨a0, t0, rfl⟩ := hI.all v0 (.head _)
      have first : ∀ {h : Heap} {m : Str → Option Value} {st : LS}, St 46 182 w g L m st h → m "script" = some (.ref l) → True := fun _ _ => trivial
      refine wpAny_execs_cons ?_
      refine' as_nameE (P := IsI (a0.fmod 40 + 1)) S3 ?he ?_ rfl rfl rfl
      case he =>
        refine PvI.add (PvI.mod ?h0 PvI.const (by decide)) PvI.const
        case h0 =>
          intro s Q E hs q
          subst hs
          refine Subscript_ ((Pv.name S3 ms3 rfl rfl (by decide)) _ _ _ rfl fun tk => PvI.const _ _ _ rfl fun v tk' hv => ?_)
          obtain ⟨t, rfl⟩ := hv
          exact PyProof.Rows.item_list (s := { s with toks := tk' }) (l := l) (x := .int a0 t0) hl3 (by decide) (by decide) rfl (q _ _ ⟨t0, rfl⟩) (by with_unfolding_all rfl) (by intro _; with_unfolding_all rfl)
      rintro vsz ⟨ts, rfl⟩ h4 tk5 S4
      have hs1 : (1 : Int) ≤ a0.fmod 40 + 1 := by have := Int.fmod_nonneg_of_pos a0 (b := 40) (by decide); omega
      have hs2 : a0.fmod 40 + 1 ≤ 40 := by have := Int.fmod_lt_of_pos a0 (b := 40) (by decide); omega
      obtain ⟨sz, hsz, S4⟩ : ∃ sz, a0.fmod 40 + 1 = sz ∧ St 46 182 w g L (fun y => if y = Str.ofString "size" then some (Value.int sz ts) else m3 y) st2 h4 := ⟨_, rfl, S4⟩
      rw [hsz] at hs1 hs2
      have hl4 : h4.IsList l (Value.int a0 t0 :: vs0).toArray := hl.at fun o e => S4.F.keep l o e
      have ms4 : (fun y => if y = Str.ofString "size" then some (Value.int sz ts) else m3 y) "script" = some (.ref l) := ms3
      have mz4 : (fun y => if y = Str.ofString "size" then some (Value.int sz ts) else m3 y) "size" = some (.int sz ts) := rfl
      have mc4 : (fun y => if y = Str.ofString "size" then some (Value.int sz ts) else m3 y) "cache" = some (.ref st2.c) := by obtain ⟨_, _, _, _, _, _, _, _, x, _⟩ := i3; exact x
      obtain ⟨m4, S4, ms4, mz4, mc4⟩ : ∃ m4, St 46 182 w g L m4 st2 h4 ∧ m4 "script" = some (.ref l) ∧ m4 "size" = some (.int sz ts) ∧ m4 "cache" = some (.ref st2.c) := ⟨_, S4, ms4, mz4, mc4⟩
      refine wpAny_execs_cons ?_
      refine' if_int (a := (a0.fdiv 40).fmod 5) (b := 4) .eq ?hl PvI.const ?_ ?_ (by with_unfolding_all rfl)
      case hl =>
        refine PvI.mod (PvI.fdiv ?h0 PvI.const (by decide) (by decide)) PvI.const (by decide)
        case h0 =>
          intro s Q E hs q
          subst hs
          refine Subscript_ ((Pv.name S4 ms4 rfl rfl (by decide)) _ _ _ rfl fun tk => PvI.const _ _ _ rfl fun v tk' hv => ?_)
          obtain ⟨t, rfl⟩ := hv
          exact PyProof.Rows.item_list (s := { s with toks := tk' }) (l := l) (x := .int a0 t0) hl4 (by decide) (by decide) rfl (q _ _ ⟨t0, rfl⟩) (by with_unfolding_all rfl) (by intro _; with_unfolding_all rfl)
      · intro _ tk6
        refine wpAny_execs_cons ?_
        refine' as_nameE (P := IsI 100) S4 PvI.const ?_ rfl rfl rfl
        intro v hv h5 tk7 S5
        refine wpAny_execs_nil (wpAny_execs_nil ⟨rfl, h5, tk7, rfl, _, st2, S5, 100, 252, C2, ex2, mx2, af2, by decide, by decide, mc4, ⟨v, rfl, hv⟩, ms4⟩)
      · intro _ tk6
        refine wpAny_execs_cons (wpAny_Assign_Name ?_ rfl)
        refine Call_ (Pv.at (Pv.glob S4 X T (v := .ref 182) (by k_dflt k_is) rfl rfl (by decide)) fun tk7 => ?_) rfl
        refine callWith_K X (by k_dflt k_is) (spliced_more (Pv.at (v := .int sz ts) (by walk_at "pv") fun tk8 => spliced_none ⟨X.keeps S4.F.keep, ?_⟩) rfl) rfl rfl
        refine c_new (pos := [.int sz ts]) (n := sz) (tn := ts) (T' := TI prog w (hd2.heap_39 w.params)) S4.F X T (by omega) (by omega) (.inl rfl) (by omega) (by omega) fun h5 tk9 st5 S5 C5 ex5 mx5 af5 => ?_
        refine store_ (s := up s h5 tk9) S5 (fun h6 tk10 S6 => ?_) rfl rfl
        show wpAny _ _ (execs _ _) _ _ (up s h6 tk10)
        exact wpAny_execs_nil (wpAny_execs_nil ⟨rfl, h6, tk10, rfl, _, st5, S6, sz, ts, C5, ex5, mx5, af5, hs1, by omega, rfl, ⟨_, mz4, ts, rfl⟩, ms4⟩)
  rintro h4 tk4 ⟨m4, st4, S4, sz, ts, C4, ex4, mx4, af4, hs1, hs2, mc4, ms4, mscr4⟩
  -- line, held
  refine wpAny_execs_cons (wpAny_Assign_Name ?_ rfl)
  refine wpAny_List (spliced_none ⟨Nat.zero_le _, ?_⟩)
  have fr : ∀ h : Heap, h.get? h.objs.size = none := fun h => by
    cases e : h.get? h.objs.size with
    | none => rfl
    | some o => exact absurd (Heap.lt_size e) (Nat.lt_irrefl _)
  have S5 := S4.addEx (o := { cls := .type "list", data := .seq ([] : List Value).toArray }) Grow.push (fr h4) (Heap.get?_push_size _ rfl)
  refine store_ (s := up s (h4.push _) tk4) S5 (fun h6 tk6 S6 => ?_) rfl rfl
  show wpAny _ _ (execs _ _) _ _ (up s h6 tk6)
  refine wpAny_execs_cons (wpAny_Assign_Name ?_ rfl)
  refine wpAny_Dict_empty ?_
  have S7 := S6.addEx (o := { cls := .type "dict", data := .dict #[] }) Grow.push (fr h6) (Heap.get?_push_size _ rfl)
  have hga : g.get? h6.objs.size = none := next_is_new S6.F
  refine store_ (s := up s (h6.push _) tk6) S7 (fun h8 tk8 S8 => ?_) rfl rfl
  show wpAny _ _ (execs _ _) _ _ (up s h8 tk8)
  have S9 := S8.permEx (ex := [(h4.objs.size, listOf ([] : List Value).toArray 0), (h6.objs.size, dictOf [] 0)]) (by
    show [_, _].Perm (_ :: _ :: st4.ex)
    rw [ex4]; exact List.Perm.swap _ _ _)
  simp only [withEx_withEx] at S9
  have Q9 : LQ prog w [] (st4.withEx [(h4.objs.size, listOf ([] : List Value).toArray 0), (h6.objs.size, dictOf [] 0)]) (fun y => if y = Str.ofString "held" then some (Value.ref (up s h6 tk6).heap.objs.size) else if y = Str.ofString "line" then some (Value.ref (up s h4 tk4).heap.objs.size) else m4 y) sz :=
    ⟨[], [], h4.objs.size, [], 0, h6.objs.size, dictOf [] 0, [], C4.withEx, rfl, .nil, OD.new, List.Perm.nil, fun q hq => (by cases hq), fun q hq => (by cases hq), by show ((0 : Nat) : Int) ≤ sz; omega, hs1, hs2, ⟨ts, mx4⟩, af4, S6.F.notModules (modules_low T.nolimit), mc4, ms4, rfl, rfl⟩
  have mscr9 : (fun y => if y = Str.ofString "held" then some (Value.ref (up s h6 tk6).heap.objs.size) else if y = Str.ofString "line" then some (Value.ref (up s h4 tk4).heap.objs.size) else m4 y) "script" = some (.ref l) := mscr4
  obtain ⟨m9, st9, S9, Q9, mscr9⟩ : ∃ m9 st9, St 46 182 w g L m9 st9 h8 ∧ LQ prog w [] st9 m9 sz ∧ m9 "script" = some (.ref l) := ⟨_, _, S9, Q9, mscr9⟩
  have hl9 : h8.IsList l vs.toArray := hl.at fun o e => S9.F.keep l o e
  obtain ⟨ns', hns'⟩ := pick_ints hI (some 1) (some 11) none
  refine seqP (P := DeedP prog w g L []) ?_ ?_
  · refine for_st (n := (slicePick vs.toArray (some 1) (some 11) none).size) (Pe := fun i v => (slicePick vs.toArray (some 1) (some 11) none)[i]? = some v) (P := fun i st1 m1 => ∃ sz', LQ prog w [] st1 m1 sz') S9 rfl rfl rfl ?_ ⟨sz, Q9⟩ ?_ ?_ (by intro _; rfl) PassesOwn.never
    · refine ev_slice hl9 hvl ?ho (fun _ _ _ hs q => part_int PvI.const hs q) (fun _ _ _ hs q => part_int PvI.const hs q) ?_ (by intro _ _; rfl)
      case ho => walk_at "pv"
      intro h' tk b G hb hb'
      exact sets_list hh' G ⟨_, hb', rfl, _, rfl⟩ hb
    · rintro i v m1 st1 own' h1 tk1 hi hv ⟨sz1, Q1⟩ S1
      obtain ⟨nn, tn, rfl⟩ := hns'.all v (by
        have := Array.mem_of_getElem? hv
        exact Array.mem_toList_iff.mpr this)
      have P2 : LQ prog w (own' ++ []) (st1.withEx (own' ++ st1.ex)) (fun y => if y = Str.ofString "n" then some (Value.int nn tn) else m1 y) sz1 := by
        obtain ⟨D, kvs, la, its, ln, ha, ho, hk, Q⟩ := Q1.push (own' := own')
        exact ⟨D, kvs, la, its, ln, ha, ho, hk, Q.mem rfl rfl rfl rfl⟩
      refine wpAny_mono (law_deed (n := nn) S1 X T K0 (by omega) (by omega) hh hloose hcl P2 ⟨_, rfl, tn, rfl⟩) (fun fl s' hf => ?_) fun _ _ e => e
      obtain ⟨rfl, h2, tk2, m2, st2, sz2, rfl, S2, Q2⟩ := hf
      obtain ⟨st3, rfl, Q3⟩ := Q2.pop
      exact ⟨h2, tk2, m2, st3, rfl, S2, sz2, Q3⟩
    · rintro m1 st1 h1 tk1 ⟨sz1, Q1⟩ S1
      exact ⟨rfl, h1, tk1, rfl, m1, st1, sz1, S1, Q1⟩
  rintro h10 tk10 ⟨m10, st10, sz10, S10, Q10⟩
  refine wpAny_execs_cons (wpAny_mono (law_end S10 X T (by omega) (by omega) hh' Q10 (Q := fun fl s' => fl = .ret (.bool true) ∧ Q (.ret (.bool true)) s') fun h' tk hS => ⟨rfl, hQ h' tk ⟨m10, hS⟩⟩) (fun fl s' hf => ?_) fun _ _ e => e)
  obtain ⟨rfl, hf⟩ := hf
  exact hf
end
theorem whole : PySem.Challenge.rw_ji0029_02.Holds := by
  exact hd2 (by
    w_strict k_go0
    rename Top _ _ _ _ _ _ => T'
    rename Below _ _ _ _ => K0'
    rename Fr _ _ _ _ => F'
    rename IntsAre _ _ => I'
    rename (hd2.heap_39 _).In _ => X'
    rename Heap.IsList _ _ _ => hl'
    rename ¬_ < _ => hn'
    rename Shared => s1'
    rename _ = #[] => hgens'
    refine wpAny_mono (law_main (s := s1') (tk₀ := _) (Q := fun fl s' => fl = .ret (.bool true) ∧ ∃ h' tk L m, s' = up s1' h' tk ∧ Fr s1'.heap L h' m) F' X' ⟨T'.g, T'.b, T'.nolimit, T'.builtins, T'.free⟩ K0' ?a1 ?a2 ?a3 ?a4 ?a5 ?a7 hl' I' ?a8 ?a9) (fun fl s' hf => ?_) fun _ _ e => e.elim
    case a1 => decide +kernel
    case a2 => decide +kernel
    case a3 => rfl
    case a4 => decide +kernel
    case a5 => decide +kernel
    case a7 => rfl
    case a8 => omega
    case a9 => exact fun h' tk ⟨m, st, S⟩ => ⟨rfl, h', tk, _, m, rfl, S.F⟩
    obtain ⟨rfl, h', tk, L', m', rfl, G'⟩ := hf
    show GoodW _ _ _ _ _ (.ok (.ret (.bool true))) { s1' with heap := h', toks := tk }
    refine goodW_bool (L := L') (m := m') (show Fr s1'.heap L' h' m' from G') hgens' ?h1 ?h2 rfl
    case h1 => intro cls; rfl
    case h2 => wrow_post)
end Mine
theorem PySem.Challenge.cw_ji0029_02_holds : PySem.Challenge.rw_ji0029_02.Holds := by
  exact Mine.whole
