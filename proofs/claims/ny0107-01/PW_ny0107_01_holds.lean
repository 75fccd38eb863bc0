import PyProof.Rows.All
import Wide.All
import OpenK.AllK
import Wide.FinOn
import PySem.Challenge.RW_ny0107_01
set_option Elab.async false
section
open PySem PySem.W PyProof.Rows
set_option maxRecDepth 100000
set_option maxHeartbeats 8000000
namespace Mine
open_top hd for PySem.Challenge.rw_ny0107_01
end Mine
end
section
open PySem PySem.W PyProof.Rows PySem.Calls PySem.Spec
set_option maxRecDepth 100000
set_option maxHeartbeats 4000000
namespace Mine

/-- a token that Python has seen -/
structure Base where
  sh : Shared
  tv : Tok → Int
abbrev NTok (s0 : Base) (n : Int) := { t : Tok // t ≠ 0 ∧ s0.tv t = n }
def NZs (s0 : Base) (vs : List Value) : Prop := ∀ n t, Value.int n t ∈ vs → t ≠ 0 ∧ s0.tv t = n
/-- what an object that the call made is -/
inductive Ob where
  | il (ns : List Int)
  | list (vs : List Value)
  | tup (vs : List Value)
  | raw (P : Obj → Prop)

def Ob.Is (s0 : Base) : Ob → Obj → Prop
  | .il ns, o => ∃ vs n, o = listOf (List.toArray vs) n ∧ IntsAre vs ns ∧ NZs s0 vs
  | .list vs, o => ∃ n, o = listOf vs.toArray n
  | .tup vs, o => ∃ n, o = { cls := .type "tuple", data := .seq vs.toArray n }
  | .raw P, o => P o ∧ o.isFreed = false

theorem Ob.Is.free {s0 : Base} {b : Ob} {o : Obj} (h : b.Is s0 o) : o.isFreed = false := by
  cases b with
  | il ns => obtain ⟨vs, n, rfl, _⟩ := h; rfl
  | list vs => obtain ⟨n, rfl⟩ := h; rfl
  | tup vs => obtain ⟨n, rfl⟩ := h; rfl
  | raw P => exact h.2

/-- the frame's names -/
def lk (x : Str) : List (Str × Value) → Option Value
  | [] => none
  | p :: r => if x = p.1 then some p.2 else lk x r
def upd (x : Str) (v : Value) : List (Str × Value) → List (Str × Value)
  | [] => [(x, v)]
  | p :: r => if p.1 = x then (x, v) :: r else p :: upd x v r
def Subs : List (Str × Value) → List (Str × Value) → Prop
  | [], _ => True
  | p :: r, ps => lk p.1 ps = some p.2 ∧ Subs r ps

theorem lk_upd {x y : Str} {v : Value} : ∀ {ps : List (Str × Value)}, lk y (upd x v ps) = if y = x then some v else lk y ps
  | [] => by simp [upd, lk]
  | p :: r => by
    unfold upd
    by_cases e : p.1 = x
    · rw [if_pos e]
      simp only [lk]
      by_cases q : y = x
      · rw [if_pos q, if_pos q]
      · rw [if_neg q, if_neg q, if_neg (by rw [e]; exact q)]
    · rw [if_neg e]
      simp only [lk]
      rw [lk_upd (ps := r)]
      by_cases q : y = p.1
      · rw [if_pos q, if_neg (by rw [q]; exact e), if_pos q]
      · rw [if_neg q]
        by_cases z : y = x
        · rw [if_pos z, if_pos z]
        · rw [if_neg z, if_neg z, if_neg q]
theorem lk_subs {x : Str} {v : Value} {ps : List (Str × Value)} : ∀ {qs : List (Str × Value)}, Subs qs ps → lk x qs = some v → lk x ps = some v
  | [], _, h => by simp [lk] at h
  | p :: r, ⟨h1, h2⟩, h => by
    simp only [lk] at h
    by_cases e : x = p.1
    · rw [if_pos e] at h; cases h; rw [e]; exact h1
    · rw [if_neg e] at h; exact lk_subs h2 h

structure St (g : Heap) (L : Addr) (s0 : Base) (s : Shared) (ps : List (Str × Value)) (cs : List (Addr × Ob)) : Prop where
  fr : ∃ m, Fr g L s.heap m ∧ ∀ x v, lk x ps = some v → m x = some v
  led : ∀ c ∈ cs, ∃ o, s.heap.get? c.1 = some o ∧ c.2.Is s0 o ∧ c.1 ≠ L ∧ g.get? c.1 = none
  nd : (cs.map (·.1)).Nodup
  sh : ∃ h tk, s = { s0.sh with heap := h, toks := tk }

abbrev M (w : World) : Model := model Challenge.rw_ny0107_01.row.prog w
noncomputable abbrev Kf (w : World) : Frag := hd.heap_39 w.params
abbrev TopM (mean : ExcName → Option Value) (mg mb : Str → Option Value) (g : Heap) : Prop := Top hd.view_39 (looseW hd.view_39 []) mean mg mb g

/-- a caller's frame, as its callees know it -/
def frOb (m : Str → Option Value) : Ob := .raw fun o => LCg.NsObj o m
def FzIn (outer : List Env) (cs : List (Addr × Ob)) : Prop := ∀ e ∈ outer, e.scope.kind ≠ .module ∧ ∃ Li m, e.frame = some Li ∧ (Li, frOb m) ∈ cs
def FzA (A : Around) (env : Env) (cs : List (Addr × Ob)) : Prop := ∃ outer, A.frames = some (env :: outer) ∧ FzIn outer cs

structure Cx (w : World) (A : Around) (env : Env) (g : Heap) (L : Addr) (d : Nat) : Prop where
  ex : ∃ mean mg mb, TopM mean mg mb g
  X : (Kf w).In g
  hl : env.locals = L
  hf : env.frame = some L
  hk : env.scope.kind = .function
  hgl : env.globals = mainGlobals
  hbn : env.builtins = builtinsNs
  hh : A.handled = none
  dep : A.depth + d < recursionLimit
  un : A.units + 8 * d < cLine

section
variable {g : Heap} {L : Addr} {s0 : Base} {s s' : Shared} {ps qs : List (Str × Value)} {cs cs' : List (Addr × Ob)} {a : Addr} {b : Ob}

theorem St.subs (S : St g L s0 s ps cs) (h : Subs qs ps) : St g L s0 s qs cs :=
  ⟨let ⟨m, F, k⟩ := S.fr; ⟨m, F, fun x v e => k x v (lk_subs h e)⟩, S.led, S.nd, S.sh⟩
theorem St.toks (S : St g L s0 s ps cs) (n : Nat) : St g L s0 { s with toks := n } ps cs :=
  ⟨S.fr, S.led, S.nd, let ⟨h, _, e⟩ := S.sh; ⟨h, n, by rw [e]⟩⟩
theorem St.perm (S : St g L s0 s ps cs) (h : cs'.Perm cs) : St g L s0 s ps cs' :=
  ⟨S.fr, fun c hc => S.led c (h.subset hc), (h.map (·.1)).nodup_iff.mpr S.nd, S.sh⟩
theorem St.sub (S : St g L s0 s ps cs) (h : cs'.Sublist cs) : St g L s0 s ps cs' :=
  ⟨S.fr, fun c hc => S.led c (h.subset hc), (h.map (·.1)).nodup S.nd, S.sh⟩
theorem St.tail (S : St g L s0 s ps ((a, b) :: cs)) : St g L s0 s ps cs := S.sub (List.sublist_cons_self _ _)
theorem St.swap {a' : Addr} {b' : Ob} (S : St g L s0 s ps ((a, b) :: (a', b') :: cs)) : St g L s0 s ps ((a', b') :: (a, b) :: cs) := S.perm (List.Perm.swap _ _ _)

theorem St.isIntsX {ns : List Int} (S : St g L s0 s ps cs) (h : (a, Ob.il ns) ∈ cs) : ∃ vs n, s.heap.get? a = some (listOf (List.toArray vs) n) ∧ IntsAre vs ns ∧ NZs s0 vs :=
  let ⟨_, ho, ⟨vs, n, e, hi⟩, _⟩ := S.led _ h; ⟨vs, n, by rw [← e]; exact ho, hi⟩
theorem St.isInts {ns : List Int} (S : St g L s0 s ps cs) (h : (a, Ob.il ns) ∈ cs) : ∃ vs, s.heap.IsList a vs.toArray ∧ IntsAre vs ns :=
  let ⟨vs, n, ho, hi, _⟩ := S.isIntsX h; ⟨vs, ⟨_, ho, rfl, n, rfl⟩, hi⟩
theorem St.isIntsZ {ns : List Int} (S : St g L s0 s ps cs) (h : (a, Ob.il ns) ∈ cs) : ∃ vs, s.heap.IsList a vs.toArray ∧ IntsAre vs ns ∧ NZs s0 vs :=
  let ⟨vs, n, ho, hi, z⟩ := S.isIntsX h; ⟨vs, ⟨_, ho, rfl, n, rfl⟩, hi, z⟩
theorem St.isListX {vs : List Value} (S : St g L s0 s ps cs) (h : (a, Ob.list vs) ∈ cs) : ∃ n, s.heap.get? a = some (listOf vs.toArray n) :=
  let ⟨_, ho, ⟨n, e⟩, _⟩ := S.led _ h; ⟨n, by rw [← e]; exact ho⟩
theorem St.isList {vs : List Value} (S : St g L s0 s ps cs) (h : (a, Ob.list vs) ∈ cs) : s.heap.IsList a vs.toArray :=
  let ⟨n, ho⟩ := S.isListX h; ⟨_, ho, rfl, n, rfl⟩
theorem St.isTup {vs : List Value} (S : St g L s0 s ps cs) (h : (a, Ob.tup vs) ∈ cs) : IsTup s.heap a vs.toArray :=
  let ⟨_, ho, ⟨n, e⟩, _⟩ := S.led _ h; ⟨_, ho, by rw [e], n, by rw [e]⟩
theorem Ob.Is.il {s0 : Base} {vs : List Value} {ns : List Int} {n : Nat} (h : IntsAre vs ns) (z : NZs s0 vs) : (Ob.il ns).Is s0 (listOf vs.toArray n) := ⟨vs, n, rfl, h, z⟩
theorem Ob.Is.list {s0 : Base} {vs : List Value} {n : Nat} : (Ob.list vs).Is s0 (listOf vs.toArray n) := ⟨n, rfl⟩

/-- one object of the call's changed -/
theorem St.change {b' : Ob} {h' : Heap} {o' : Obj} (S : St g L s0 s ps ((a, b) :: cs)) (hs : Heap.SameBut a s.heap h') (ho : h'.get? a = some o') (hb : b'.Is s0 o') :
    St g L s0 { s with heap := h' } ps ((a, b') :: cs) := by
  obtain ⟨o, h1, h2, h3, h4⟩ := S.led _ (.head _)
  obtain ⟨m, F, k⟩ := S.fr
  have nd := S.nd
  simp only [List.map_cons, List.nodup_cons] at nd
  refine ⟨⟨m, F.change hs h3 h4, k⟩, fun c hc => ?_, S.nd, let ⟨_, tk, e⟩ := S.sh; ⟨h', tk, by rw [e]⟩⟩
  rcases List.mem_cons.mp hc with rfl | hc
  · exact ⟨o', ho, hb, h3, h4⟩
  · obtain ⟨o₂, k1, k2⟩ := S.led _ (.tail _ hc)
    exact ⟨o₂, (hs.2 _ fun q => nd.1 (q ▸ List.mem_map_of_mem hc)).trans k1, k2⟩
/-- a new object -/
theorem St.push {o : Obj} (S : St g L s0 s ps cs) (hb : b.Is s0 o) : St g L s0 { s with heap := s.heap.push o } ps ((s.heap.objs.size, b) :: cs) := by
  obtain ⟨m, F, k⟩ := S.fr
  refine ⟨⟨m, F.push o, k⟩, fun c hc => ?_, ?_, let ⟨_, tk, e⟩ := S.sh; ⟨_, tk, by rw [e]⟩⟩
  · rcases List.mem_cons.mp hc with rfl | hc
    · have z := News.push F (News.nil) o hb.free _ (.head _)
      exact ⟨o, z.1, hb, z.2⟩
    · obtain ⟨o₂, k1, k2⟩ := S.led _ hc
      exact ⟨o₂, Heap.get?_push_of_some _ k1, k2⟩
  · simp only [List.map_cons, List.nodup_cons]
    refine ⟨fun q => ?_, S.nd⟩
    obtain ⟨c, hc, e⟩ := List.mem_map.mp q
    obtain ⟨o₂, k1, _⟩ := S.led _ hc
    exact Nat.lt_irrefl _ (e ▸ Heap.lt_size k1)
/-- an object that is dropped at once -/
theorem St.pushed (S : St g L s0 s ps cs) (o : Obj) : St g L s0 { s with heap := s.heap.push o } ps cs := by
  obtain ⟨m, F, k⟩ := S.fr
  exact ⟨⟨m, F.push o, k⟩, fun c hc => let ⟨o₂, k1, k2⟩ := S.led _ hc; ⟨o₂, Heap.get?_push_of_some _ k1, k2⟩, S.nd, let ⟨_, tk, e⟩ := S.sh; ⟨_, tk, by rw [e]⟩⟩

/-- all but one object stay -/
theorem St.ext {h' : Heap} (S : St g L s0 s ps ((a, b) :: cs)) (hs : Heap.ExtBut a s.heap h') : St g L s0 { s with heap := h' } ps cs := by
  obtain ⟨o, h1, h2, h3, h4⟩ := S.led _ (.head _)
  obtain ⟨m, F, k⟩ := S.fr
  have nd := S.nd
  simp only [List.map_cons, List.nodup_cons] at nd
  obtain ⟨oL, a1, a2, hoL, a3⟩ := F.ns
  refine ⟨⟨m, ⟨⟨oL, a1, a2, hs L oL (Ne.symm h3) hoL, a3⟩, fun b x e => hs b x ?_ (F.keep b x e), F.above⟩, k⟩, fun c hc => ?_, nd.2, let ⟨_, tk, e⟩ := S.sh; ⟨h', tk, by rw [e]⟩⟩
  · rintro rfl
    rw [h4] at e
    cases e
  · obtain ⟨o₂, k1, k2⟩ := S.led _ (.tail _ hc)
    exact ⟨o₂, hs _ _ (fun q => nd.1 (q ▸ List.mem_map_of_mem hc)) k1, k2⟩

/-- the ledger as the library has it -/
theorem St.news (S : St g L s0 s ps cs) : ∃ news : List (Addr × Obj), News g L s.heap news ∧ ∀ c ∈ cs, ∃ o, (c.1, o) ∈ news ∧ c.2.Is s0 o := by
  have led := S.led
  clear S
  induction cs with
  | nil => exact ⟨[], News.nil, fun _ h => nomatch h⟩
  | cons c cs ih =>
    obtain ⟨o, h1, h2, h3, h4⟩ := led c (.head _)
    obtain ⟨news, N, k⟩ := ih fun c hc => led c (.tail _ hc)
    refine ⟨(c.1, o) :: news, fun p hp => ?_, fun d hd => ?_⟩
    · rcases List.mem_cons.mp hp with rfl | hp
      · exact ⟨h1, h3, h4⟩
      · exact N p hp
    · rcases List.mem_cons.mp hd with rfl | hd
      · exact ⟨o, .head _, h2⟩
      · obtain ⟨o₂, k1, k2⟩ := k d hd
        exact ⟨o₂, .tail _ k1, k2⟩
theorem St.of_news {m : Str → Option Value} {news : List (Addr × Obj)} (F : Fr g L s.heap m) (N : News g L s.heap news) (k : ∀ x v, lk x ps = some v → m x = some v)
    (hc : ∀ c ∈ cs, ∃ o, (c.1, o) ∈ news ∧ c.2.Is s0 o) (nd : (cs.map (·.1)).Nodup) (sh : ∃ h tk, s = { s0.sh with heap := h, toks := tk }) : St g L s0 s ps cs :=
  ⟨⟨m, F, k⟩, fun c h => let ⟨o, h1, h2⟩ := hc c h; ⟨o, (N _ h1).1, h2, (N _ h1).2⟩, nd, sh⟩
end

section
variable {w : World} {A : Around} {env : Env} {g : Heap} {L : Addr} {d : Nat} {s0 : Base} {s : Shared} {ps : List (Str × Value)} {cs : List (Addr × Ob)} {E : Value → Shared → Prop}

theorem lk_rev : ∀ {bs : List (Str × Value)} {x : Str} {v : Value}, lk x bs = some v → bs.lookup x = some v
  | [], _, _, h => by simp [lk] at h
  | p :: r, x, v, h => by
    simp only [lk] at h
    rw [List.lookup_cons]
    by_cases e : x = p.1
    · rw [if_pos e] at h; subst e; simpa using h
    · rw [if_neg e] at h
      have q : (x == p.1) = false := beq_eq_false_iff_ne.mpr e
      rw [q]; exact lk_rev h

theorem freeNs {o : Obj} {m : Str → Option Value} (e : LCg.NsObj o m) : o.isFreed = false := by
  obtain ⟨c, dd, dt, sl⟩ := o
  obtain ⟨es, ep, rfl, _⟩ := e
  rfl
theorem frOb_is {o : Obj} {m : Str → Option Value} (e : LCg.NsObj o m) : (frOb m).Is s0 o := ⟨e, freeNs e⟩

/-- back in the caller's frame -/
theorem St.back {L' : Addr} {m : Str → Option Value} {ps' : List (Str × Value)} {post : List (Addr × Ob)} {s₁ : Shared} {h : Heap} (F : Fr g L h m) (km : ∀ x v, lk x ps = some v → m x = some v)
    (S₁ : St g L' s0 s₁ ps' (post ++ (L, frOb m) :: cs)) : St g L s0 s₁ ps (post ++ cs) := by
  obtain ⟨o, ho, ⟨hn, _⟩, _, _⟩ := S₁.led (L, frOb m) (List.mem_append_right _ (.head _))
  obtain ⟨m₁, F₁, _⟩ := S₁.fr
  have nd := S₁.nd
  have pm : (post ++ (L, frOb m) :: cs).Perm ((L, frOb m) :: (post ++ cs)) := List.perm_middle
  have nd' := (pm.map (·.1)).nodup_iff.mp nd
  simp only [List.map_cons, List.nodup_cons] at nd'
  refine ⟨⟨m, ⟨hn.ns ho, F₁.keep, F.above⟩, km⟩, fun c hc => ?_, nd'.2, S₁.sh⟩
  obtain ⟨o', k1, k2, _, k4⟩ := S₁.led c (pm.mem_iff.mpr (.tail _ hc))
  exact ⟨o', k1, k2, fun q => nd'.1 (q ▸ List.mem_map_of_mem hc), k4⟩

theorem enter {f : Addr} {vals : List Value} {name qual : Str} {params : Arguments} {body : List Stmt} {scope : Scope} {dV kV doc pm cdv ct oc : Value} {an od : Option Addr} {osl : Array (Option Value)} {binds : List (Str × Value)}
    {Q : Value → Shared → Prop} (pre : List (Addr × Ob))
    (C : Cx w A env g L (d + 1)) (S : St g L s0 s ps (pre ++ cs))
    (ho : (Kf w).lookup f = some ⟨oc, od, .func (fnOf name qual params body scope dV kV doc pm an cdv ct), osl⟩) (hcd : codeIn (Kf w) cdv qual = true)
    (hbind : bindArgs (fnOf name qual params body scope dV kV doc pm an cdv ct) ⟨vals, []⟩ = pure binds) (hloc : ∀ y ∈ binds, scope.names.lookup y.1 = some .local)
    (h : ∀ L' s' cs', (FzA A env cs → FzA (A.deeper (envOf qual scope L' f cdv)) (envOf qual scope L' f cdv) cs') → Cx w (A.deeper (envOf qual scope L' f cdv)) (envOf qual scope L' f cdv) g L' d → St g L' s0 s' binds.reverse (pre ++ cs') →
      wpAny (M w) (A.deeper (envOf qual scope L' f cdv)) (execs body (envOf qual scope L' f cdv))
        (fun fl s₁ => ∃ ps' post, St g L' s0 s₁ ps' (post ++ cs') ∧ (St g L s0 s₁ ps (post ++ cs) → Q (match fl with | .ret v => v | _ => .none) s₁)) (fun _ _ => False) s')
    (hco : scope.isCoroutine = false := by rfl) (hgen : scope.isGenerator = false := by rfl) (hk : scope.kind = .function := by rfl)
    (hcell : ∀ x ∈ scope.names, x.2 ≠ .cell := by decide) : wpAny (M w) A (call (.ref f) vals) Q E s := by
  obtain ⟨mean, mg, mb, T⟩ := C.ex
  obtain ⟨m, F, km⟩ := S.fr
  have X := C.X.keeps F.keep
  refine wpAny_call (codeAny_call_def (fd := fnOf name qual params body scope dV kV doc pm an cdv ct) (body := body) (binds := binds) (by have := C.dep; omega) (X _ _ ho) rfl (T.nolimit.keeps F.keep) (codeRec_of X hcd) rfl (BindsTo.of_eq hbind) hcell hloc (fun h₁ hns hk₁ => ?_) hco hgen hk)
  obtain ⟨oL, hoL, hnL⟩ := LCg.ns_obj F.ns
  have S' : St g s.heap.objs.size s0 { s with heap := h₁, toks := s.toks + binds.length } binds.reverse (pre ++ (L, frOb m) :: cs) := by
    refine ⟨⟨_, ⟨hns, fun b o e => hk₁ b o (F.keep b o e), Nat.le_trans F.above (Nat.le_of_lt F.ns.lt)⟩, fun x v e => lk_rev e⟩, fun c hc => ?_, ?_, let ⟨_, _, e⟩ := S.sh; ⟨_, _, by rw [e]⟩⟩
    · rcases (List.perm_middle (a := (L, frOb m)) (l₁ := pre) (l₂ := cs)).mem_iff.mp hc with hc
      rcases List.mem_cons.mp hc with rfl | hc
      · refine ⟨oL, hk₁ _ _ hoL, frOb_is hnL, Nat.ne_of_lt F.ns.lt, ?_⟩
        cases q : g.get? L with
        | none => rfl
        | some o => exact absurd (Nat.lt_of_lt_of_le (Heap.lt_size q) F.above) (Nat.lt_irrefl _)
      · obtain ⟨o, k1, k2, k3, k4⟩ := S.led c hc
        exact ⟨o, hk₁ _ _ k1, k2, Nat.ne_of_lt (Heap.lt_size k1), k4⟩
    · have nd := S.nd
      refine ((List.perm_middle (a := (L, frOb m)) (l₁ := pre) (l₂ := cs)).map (·.1)).nodup_iff.mpr ?_
      simp only [List.map_cons, List.nodup_cons]
      refine ⟨fun q => ?_, nd⟩
      obtain ⟨c, hc, e⟩ := List.mem_map.mp q
      obtain ⟨o, _, _, k3, _⟩ := S.led c hc
      exact k3 e
  have C' : Cx w (A.deeper (envOf qual scope s.heap.objs.size f cdv)) (envOf qual scope s.heap.objs.size f cdv) g s.heap.objs.size d :=
    ⟨⟨mean, mg, mb, T⟩, C.X, rfl, rfl, hk, rfl, rfl, C.hh, by have := C.dep; show A.depth + 1 + d < _; omega, by have := C.un; show A.units + 3 + 8 * d < _; omega⟩
  have Z : FzA A env cs → FzA (A.deeper (envOf qual scope s.heap.objs.size f cdv)) (envOf qual scope s.heap.objs.size f cdv) ((L, frOb m) :: cs) := by
    rintro ⟨outer, hA, hz⟩
    refine ⟨env :: outer, by rw [show (A.deeper (envOf qual scope s.heap.objs.size f cdv)).frames = A.frames.map (envOf qual scope s.heap.objs.size f cdv :: ·) from rfl, hA]; rfl, fun e he => ?_⟩
    rcases List.mem_cons.mp he with rfl | he
    · exact ⟨by rw [C.hk]; decide, L, m, C.hf, .head _⟩
    · obtain ⟨h1, Li, mi, h2, h3⟩ := hz e he
      exact ⟨h1, Li, mi, h2, .tail _ h3⟩
  refine wpAny_mono (h _ _ _ Z C' S') (fun fl s₁ hfl => ?_) fun _ _ x => x.elim
  obtain ⟨ps', post, S₁, k⟩ := hfl
  exact k (St.back F km S₁)

/-- a def that changes nothing of ours -/
theorem enterM {f : Addr} {vals : List Value} {name qual : Str} {params : Arguments} {body : List Stmt} {scope : Scope} {dV kV doc pm cdv ct oc : Value} {an od : Option Addr} {osl : Array (Option Value)} {binds : List (Str × Value)}
    {Q : Value → Shared → Prop}
    (C : Cx w A env g L (d + 1)) (S : St g L s0 s ps cs)
    (ho : (Kf w).lookup f = some ⟨oc, od, .func (fnOf name qual params body scope dV kV doc pm an cdv ct), osl⟩) (hcd : codeIn (Kf w) cdv qual = true)
    (hbind : bindArgs (fnOf name qual params body scope dV kV doc pm an cdv ct) ⟨vals, []⟩ = pure binds) (hloc : ∀ y ∈ binds, scope.names.lookup y.1 = some .local)
    (h : ∀ L' s' cs', (∀ c ∈ cs, c ∈ cs') → Cx w (A.deeper (envOf qual scope L' f cdv)) (envOf qual scope L' f cdv) g L' d → St g L' s0 s' binds.reverse cs' →
      wpAny (M w) (A.deeper (envOf qual scope L' f cdv)) (execs body (envOf qual scope L' f cdv))
        (fun fl s₁ => ∃ ps', St g L' s0 s₁ ps' cs' ∧ (St g L s0 s₁ ps cs → Q (match fl with | .ret v => v | _ => .none) s₁)) (fun _ _ => False) s')
    (hco : scope.isCoroutine = false := by rfl) (hgen : scope.isGenerator = false := by rfl) (hk : scope.kind = .function := by rfl)
    (hcell : ∀ x ∈ scope.names, x.2 ≠ .cell := by decide) : wpAny (M w) A (call (.ref f) vals) Q E s := by
  refine enter cs (cs := []) C (by rw [List.append_nil]; exact S) ho hcd hbind hloc (fun L' s' cs' _ C' S' => ?_) hco hgen hk hcell
  refine wpAny_mono (h L' s' (cs ++ cs') (fun c hc => List.mem_append_left _ hc) C' S') (fun fl s₁ hfl => ?_) fun _ _ x => x
  obtain ⟨ps', S₁, k⟩ := hfl
  exact ⟨ps', cs, S₁, fun S₂ => k (by rw [List.append_nil] at S₂; exact S₂)⟩
end
end Mine
end
section
open PySem PySem.W PyProof.Rows PySem.Calls PySem.Spec
set_option maxRecDepth 100000
set_option maxHeartbeats 4000000
namespace Mine

theorem IA_get : ∀ {vs : List Value} {ns : List Int} {k : Nat} {n : Int}, IntsAre vs ns → ns[k]? = some n → ∃ t, vs[k]? = some (.int n t)
  | _, _, _, _, .nil, h => by simp at h
  | _, _, 0, _, .cons m t _, h => by simp at h; exact ⟨t, by simp [h]⟩
  | _, _, k + 1, _, .cons m t r, h => by
    simp only [List.getElem?_cons_succ] at h ⊢
    exact IA_get r h
theorem IZ_get {s0 : Base} {vs : List Value} {ns : List Int} {k : Nat} {n : Int} (h : IntsAre vs ns) (z : NZs s0 vs) (hn : ns[k]? = some n) : ∃ t : NTok s0 n, vs[k]? = some (.int n t) := by
  obtain ⟨t, ht⟩ := IA_get h hn
  exact ⟨⟨t, z n t (List.mem_of_getElem? ht)⟩, ht⟩
theorem NZ_set {s0 : Base} {vs : List Value} (k : Nat) (n : Int) (t : NTok s0 n) (z : NZs s0 vs) : NZs s0 (vs.set k (.int n t)) := by
  intro m u hm
  rcases List.mem_or_eq_of_mem_set hm with h | h
  · exact z m u h
  · cases t with | mk t ht => cases h; exact ht
theorem NZ_append {s0 : Base} {vs us : List Value} (z : NZs s0 vs) (y : NZs s0 us) : NZs s0 (vs ++ us) := fun n t h => (List.mem_append.mp h).elim (z n t) (y n t)
theorem NZ_nil {s0 : Base} : NZs s0 [] := fun _ _ h => nomatch h
theorem NZ_one {s0 : Base} {n : Int} {t : NTok s0 n} : NZs s0 [Value.int n t] := by
  intro m u hm
  cases t with | mk t ht =>
  rw [List.mem_singleton] at hm
  cases hm
  exact ht
theorem NZ_cons {s0 : Base} {n : Int} {t : NTok s0 n} {vs : List Value} (z : NZs s0 vs) : NZs s0 (Value.int n t :: vs) := NZ_append NZ_one z
theorem NZ_sub {s0 : Base} {vs us : List Value} (z : NZs s0 vs) (h : ∀ v ∈ us, v ∈ vs) : NZs s0 us := fun n t m => z n t (h _ m)
theorem IA_len : ∀ {vs : List Value} {ns : List Int}, IntsAre vs ns → vs.length = ns.length
  | _, _, .nil => rfl
  | _, _, .cons _ _ r => by simp [IA_len r]
theorem IA_set : ∀ {vs : List Value} {ns : List Int} (k : Nat) (n : Int) (t : Tok), IntsAre vs ns → IntsAre (vs.set k (.int n t)) (ns.set k n)
  | _, _, _, _, _, .nil => by simp; exact .nil
  | _, _, 0, n, t, .cons _ _ r => by simp; exact .cons n t r
  | _, _, k + 1, n, t, .cons m u r => by simp; exact .cons m u (IA_set k n t r)
theorem IA_append : ∀ {vs us : List Value} {ns ms : List Int}, IntsAre vs ns → IntsAre us ms → IntsAre (vs ++ us) (ns ++ ms)
  | _, _, _, _, .nil, h => h
  | _, _, _, _, .cons n t r, h => .cons n t (IA_append r h)

section
variable {w : World} {A : Around} {env : Env} {g : Heap} {L : Addr} {s0 : Base} {ps : List (Str × Value)} {cs : List (Addr × Ob)}

/-- the expression's value, whatever the state -/
def Ev (w : World) (A : Around) (env : Env) (g : Heap) (L : Addr) (s0 : Base) (ps : List (Str × Value)) (cs : List (Addr × Ob)) (e : Expr) (v : Tok → Value) : Prop :=
  ∀ s Q E, St g L s0 s ps cs → (∀ t s', St g L s0 s' ps cs → Q (v t) s') → wpAny (M w) A (eval e env) Q E s
abbrev EvI (w : World) (A : Around) (env : Env) (g : Heap) (L : Addr) (s0 : Base) (ps : List (Str × Value)) (cs : List (Addr × Ob)) (e : Expr) (n : Int) : Prop := Ev w A env g L s0 ps cs e fun t => .int n t
abbrev EvR (w : World) (A : Around) (env : Env) (g : Heap) (L : Addr) (s0 : Base) (ps : List (Str × Value)) (cs : List (Addr × Ob)) (e : Expr) (a : Addr) : Prop := Ev w A env g L s0 ps cs e fun _ => .ref a
def Tr (w : World) (A : Around) (env : Env) (g : Heap) (L : Addr) (s0 : Base) (ps : List (Str × Value)) (cs : List (Addr × Ob)) (e : Expr) (b : Bool) : Prop :=
  ∀ s Q E, St g L s0 s ps cs → (∀ s', St g L s0 s' ps cs → Q b s') → wpAny (M w) A (isTrue e env (eval e env)) Q E s

def EvZ (w : World) (A : Around) (env : Env) (g : Heap) (L : Addr) (s0 : Base) (ps : List (Str × Value)) (cs : List (Addr × Ob)) (e : Expr) (n : Int) : Prop :=
  ∀ s Q E, St g L s0 s ps cs → (∀ (t : NTok s0 n) s', St g L s0 s' ps cs → Q (.int n t) s') → wpAny (M w) A (eval e env) Q E s
theorem EvZ.i {e : Expr} {n : Int} (h : EvZ w A env g L s0 ps cs e n) : EvI w A env g L s0 ps cs e n := fun s Q E S k => h s Q E S fun t s' S' => k t s' S'

theorem nm {x : Str} {pos : Pos} {v : Value} (hv : lk x ps = some v := by rfl) (hl : env.locals = L := by rfl) (hk : env.scope.kind = .function := by rfl) (hx : env.kindOf x = some .local := by rfl)
    (hd : (x == ("__debug__" : Str)) = false := by decide) : Ev w A env g L s0 ps cs (.Name x pos) (fun _ => v) := by
  intro s Q E S h
  obtain ⟨m, F, k⟩ := S.fr
  exact wpAny_Name (wpAny_loadName_local hk hx (hl ▸ F.ns) (k _ _ hv) (h 0 s S)) hd
theorem nmI {x : Str} {pos : Pos} {n : Int} {t : Tok} (hv : lk x ps = some (.int n t) := by rfl) (hl : env.locals = L := by rfl) (hk : env.scope.kind = .function := by rfl) (hx : env.kindOf x = some .local := by rfl)
    (hd : (x == ("__debug__" : Str)) = false := by decide) : EvI w A env g L s0 ps cs (.Name x pos) n := by
  intro s Q E S h
  exact nm hv hl hk hx hd s Q E S fun _ s' S' => h t s' S'
theorem nmZ {x : Str} {pos : Pos} {n : Int} {t : NTok s0 n} (hv : lk x ps = some (.int n t) := by rfl) (hl : env.locals = L := by rfl) (hk : env.scope.kind = .function := by rfl) (hx : env.kindOf x = some .local := by rfl)
    (hd : (x == ("__debug__" : Str)) = false := by decide) : EvZ w A env g L s0 ps cs (.Name x pos) n := by
  intro s Q E S h
  exact nm hv hl hk hx hd s Q E S fun _ s' S' => h t s' S'
theorem cst {n : Int} {k : Nat} {pos : Pos} : EvI w A env g L s0 ps cs (.Constant (.int n) k pos) n := by
  intro s Q E S h
  exact wpAny_Constant_int (h _ _ (S.toks _))
theorem add {l r : Expr} {pos : Pos} {a b : Int} (h1 : EvI w A env g L s0 ps cs l a) (h2 : EvI w A env g L s0 ps cs r b) : EvI w A env g L s0 ps cs (.BinOp l .Add r pos) (a + b) := by
  intro s Q E S h
  exact wpAny_BinOp (h1 _ _ _ S fun t s1 S1 => h2 _ _ _ S1 fun u s2 S2 => PyProof.Rows.add_int (h _ _ (S2.toks _)))
theorem sub {l r : Expr} {pos : Pos} {a b : Int} (h1 : EvI w A env g L s0 ps cs l a) (h2 : EvI w A env g L s0 ps cs r b) : EvI w A env g L s0 ps cs (.BinOp l .Sub r pos) (a - b) := by
  intro s Q E S h
  exact wpAny_BinOp (h1 _ _ _ S fun t s1 S1 => h2 _ _ _ S1 fun u s2 S2 => PyProof.Rows.sub_int (h _ _ (S2.toks _)))
theorem dbl {l r : Expr} {pos : Pos} {b : Int} (h1 : EvI w A env g L s0 ps cs l 2) (h2 : EvI w A env g L s0 ps cs r b) : EvI w A env g L s0 ps cs (.BinOp l .Mult r pos) (2 * b) := by
  intro s Q E S h
  exact wpAny_BinOp (h1 _ _ _ S fun t s1 S1 => h2 _ _ _ S1 fun u s2 S2 => PyProof.Rows.mul_int (h _ _ (S2.toks _)) (.of_left (by decide)))
theorem shr {l r : Expr} {pos : Pos} {a : Int} (h1 : EvI w A env g L s0 ps cs l a) (h2 : EvI w A env g L s0 ps cs r 1) (h0 : 0 ≤ a) : EvI w A env g L s0 ps cs (.BinOp l .RShift r pos) (a / 2) := by
  intro s Q E S h
  exact wpAny_BinOp (h1 _ _ _ S fun t s1 S1 => h2 _ _ _ S1 fun u s2 S2 => wpAny_rshift1_int h0 (h _ _ (S2.toks _)))
theorem item {v i : Expr} {pos : Pos} {a : Addr} {k : Nat} {n : Int} {ns : List Int} (h1 : EvR w A env g L s0 ps cs v a) (h2 : EvI w A env g L s0 ps cs i k) (hm : (a, Ob.il ns) ∈ cs) (hk : k < 2 ^ 62) (hn : ns[k]? = some n)
    (hs : ∀ t, subscripted i false (.ref a) (.int k t) = operate [.ref a, .int k t] (getItem (.ref a) (.int k t)) := by intro _; with_unfolding_all rfl) (ht : ∀ r, letTemporaryGo v (.ref a) r = pure () := by intro _; with_unfolding_all rfl) :
    EvZ w A env g L s0 ps cs (.Subscript v i pos) n := by
  intro s Q E S h
  refine Subscript_ (h1 _ _ _ S fun _ s1 S1 => h2 _ _ _ S1 fun u s2 S2 => ?_)
  obtain ⟨vs, hl, hi, z⟩ := S2.isIntsZ hm
  obtain ⟨t, hv⟩ := IZ_get hi z hn
  exact subscriptTail_builtin hl.typeIs slot_list_getitem.lookup (wpAny_getItem_list hl (by omega) (by omega) (by simpa using hv) (h t s2 S2)) (hs u) ht
theorem Ev.to {e : Expr} {a b : Int} (h : EvI w A env g L s0 ps cs e a) (q : a = b) : EvI w A env g L s0 ps cs e b := q ▸ h

theorem tlt {l r : Expr} {pos : Pos} {a b : Int} (h1 : EvI w A env g L s0 ps cs l a) (h2 : EvI w A env g L s0 ps cs r b) (hm : behindInMarks .Lt r = false := by with_unfolding_all rfl) : Tr w A env g L s0 ps cs (.Compare l [.Lt] [r] pos) (decide (a < b)) := by
  intro s Q E S h
  exact wpAny_isTrue_Compare1 (h1 _ _ _ S fun t s1 S1 => h2 _ _ _ S1 fun u s2 S2 => PyProof.Rows.lt_int (wpAny_truthy_bool (h s2 S2))) hm
theorem tgt {l r : Expr} {pos : Pos} {a b : Int} (h1 : EvI w A env g L s0 ps cs l a) (h2 : EvI w A env g L s0 ps cs r b) (hm : behindInMarks .Gt r = false := by with_unfolding_all rfl) : Tr w A env g L s0 ps cs (.Compare l [.Gt] [r] pos) (decide (b < a)) := by
  intro s Q E S h
  exact wpAny_isTrue_Compare1 (h1 _ _ _ S fun t s1 S1 => h2 _ _ _ S1 fun u s2 S2 => PyProof.Rows.gt_int (wpAny_truthy_bool (h s2 S2))) hm
theorem teq {l r : Expr} {pos : Pos} {a b : Int} (h1 : EvI w A env g L s0 ps cs l a) (h2 : EvI w A env g L s0 ps cs r b) (hm : behindInMarks .Eq r = false := by with_unfolding_all rfl) : Tr w A env g L s0 ps cs (.Compare l [.Eq] [r] pos) (a == b) := by
  intro s Q E S h
  exact wpAny_isTrue_Compare1 (h1 _ _ _ S fun t s1 S1 => h2 _ _ _ S1 fun u s2 S2 => PyProof.Rows.eq_int (wpAny_truthy_bool (h s2 S2))) hm
theorem tnot {x : Expr} {pos : Pos} {b : Bool} (h1 : Tr w A env g L s0 ps cs x b) : Tr w A env g L s0 ps cs (.UnaryOp .Not x pos) (!b) := by
  intro s Q E S h
  exact isTrue_not (h1 _ _ _ S h)
theorem tand {x y : Expr} {pos : Pos} {b c : Bool} (h1 : Tr w A env g L s0 ps cs x b) (h2 : b = true → Tr w A env g L s0 ps cs y c) : Tr w A env g L s0 ps cs (.BoolOp .And [x, y] pos) (b && c) := by
  intro s Q E S h
  refine isTrue_and (h1 _ _ _ S fun s1 S1 => ?_)
  cases b with
  | false => exact h s1 S1
  | true =>
    refine isTrue_and (h2 rfl _ _ _ S1 fun s2 S2 => ?_)
    cases c with
    | false => exact h s2 S2
    | true => exact isTrue_and_nil (h s2 S2)

variable {s : Shared} {E : Value → Shared → Prop}
theorem xassign {x : Str} {px pos : Pos} {e : Expr} {v : Tok → Value} {Q : Flow → Shared → Prop} (S : St g L s0 s ps cs) (he : Ev w A env g L s0 ps cs e v)
    (h : ∀ t s', St g L s0 s' (upd x (v t) ps) cs → Q .next s')
    (hsw : swapsWith e (some (.Name x px)) pos.line env = pure false := by rfl) (hl : env.locals = L := by rfl) (hk : env.scope.kind = .function := by rfl) (hx : env.kindOf x = some .local := by rfl) : wpAny (M w) A (exec (.Assign [.Name x px] e pos) env) Q E s := by
  refine wpAny_Assign_Name (he _ _ _ S fun t s1 S1 => ?_) hsw
  obtain ⟨m, F, k⟩ := S1.fr
  refine wpAny_storeName_local hx (hl ▸ F.ns) (fun h' hn hs => h t _ ?_) (by rw [hk]; rfl)
  rw [hl] at hn hs
  refine ⟨⟨_, F.set hn hs, fun y u e => ?_⟩, fun c hc => ?_, S1.nd, let ⟨_, _, e⟩ := S1.sh; ⟨_, _, by rw [e]⟩⟩
  · rw [lk_upd] at e
    by_cases q : y = x
    · rw [if_pos q] at e ⊢; exact e
    · rw [if_neg q] at e ⊢; exact k _ _ e
  · obtain ⟨o, k1, k2, k3, k4⟩ := S1.led c hc
    exact ⟨o, (hs.2 _ k3).trans k1, k2, k3, k4⟩
theorem xassignZ {x : Str} {px pos : Pos} {e : Expr} {n : Int} {Q : Flow → Shared → Prop} (S : St g L s0 s ps cs) (he : EvZ w A env g L s0 ps cs e n)
    (h : ∀ (t : NTok s0 n) s', St g L s0 s' (upd x (.int n t) ps) cs → Q .next s')
    (hsw : swapsWith e (some (.Name x px)) pos.line env = pure false := by rfl) (hl : env.locals = L := by rfl) (hk : env.scope.kind = .function := by rfl) (hx : env.kindOf x = some .local := by rfl) : wpAny (M w) A (exec (.Assign [.Name x px] e pos) env) Q E s := by
  refine wpAny_Assign_Name (he _ _ _ S fun t s1 S1 => ?_) hsw
  obtain ⟨m, F, k⟩ := S1.fr
  refine wpAny_storeName_local hx (hl ▸ F.ns) (fun h' hn hs => h t _ ?_) (by rw [hk]; rfl)
  rw [hl] at hn hs
  refine ⟨⟨_, F.set hn hs, fun y u e => ?_⟩, fun c hc => ?_, S1.nd, let ⟨_, _, e⟩ := S1.sh; ⟨_, _, by rw [e]⟩⟩
  · rw [lk_upd] at e
    by_cases q : y = x
    · rw [if_pos q] at e ⊢; exact e
    · rw [if_neg q] at e ⊢; exact k _ _ e
  · obtain ⟨o, k1, k2, k3, k4⟩ := S1.led c hc
    exact ⟨o, (hs.2 _ k3).trans k1, k2, k3, k4⟩
theorem xaug {x : Str} {px pos : Pos} {e : Expr} {a b : Int} {t : Tok} {Q : Flow → Shared → Prop} (S : St g L s0 s ps cs) (he : EvI w A env g L s0 ps cs e b)
    (h : ∀ t s', St g L s0 s' (upd x (.int (a + b) t) ps) cs → Q .next s') (hv : lk x ps = some (.int a t) := by rfl)
    (hl : env.locals = L := by rfl) (hk : env.scope.kind = .function := by rfl) (hx : env.kindOf x = some .local := by rfl) : wpAny (M w) A (exec (.AugAssign (.Name x px) .Add e pos) env) Q E s := by
  obtain ⟨m, F, k⟩ := S.fr
  refine wpAny_AugAssign_Name (wpAny_loadName_local hk hx (hl ▸ F.ns) (k _ _ hv) (he _ _ _ S fun u s1 S1 => PyProof.Rows.iadd_int ?_))
  have S1 := S1.toks (s1.toks + 1)
  obtain ⟨m, F, k⟩ := S1.fr
  refine wpAny_storeName_local hx (hl ▸ F.ns) (fun h' hn hs => h s1.toks _ ?_) (by rw [hk]; rfl)
  rw [hl] at hn hs
  refine ⟨⟨_, F.set hn hs, fun y u e => ?_⟩, fun c hc => ?_, S1.nd, let ⟨_, _, e⟩ := S1.sh; ⟨_, _, by rw [e]⟩⟩
  · rw [lk_upd] at e
    by_cases q : y = x
    · rw [if_pos q] at e ⊢; exact e
    · rw [if_neg q] at e ⊢; exact k _ _ e
  · obtain ⟨o, k1, k2, k3, k4⟩ := S1.led c hc
    exact ⟨o, (hs.2 _ k3).trans k1, k2, k3, k4⟩
theorem xput {v i e : Expr} {px pos : Pos} {a : Addr} {k : Nat} {n : Int} {ns : List Int} {Q : Flow → Shared → Prop} (S : St g L s0 s ps ((a, .il ns) :: cs))
    (he : EvZ w A env g L s0 ps ((a, .il ns) :: cs) e n) (h1 : EvR w A env g L s0 ps ((a, .il ns) :: cs) v a) (h2 : EvI w A env g L s0 ps ((a, .il ns) :: cs) i k)
    (hk : k < 2 ^ 62) (hn : k < ns.length)
    (h : ∀ s', St g L s0 s' ps ((a, .il (ns.set k n)) :: cs) → Q .next s') (hsw : swapsWith e (some (.Subscript v i px)) pos.line env = pure false := by rfl) : wpAny (M w) A (exec (.Assign [.Subscript v i px] e pos) env) Q E s := by
  refine wpAny_Assign_Subscript (he _ _ _ S fun t s1 S1 => h1 _ _ _ S1 fun _ s2 S2 => h2 _ _ _ S2 fun u s3 S3 => ?_) hsw
  obtain ⟨vs, m, ho, hi, z⟩ := S3.isIntsX (.head _)
  refine ki_setAt ho (by omega) (by omega) (by rw [List.size_toArray, IA_len hi]; exact Int.ofNat_lt.mpr hn) (h _ ?_)
  have q := PySem.IsL.update ho (·.setIfInBounds ((k : Int).toNat) (Value.int n t.1))
  have e : (vs.toArray.setIfInBounds ((k : Int).toNat) (Value.int n t.1)) = (vs.set k (.int n t.1)).toArray := by simp
  simp only [e] at q
  exact S3.change (Heap.SameBut.update ..) q (Ob.Is.il (IA_set _ _ _ hi) (NZ_set _ _ _ z))

theorem Tr.go {e : Expr} {b : Bool} {Q : Bool → Shared → Prop} (ht : Tr w A env g L s0 ps cs e b) (S : St g L s0 s ps cs) (h : ∀ s', St g L s0 s' ps cs → Q b s') : wpAny (M w) A (isTrue e env (eval e env)) Q E s := ht _ _ _ S h
theorem EvZ.go {e : Expr} {n : Int} {Q : Value → Shared → Prop} (ht : EvZ w A env g L s0 ps cs e n) (S : St g L s0 s ps cs) (h : ∀ (t : NTok s0 n) s', St g L s0 s' ps cs → Q (.int n t) s') : wpAny (M w) A (eval e env) Q E s := ht _ _ _ S h
theorem Ev.go {e : Expr} {v : Tok → Value} {Q : Value → Shared → Prop} (ht : Ev w A env g L s0 ps cs e v) (S : St g L s0 s ps cs) (h : ∀ t s', St g L s0 s' ps cs → Q (v t) s') : wpAny (M w) A (eval e env) Q E s := ht _ _ _ S h
theorem xwhile {test : Expr} {body : List Stmt} {pos : Pos} {Q : Flow → Shared → Prop} (I : Nat → Shared → Prop) (Fin : Shared → Prop) (n : Nat) (h : I n s)
    (turn : ∀ n s, I n s → wpAny (M w) A (isTrue test env (eval test env)) (fun b s₂ => if b = true then
      wpAny (M w) A (execs body env) (fun f s₃ => match f with | .next | .cont => ∃ m, m < n ∧ I m s₃ | .brk => Fin s₃ | .ret _ => False) (fun _ _ => False) s₂ else Fin s₂) (fun _ _ => False) s)
    (fin : ∀ s, Fin s → Q .next s) : wpAny (M w) A (exec (.While test body [] pos) env) Q E s := by
  refine wpAny_While (codeAny_whileLoop I (fun n s hI => wpAny_mono (turn n s hI) (fun b s₂ h₂ => ?_) fun _ _ x => x.elim) n h)
  cases b with
  | false =>
    simp only [Bool.false_eq_true, if_false] at h₂ ⊢
    exact wpAny_execs_nil (fin _ h₂)
  | true =>
    simp only [if_true] at h₂ ⊢
    refine wpAny_mono h₂ (fun f s₃ h₃ => ?_) fun _ _ x => x.elim
    cases f with
    | next => exact h₃
    | cont => exact h₃
    | brk => exact fin _ h₃
    | ret v => exact h₃.elim
theorem xif {test : Expr} {body orelse : List Stmt} {pos : Pos} {b : Bool} {Q : Flow → Shared → Prop} (S : St g L s0 s ps cs) (ht : Tr w A env g L s0 ps cs test b)
    (h1 : b = true → ∀ s', St g L s0 s' ps cs → wpAny (M w) A (execs body env) Q E s') (h2 : b = false → ∀ s', St g L s0 s' ps cs → wpAny (M w) A (execs orelse env) Q E s') :
    wpAny (M w) A (exec (.If test body orelse pos) env) Q E s := by
  refine wpAny_If (ht _ _ _ S fun s1 S1 => ?_)
  cases b with
  | true => exact h1 rfl s1 S1
  | false => exact h2 rfl s1 S1
end
end Mine
end
section
open PySem PySem.W PyProof.Rows PySem.Calls PySem.Spec
set_option maxRecDepth 100000
set_option maxHeartbeats 4000000
namespace Mine

def sd (x : Int) (st : Nat) (xs : List Int) (pos : Nat) : List Int :=
  if st < pos then
    if x < xs.getD ((pos - 1) / 2) 0 then sd x st (xs.set pos (xs.getD ((pos - 1) / 2) 0)) ((pos - 1) / 2)
    else xs.set pos x
  else xs.set pos x
termination_by pos
decreasing_by omega

section
variable {w : World} {A : Around} {env : Env} {g : Heap} {L : Addr} {d : Nat} {s0 : Base} {s : Shared} {ps : List (Str × Value)} {cs : List (Addr × Ob)} {E : Value → Shared → Prop}

theorem getD_get {xs : List Int} {k : Nat} (h : k < xs.length) : xs[k]? = some (xs.getD k 0) := by
  simp [List.getD, h]

theorem c_siftdown {l : Addr} {xs : List Int} {st pos : Nat} {ts tp : Tok} {Q : Value → Shared → Prop} (C : Cx w A env g L (d + 1)) (S : St g L s0 s ps ((l, .il xs) :: cs))
    (hp : pos < xs.length) (hN : xs.length < 1000)
    (h : ∀ s', St g L s0 s' ps ((l, .il (sd (xs.getD pos 0) st xs pos)) :: cs) → Q .none s') :
    wpAny (M w) A (call (.ref 42) [.ref l, .int st ts, .int pos tp]) Q E s := by
  refine enter [(l, .il xs)] (binds := [(Str.ofString "heap", .ref l), (Str.ofString "startpos", .int st ts), (Str.ofString "pos", .int pos tp)]) C S (f := 42) (by rfl) (by rfl) (by rfl) (locs rfl) ?_
  intro L' s' cs _ C' S'
  refine wpAny_execs_cons (xassignZ S' (item nm nmI (.head _) (by omega) (getD_get hp)) fun t1 s1 S1 => ?_)
  refine wpAny_execs_cons (xwhile (fun n s2 => ∃ ys tq, St g L' s0 s2 [(Str.ofString "heap", .ref l), (Str.ofString "startpos", .int st ts), (Str.ofString "newitem", .int (xs.getD pos 0) t1), (Str.ofString "pos", .int (n : Nat) tq)] ((l, .il ys) :: cs) ∧ n < ys.length ∧ ys.length = xs.length ∧
      sd (xs.getD pos 0) st ys n = sd (xs.getD pos 0) st xs pos)
    (fun s2 => ∃ ys tq n, St g L' s0 s2 [(Str.ofString "heap", .ref l), (Str.ofString "newitem", .int (xs.getD pos 0) t1), (Str.ofString "pos", .int (n : Nat) tq)] ((l, .il ys) :: cs) ∧ n < ys.length ∧ ys.length = xs.length ∧
      ys.set n (xs.getD pos 0) = sd (xs.getD pos 0) st xs pos) pos ⟨xs, tp, S1.subs ⟨rfl, rfl, rfl, rfl, trivial⟩, hp, rfl, rfl⟩ ?_ ?_)
  · rintro n s2 ⟨ys, tq, S2, hq, hlen, hsd⟩
    refine (tgt nmI nmI).go S2 fun s3 S3 => ?_
    by_cases c : st < n
    · rw [if_pos (by simpa using c)]
      refine wpAny_execs_cons (xassign S3 ((shr (sub nmI cst) cst (by omega)).to (b := ((n - 1) / 2 : Nat)) (by omega)) fun t4 s4 S4 => ?_)
      refine wpAny_execs_cons (xassignZ S4 (item nm nmI (.head _) (by omega) (getD_get (k := (n - 1) / 2) (by omega))) fun t5 s5 S5 => ?_)
      refine wpAny_execs_cons (xif S5 (tlt nmI nmI) (fun b s6 S6 => ?_) fun b s6 S6 => ?_)
      · refine wpAny_execs_cons (xput S6 nmZ nm nmI (by omega) hq fun s7 S7 => ?_)
        refine wpAny_execs_cons (xassign S7 nmI fun t8 s8 S8 => ?_)
        refine wpAny_execs_cons (wpAny_Continue ?_)
        rw [sd, if_pos c, if_pos (by simpa using b)] at hsd
        exact ⟨_, by omega, _, _, S8.subs ⟨rfl, rfl, rfl, rfl, trivial⟩, by rw [List.length_set]; omega, by rw [List.length_set]; exact hlen, hsd⟩
      · refine wpAny_execs_nil (wpAny_execs_cons (wpAny_Break ?_))
        rw [sd, if_pos c, if_neg (by simpa using b)] at hsd
        exact ⟨ys, tq, n, S6.subs ⟨rfl, rfl, rfl, trivial⟩, hq, hlen, hsd⟩
    · rw [if_neg (by simpa using c)]
      rw [sd, if_neg c] at hsd
      exact ⟨ys, tq, n, S3.subs ⟨rfl, rfl, rfl, trivial⟩, hq, hlen, hsd⟩
  · rintro s2 ⟨ys, tq, n, S2, hq, hlen, hsd⟩
    refine wpAny_execs_cons (xput S2 nmZ nm nmI (by omega) hq fun s3 S3 => wpAny_execs_nil ?_)
    rw [hsd] at S3
    exact ⟨_, [(l, .il _)], S3, fun S4 => h _ S4⟩
end
end Mine
end
section
open PySem PySem.W PyProof.Rows PySem.Calls PySem.Spec
set_option maxRecDepth 100000
set_option maxHeartbeats 4000000
namespace Mine

section
variable {w : World} {A : Around} {env : Env} {g : Heap} {L : Addr} {d : Nat} {s0 : Base} {s : Shared} {ps : List (Str × Value)} {cs : List (Addr × Ob)} {E : Value → Shared → Prop}

theorem gnm {A₁ : Around} {fenv : Env} {x : Str} {pos : Pos} {v : Value} (C : Cx w A₁ fenv g L d) (hv : nsIn (Kf w) mainGlobals x = some (some v) := by rfl) (hke : env.scope.kind = .function := by rfl) (hgl : env.globals = mainGlobals := by rfl) (hx : env.kindOf x = some .globalImplicit := by rfl)
    (hd : (x == ("__debug__" : Str)) = false := by decide) : Ev w A env g L s0 ps cs (.Name x pos) (fun _ => v) := by
  intro s Q E S h
  obtain ⟨m, F, k⟩ := S.fr
  obtain ⟨mean, mg, mb, T⟩ := C.ex
  exact Name_function_global hke hx (loadGlobal_global (by rw [hgl]; exact T.g.keeps F.keep) (mg_of C.X T.g hv) (h 0 s S)) hd
theorem bnm {A₁ : Around} {fenv : Env} {x : Str} {pos : Pos} {v : Value} (C : Cx w A₁ fenv g L d) (hm : nsIn (Kf w) mainGlobals x = some none := by rfl) (hv : bootBuiltins x = some v := by rfl) (hn : x ≠ "__name__" := by decide) (hke : env.scope.kind = .function := by rfl) (hgl : env.globals = mainGlobals := by rfl) (hbn : env.builtins = builtinsNs := by rfl) (hx : env.kindOf x = some .globalImplicit := by rfl)
    (hd : (x == ("__debug__" : Str)) = false := by decide) : Ev w A env g L s0 ps cs (.Name x pos) (fun _ => v) := by
  intro s Q E S h
  obtain ⟨m, F, k⟩ := S.fr
  obtain ⟨mean, mg, mb, T⟩ := C.ex
  exact Name_function_global hke hx (loadGlobal_builtin (by rw [hgl]; exact T.g.keeps F.keep) (mg_none_of C.X T.g hm) (by rw [hbn]; exact T.b.keeps F.keep) ((T.builtins x hn).trans hv) (h 0 s S)) hd

theorem Cx.fn {f : Addr} {o : Obj} (C : Cx w A env g L d) (S : St g L s0 s ps cs) (h : (Kf w).lookup f = some o) : s.heap.get? f = some o :=
  let ⟨_, F, _⟩ := S.fr; F.keep _ _ (C.X _ _ h)

theorem callF1 {fenv : Env} {fn : Str} {p pos : Pos} {e1 : Expr} {v1 : Tok → Value} {f : Addr} {o : Obj} {fd : FuncData} {Q : Value → Shared → Prop} (C : Cx w A fenv g L d) (S : St g L s0 s ps cs)
    (hf : Ev w A env g L s0 ps cs (.Name fn p) (fun _ => .ref f)) (ho : (Kf w).lookup f = some o) (hdat : o.data = .func fd) (h1 : Ev w A env g L s0 ps cs e1 v1)
    (h : ∀ t1 s', St g L s0 s' ps cs → wpAny (M w) A (call (.ref f) [v1 t1]) Q E s')
    (q1 : starEach [e1] env = (false, eval e1 env) :: starEach [] env := by rfl)  :
    wpAny (M w) A (eval (.Call (.Name fn p) [e1] [] pos) env) Q E s := by
  refine Call_ (hf _ _ _ S fun _ s1 S1 => callWith_def hdat (args_cons (h1 _ _ _ S1 fun t1 s2 S2 => args_nil ⟨C.fn S2 ho, h t1 s2 S2⟩) q1) q1)
theorem callF2 {fenv : Env} {fn : Str} {p pos : Pos} {e1 e2 : Expr} {v1 v2 : Tok → Value} {f : Addr} {o : Obj} {fd : FuncData} {Q : Value → Shared → Prop} (C : Cx w A fenv g L d) (S : St g L s0 s ps cs)
    (hf : Ev w A env g L s0 ps cs (.Name fn p) (fun _ => .ref f)) (ho : (Kf w).lookup f = some o) (hdat : o.data = .func fd) (h1 : Ev w A env g L s0 ps cs e1 v1) (h2 : Ev w A env g L s0 ps cs e2 v2)
    (h : ∀ t1 t2 s', St g L s0 s' ps cs → wpAny (M w) A (call (.ref f) [v1 t1, v2 t2]) Q E s')
    (q1 : starEach [e1, e2] env = (false, eval e1 env) :: starEach [e2] env := by rfl) (q2 : starEach [e2] env = (false, eval e2 env) :: starEach [] env := by rfl)  :
    wpAny (M w) A (eval (.Call (.Name fn p) [e1, e2] [] pos) env) Q E s := by
  refine Call_ (hf _ _ _ S fun _ s1 S1 => callWith_def hdat (args_cons (h1 _ _ _ S1 fun t1 s2 S2 => args_cons (h2 _ _ _ S2 fun t2 s3 S3 => args_nil ⟨C.fn S3 ho, h t1 t2 s3 S3⟩) q2) q1) q1)
theorem callF3 {fenv : Env} {fn : Str} {p pos : Pos} {e1 e2 e3 : Expr} {v1 v2 v3 : Tok → Value} {f : Addr} {o : Obj} {fd : FuncData} {Q : Value → Shared → Prop} (C : Cx w A fenv g L d) (S : St g L s0 s ps cs)
    (hf : Ev w A env g L s0 ps cs (.Name fn p) (fun _ => .ref f)) (ho : (Kf w).lookup f = some o) (hdat : o.data = .func fd) (h1 : Ev w A env g L s0 ps cs e1 v1) (h2 : Ev w A env g L s0 ps cs e2 v2) (h3 : Ev w A env g L s0 ps cs e3 v3)
    (h : ∀ t1 t2 t3 s', St g L s0 s' ps cs → wpAny (M w) A (call (.ref f) [v1 t1, v2 t2, v3 t3]) Q E s')
    (q1 : starEach [e1, e2, e3] env = (false, eval e1 env) :: starEach [e2, e3] env := by rfl) (q2 : starEach [e2, e3] env = (false, eval e2 env) :: starEach [e3] env := by rfl) (q3 : starEach [e3] env = (false, eval e3 env) :: starEach [] env := by rfl) :
    wpAny (M w) A (eval (.Call (.Name fn p) [e1, e2, e3] [] pos) env) Q E s := by
  refine Call_ (hf _ _ _ S fun _ s1 S1 => callWith_def hdat (args_cons (h1 _ _ _ S1 fun t1 s2 S2 => args_cons (h2 _ _ _ S2 fun t2 s3 S3 => args_cons (h3 _ _ _ S3 fun t3 s4 S4 => args_nil ⟨C.fn S4 ho, h t1 t2 t3 s4 S4⟩) q3) q2) q1) q1)

/-- a built-in called by its name -/
theorem callB1 {fn : Str} {p pos : Pos} {e1 : Expr} {v1 : Tok → Value} {id : String} {Q : Value → Shared → Prop} (S : St g L s0 s ps cs)
    (hf : Ev w A env g L s0 ps cs (.Name fn p) (fun _ => .builtin id)) (h1 : Ev w A env g L s0 ps cs e1 v1)
    (h : ∀ t1 s', St g L s0 s' ps cs → wpAny (M w) A (call (.builtin id) [v1 t1]) Q E s')
    (q1 : starEach [e1] env = (false, eval e1 env) :: starEach [] env := by rfl)  :
    wpAny (M w) A (eval (.Call (.Name fn p) [e1] [] pos) env) Q E s := by
  refine Call_ (hf _ _ _ S fun _ s1 S1 => callWith_builtin1 (args_cons (h1 _ _ _ S1 fun t1 s2 S2 => args_nil (h t1 s2 S2)) q1) q1)

theorem elen {fn : Str} {p pos : Pos} {e1 : Expr} {a : Addr} {ns : List Int} (hf : Ev w A env g L s0 ps cs (.Name fn p) (fun _ => .builtin "len")) (h1 : EvR w A env g L s0 ps cs e1 a) (hm : (a, Ob.il ns) ∈ cs) (hN : ns.length < 1000)
    (q1 : starEach [e1] env = (false, eval e1 env) :: starEach [] env := by rfl) : EvI w A env g L s0 ps cs (.Call (.Name fn p) [e1] [] pos) (ns.length : Nat) := by
  intro s Q E S h
  refine callB1 S hf h1 (fun t1 s1 S1 => ?_) q1
  obtain ⟨vs, hl, hi⟩ := S1.isInts hm
  have e : vs.toArray.size = ns.length := by rw [List.size_toArray, IA_len hi]
  refine call_len_list hl (by rw [e]; omega) ?_
  rw [e]
  exact h _ _ (S1.toks _)

theorem xstore {x : Str} {v : Value} {Q : Unit → Shared → Prop} (S : St g L s0 s ps cs) (h : ∀ s', St g L s0 s' (upd x v ps) cs → Q () s')
    (hl : env.locals = L := by rfl) (hk : env.scope.kind = .function := by rfl) (hx : env.kindOf x = some .local := by rfl) : wpAny (M w) A (storeName env x v) Q E s := by
  obtain ⟨m, F, k⟩ := S.fr
  refine wpAny_storeName_local hx (hl ▸ F.ns) (fun h' hn hs => h _ ?_) (by rw [hk]; rfl)
  rw [hl] at hn hs
  refine ⟨⟨_, F.set hn hs, fun y u e => ?_⟩, fun c hc => ?_, S.nd, let ⟨_, _, e⟩ := S.sh; ⟨_, _, by rw [e]⟩⟩
  · rw [lk_upd] at e
    by_cases q : y = x
    · rw [if_pos q] at e ⊢; exact e
    · rw [if_neg q] at e ⊢; exact k _ _ e
  · obtain ⟨o, k1, k2, k3, k4⟩ := S.led c hc
    exact ⟨o, (hs.2 _ k3).trans k1, k2, k3, k4⟩
theorem xlet {x : Str} {px pos : Pos} {e : Expr} {Q : Flow → Shared → Prop}
    (he : wpAny (M w) A (eval e env) (fun v s1 => ∃ ps1 cs1, St g L s0 s1 ps1 cs1 ∧ ∀ s', St g L s0 s' (upd x v ps1) cs1 → Q .next s') E s)
    (hsw : swapsWith e (some (.Name x px)) pos.line env = pure false := by rfl) (hl : env.locals = L := by rfl) (hk : env.scope.kind = .function := by rfl) (hx : env.kindOf x = some .local := by rfl) :
    wpAny (M w) A (exec (.Assign [.Name x px] e pos) env) Q E s :=
  wpAny_Assign_Name (wpAny_mono he (fun _ _ ⟨_, _, S1, h⟩ => xstore S1 h hl hk hx) fun _ _ x => x) hsw

theorem xmid {st : Stmt} {rest : List Stmt} {Q : Flow → Shared → Prop} (P : Shared → Prop) (h1 : wpAny (M w) A (exec st env) (fun f s' => f = .next ∧ P s') E s) (h2 : ∀ s', P s' → wpAny (M w) A (execs rest env) Q E s') :
    wpAny (M w) A (execs (st :: rest) env) Q E s := by
  refine wpAny_execs_cons (wpAny_mono h1 (fun f s' h => ?_) fun _ _ x => x)
  obtain ⟨rfl, h⟩ := h
  exact h2 s' h
end
end Mine
end
section
open PySem PySem.W PyProof.Rows PySem.Calls PySem.Spec
set_option maxRecDepth 100000
set_option maxHeartbeats 4000000
namespace Mine

def kid (xs : List Int) (pos : Nat) : Nat := if 2 * pos + 2 < xs.length ∧ ¬ xs.getD (2 * pos + 1) 0 < xs.getD (2 * pos + 2) 0 then 2 * pos + 2 else 2 * pos + 1
theorem kid_gt {xs : List Int} {pos : Nat} : pos < kid xs pos := by unfold kid; split <;> omega
theorem kid_lt {xs : List Int} {pos : Nat} (h : 2 * pos + 1 < xs.length) : kid xs pos < xs.length := by unfold kid; split <;> omega
def suL (xs : List Int) (pos : Nat) : List Int × Nat :=
  if 2 * pos + 1 < xs.length then suL (xs.set pos (xs.getD (kid xs pos) 0)) (kid xs pos) else (xs, pos)
termination_by xs.length - pos
decreasing_by
  rw [List.length_set]
  have := @kid_gt xs pos
  omega
def su (xs : List Int) (pos : Nat) : List Int :=
  sd (((suL xs pos).1.set (suL xs pos).2 (xs.getD pos 0)).getD (suL xs pos).2 0) pos ((suL xs pos).1.set (suL xs pos).2 (xs.getD pos 0)) (suL xs pos).2
theorem suL_len (xs : List Int) (pos : Nat) : (suL xs pos).1.length = xs.length := by
  fun_induction suL xs pos with
  | case1 xs pos h ih => rw [ih, List.length_set]
  | case2 xs pos h => rfl
theorem suL_lt (xs : List Int) (pos : Nat) (hp : pos < xs.length) : (suL xs pos).2 < xs.length := by
  fun_induction suL xs pos with
  | case1 xs pos h ih => rw [List.length_set] at ih; exact ih (kid_lt h)
  | case2 xs pos h => exact hp
theorem sd_len (x : Int) (st : Nat) (xs : List Int) (pos : Nat) : (sd x st xs pos).length = xs.length := by
  fun_induction sd x st xs pos with
  | case1 xs pos h1 h2 ih => rw [ih, List.length_set]
  | case2 xs pos h1 h2 => rw [List.length_set]
  | case3 xs pos h1 => rw [List.length_set]
theorem su_len (xs : List Int) (pos : Nat) : (su xs pos).length = xs.length := by
  unfold su; rw [sd_len, List.length_set, suL_len]

section
variable {w : World} {A : Around} {env : Env} {g : Heap} {L : Addr} {d : Nat} {s0 : Base} {s : Shared} {ps : List (Str × Value)} {cs : List (Addr × Ob)} {E : Value → Shared → Prop}

theorem c_siftup {l : Addr} {xs : List Int} {pos : Nat} {tp : Tok} {Q : Value → Shared → Prop} (C : Cx w A env g L (d + 2)) (S : St g L s0 s ps ((l, .il xs) :: cs))
    (hp : pos < xs.length) (hN : xs.length < 1000)
    (h : ∀ s', St g L s0 s' ps ((l, .il (su xs pos)) :: cs) → Q .none s') :
    wpAny (M w) A (call (.ref 49) [.ref l, .int pos tp]) Q E s := by
  refine enter [(l, .il xs)] (binds := [(Str.ofString "heap", .ref l), (Str.ofString "pos", .int pos tp)]) C S (f := 49) (by rfl) (by rfl) (by rfl) (locs rfl) ?_
  intro L' s' cs _ C' S'
  refine wpAny_execs_cons (xassign S' (elen (bnm C') nm (.head _) hN) fun t1 s1 S1 => ?_)
  refine wpAny_execs_cons (xassign S1 nmI fun t2 s2 S2 => ?_)
  refine wpAny_execs_cons (xassignZ S2 (item nm nmI (.head _) (by omega) (getD_get hp)) fun t3 s3 S3 => ?_)
  refine wpAny_execs_cons (xassign S3 ((add (dbl cst nmI) cst).to (b := (2 * pos + 1 : Nat)) (by omega)) fun t4 s4 S4 => ?_)
  refine wpAny_execs_cons (xwhile (fun n s2 => ∃ ys q tq tc, St g L' s0 s2 [(Str.ofString "heap", .ref l), (Str.ofString "endpos", .int (xs.length : Nat) t1), (Str.ofString "startpos", .int pos t2), (Str.ofString "newitem", .int (xs.getD pos 0) t3),
        (Str.ofString "pos", .int (q : Nat) tq), (Str.ofString "childpos", .int (2 * q + 1 : Nat) tc)] ((l, .il ys) :: cs) ∧ q < ys.length ∧ ys.length = xs.length ∧ n = xs.length - q ∧ suL ys q = suL xs pos)
    (fun s2 => ∃ tq, St g L' s0 s2 [(Str.ofString "heap", .ref l), (Str.ofString "startpos", .int pos t2), (Str.ofString "newitem", .int (xs.getD pos 0) t3), (Str.ofString "pos", .int ((suL xs pos).2 : Nat) tq)] ((l, .il (suL xs pos).1) :: cs))
    (xs.length - pos) ⟨xs, pos, tp, t4, S4.subs ⟨rfl, rfl, rfl, rfl, rfl, rfl, trivial⟩, hp, rfl, rfl, rfl⟩ ?_ ?_)
  · rintro n s2 ⟨ys, q, tq, tc, S2, hq, hlen, rfl, hsu⟩
    refine (tlt nmI nmI).go S2 fun s3 S3 => ?_
    by_cases c : 2 * q + 1 < xs.length
    · rw [if_pos (by simpa using Int.ofNat_lt.mpr c)]
      refine wpAny_execs_cons (xassign S3 ((add nmI cst).to (b := (2 * q + 2 : Nat)) (by omega)) fun t4 s4 S4 => ?_)
      refine xmid (fun s5 => ∃ tc', St g L' s0 s5 [(Str.ofString "heap", .ref l), (Str.ofString "endpos", .int (xs.length : Nat) t1), (Str.ofString "startpos", .int pos t2), (Str.ofString "newitem", .int (xs.getD pos 0) t3),
          (Str.ofString "pos", .int (q : Nat) tq), (Str.ofString "childpos", .int (kid ys q : Nat) tc')] ((l, .il ys) :: cs)) ?_ ?_
      · refine xif S4 (tand (tlt nmI nmI) fun b => tnot (tlt (item nm nmI (.head _) (by omega) (getD_get (k := 2 * q + 1) (by omega))).i (item nm nmI (.head _) (by omega) (getD_get (k := 2 * q + 2) (by simp at b; omega))).i)) (fun b s5 S5 => ?_) fun b s5 S5 => ?_
        · refine wpAny_execs_cons (xassign S5 nmI fun t6 s6 S6 => wpAny_execs_nil ⟨rfl, t6, ?_⟩)
          have e : kid ys q = 2 * q + 2 := by
            unfold kid
            simp [-List.getD_eq_getElem?_getD] at b
            rw [if_pos ⟨by omega, by omega⟩]
          rw [e]
          exact S6.subs ⟨rfl, rfl, rfl, rfl, rfl, rfl, trivial⟩
        · refine wpAny_execs_nil ⟨rfl, tc, ?_⟩
          have e : kid ys q = 2 * q + 1 := by
            unfold kid
            simp [-List.getD_eq_getElem?_getD] at b
            rw [if_neg (by rintro ⟨z1, z2⟩; have := b (by omega); omega)]
          rw [e]
          exact S5.subs ⟨rfl, rfl, rfl, rfl, rfl, rfl, trivial⟩
      · rintro s5 ⟨tc', S5⟩
        have hk := kid_lt (xs := ys) (pos := q) (by omega)
        have hk2 := @kid_gt ys q
        refine wpAny_execs_cons (xput S5 (item nm nmI (.head _) (by omega) (getD_get hk)) nm nmI (by omega) hq fun s6 S6 => ?_)
        refine wpAny_execs_cons (xassign S6 nmI fun t7 s7 S7 => ?_)
        refine wpAny_execs_cons (xassign S7 ((add (dbl cst nmI) cst).to (b := (2 * kid ys q + 1 : Nat)) (by omega)) fun t8 s8 S8 => wpAny_execs_nil ?_)
        rw [suL, if_pos (by omega)] at hsu
        exact ⟨xs.length - kid ys q, by omega, _, kid ys q, _, _, S8.subs ⟨rfl, rfl, rfl, rfl, rfl, rfl, trivial⟩, by rw [List.length_set]; exact hk, by rw [List.length_set]; exact hlen, rfl, hsu⟩
    · rw [if_neg (by simpa using fun z => c (Int.ofNat_lt.mp z))]
      rw [suL, if_neg (by omega)] at hsu
      rw [← hsu]
      exact ⟨tq, S3.subs ⟨rfl, rfl, rfl, rfl, trivial⟩⟩
  · rintro s2 ⟨tq, S2⟩
    have hl := suL_len xs pos
    have hq := suL_lt xs pos hp
    refine wpAny_execs_cons (xput S2 nmZ nm nmI (by omega) (by omega) fun s3 S3 => ?_)
    refine wpAny_execs_cons (wpAny_Expr (callF3 C' S3 (gnm C') (by rfl) (by rfl) nm nmI nmI fun t4 t5 t6 s4 S4 => c_siftdown C' S4 (by rw [List.length_set]; omega) (by rw [List.length_set]; omega) fun s5 S5 => wpAny_execs_nil ⟨_, [(l, .il _)], S5, fun S6 => h _ S6⟩))
end
end Mine
end
section
open PySem PySem.W PyProof.Rows PySem.Calls PySem.Spec
set_option maxRecDepth 100000
set_option maxHeartbeats 4000000
namespace Mine

def popH (xs : List Int) : List Int := if xs.length ≤ 1 then [] else su (xs.dropLast.set 0 (xs.getLastD 0)) 0

section
variable {w : World} {A : Around} {env : Env} {g : Heap} {L : Addr} {d : Nat} {s0 : Base} {s : Shared} {ps : List (Str × Value)} {cs : List (Addr × Ob)} {E : Value → Shared → Prop}

def IsLs : Ob → Prop
  | .il _ => True
  | .list _ => True
  | _ => False
theorem St.lsX {a : Addr} {b : Ob} (S : St g L s0 s ps cs) (h : (a, b) ∈ cs) (hb : IsLs b) : ∃ its n, s.heap.get? a = some (listOf its n) := by
  cases b with
  | il ns => obtain ⟨vs, n, ho, _, _⟩ := S.isIntsX h; exact ⟨_, n, ho⟩
  | list vs => obtain ⟨n, ho⟩ := S.isListX h; exact ⟨_, n, ho⟩
  | tup vs => exact hb.elim
  | raw P => exact hb.elim

theorem meth0 {o : Expr} {name : Str} {apos pos : Pos} {id : String} {a : Addr} {b : Ob} {Q : Value → Shared → Prop} (S : St g L s0 s ps cs) (ho : EvR w A env g L s0 ps cs o a) (hm : (a, b) ∈ cs) (hb : IsLs b)
    (slot : Slot "list" name id) (hty : typeOf (.builtin id) = pure (.type "method_descriptor"))
    (h : ∀ s', St g L s0 s' ps cs → wpAny (M w) A (call (.builtin id) [.ref a]) Q E s')
    (hbase : attributeBase o name env (eval o env) = eval o env := by rfl) (hline : (apos.endLine == pos.line) = true := by rfl) :
    wpAny (M w) A (eval (.Call (.Attribute o name apos) [] [] pos) env) Q E s := by
  refine wpAny_Call_method0_late hbase hline (ho _ _ _ S fun _ s1 S1 => ?_)
  obtain ⟨its, n, hg⟩ := S1.lsX hm hb
  exact ⟨"list", id, PySem.F.plainAttrs_list, slot, hty, ⟨_, hg, rfl⟩, fun a e => by cases e; exact ⟨_, hg, rfl⟩, callWith_builtin (args := []) rfl (PyProof.Rows.evalArgs_none (h s1 S1))⟩
theorem meth1 {o e : Expr} {name : Str} {apos pos : Pos} {id : String} {a : Addr} {b : Ob} {Q : Value → Shared → Prop} (S : St g L s0 s ps cs) (ho : EvR w A env g L s0 ps cs o a) (hm : (a, b) ∈ cs) (hb : IsLs b)
    (slot : Slot "list" name id) (hty : typeOf (.builtin id) = pure (.type "method_descriptor"))
    (h : ∀ s', St g L s0 s' ps cs → wpAny (M w) A (eval e env) (fun v s₁ => wpAny (M w) A (call (.builtin id) [.ref a, v]) Q E s₁) E s')
    (hbase : attributeBase o name env (eval o env) = eval o env := by rfl) (hline : (apos.endLine == pos.line) = true := by rfl) (htr : starEach [e] env = [(false, eval e env)] := by rfl) :
    wpAny (M w) A (eval (.Call (.Attribute o name apos) [e] [] pos) env) Q E s := by
  have ht : backTo pos (starEach [e] env) = [(false, eval e env)] := by rw [htr]; rfl
  refine wpAny_Call_method1_late hbase hline ht (ho _ _ _ S fun _ s1 S1 => ?_)
  obtain ⟨its, n, hg⟩ := S1.lsX hm hb
  exact ⟨"list", id, PySem.F.plainAttrs_list, slot, hty, ⟨_, hg, rfl⟩, fun a e => by cases e; exact ⟨_, hg, rfl⟩,
    Calls.callWith_builtin rfl (Calls.evalArgs_plain (Calls.spliced_cons (wpAny_mono (h s1 S1) (fun y s₂ h₂ => Calls.spliced_nil h₂) fun _ _ e => e)))⟩

theorem IA_last : ∀ {vs : List Value} {ns : List Int}, IntsAre vs ns → vs ≠ [] → ∃ p t, vs = p ++ [Value.int (ns.getLastD 0) t] ∧ IntsAre p ns.dropLast
  | _, _, .nil, h => absurd rfl h
  | _, _, .cons n t .nil, _ => ⟨[], t, rfl, .nil⟩
  | _, _, .cons n t (.cons m u r), _ => by
    obtain ⟨p, t', e, hi⟩ := IA_last (.cons m u r) (by simp)
    exact ⟨.int n t :: p, t', by rw [e]; simp, .cons n t hi⟩

theorem c_pop {a : Addr} {ns : List Int} {Q : Value → Shared → Prop} (S : St g L s0 s ps ((a, .il ns) :: cs)) (h0 : ns ≠ []) (hN : ns.length < 1000)
    (h : ∀ (t : NTok s0 (ns.getLastD 0)) s', St g L s0 s' ps ((a, .il ns.dropLast) :: cs) → Q (.int (ns.getLastD 0) t) s') : wpAny (M w) A (call (.builtin "list.pop") [.ref a]) Q E s := by
  obtain ⟨vs, n, ho, hi, z⟩ := S.isIntsX (.head _)
  have hl := IA_len hi
  obtain ⟨p, t, rfl, hp⟩ := IA_last hi (by intro e; subst e; cases hi; exact h0 rfl)
  have ht := z (ns.getLastD 0) t (by simp)
  have hk : (p ++ [Value.int (ns.getLastD 0) t]).toArray.size - 1 = p.length := by rw [List.size_toArray, List.length_append]; rfl
  refine call_meets PySem.F.slot_list_pop ⟨_, ho, rfl⟩ PySem.F.entry_list_pop (PySem.F.args_list_pop_1 _) (PySem.MeetsSeq.list_pop_last a _ n (Value.int (ns.getLastD 0) t) (by rw [hk]; simp) (by rw [List.size_toArray, hl, sizeLine_eq]; omega)) ⟨ho, h ⟨t, ht⟩ _ ?_⟩
  have q := PySem.IsL.update ho (fun xs => xs.eraseIdxIfInBounds ((p ++ [Value.int (ns.getLastD 0) t]).toArray.size - 1))
  rw [hk] at q ⊢
  simp only [kl_erase, List.append_nil] at q
  exact S.change (Heap.SameBut.update ..) q (Ob.Is.il hp (NZ_sub z fun v hv => List.mem_append_left _ hv))

theorem ttruth {x : Str} {px : Pos} {a : Addr} {ns : List Int} (hx : EvR w A env g L s0 ps cs (.Name x px) a) (hm : (a, Ob.il ns) ∈ cs) (hN : ns.length < 1000) : Tr w A env g L s0 ps cs (.Name x px) (decide (ns ≠ [])) := by
  intro s Q E S h
  refine isTrue_plain (hx _ _ _ S fun _ s1 S1 => ?_)
  obtain ⟨vs, hl, hi⟩ := S1.isInts hm
  have e := IA_len hi
  refine wpAny_truthy_list hl (by rw [List.size_toArray, e]; omega) ?_
  have q : (!vs.toArray.isEmpty) = decide (ns ≠ []) := by
    cases hi <;> simp
  rw [q]
  exact h _ (S1.toks _)

theorem c_heappop {l : Addr} {xs : List Int} {Q : Value → Shared → Prop} (C : Cx w A env g L (d + 3)) (S : St g L s0 s ps ((l, .il xs) :: cs))
    (h0 : xs ≠ []) (hN : xs.length < 1000)
    (h : ∀ (t : NTok s0 (xs.getD 0 0)) s', St g L s0 s' ps ((l, .il (popH xs)) :: cs) → Q (.int (xs.getD 0 0) t) s') :
    wpAny (M w) A (call (.ref 28) [.ref l]) Q E s := by
  refine enter [(l, .il xs)] (binds := [(Str.ofString "heap", .ref l)]) C S (f := 28) (by rfl) (by rfl) (by rfl) (locs rfl) ?_
  intro L' s' cs _ C' S'
  refine wpAny_execs_cons (xlet (meth0 S' nm (.head _) trivial PySem.F.slot_list_pop PySem.F.type_list_pop fun s1 S1 => c_pop S1 h0 hN fun t1 s2 S2 => ⟨_, _, S2, fun s3 S3 => ?_⟩))
  have hdl : xs.dropLast.length = xs.length - 1 := List.length_dropLast
  refine wpAny_execs_cons (xif S3 (ttruth nm (.head _) (by omega)) (fun b s4 S4 => ?_) fun b s4 S4 => ?_)
  · have hpos : 0 < xs.dropLast.length := by
      have : xs.dropLast ≠ [] := by simpa using b
      exact List.length_pos_iff.mpr this
    refine wpAny_execs_cons (xassignZ S4 (item (k := 0) nm (cst (n := 0)) (.head _) (by decide) (getD_get hpos)) fun t5 s5 S5 => ?_)
    refine wpAny_execs_cons (xput (k := 0) S5 nmZ nm (cst (n := 0)) (by decide) hpos fun s6 S6 => ?_)
    refine wpAny_execs_cons (wpAny_Expr (callF2 C' S6 (gnm C') (by rfl) (by rfl) nm cst fun t7 t8 s7 S7 => c_siftup (pos := 0) C' S7 (by rw [List.length_set]; omega) (by rw [List.length_set]; omega) fun s8 S8 => ?_))
    refine wpAny_execs_cons (wpAny_Return_some ((nmZ).go S8 fun t9 s9 S9 => ⟨_, [(l, .il _)], S9, fun S10 => ?_⟩))
    have e1 : popH xs = su (xs.dropLast.set 0 (xs.getLastD 0)) 0 := by unfold popH; rw [if_neg (by omega)]
    have e2 : xs.dropLast.getD 0 0 = xs.getD 0 0 := by
      cases xs with
      | nil => exact absurd rfl h0
      | cons y r => cases r with
        | nil => simp at hpos
        | cons z r => rfl
    rw [← e1] at S10
    have hq : Q (.int (xs.getD 0 0) t9.1) s9 := h ⟨t9.1, by rw [← e2]; exact t9.2⟩ s9 S10
    rw [← e2] at hq
    exact hq
  · have hnil : xs.dropLast = [] := by simpa using b
    have hle : xs.length ≤ 1 := by rw [hnil] at hdl; simp at hdl; omega
    refine wpAny_execs_nil (wpAny_execs_cons (wpAny_Return_some ((nmZ).go S4 fun t9 s9 S9 => ⟨_, [(l, .il _)], S9, fun S10 => ?_⟩)))
    have e1 : popH xs = xs.dropLast := by unfold popH; rw [if_pos hle, hnil]
    have e2 : xs.getLastD 0 = xs.getD 0 0 := by
      cases xs with
      | nil => exact absurd rfl h0
      | cons y r => cases r with
        | nil => rfl
        | cons z r => simp at hle
    rw [← e1] at S10
    have hq : Q (.int (xs.getD 0 0) t9.1) s9 := h ⟨t9.1, by rw [← e2]; exact t9.2⟩ s9 S10
    rw [← e2] at hq
    exact hq
end
end Mine
end
section
open PySem PySem.W PyProof.Rows PySem.Calls PySem.Spec
set_option maxRecDepth 100000
set_option maxHeartbeats 4000000
namespace Mine

def rngIt (x left step : Int) : Ob := .raw fun o => o = { cls := .type "range_iterator", dict := none, data := .fields #[rawInt x, rawInt left, rawInt step], slots := #[] }
def lstIt (l : Addr) (i : Nat) : Ob := .raw fun o => o.cls = .type "list_iterator" ∧ o.data = .fields #[.ref l, .int i 0]

/-- an iterator of the call's own -/
structure Iter (w : World) (A : Around) (g : Heap) (L : Addr) (s0 : Base) (n : Nat) (It : Nat → Ob) (V : Nat → Value → Prop) (Need : List (Addr × Ob) → Prop) : Prop where
  item : ∀ i it s ps cs Q E, i < n → Need cs → St g L s0 s ps ((it, It i) :: cs) → (∀ v s', V i v → St g L s0 s' ps ((it, It (i + 1)) :: cs) → Q (some v) s') → wpAny (M w) A (pyNext (.ref it)) Q E s
  done : ∀ it s ps cs Q E, Need cs → St g L s0 s ps ((it, It n) :: cs) → (∀ s', St g L s0 s' ps cs → Q none s') → wpAny (M w) A (pyNext (.ref it)) Q E s

section
variable {w : World} {A : Around} {env : Env} {g : Heap} {L : Addr} {d : Nat} {s0 : Base} {s : Shared} {ps : List (Str × Value)} {cs : List (Addr × Ob)} {E : Value → Shared → Prop}

theorem St.rng {it : Addr} {x left step : Int} (S : St g L s0 s ps cs) (h : (it, rngIt x left step) ∈ cs) : IsRangeIter s.heap it x left step := by
  obtain ⟨o, ho, ⟨e, _⟩, _⟩ := S.led _ h
  rw [e] at ho
  exact ho
theorem St.lit {it l : Addr} {i : Nat} (S : St g L s0 s ps cs) (h : (it, lstIt l i) ∈ cs) : s.heap.IsListIter it l i := by
  obtain ⟨o, ho, ⟨⟨e1, e2⟩, _⟩, _⟩ := S.led _ h
  exact ⟨o, ho, e1, e2⟩

theorem iterRange (hh : A.handled = none) (a c : Int) (n : Nat) : Iter w A g L s0 n (fun i => rngIt (a + (i : Nat) * c) ((n : Int) - (i : Nat)) c) (fun i v => ∃ t, v = .int (a + (i : Nat) * c) t) (fun _ => True) where
  item := fun i it s ps cs Q E hi _ S h => by
    refine wpAny_pyNext_range_item (S.rng (.head _)) (by omega) fun h' hit hs => h _ _ ⟨_, rfl⟩ ?_
    have e1 : a + ((i + 1 : Nat) : Int) * c = a + (i : Int) * c + c := by push_cast; rw [Int.add_mul, Int.one_mul, Int.add_assoc]
    have e2 : (n : Int) - ((i + 1 : Nat) : Int) = (n : Int) - (i : Int) - 1 := by push_cast; omega
    rw [e1, e2]
    exact (S.change (b' := rngIt _ _ _) hs hit ⟨rfl, rfl⟩).toks _
  done := fun it s ps cs Q E _ S h => wpAny_pyNext_range_end hh (S.rng (.head _)) (by omega) fun h' he => h _ (S.ext he)

theorem iterInts (hh : A.handled = none) (l : Addr) (ns : List Int) : Iter w A g L s0 ns.length (fun i => lstIt l i) (fun i v => ∃ n, ∃ t : NTok s0 n, ns[i]? = some n ∧ v = .int n t) (fun cs => (l, Ob.il ns) ∈ cs) where
  item := fun i it s ps cs Q E hi hm S h => by
    obtain ⟨vs, hl, hv, z⟩ := S.isIntsZ (.tail _ hm)
    have hx : ns[i]? = some ns[i] := by simp [hi]
    obtain ⟨t, ht⟩ := IZ_get hv z hx
    refine wpAny_pyNext_list_item (S.lit (.head _)) hl (by simpa using ht) fun h' hit hs => h _ _ ⟨_, t, hx, rfl⟩ ?_
    obtain ⟨o, ho, e1, e2⟩ := hit
    exact S.change hs ho ⟨⟨e1, e2⟩, Obj.isFreed_of_fields e2⟩
  done := fun it s ps cs Q E hm S h => by
    obtain ⟨vs, hl, hv⟩ := S.isInts (.tail _ hm)
    have e := IA_len hv
    exact wpAny_pyNext_list_end hh (S.lit (.head _)) hl (by simp [e]) fun h' he => h _ (S.ext he)

theorem iterVals (hh : A.handled = none) (l : Addr) (vs : List Value) : Iter w A g L s0 vs.length (fun i => lstIt l i) (fun i v => vs[i]? = some v) (fun cs => (l, Ob.list vs) ∈ cs) where
  item := fun i it s ps cs Q E hi hm S h => by
    have hl := S.isList (.tail _ hm)
    have hx : vs[i]? = some vs[i] := by simp [hi]
    refine wpAny_pyNext_list_item (S.lit (.head _)) hl (x := vs[i]) (by simp [hi]) fun h' hit hs => h _ _ hx ?_
    obtain ⟨o, ho, e1, e2⟩ := hit
    exact S.change hs ho ⟨⟨e1, e2⟩, Obj.isFreed_of_fields e2⟩
  done := fun it s ps cs Q E hm S h => by
    have hl := S.isList (.tail _ hm)
    exact wpAny_pyNext_list_end hh (S.lit (.head _)) hl (by simp) fun h' he => h _ (S.ext he)

theorem pyIterL {l : Addr} {b : Ob} {Q : Value → Shared → Prop} (S : St g L s0 s ps cs) (hm : (l, b) ∈ cs) (hb : IsLs b) (h : ∀ it s', St g L s0 s' ps ((it, lstIt l 0) :: cs) → Q (.ref it) s') : wpAny (M w) A (pyIter (.ref l)) Q E s := by
  obtain ⟨its, n, ho⟩ := S.lsX hm hb
  exact wpAny_pyIter_list (items := its) ⟨_, ho, rfl, n, rfl⟩ (h _ _ (S.push ⟨⟨rfl, rfl⟩, rfl⟩))

/-- a for over an iterator -/
theorem xforG {tgt : PySem.Expr} {body orelse : List Stmt} {n : Nat} {It : Nat → Ob} {V : Nat → Value → Prop} {Need : List (Addr × Ob) → Prop} {it : Addr} {Q : Flow → Shared → Prop} {x : Str} {px : Pos} (W : Iter w A g L s0 n It V Need)
    (J : Nat → List (Str × Value) → List (Addr × Ob) → Prop) (S : St g L s0 s ps ((it, It 0) :: cs)) (h0 : J 0 ps cs) (hneed : ∀ i ps cs, J i ps cs → Need cs) (ht : tgt = .Name x px)
    (turn : ∀ i v ps cs s', i < n → V i v → J i ps cs → St g L s0 s' (upd x v ps) ((it, It (i + 1)) :: cs) →
      wpAny (M w) A (execs body env) (fun f s'' => match f with
        | .next | .cont => ∃ ps' cs', J (i + 1) ps' cs' ∧ St g L s0 s'' ps' ((it, It (i + 1)) :: cs')
        | .brk => Q .next s''
        | .ret v => Q (.ret v) s'') (fun _ _ => False) s')
    (fin : ∀ ps cs s', J n ps cs → St g L s0 s' ps cs → wpAny (M w) A (execs orelse env) Q (fun _ _ => False) s')
    (hl : env.locals = L := by rfl) (hk : env.scope.kind = .function := by rfl) (hx : env.kindOf x = some .local := by rfl) :
    codeAny (M w) A (.forLoop tgt (.ref it) body orelse env) (fun r s' => match r with | .ok f => Q f s' | .error e => cameBackBy (M w) A env E e s') s := by
  subst ht
  refine codeAny_forLoop (fun k s' => ∃ i ps cs, k + i = n ∧ J i ps cs ∧ St g L s0 s' ps ((it, It i) :: cs)) (fun k s' hI => ?_) n ⟨0, ps, cs, rfl, h0, S⟩
  obtain ⟨i, ps, cs, hki, hJ, S⟩ := hI
  by_cases hi : i < n
  · refine W.item i it s' ps cs _ _ hi (hneed _ _ _ hJ) S fun v s₁ hv S₁ => ?_
    refine wpAny_assign_Name (xstore S₁ (fun s₂ S₂ => wpAny_mono (turn i v ps cs s₂ hi hv hJ S₂) (fun f s₃ h₃ => ?_) fun _ _ x => x.elim) hl hk hx)
    cases f with
    | next => obtain ⟨ps', cs', h1, h2⟩ := h₃; exact ⟨k - 1, by omega, i + 1, ps', cs', by omega, h1, h2⟩
    | cont => obtain ⟨ps', cs', h1, h2⟩ := h₃; exact ⟨k - 1, by omega, i + 1, ps', cs', by omega, h1, h2⟩
    | brk => exact h₃
    | ret v => exact h₃
  · have e : i = n := by omega
    subst e
    exact W.done it s' ps cs _ _ (hneed _ _ _ hJ) S fun s₁ S₁ => wpAny_mono (fin ps cs s₁ hJ S₁) (fun _ _ x => x) fun _ _ x => x.elim

theorem rangeFields_ {r : Addr} {a b c : Int} {t u v : Tok} {Q : Int × Int × Int → Shared → Prop} (hr : IsRange s.heap r a b c t u v) (h : Q (a, b, c) s) : wpAny (M w) A (Builtin.Range.rangeFields (.ref r)) Q E s := by
  unfold Builtin.Range.rangeFields
  refine wpAny_bind (wpAny_field hr rfl (x := .int a t) rfl (wpAny_bind (wpAny_of_eq (a := some a) rfl ?_)))
  refine wpAny_bind (wpAny_field hr rfl (x := .int b u) rfl (wpAny_bind (wpAny_of_eq (a := some b) rfl ?_)))
  refine wpAny_bind (wpAny_field hr rfl (x := .int c v) rfl (wpAny_bind (wpAny_of_eq (a := some c) rfl ?_)))
  exact wpAny_pure h
theorem call_range_rev {r : Addr} {n : Nat} {t u v : Tok} {Q : Value → Shared → Prop} (hr : IsRange s.heap r 0 n 1 t u v) (hn : n < 1000)
    (h : Q (.ref s.heap.objs.size) { s with heap := s.heap.push { cls := .type "range_iterator", data := .fields #[rawInt ((n : Int) - 1), rawInt n, rawInt (-1)] } }) :
    wpAny (M w) A (call (.builtin "range.__reversed__") [.ref r]) Q E s := by
  have hT : s.TypeIs (.ref r) "range" := ⟨_, hr, rfl⟩
  refine wpAny_call_entry F.slot_range_reversed hT F.entry_range_reversed ?_ (F.args_range_reversed_1 _)
  have e1 : Builtin.Range.rangeSize 0 n 1 = n := by
    unfold Builtin.Range.rangeSize
    rw [if_pos (by decide)]
    split
    · rw [Int.ediv_one]; omega
    · omega
  have e2 : (Builtin.Range.rangeFitsLong 0 && Builtin.Range.rangeFitsLong (n : Int) && Builtin.Range.rangeFitsLong 1 && Builtin.Range.rangeFitsLong (-1) && Builtin.Range.rangeFitsLong (0 - 1) && Builtin.Range.rangeFitsLong (n : Int)) = true := by
    have : Builtin.Range.rangeFitsLong (n : Int) = true := by
      unfold Builtin.Range.rangeFitsLong
      simp only [Bool.and_eq_true, decide_eq_true_eq]
      omega
    rw [this]
    decide
  unfold Builtin.«range.__reversed__»
  refine wpAny_bind (wpAny_of_eq (a := Value.ref r) rfl ?_)
  refine wpAny_bind (m := Builtin.Range.rangeFields (.ref r)) (rangeFields_ hr ?_)
  simp only [e1, e2]
  simp only [Bool.not_true, Bool.false_eq_true, if_false, if_true]
  refine wpAny_bind (wpAny_newObj_type ?_)
  refine wpAny_pure ⟨_, rfl, ?_⟩
  have e3 : (0 : Int) + ((n : Int) - 1) * 1 = (n : Int) - 1 := by omega
  rw [e3]
  exact h
end
end Mine
end
section
open PySem PySem.W PyProof.Rows PySem.Calls PySem.Spec
set_option maxRecDepth 100000
set_option maxHeartbeats 4000000
namespace Mine

def heapifyL : Nat → List Int → List Int
  | 0, xs => xs
  | k + 1, xs => heapifyL k (su xs k)
theorem heapifyL_len : ∀ (k : Nat) (xs : List Int), (heapifyL k xs).length = xs.length
  | 0, _ => rfl
  | k + 1, xs => by rw [heapifyL, heapifyL_len, su_len]

section
variable {w : World} {A : Around} {env : Env} {g : Heap} {L : Addr} {d : Nat} {s0 : Base} {s : Shared} {ps : List (Str × Value)} {cs : List (Addr × Ob)} {E : Value → Shared → Prop}

theorem sub_ri_reversed : isSubtype (.type "range_iterator") (.type "reversed") = pure false := by rw [isSubtype_type]; kernel_rfl

theorem code_reversed_range {r : Addr} {n : Nat} {t u v : Tok} {Q₁ : Value → Shared → Prop} (hr : IsRange s.heap r 0 n 1 t u v) (hn : n < 1000)
    (h : Q₁ (.ref s.heap.objs.size) { s with heap := s.heap.push { cls := .type "range_iterator", data := .fields #[rawInt ((n : Int) - 1), rawInt n, rawInt (-1)] } }) :
    codeAny (M w) A (.call (.builtin "reversed.__new__") ⟨[.type "reversed", .ref r], []⟩) (wants Q₁ E) s := by
  have hT : s.TypeIs (.ref r) "range" := ⟨_, hr, rfl⟩
  refine codeAny_of_tree ?_
  show wpAny _ A.in1 (do checkBuiltinCall "reversed.__new__" ⟨[.type "reversed", .ref r], []⟩; again (.builtin "reversed.__new__" ⟨[.type "reversed", .ref r], []⟩)) _ _ s
  refine wpAny_bind (wpAny_of_eq (F.newCall_reversed_1 _) (wpAny_pure ⟨plainId_quiet F.plain_reversed_new _, codeAny_builtin F.entry_reversed_new ?_⟩))
  rw [Around.under_plainId F.plain_reversed_new _]
  unfold Builtin.«reversed.__new__»
  refine wpAny_bind (wpAny_of_eq (newClass_reversed _) ?_)
  try dsimp only
  refine wpAny_bind (wpAny_of_eq (a := ()) (by first | rfl | kernel_rfl) ?_)
  refine wpAny_bind (wpAny_of_eq (a := ()) (by first | rfl | kernel_rfl) ?_)
  try dsimp only
  refine wpAny_bind (wpAny_specialOf hT F.slot_range_reversed.lookup ?_)
  try dsimp only
  refine wpAny_bind (wpAny_of_eq (F.slot_range_reversed.bind _) ?_)
  try dsimp only
  first
  | rw [if_neg (show ¬ ((Value.builtin "range.__reversed__" == Value.none) = true) from Bool.false_ne_true)]
  | (show wpAny _ _ (if (Value.builtin "range.__reversed__" == Value.none) = true then _ else _) _ _ _; rw [if_neg (show ¬ ((Value.builtin "range.__reversed__" == Value.none) = true) from Bool.false_ne_true)])
  refine wpAny_bind (wpAny_rule ?_)
  refine wpAny_bind (m := runValue (.call (.builtin "range.__reversed__") ⟨[.ref r], []⟩)) (show wpAny _ _ (call (.builtin "range.__reversed__") [.ref r]) _ _ _ from call_range_rev hr hn ?_)
  first
  | exact wpAny_pure h
  | exact wpAny_bind (wpAny_pure (wpAny_pure h))

theorem call_reversed_range {r : Addr} {n : Nat} {t u v : Tok} {Q : Value → Shared → Prop} (hr : IsRange s.heap r 0 n 1 t u v) (hn : n < 1000)
    (h : Q (.ref s.heap.objs.size) { s with heap := s.heap.push { cls := .type "range_iterator", data := .fields #[rawInt ((n : Int) - 1), rawInt n, rawInt (-1)] } }) :
    wpAny (M w) A (call (.type "reversed") [.ref r]) Q E s := by
  refine callType_other (U := "range_iterator") (Q₁ := fun obj s₁ => obj = .ref s.heap.objs.size ∧ s₁ = { s with heap := s.heap.push { cls := .type "range_iterator", data := .fields #[rawInt ((n : Int) - 1), rawInt n, rawInt (-1)] } }) (by decide +kernel) F.create_reversed ⟨_, _, F.mro_reversed⟩ F.made_reversed sub_ri_reversed (F.typeCall_reversed_1 _) (code_reversed_range hr hn ⟨rfl, rfl⟩) ?_
  rintro obj s₁ ⟨rfl, rfl⟩
  exact ⟨⟨_, Heap.get?_push_size _ rfl, rfl⟩, h⟩

theorem fdiv2 {l r : Expr} {pos : Pos} {a : Nat} (h1 : EvI w A env g L s0 ps cs l a) (h2 : EvI w A env g L s0 ps cs r 2) : EvI w A env g L s0 ps cs (.BinOp l .FloorDiv r pos) (a / 2 : Nat) := by
  intro s Q E S h
  refine wpAny_BinOp (h1 _ _ _ S fun t s1 S1 => h2 _ _ _ S1 fun u s2 S2 => PyProof.Rows.floordiv_int (by decide) ?_ (Or.inl (PyProof.noPylong_small (by omega))))
  have e : (a : Int).fdiv 2 = ((a / 2 : Nat) : Int) := by rw [Int.fdiv_eq_ediv_of_nonneg _ (by decide)]; omega
  rw [e]
  exact h _ _ (S2.toks _)

/-- a built-in class called by its name, one argument -/
theorem callT {fn : Str} {p pos : Pos} {e : Expr} {T : String} {Q : Value → Shared → Prop} (S : St g L s0 s ps cs) (hf : Ev w A env g L s0 ps cs (.Name fn p) (fun _ => .type T))
    (h : ∀ s', St g L s0 s' ps cs → wpAny (M w) A (eval e env) (fun v s₁ => wpAny (M w) A (call (.type T) [v]) Q E s₁) E s')
    (htr : starEach [e] env = [(false, eval e env)] := by rfl) : wpAny (M w) A (eval (.Call (.Name fn p) [e] [] pos) env) Q E s := by
  refine Call_ (hf _ _ _ S fun _ s1 S1 => ?_)
  rw [htr]
  exact PyProof.Rows.callWith_type rfl (Calls.evalArgs_plain (Calls.spliced_cons (wpAny_mono (h s1 S1) (fun _ _ h₁ => Calls.spliced_nil h₁) fun _ _ e => e)))

theorem rngStart {it : Addr} {a c : Int} {n : Nat} (S : St g L s0 s ps ((it, rngIt a n c) :: cs)) : St g L s0 s ps ((it, rngIt (a + ((0 : Nat) : Int) * c) ((n : Int) - ((0 : Nat) : Int)) c) :: cs) := by
  have e1 : a + ((0 : Nat) : Int) * c = a := by simp
  have e2 : (n : Int) - ((0 : Nat) : Int) = n := by simp
  rw [e1, e2]; exact S

theorem c_heapify {l : Addr} {xs : List Int} {Q : Value → Shared → Prop} (C : Cx w A env g L (d + 3)) (S : St g L s0 s ps ((l, .il xs) :: cs)) (hN : xs.length < 1000)
    (h : ∀ s', St g L s0 s' ps ((l, .il (heapifyL (xs.length / 2) xs)) :: cs) → Q .none s') :
    wpAny (M w) A (call (.ref 35) [.ref l]) Q E s := by
  refine enter [(l, .il xs)] (binds := [(Str.ofString "x", .ref l)]) C S (f := 35) (by rfl) (by rfl) (by rfl) (locs rfl) ?_
  intro L' s' cs _ C' S'
  refine wpAny_execs_cons (xassign S' (elen (bnm C') nm (.head _) hN) fun t1 s1 S1 => ?_)
  refine wpAny_execs_cons (wpAny_For (callT S1 (bnm C') fun s2 S2 => callT S2 (bnm C') fun s3 S3 => (fdiv2 nmI cst).go S3 fun t4 s4 S4 => call_range_1 ?_))
  have hr : IsRange (s4.heap.push { cls := .type "range", data := .fields #[.int 0 s4.toks, .int (xs.length / 2 : Nat) t4, .int 1 (s4.toks + 1)] }) s4.heap.objs.size 0 (xs.length / 2 : Nat) 1 s4.toks t4 (s4.toks + 1) := Heap.get?_push_size _ rfl
  have S5 := (S4.pushed { cls := .type "range", data := .fields #[.int 0 s4.toks, .int (xs.length / 2 : Nat) t4, .int 1 (s4.toks + 1)] }).toks (s4.toks + 1 + 1)
  refine call_reversed_range hr (by omega) ?_
  have S6 := S5.push (b := rngIt (((xs.length / 2 : Nat) : Int) - 1) (xs.length / 2 : Nat) (-1)) (o := { cls := .type "range_iterator", data := .fields #[rawInt (((xs.length / 2 : Nat) : Int) - 1), rawInt (xs.length / 2 : Nat), rawInt (-1)] }) ⟨rfl, rfl⟩
  refine wpAny_pyIter_rangeiter (S6.rng (.head _)) ?_
  refine xforG (iterRange C'.hh (((xs.length / 2 : Nat) : Int) - 1) (-1) (xs.length / 2)) (x := Str.ofString "i")
    (fun i ps cs₁ => ps = [(Str.ofString "x", .ref l)] ∧ ∃ ys, cs₁ = (l, .il ys) :: cs ∧ ys.length = xs.length ∧ heapifyL (xs.length / 2 - i) ys = heapifyL (xs.length / 2) xs) (rngStart (S6.subs (qs := [(Str.ofString "x", .ref l)]) ⟨rfl, trivial⟩)) ⟨rfl, xs, rfl, rfl, rfl⟩ (fun _ _ _ _ => trivial) rfl ?_ ?_
  · rintro i v ps₁ cs₁ s7 hi ⟨t, rfl⟩ ⟨rfl, ys, rfl, hlen, hys⟩ S7
    refine wpAny_execs_cons (wpAny_Expr (callF2 C' S7.swap (gnm C') (by rfl) (by rfl) nm ((nmI).to (b := (xs.length / 2 - 1 - i : Nat)) (by omega)) fun t7 t8 s8 S8 => c_siftup C' S8 (by omega) (by omega) fun s9 S9 => wpAny_execs_nil ?_))
    refine ⟨_, _, ⟨rfl, _, rfl, ?_, ?_⟩, S9.swap.subs ⟨rfl, trivial⟩⟩
    · rw [su_len]; exact hlen
    · rw [← hys, show xs.length / 2 - i = (xs.length / 2 - (i + 1)) + 1 from by omega, heapifyL, show xs.length / 2 - 1 - i = xs.length / 2 - (i + 1) from by omega]
  · rintro ps₁ cs₁ s7 ⟨hsub, ys, rfl, hlen, hys⟩ S7
    simp only [Nat.sub_self, heapifyL] at hys
    rw [hys] at S7
    exact wpAny_execs_nil (wpAny_execs_nil ⟨_, [(l, .il _)], S7, fun S8 => h _ S8⟩)
end
end Mine
end
section
open PySem PySem.W PyProof.Rows PySem.Calls PySem.Spec
set_option maxRecDepth 100000
set_option maxHeartbeats 4000000
namespace Mine

def cellOb (v : Option Value) : Ob := .raw fun o => o.data = .cell v
def nsOb (x : Str) (v : Value) : Ob := .raw fun o => ∃ m, LCg.NsObj o m ∧ m x = some v
def nsAny : Ob := .raw fun o => ∃ m, LCg.NsObj o m

section
variable {w : World} {A : Around} {env fenv : Env} {g : Heap} {L : Addr} {d : Nat} {s0 : Base} {s : Shared} {ps : List (Str × Value)} {cs : List (Addr × Ob)} {E : Value → Shared → Prop}

theorem St.cell {c : Addr} {v : Option Value} (S : St g L s0 s ps cs) (h : (c, cellOb v) ∈ cs) : s.heap.IsCell c v := by
  obtain ⟨o, ho, ⟨e, _⟩, _⟩ := S.led _ h
  exact ⟨o, ho, e⟩
theorem freeCell {o : Obj} {v : Option Value} (e : o.data = .cell v) : o.isFreed = false := by
  obtain ⟨c, dd, dt, sl⟩ := o
  subst e
  rfl
/-- a captured name -/
theorem nmc {x : Str} {pos : Pos} {v : Value} {c : Addr} (hm : (c, cellOb (some v)) ∈ cs) (hc : env.cells.lookup x = some c := by rfl) (hk : env.scope.kind = .function := by rfl) (hx : env.kindOf x = some .cell := by rfl)
    (hd : (x == ("__debug__" : Str)) = false := by decide) : Ev w A env g L s0 ps cs (.Name x pos) (fun _ => v) := by
  intro s Q E S h
  exact wpAny_Name (wpAny_loadName_cell hk hx hc (S.cell hm) (h 0 s S)) hd
theorem nmcI {x : Str} {pos : Pos} {n : Int} {t : Tok} {c : Addr} (hm : (c, cellOb (some (.int n t))) ∈ cs) (hc : env.cells.lookup x = some c := by rfl) (hk : env.scope.kind = .function := by rfl) (hx : env.kindOf x = some .cell := by rfl)
    (hd : (x == ("__debug__" : Str)) = false := by decide) : EvI w A env g L s0 ps cs (.Name x pos) n := by
  intro s Q E S h
  exact nmc hm hc hk hx hd s Q E S fun _ s' S' => h t s' S'
/-- a comprehension's own name -/
theorem nmx {x : Str} {pos : Pos} {v : Value} {C : Addr} (hm : (C, nsOb x v) ∈ cs) (hl : env.locals = C := by rfl) (hk : env.scope.kind = .function := by rfl) (hx : env.kindOf x = some .local := by rfl)
    (hd : (x == ("__debug__" : Str)) = false := by decide) : Ev w A env g L s0 ps cs (.Name x pos) (fun _ => v) := by
  intro s Q E S h
  obtain ⟨o, ho, ⟨⟨m, hn, hv⟩, _⟩, _⟩ := S.led _ hm
  exact wpAny_Name (wpAny_loadName_local hk hx (by rw [hl]; exact hn.ns ho) hv (h 0 s S)) hd
theorem nmxI {x : Str} {pos : Pos} {n : Int} {t : Tok} {C : Addr} (hm : (C, nsOb x (.int n t)) ∈ cs) (hl : env.locals = C := by rfl) (hk : env.scope.kind = .function := by rfl) (hx : env.kindOf x = some .local := by rfl)
    (hd : (x == ("__debug__" : Str)) = false := by decide) : EvI w A env g L s0 ps cs (.Name x pos) n := by
  intro s Q E S h
  exact nmx hm hl hk hx hd s Q E S fun _ s' S' => h t s' S'

theorem xstoreC {x : Str} {v : Value} {c : Addr} {u : Option Value} {Q : Unit → Shared → Prop} (S : St g L s0 s ps ((c, cellOb u) :: cs)) (h : ∀ s', St g L s0 s' ps ((c, cellOb (some v)) :: cs) → Q () s')
    (hc : env.cells.lookup x = some c := by rfl) (hk : env.scope.kind = .function := by rfl) (hx : env.kindOf x = some .cell := by rfl) : wpAny (M w) A (storeName env x v) Q E s := by
  refine wpAny_storeName_cell hk hx hc (S.cell (.head _)) fun h' hv hs => h _ ?_
  obtain ⟨o, ho, e⟩ := hv
  exact S.change hs ho ⟨e, freeCell e⟩
theorem xletC {x : Str} {px pos : Pos} {e : Expr} {c : Addr} {Q : Flow → Shared → Prop}
    (he : wpAny (M w) A (eval e env) (fun v s1 => ∃ ps1 cs1 u, St g L s0 s1 ps1 ((c, cellOb u) :: cs1) ∧ ∀ s', St g L s0 s' ps1 ((c, cellOb (some v)) :: cs1) → Q .next s') E s)
    (hsw : swapsWith e (some (.Name x px)) pos.line env = pure false := by rfl) (hc : env.cells.lookup x = some c := by rfl) (hk : env.scope.kind = .function := by rfl) (hx : env.kindOf x = some .cell := by rfl) :
    wpAny (M w) A (exec (.Assign [.Name x px] e pos) env) Q E s :=
  wpAny_Assign_Name (wpAny_mono he (fun _ _ ⟨_, _, _, S1, h⟩ => xstoreC S1 h hc hk hx) fun _ _ x => x) hsw

/-- a def with captured names that are no parameters -/
theorem enterC {f : Addr} {vals : List Value} {name qual : Str} {params : Arguments} {body : List Stmt} {scope : Scope} {dV kV doc pm cdv ct oc : Value} {an od : Option Addr} {osl : Array (Option Value)} {binds : List (Str × Value)}
    {Q : Value → Shared → Prop}
    (pre : List (Addr × Ob)) (C : Cx w A env g L (d + 1)) (S : St g L s0 s ps (pre ++ cs))
    (ho : (Kf w).lookup f = some ⟨oc, od, .func (fnOf name qual params body scope dV kV doc pm an cdv ct), osl⟩) (hcd : codeIn (Kf w) cdv qual = true)
    (hbind : bindArgs (fnOf name qual params body scope dV kV doc pm an cdv ct) ⟨vals, []⟩ = pure binds)
    (hkind : (binds.all fun y => scope.names.lookup y.1 == some .local || scope.names.lookup y.1 == some .cell) = true)
    (hps : ∀ L', ∀ x v, lk x binds = some v → bindL (envOfC qual scope L' f cdv).kindOf binds (fun _ => none) x = some v)
    (hcm : ∀ L' x, bindC (envOfC qual scope L' f cdv).kindOf binds (fun _ => none) x = none)
    (hcs : ∀ n, ((cellsFrom n scope.names []).map (·.2)).Nodup ∧ (∀ c ∈ (cellsFrom n scope.names []), n ≤ c.2) ∧ ∀ c ∈ (cellsFrom n scope.names []), (cellsFrom n scope.names []).lookup c.1 = some c.2)
    (h : ∀ L' s' cs', (FzA A env cs → FzA (A.deeper (envOfC qual scope L' f cdv)) (envOfC qual scope L' f cdv) cs') → Cx w (A.deeper (envOfC qual scope L' f cdv)) (envOfC qual scope L' f cdv) g L' d →
      St g L' s0 s' binds ((cellsFrom (L' + 1) scope.names []).map (fun p => (p.2, cellOb none)) ++ (pre ++ cs')) →
      wpAny (M w) (A.deeper (envOfC qual scope L' f cdv)) (execs body (envOfC qual scope L' f cdv))
        (fun fl s₁ => ∃ ps' post, St g L' s0 s₁ ps' (post ++ cs') ∧ (St g L s0 s₁ ps (post ++ cs) → Q (match fl with | .ret v => v | _ => .none) s₁)) (fun _ _ => False) s')
    (hco : scope.isCoroutine = false := by rfl) (hgen : scope.isGenerator = false := by rfl) (hk : scope.kind = .function := by rfl) : wpAny (M w) A (call (.ref f) vals) Q E s := by
  obtain ⟨mean, mg, mb, T⟩ := C.ex
  obtain ⟨m, F, km⟩ := S.fr
  have X := C.X.keeps F.keep
  refine wpAny_call (codeAny_call_function (fd := fnOf name qual params body scope dV kV doc pm an cdv ct) (by have := C.dep; omega) (X _ _ ho) rfl hco hgen rfl (codeRec_of X hcd) (BindsTo.of_eq hbind _ _ _ _ ?_))
  refine wpAny_newFunctionEnv_cells hk (kindsX hkind _) fun env' he s' x => ?_
  subst he
  refine ⟨(T.nolimit.keeps F.keep).keeps x.toInCall.keep, codeAny_func ?_⟩
  obtain ⟨oL, hoL, hnL⟩ := LCg.ns_obj F.ns
  have hkeep := x.toInCall.keep
  have S' : St g s.heap.objs.size s0 s' binds ((cellsFrom (s.heap.objs.size + 1) scope.names []).map (fun p => (p.2, cellOb none)) ++ (pre ++ (L, frOb m) :: cs)) := by
    refine ⟨⟨_, ⟨x.toInCall.ns, fun b o e => hkeep b o (F.keep b o e), Nat.le_trans F.above (Nat.le_of_lt F.ns.lt)⟩, fun y v e => hps _ y v e⟩, fun c hc => ?_, ?_, ?_⟩
    · rcases List.mem_append.mp hc with hc | hc
      · obtain ⟨p, hp, rfl⟩ := List.mem_map.mp hc
        obtain ⟨o, ho', e⟩ := x.cell p.1 p.2 ((hcs _).2.2 p hp)
        have e' : o.data = .cell none := e.trans (congrArg _ (hcm _ _))
        have hgt := (hcs _).2.1 p hp
        refine ⟨o, ho', ⟨e', freeCell e'⟩, Nat.ne_of_gt hgt, ?_⟩
        cases q : g.get? p.2 with
        | none => rfl
        | some o => exact absurd (Heap.lt_size (F.keep _ _ q)) (Nat.not_lt.mpr (Nat.le_of_succ_le hgt))
      · rcases (List.perm_middle (a := (L, frOb m)) (l₁ := pre) (l₂ := cs)).mem_iff.mp hc with hc
        rcases List.mem_cons.mp hc with rfl | hc
        · refine ⟨oL, hkeep _ _ hoL, frOb_is hnL, Nat.ne_of_lt F.ns.lt, ?_⟩
          cases q : g.get? L with
          | none => rfl
          | some o => exact absurd (Nat.lt_of_lt_of_le (Heap.lt_size q) F.above) (Nat.lt_irrefl _)
        · obtain ⟨o, k1, k2, k3, k4⟩ := S.led c hc
          exact ⟨o, hkeep _ _ k1, k2, Nat.ne_of_lt (Heap.lt_size k1), k4⟩
    · rw [List.map_append, List.nodup_append, List.map_map]
      refine ⟨(hcs _).1, ?_, ?_⟩
      · refine ((List.perm_middle (a := (L, frOb m)) (l₁ := pre) (l₂ := cs)).map (·.1)).nodup_iff.mpr ?_
        simp only [List.map_cons, List.nodup_cons]
        refine ⟨fun q => ?_, S.nd⟩
        obtain ⟨c, hc, e⟩ := List.mem_map.mp q
        obtain ⟨o, _, _, k3, _⟩ := S.led c hc
        exact k3 e
      · intro a ha b hb q
        obtain ⟨p, hp, rfl⟩ := List.mem_map.mp ha
        obtain ⟨c, hc, rfl⟩ := List.mem_map.mp hb
        have hgt := (hcs _).2.1 p hp
        have hlt : Nat.lt c.1 s.heap.objs.size := by
          rcases (List.perm_middle (a := (L, frOb m)) (l₁ := pre) (l₂ := cs)).mem_iff.mp hc with hc
          rcases List.mem_cons.mp hc with rfl | hc
          · exact F.ns.lt
          · obtain ⟨o, k1, _⟩ := S.led c hc
            exact Heap.lt_size k1
        have q' : p.2 = c.1 := q
        rw [q'] at hgt
        exact absurd hlt (Nat.not_lt.mpr (Nat.le_of_succ_le hgt))
    · obtain ⟨h₁, tk, e1, _⟩ := x.done
      obtain ⟨h₂, tk₂, e2⟩ := S.sh
      exact ⟨h₁, tk, by rw [e1, e2]⟩
  have C' : Cx w (A.deeper (envOfC qual scope s.heap.objs.size f cdv)) (envOfC qual scope s.heap.objs.size f cdv) g s.heap.objs.size d :=
    ⟨⟨mean, mg, mb, T⟩, C.X, rfl, rfl, hk, rfl, rfl, C.hh, by have := C.dep; show A.depth + 1 + d < _; omega, by have := C.un; show A.units + 3 + 8 * d < _; omega⟩
  have Z : FzA A env cs → FzA (A.deeper (envOfC qual scope s.heap.objs.size f cdv)) (envOfC qual scope s.heap.objs.size f cdv) ((L, frOb m) :: cs) := by
    rintro ⟨outer, hA, hz⟩
    refine ⟨env :: outer, by rw [show (A.deeper (envOfC qual scope s.heap.objs.size f cdv)).frames = A.frames.map (envOfC qual scope s.heap.objs.size f cdv :: ·) from rfl, hA]; rfl, fun e he => ?_⟩
    rcases List.mem_cons.mp he with rfl | he
    · exact ⟨by rw [C.hk]; decide, L, m, C.hf, .head _⟩
    · obtain ⟨h1, Li, mi, h2, h3⟩ := hz e he
      exact ⟨h1, Li, mi, h2, .tail _ h3⟩
  refine wpAny_mono (h _ _ _ Z C' S') (fun fl s₁ hfl => ?_) fun _ _ x => x.elim
  obtain ⟨ps', post, S₁, k⟩ := hfl
  exact k (St.back F km S₁)
end
end Mine
end
section
open PySem PySem.W PyProof.Rows PySem.Calls PySem.Spec
set_option maxRecDepth 100000
set_option maxHeartbeats 4000000
namespace Mine

section
variable {w : World} {A : Around} {env fenv : Env} {g : Heap} {L : Addr} {d : Nat} {s0 : Base} {s : Shared} {ps : List (Str × Value)} {cs : List (Addr × Ob)} {E : Value → Shared → Prop}

theorem St.newOf {m : Str → Option Value} {news : List (Addr × Obj)} {h' : Heap} {D : Addr} {o : Obj} {b : Ob} (S : St g L s0 s ps cs) (km : ∀ x v, lk x ps = some v → m x = some v) (kn : ∀ c ∈ cs, ∃ o, (c.1, o) ∈ news ∧ c.2.Is s0 o)
    (F' : Fr g L h' m) (N' : News g L h' ((D, o) :: news)) (hD : ∀ c ∈ cs, c.1 ≠ D) (hb : b.Is s0 o) : St g L s0 { s with heap := h' } ps ((D, b) :: cs) := by
  refine St.of_news F' N' km (fun c hc => ?_) ?_ (let ⟨_, tk, e⟩ := S.sh; ⟨h', tk, by rw [e]⟩)
  · rcases List.mem_cons.mp hc with rfl | hc
    · exact ⟨o, .head _, hb⟩
    · obtain ⟨o₂, h1, h2⟩ := kn c hc
      exact ⟨o₂, .tail _ h1, h2⟩
  · simp only [List.map_cons, List.nodup_cons]
    refine ⟨fun q => ?_, S.nd⟩
    obtain ⟨c, hc, e⟩ := List.mem_map.mp q
    exact hD c hc e
theorem St.lt {c : Addr × Ob} (S : St g L s0 s ps cs) (h : c ∈ cs) : Nat.lt c.1 s.heap.objs.size := let ⟨_, ho, _⟩ := S.led _ h; Heap.lt_size ho

/-- a part of a slice -/
def Pt (w : World) (A : Around) (env : Env) (g : Heap) (L : Addr) (s0 : Base) (ps : List (Str × Value)) (cs : List (Addr × Ob)) : Option PySem.Expr → Option Int → Prop
  | none, none => True
  | some e, some n => EvI w A env g L s0 ps cs e n
  | _, _ => False
theorem Pt.go {e : Option PySem.Expr} {n : Option Int} {Q : Value → Shared → Prop} (hp : Pt w A env g L s0 ps cs e n) (S : St g L s0 s ps cs) (h : ∀ v s', IsPart v n → St g L s0 s' ps cs → Q v s') : wpAny (M w) A (evalPart e env) Q E s := by
  cases e with
  | none => cases n with
    | none => exact evalPart_none_step (h _ _ .none S)
    | some n => exact hp.elim
  | some e => cases n with
    | none => exact hp.elim
    | some n => exact evalPart_some_step (hp _ _ _ S fun t s' S' => h _ _ (.int n t) S')

theorem exslice {v : PySem.Expr} {lo hi st : Option PySem.Expr} {p pos : Pos} {l : Addr} {ns : List Int} {a b c : Option Int} {ops : Nat → List Value} {Q : Value → Shared → Prop} (S : St g L s0 s ps cs) (hv : EvR w A env g L s0 ps cs v l)
    (h1 : Pt w A env g L s0 ps cs lo a) (h2 : Pt w A env g L s0 ps cs hi b) (h3 : Pt w A env g L s0 ps cs st c)
    (hl : ∀ s', St g L s0 s' ps cs → ∃ vs, s'.heap.IsList l vs.toArray ∧ IntsAre vs ns ∧ NZs s0 vs) (hN : ns.length < 1000) (h0 : c ≠ some 0)
    (h : ∀ D s', St g L s0 s' ps ((D, .il (pickNums ns a b c)) :: cs) → Q (.ref D) s')
    (hs : ∀ n, subscripted (.Slice lo hi st p) false (.ref l) (.ref n) = operate (ops n) (getItem (.ref l) (.ref n)) := by intro _; with_unfolding_all rfl) (ht : ∀ r, letTemporaryGo v (.ref l) r = pure () := by intro _; with_unfolding_all rfl) :
    wpAny (M w) A (eval (.Subscript v (.Slice lo hi st p) pos) env) Q E s := by
  refine Subscript_ (hv _ _ _ S fun _ s1 S1 => wpAny_Slice (h1.go S1 fun va s2 pa S2 => h2.go S2 fun vb s3 pb S3 => h3.go S3 fun vc s4 pc S4 => ?_))
  obtain ⟨vs, hl, hi, z⟩ := hl s4 S4
  obtain ⟨m, F, km⟩ := S4.fr
  obtain ⟨news, N, kn⟩ := S4.news
  refine slice_list3 F N hl pa pb pc h0 (fun h' F' N' => h _ _ (S4.newOf km kn F' N' (fun c hc q => ?_) ?_)) (hs _) ht (by rw [List.size_toArray, IA_len hi, sizeLine_eq]; omega)
  · have := S4.lt hc
    rw [q] at this
    exact absurd this (Nat.not_lt.mpr (Nat.le_succ _))
  · have q := hi.pick a b c
    have e : slicePick vs.toArray a b c = (slicePick vs.toArray a b c).toList.toArray := by simp
    rw [e]
    refine Ob.Is.il q (NZ_sub z fun v hv => ?_)
    unfold slicePick at hv
    simp only [List.mem_filterMap] at hv
    obtain ⟨j, _, hj⟩ := hv
    exact Array.mem_toList_iff.mpr (Array.mem_of_getElem? hj)

theorem IA_of : ∀ ns : List Int, IntsAre (ns.map fun n => Value.int n 0) ns
  | [] => .nil
  | n :: r => .cons n 0 (IA_of r)
theorem IA_inj : ∀ {vs : List Value} {ns ms : List Int}, IntsAre vs ns → IntsAre vs ms → ns = ms
  | _, _, _, .nil, .nil => rfl
  | _, _, _, .cons n t r, .cons _ _ r' => by rw [IA_inj r r']
theorem pick_all (ns : List Int) : pickNums ns none none none = ns := IA_inj ((IA_of ns).pick none none none) (slice_ints_all (IA_of ns))
theorem pick_from (ns : List Int) (k : Nat) : pickNums ns (some (k : Int)) none none = ns.drop k := IA_inj ((IA_of ns).pick (some (k : Int)) none none) (slice_ints_fromW (IA_of ns) (x := (k : Int)) (by omega))

/-- a comprehension with one for -/
theorem xcomp {elt iter : PySem.Expr} {x : Str} {px : Pos} {ifs : List PySem.Expr} {scope : Scope} {cl : List (Str × Addr)} {pos : Pos} {n : Nat} {It : Nat → Ob} {V : Nat → Value → Prop} {Need : List (Addr × Ob) → Prop} {Q : Value → Shared → Prop}
    (W : Iter w A g L s0 n It V Need) (J : Nat → List Value → List (Str × Value) → List (Addr × Ob) → Prop)
    (hself : ∀ it s ps cs Q E, St g L s0 s ps ((it, It 0) :: cs) → Q (.ref it) s → wpAny (M w) A (pyIter (.ref it)) Q E s)
    (hit : wpAny (M w) A (eval iter env) (fun xv s1 => wpAny (M w) A (pyIter xv) (fun itv s2 => ∃ it ps cs, itv = .ref it ∧ St g L s0 s2 ps ((it, It 0) :: cs) ∧ J 0 [] ps cs) E s1) E s)
    (hneed : ∀ i ys ps cs c1 c2, J i ys ps cs → Need (c1 :: c2 :: cs))
    (hlen : ∀ i ys ps cs, J i ys ps cs → ys.length < 1000)
    (turn : ∀ i v ys ps cs it C D s' (E' : Value → Shared → Prop), i < n → V i v → J i ys ps cs → St g L s0 s' ps ((it, It (i + 1)) :: (C, nsOb x v) :: (D, .list ys) :: cs) →
      wpAny (M w) A (forIn ifs true fun c r => if r = true then do let ok ← isTrue c (compEnvC scope cl C env) (eval c (compEnvC scope cl C env)); pure (ForInStep.yield ok) else pure (ForInStep.yield r))
        (fun ok s₃ => if ok = true then wpAny (M w) A (eval elt (compEnvC scope cl C env)) (fun y s₄ => ∃ ps' cs', J (i + 1) (ys ++ [y]) ps' cs' ∧ St g L s0 s₄ ps' ((it, It (i + 1)) :: (C, nsOb x v) :: (D, .list ys) :: cs')) E' s₃
          else ∃ ps' cs', J (i + 1) ys ps' cs' ∧ St g L s0 s₃ ps' ((it, It (i + 1)) :: (C, nsOb x v) :: (D, .list ys) :: cs')) E' s')
    (fin : ∀ D ys ps cs s', J n ys ps cs → St g L s0 s' ps ((D, .list ys) :: cs) → Q (.ref D) s')
    (hclos : closureFor scope env = pure cl := by rfl) (hcell : ∀ y ∈ scope.names, y.2 ≠ .cell := by decide) (hkind : scope.kind = .function := by rfl)
    (hnames : ∀ y ∈ scope.names, y.2 = .local → scope.names.lookup y.1 = some .local := by decide) (hx : scope.names.lookup x = some .local := by rfl)
    (hs : ∀ x, foldedSetIterable iter env x = pure x := by intro _; rfl) :
    wpAny (M w) A (eval (.ListComp elt [⟨.Name x px, iter, ifs, 0⟩] scope pos) env) Q E s := by
  rw [eval_ListComp]
  refine wpAny_comprehension_free (use := none) rfl hs hclos hkind hnames (wpAny_mono hit (fun xv s₁ h₁ => wpAny_mono h₁ (fun itv s₂ h₂ => ?_) fun _ _ e => e) fun _ _ e => e)
  obtain ⟨it, ps, cs, rfl, S, hJ⟩ := h₂
  refine wpAny_newObj_type (wpAny_newFunctionEnv hcell (by intro y hy; simp at hy) (fun h₁ hns₁ hsb₁ => ?_) hkind)
  have S1 : St g L s0 { s₂ with heap := s₂.heap.push { cls := .type "list", data := .seq ([] : List Value).toArray } } ps ((s₂.heap.objs.size, .list []) :: (it, It 0) :: cs) := S.push (b := .list []) ⟨0, rfl⟩
  have S2 := S1.push (b := nsAny) (o := { cls := .type (if (some env).isSome then "dict" else "frame"), data := .dict #[] }) ⟨⟨fun _ => none, #[], 0, rfl, fun _ h => by simp at h, fun _ => rfl⟩, rfl⟩
  obtain ⟨oC, heC, hoC⟩ := LCg.ns_obj hns₁
  have S3 := (S2.change hsb₁ heC (b' := nsAny) ⟨⟨_, hoC⟩, freeNs hoC⟩).toks (s₂.toks + ([] : List (Str × Value)).length)
  have loop : ∀ (C D : Addr) s₃, St g L s0 s₃ ps ((it, It 0) :: (C, nsAny) :: (D, .list []) :: cs) → codeAny (M w) A (.compLoop (.ListComp elt [⟨.Name x px, iter, ifs, 0⟩] scope pos) 0 (.ref it) (.ref D) (compEnvC scope cl C env)) (compPost (M w) A E none Q (.ref D) C) s₃ := by
    intro C D s₃ S₃
    refine codeAny_compLoop_tests (fun k s' => ∃ i ys ps cs, k + i = n ∧ J i ys ps cs ∧ St g L s0 s' ps ((it, It i) :: (C, nsAny) :: (D, .list ys) :: cs)) (fun k s' hI => ?_) n ⟨0, [], ps, cs, rfl, hJ, S₃⟩
    obtain ⟨i, ys, ps, cs, hki, hJ, S⟩ := hI
    by_cases hi : i < n
    · refine W.item i it s' ps _ _ _ hi (hneed _ _ _ _ _ _ hJ) S fun v s₁ hv S₁ => ?_
      have Sa := S₁.swap
      obtain ⟨o, ho, ⟨⟨m, hn⟩, _⟩, _⟩ := Sa.led _ (.head _)
      refine wpAny_assign_Name (wpAny_storeName_local (lookup_relabel_local hx) (hn.ns ho) (fun h' hn' hs' => ?_) (by simp [compEnvC, relabel, hkind]))
      obtain ⟨oC', heC', hoC'⟩ := LCg.ns_obj hn'
      have Sb : St g L s0 { s₁ with heap := h', toks := s₁.toks + 1 } ps ((it, It (i + 1)) :: (C, nsOb x v) :: (D, .list ys) :: cs) := ((Sa.change hs' heC' (b' := nsOb x v) ⟨⟨_, hoC', by simp⟩, freeNs hoC'⟩).toks _).swap
      refine wpAny_mono (turn i v ys ps cs it C D _ _ hi hv hJ Sb) (fun ok s₄ h₄ => ?_) fun _ _ e => e
      have weaken : ∀ {ps' cs' s'' ys'}, St g L s0 s'' ps' ((it, It (i + 1)) :: (C, nsOb x v) :: (D, .list ys') :: cs') → St g L s0 s'' ps' ((it, It (i + 1)) :: (C, nsAny) :: (D, .list ys') :: cs') := by
        intro ps' cs' s'' ys' S'
        refine ⟨S'.fr, fun c hc => ?_, S'.nd, S'.sh⟩
        rcases List.mem_cons.mp hc with rfl | hc
        · exact S'.led _ (.head _)
        · rcases List.mem_cons.mp hc with rfl | hc
          · obtain ⟨o, k1, ⟨⟨m, k2, _⟩, k3⟩, k4⟩ := S'.led _ (.tail _ (.head _))
            exact ⟨o, k1, ⟨⟨m, k2⟩, k3⟩, k4⟩
          · exact S'.led _ (.tail _ (.tail _ hc))
      cases ok with
      | false =>
        simp only [Bool.false_eq_true, if_false] at h₄ ⊢
        obtain ⟨ps', cs', hJ', S'⟩ := h₄
        exact ⟨k - 1, by omega, i + 1, ys, ps', cs', by omega, hJ', weaken S'⟩
      | true =>
        simp only [if_true] at h₄ ⊢
        refine wpAny_mono h₄ (fun y s₅ h₅ => ?_) fun _ _ e => e
        obtain ⟨ps', cs', hJ', S'⟩ := h₅
        have Sc := weaken S'
        have Sd : St g L s0 s₅ ps' ((D, .list ys) :: (it, It (i + 1)) :: (C, nsAny) :: cs') := Sc.perm (((List.Perm.swap (it, It (i + 1)) (D, .list ys) _)).trans ((List.Perm.swap (C, nsAny) (D, .list ys) cs').cons _))
        obtain ⟨nn, ho⟩ := Sd.isListX (.head _)
        refine append_at ho (fun h'' hs'' hD => ?_) (by have := hlen _ _ _ _ hJ; rw [List.size_toArray, sizeLine_eq]; omega)
        have Se := Sd.change hs'' hD (b' := .list (ys ++ [y])) ⟨nn + 1, by simp⟩
        exact ⟨k - 1, by omega, i + 1, ys ++ [y], ps', cs', by omega, hJ', Se.perm ((((List.Perm.swap (D, .list (ys ++ [y])) (C, nsAny) cs').cons _)).trans ((List.Perm.swap (D, .list (ys ++ [y])) (it, It (i + 1)) _)))⟩
    · have e : i = n := by omega
      subst e
      refine W.done it s' ps _ _ _ (hneed _ _ _ _ _ _ hJ) S fun s₁ S₁ => ?_
      obtain ⟨o, ho, ⟨⟨m, hn⟩, _⟩, _⟩ := S₁.led _ (.head _)
      exact ⟨m, hn.ns ho, fun h' hs' => fin D ys ps cs _ hJ (S₁.ext hs'.extBut)⟩
  have S4 : St g L s0 _ ps ((it, It 0) :: ((s₂.heap.push { cls := .type "list", data := .seq ([] : List Value).toArray }).objs.size, nsAny) :: (s₂.heap.objs.size, .list []) :: cs) :=
    S3.perm (((List.Perm.swap _ _ _)).trans ((List.Perm.swap _ _ cs).cons _))
  exact codeAny_compStart_list (loop _ _ _ S4) (hself it _ _ _ _ _ S4 (loop _ _ _ S4))
end
end Mine
end
section
open PySem PySem.W PyProof.Rows PySem.Calls PySem.Spec
set_option maxRecDepth 100000
set_option maxHeartbeats 4000000
namespace Mine

def popsL : Nat → List Int → List Int
  | 0, _ => []
  | k + 1, xs => xs.getD 0 0 :: popsL k (popH xs)
def offL (ns : List Int) : List Int := popsL ns.length (heapifyL (ns.length / 2) ns)
theorem popsL_len : ∀ (k : Nat) (xs : List Int), (popsL k xs).length = k
  | 0, _ => rfl
  | k + 1, xs => by rw [popsL, List.length_cons, popsL_len]
theorem offL_len (ns : List Int) : (offL ns).length = ns.length := popsL_len _ _
theorem popH_len (xs : List Int) : (popH xs).length = xs.length - 1 := by
  unfold popH
  split
  · simp; omega
  · rw [su_len, List.length_set, List.length_dropLast]

section
variable {w : World} {A : Around} {env fenv : Env} {g : Heap} {L : Addr} {d : Nat} {s0 : Base} {s : Shared} {ps : List (Str × Value)} {cs : List (Addr × Ob)} {E : Value → Shared → Prop}

section
variable {a b c d e f : Addr × Ob}
theorem St.up2 (S : St g L s0 s ps (a :: b :: c :: cs)) : St g L s0 s ps (c :: a :: b :: cs) := S.perm (List.perm_middle (l₁ := [a, b])).symm
theorem St.dn2 (S : St g L s0 s ps (c :: a :: b :: cs)) : St g L s0 s ps (a :: b :: c :: cs) := S.perm (List.perm_middle (l₁ := [a, b]))
theorem St.up3 (S : St g L s0 s ps (a :: b :: c :: d :: cs)) : St g L s0 s ps (d :: a :: b :: c :: cs) := S.perm (List.perm_middle (l₁ := [a, b, c])).symm
theorem St.dn3 (S : St g L s0 s ps (d :: a :: b :: c :: cs)) : St g L s0 s ps (a :: b :: c :: d :: cs) := S.perm (List.perm_middle (l₁ := [a, b, c]))
theorem St.up4 (S : St g L s0 s ps (a :: b :: c :: d :: e :: cs)) : St g L s0 s ps (e :: a :: b :: c :: d :: cs) := S.perm (List.perm_middle (l₁ := [a, b, c, d])).symm
theorem St.dn4 (S : St g L s0 s ps (e :: a :: b :: c :: d :: cs)) : St g L s0 s ps (a :: b :: c :: d :: e :: cs) := S.perm (List.perm_middle (l₁ := [a, b, c, d]))
end
theorem St.toInts {D : Addr} {us : List Value} {ns : List Int} (S : St g L s0 s ps ((D, .list us) :: cs)) (h : IntsAre us ns) (z : NZs s0 us) : St g L s0 s ps ((D, .il ns) :: cs) := by
  refine ⟨S.fr, fun c hc => ?_, S.nd, S.sh⟩
  rcases List.mem_cons.mp hc with rfl | hc
  · obtain ⟨o, k1, ⟨n, k2⟩, k3⟩ := S.led _ (.head _)
    exact ⟨o, k1, ⟨us, n, k2, h, z⟩, k3⟩
  · exact S.led _ (.tail _ hc)

theorem selfList {l : Addr} : ∀ it s ps cs Q E, St g L s0 s ps ((it, lstIt l 0) :: cs) → Q (.ref it) s → wpAny (M w) A (pyIter (.ref it)) Q E s :=
  fun _ _ _ _ _ _ S h => wpAny_pyIter_listiter (S.lit (.head _)) h

theorem c_lawoff {l : Addr} {ns : List Int} {Q : Value → Shared → Prop} (C : Cx w A env g L (d + 4)) (S : St g L s0 s ps ((l, .il ns) :: cs)) (hN : ns.length < 1000)
    (h : ∀ D s', St g L s0 s' ps ((D, .il (offL ns)) :: (l, .il ns) :: cs) → Q (.ref D) s') :
    wpAny (M w) A (call (.ref 75) [.ref l]) Q E s := by
  refine enterC [(l, .il ns)] (binds := [(Str.ofString "pile", .ref l)]) C S (f := 75) (by rfl) (by rfl) (by rfl) (by rfl) (fun L' x v hx => ?_) (fun L' x => by rfl) (fun n => ?_) ?_
  · simp only [lk] at hx
    split at hx
    · rename_i e; cases hx; subst e; rfl
    · cases hx
  · exact ⟨by simp [cellsFrom], by simp [cellsFrom], by simp [cellsFrom]⟩
  intro L' s' cs _ C' S'
  replace S' : St g L' s0 s' [(Str.ofString "pile", .ref l)] ((L' + 1, cellOb none) :: (l, .il ns) :: cs) := S'
  refine wpAny_execs_cons (xletC (exslice (ns := ns) (a := none) (b := none) (c := none) S' nm trivial trivial trivial (fun s1 S1 => S1.isIntsZ (.tail _ (.head _))) hN (by simp) fun D1 s1 S1 => ⟨_, _, _, S1.swap, fun s2 S2 => ?_⟩))
  rw [pick_all] at S2
  refine wpAny_execs_cons (wpAny_Expr (callF1 C' S2.swap (gnm C') (by rfl) (by rfl) (nmc (.tail _ (.head _))) fun t3 s3 S3 => c_heapify C' S3 hN fun s4 S4 => ?_))
  refine wpAny_execs_cons (wpAny_Return_some (xcomp (iterInts C'.hh l ns) (x := Str.ofString "x")
    (fun i us ps' cs' => ps' = [(Str.ofString "pile", .ref l)] ∧ ∃ ys ms, cs' = (D1, .il ys) :: (L' + 1, cellOb (some (.ref D1))) :: (l, .il ns) :: cs ∧ IntsAre us ms ∧ NZs s0 us ∧ ys.length = ns.length - i ∧ i ≤ ns.length ∧ ms.length = i ∧ ms ++ popsL (ns.length - i) ys = offL ns)
    selfList ((nm).go S4 fun _ s5 S5 => pyIterL S5 (.tail _ (.tail _ (.head _))) trivial fun it s6 S6 => ⟨it, _, _, rfl, S6, rfl, _, [], rfl, .nil, NZ_nil, ?_, Nat.zero_le _, rfl, rfl⟩) ?_ ?_ ?_ ?_))
  · rw [heapifyL_len]; rfl
  · rintro i us ps' cs' c1 c2 ⟨rfl, ys, ms, rfl, _⟩
    exact .tail _ (.tail _ (.tail _ (.tail _ (.head _))))
  · rintro i us ps' cs' ⟨rfl, ys, ms, rfl, h1, hz, h2, h3, h4, h5⟩
    rw [IA_len h1]; omega
  · rintro i v us ps' cs' it Cc D2 s5 E' hi ⟨n, t, hn, rfl⟩ ⟨rfl, ys, ms, rfl, h1, hz, h2, h3, h4, h5⟩ S5
    refine wpAny_tests_nil ?_
    simp only [if_true]
    have hy : ys ≠ [] := by intro e; rw [e] at h2; simp at h2; omega
    refine callF1 C' S5.up3 (gnm C') (by rfl) (by rfl) (nmc (.tail _ (.tail _ (.tail _ (.tail _ (.head _)))))) fun t6 s6 S6 => c_heappop C' S6 hy (by omega) fun t7 s7 S7 => ?_
    refine ⟨_, _, ⟨rfl, popH ys, ms ++ [ys.getD 0 0], rfl, IA_append h1 (.cons _ _ .nil), NZ_append hz NZ_one, by rw [popH_len]; omega, by omega, by rw [List.length_append, h4]; rfl, ?_⟩, S7.dn3⟩
    rw [← h5, show ns.length - i = (ns.length - (i + 1)) + 1 from by omega, popsL]
    simp
  · rintro D2 us ps' cs' s5 ⟨rfl, ys, ms, rfl, h1, hz, h2, h3, h4, h5⟩ S5
    simp only [Nat.sub_self, popsL, List.append_nil] at h5
    rw [h5] at h1
    exact ⟨_, [(D2, .il (offL ns)), (l, .il ns)], (S5.toInts h1 hz).swap.tail.swap.tail, fun S6 => h _ _ S6⟩
end
end Mine
end
section
open PySem PySem.W PyProof.Rows PySem.Calls PySem.Spec
set_option maxRecDepth 100000
set_option maxHeartbeats 4000000
namespace Mine

section
variable {w : World} {A : Around} {env fenv : Env} {g : Heap} {L : Addr} {d : Nat} {s0 : Base} {s : Shared} {ps : List (Str × Value)} {cs : List (Addr × Ob)} {E : Value → Shared → Prop}

theorem Cx.unbooked (C : Cx w A fenv g L d) (S : St g L s0 s ps cs) : NoneBooked s.heap := by
  obtain ⟨m, F, _⟩ := S.fr
  have h : (Kf w).lookup cStatics = some { cls := Value.none, data := Data.dict #[] } := by rfl
  exact ⟨fun _ => none, ⟨_, #[], 0, F.keep _ _ (C.X _ _ h), rfl, fun _ h => by simp at h, fun _ => rfl⟩, rfl⟩

theorem same_int {a b : Int} {t : NTok s0 a} {u : NTok s0 b} {Q : Bool → Shared → Prop} (hb : NoneBooked s.heap) (h : ∀ r, (r = true → a = b) → Q r s) : wpAny (M w) A (isSame (.int a t) (.int b u)) Q E s := by
  have h0 : ((t : Tok) == 0 || (u : Tok) == 0) = false := by
    have := t.2.1; have := u.2.1
    simp [*]
  show wpAny (M w) A (if (a == b && smallInt a) = true then isSame.cachedInt t u else isSame.created (a == b) t u) Q E s
  by_cases hc : (a == b && smallInt a) = true
  · rw [if_pos hc]
    have e : a = b := by
      have := (Bool.and_eq_true_iff.mp hc).1
      simpa using this
    unfold isSame.cachedInt
    rw [h0]
    simp only [Bool.false_eq_true, if_false]
    exact wpAny_bind (wpAny_rule (wpAny_pure (h true fun _ => e)))
  · rw [if_neg hc]
    unfold isSame.created
    rw [h0]
    simp only [Bool.false_eq_true, if_false]
    by_cases htu : ((t : Tok) == (u : Tok)) = true
    · have e : a = b := by
        have q : (t : Tok) = u := by simpa using htu
        rw [← t.2.2, ← u.2.2, q]
      simp only [htu, if_true]
      exact wpAny_pure (h true fun _ => e)
    · simp only [htu]
      by_cases hab : (a == b) = true
      · have e : a = b := by simpa using hab
        simp only [hab, Bool.not_true, Bool.false_eq_true, if_false]
        refine wpAny_bind (wpAny_sharingNotTold_none hb ?_)
        simp only [Bool.false_eq_true, if_false]
        refine wpAny_bind (wpAny_sharingNotTold_none hb ?_)
        simp only [Bool.false_eq_true, if_false]
        exact wpAny_bind (wpAny_rule (wpAny_bind (wpAny_askSetting (wpAny_pure (h _ fun _ => e)))))
      · simp only [hab]
        exact wpAny_pure (h false fun z => by cases z)

theorem tisor {l r l' r' : PySem.Expr} {p1 p2 pos : Pos} {a b : Int} (C : Cx w A fenv g L d) (h1 : EvZ w A env g L s0 ps cs l a) (h2 : EvZ w A env g L s0 ps cs r b) (h3 : EvI w A env g L s0 ps cs l' a) (h4 : EvI w A env g L s0 ps cs r' b)
    (hm : behindInMarks .Is r = false := by with_unfolding_all rfl) (hm' : behindInMarks .Eq r' = false := by with_unfolding_all rfl) : Tr w A env g L s0 ps cs (.BoolOp .Or [.Compare l [.Is] [r] p1, .Compare l' [.Eq] [r'] p2] pos) (a == b) := by
  intro s Q E S h
  refine isTrue_or (wpAny_isTrue_Compare1 (h1 _ _ _ S fun t s1 S1 => h2 _ _ _ S1 fun u s2 S2 => ?_) hm)
  show wpAny _ A (do return Value.bool (← isSame (.int a t) (.int b u))) _ _ s2
  refine wpAny_bind (same_int (C.unbooked S2) fun r hr => wpAny_pure (wpAny_truthy_bool ?_))
  cases r with
  | true =>
    have e : (a == b) = true := by rw [hr rfl]; simp
    rw [if_pos rfl]
    rw [e] at h
    exact h s2 S2
  | false =>
    rw [if_neg (by decide)]
    refine isTrue_or (teq h3 h4 hm' _ _ _ S2 fun s3 S3 => ?_)
    have q := h s3 S3
    cases e : (a == b) with
    | true => rw [if_pos rfl]; rw [e] at q; exact q
    | false => rw [if_neg (by decide)]; rw [e] at q; exact isTrue_or_nil q

theorem c_contains {l : Addr} {ns : List Int} {b : Int} {t : NTok s0 b} {Q : Value → Shared → Prop} (C : Cx w A env g L (d + 1)) (S : St g L s0 s ps cs) (hm : (l, Ob.il ns) ∈ cs)
    (h : ∀ s', St g L s0 s' ps cs → Q (.bool (ns.any (· == b))) s') :
    wpAny (M w) A (call (.ref 56) [.ref l, .int b t]) Q E s := by
  refine enterM (binds := [(Str.ofString "a", .ref l), (Str.ofString "b", .int b t)]) C S (f := 56) (by rfl) (by rfl) (by rfl) (locs rfl) ?_
  intro L' s' cs hcs C' S'
  replace hm := hcs _ hm
  refine wpAny_execs_cons (wpAny_Return_some (wpAny_Compare1 ((nmZ).go S' fun t1 s1 S1 => (nm).go S1 fun _ s2 S2 => ?_)))
  obtain ⟨vs, hl, hi⟩ := S2.isInts hm
  exact in_list_ints hl hi ⟨_, S2, fun S3 => h _ S3⟩

theorem c_countOf {l : Addr} {ns : List Int} {b : Int} {t : NTok s0 b} {Q : Value → Shared → Prop} (C : Cx w A env g L (d + 1)) (S : St g L s0 s ps cs) (hm : (l, Ob.il ns) ∈ cs)
    (h : ∀ t s', St g L s0 s' ps cs → Q (.int (ns.count b : Nat) t) s') :
    wpAny (M w) A (call (.ref 63) [.ref l, .int b t]) Q E s := by
  refine enterM (binds := [(Str.ofString "a", .ref l), (Str.ofString "b", .int b t)]) C S (f := 63) (by rfl) (by rfl) (by rfl) (locs rfl) ?_
  intro L' s' cs hcs C' S'
  replace hm := hcs _ hm
  refine wpAny_execs_cons (xassign S' (cst (n := 0)) fun t1 s1 S1 => ?_)
  refine wpAny_execs_cons (wpAny_For ((nm).go S1 fun _ s2 S2 => pyIterL S2 hm trivial fun it s3 S3 => ?_))
  refine xforG (iterInts C'.hh l ns) (x := Str.ofString "i") (fun i ps₁ cs₁ => (∃ t1, ps₁ = [(Str.ofString "b", .int b t), (Str.ofString "count", .int (((ns.take i).count b : Nat) : Int) t1)]) ∧ cs₁ = cs)
    (S3.subs (qs := [(Str.ofString "b", .int b t), (Str.ofString "count", .int (((ns.take 0).count b : Nat) : Int) t1)]) ⟨rfl, rfl, trivial⟩) ⟨⟨t1, rfl⟩, rfl⟩ (by rintro i ps₁ cs₁ ⟨_, rfl⟩; exact hm) rfl ?_ ?_
  · rintro i v ps₁ cs₁ s4 hi ⟨n, tn, hn, rfl⟩ ⟨⟨t2, rfl⟩, rfl⟩ S4
    have e : ns.take (i + 1) = ns.take i ++ [n] := by simp [List.take_add_one, hn]
    refine xmid (fun s5 => ∃ t2, St g L' s0 s5 [(Str.ofString "b", .int b t), (Str.ofString "count", .int (((ns.take (i + 1)).count b : Nat) : Int) t2)] ((it, lstIt l (i + 1)) :: cs₁)) ?_ ?_
    · refine xif S4 (tisor C' (nmZ (t := tn)) (nmZ (t := t)) nmI nmI) (fun hb s5 S5 => ?_) fun hb s5 S5 => ?_
      · refine wpAny_execs_cons (xaug S5 (cst (n := 1)) fun t6 s6 S6 => wpAny_execs_nil ⟨rfl, t6, ?_⟩)
        have hnb : n = b := by simpa using hb
        have e2 : (((ns.take (i + 1)).count b : Nat) : Int) = ((ns.take i).count b : Nat) + 1 := by rw [e, List.count_append, hnb]; simp
        rw [e2]
        exact S6.subs ⟨rfl, rfl, trivial⟩
      · refine wpAny_execs_nil ⟨rfl, t2, ?_⟩
        have hnb : n ≠ b := by simpa using hb
        have e2 : (((ns.take (i + 1)).count b : Nat) : Int) = ((ns.take i).count b : Nat) := by rw [e, List.count_append]; simp [List.count_cons, hnb]
        rw [e2]
        exact S5.subs ⟨rfl, rfl, trivial⟩
    · rintro s5 ⟨t6, S5⟩
      exact wpAny_execs_nil ⟨_, _, ⟨⟨t6, rfl⟩, rfl⟩, S5⟩
  · rintro ps₁ cs₁ s4 ⟨⟨t2, rfl⟩, rfl⟩ S4
    rw [List.take_length] at S4
    refine wpAny_execs_nil (wpAny_execs_cons (wpAny_Return_some ((nmI).go S4 fun t9 s9 S9 => ⟨_, S9, fun S10 => h t9 s9 S10⟩)))
end
end Mine
end
section
open PySem PySem.W PyProof.Rows PySem.Calls PySem.Spec
set_option maxRecDepth 100000
set_option maxHeartbeats 4000000
namespace Mine

section
variable {w : World} {A : Around} {env fenv : Env} {g : Heap} {L : Addr} {d : Nat} {s0 : Base} {s : Shared} {ps : List (Str × Value)} {cs pre pre' : List (Addr × Ob)} {E : Value → Shared → Prop}

theorem St.rebuild {h' : Heap} {tk : Nat} (S : St g L s0 s ps (pre ++ cs)) (ha : pre'.map (·.1) = pre.map (·.1)) (hk : ∀ b o, b ∉ pre.map (·.1) → s.heap.get? b = some o → h'.get? b = some o)
    (hn : ∀ c ∈ pre', ∃ o, h'.get? c.1 = some o ∧ c.2.Is s0 o) : St g L s0 { s with heap := h', toks := tk } ps (pre' ++ cs) := by
  obtain ⟨m, F, k⟩ := S.fr
  have off : ∀ b, b ∈ pre.map (·.1) → b ≠ L ∧ g.get? b = none := by
    intro b hb
    obtain ⟨c, hc, rfl⟩ := List.mem_map.mp hb
    obtain ⟨o, _, _, h3, h4⟩ := S.led c (List.mem_append_left _ hc)
    exact ⟨h3, h4⟩
  have nd := S.nd
  obtain ⟨oL, a1, a2, hoL, a3⟩ := F.ns
  refine ⟨⟨m, ⟨⟨oL, a1, a2, hk L oL (fun q => (off L q).1 rfl) hoL, a3⟩, fun b x e => hk b x (fun q => ?_) (F.keep b x e), F.above⟩, k⟩, fun c hc => ?_, ?_, let ⟨_, _, e⟩ := S.sh; ⟨h', tk, by rw [e]⟩⟩
  · rw [(off b q).2] at e; cases e
  · rcases List.mem_append.mp hc with hc | hc
    · obtain ⟨o, h1, h2⟩ := hn c hc
      have q : c.1 ∈ pre.map (·.1) := ha ▸ List.mem_map_of_mem hc
      exact ⟨o, h1, h2, off _ q⟩
    · obtain ⟨o, k1, k2⟩ := S.led c (List.mem_append_right _ hc)
      refine ⟨o, hk _ _ (fun q => ?_) k1, k2⟩
      rw [List.map_append, List.nodup_append] at nd
      exact nd.2.2 _ q _ (List.mem_map_of_mem hc) rfl
  · rw [List.map_append, ha, ← List.map_append]; exact nd
theorem St.extNew {h' : Heap} {n : Nat} (S : St g L s0 s ps cs) (hs : Heap.ExtBut n s.heap h') (hn : s.heap.objs.size ≤ n) : St g L s0 { s with heap := h' } ps cs :=
  S.rebuild (pre := []) (pre' := []) (tk := s.toks) rfl (fun b o _ e => hs b o (Nat.ne_of_lt (Nat.lt_of_lt_of_le (Heap.lt_size e) hn)) e) (fun _ h => nomatch h)

theorem xasg2 {x1 x2 : Str} {p1 p2 pt : Pos} {k : Nat} {t : Addr} {v1 v2 : Value} {Q : Unit → Shared → Prop} (hh : A.handled = none) (S : St g L s0 s ps cs) (ht : s.heap.IsTuple t #[v1, v2])
    (h : ∀ s', St g L s0 s' (upd x2 v2 (upd x1 v1 ps)) cs → Q () s')
    (hl : env.locals = L := by rfl) (hk : env.scope.kind = .function := by rfl) (hx1 : env.kindOf x1 = some .local := by rfl) (hx2 : env.kindOf x2 = some .local := by rfl) :
    wpAny (M w) A (assign (.Tuple [.Name x1 p1, .Name x2 p2] k pt) env (.ref t)) Q E s := by
  refine wpAny_assign_Tuple hh ht rfl rfl fun h₃ hx₃ => ?_
  have S3 := S.extNew hx₃ (Nat.le_refl _)
  show wpAny _ A (do holding [v2] (assign (.Name x1 p1) env v1); do holding [] (assign (.Name x2 p2) env v2); pure ()) _ _ _
  refine wpAny_bind (wpAny_holding (wpAny_assign_Name (xstore S3 (fun s4 S4 => ?_) hl hk hx1)))
  exact wpAny_bind (wpAny_holding (wpAny_assign_Name (xstore S4 (fun s5 S5 => wpAny_pure (h s5 S5)) hl hk hx2)))

theorem xforA {tgt : PySem.Expr} {body orelse : List Stmt} {it : Addr} {Q : Flow → Shared → Prop} (n : Nat) (J : Nat → Shared → Prop) (h0 : J 0 s)
    (turn : ∀ i s', i < n → J i s' → wpAny (M w) A (pyNext (.ref it)) (fun r s₁ => match r with
      | none => False
      | some v => wpAny (M w) A (letOwnedTupleGo tgt (.ref it) v) (fun _ s₂ => wpAny (M w) A (assign tgt env v) (fun _ s₃ => wpAny (M w) A (execs body env) (fun f s₄ => match f with
        | .next | .cont => J (i + 1) s₄
        | .brk => Q .next s₄
        | .ret v => Q (.ret v) s₄) (fun _ _ => False) s₃) (fun _ _ => False) s₂) (fun _ _ => False) s₁) (fun _ _ => False) s')
    (fin : ∀ s', J n s' → wpAny (M w) A (pyNext (.ref it)) (fun r s₁ => match r with
      | none => wpAny (M w) A (execs orelse env) Q (fun _ _ => False) s₁
      | some _ => False) (fun _ _ => False) s') :
    codeAny (M w) A (.forLoop tgt (.ref it) body orelse env) (fun r s' => match r with | .ok f => Q f s' | .error e => cameBackBy (M w) A env E e s') s := by
  refine codeAny_forLoop_any (fun k s' => ∃ i, k + i = n ∧ J i s') (fun k s' hI => ?_) n ⟨0, rfl, h0⟩
  obtain ⟨i, hki, hJ⟩ := hI
  by_cases hi : i < n
  · refine wpAny_mono (turn i s' hi hJ) (fun r s₁ h₁ => ?_) fun _ _ x => x.elim
    cases r with
    | none => exact h₁.elim
    | some v =>
      refine wpAny_mono h₁ (fun _ s₂ h₂ => wpAny_mono h₂ (fun _ s₃ h₃ => wpAny_mono h₃ (fun f s₄ h₄ => ?_) fun _ _ x => x.elim) fun _ _ x => x.elim) fun _ _ x => x.elim
      cases f with
      | next => exact ⟨k - 1, by omega, i + 1, by omega, h₄⟩
      | cont => exact ⟨k - 1, by omega, i + 1, by omega, h₄⟩
      | brk => exact h₄
      | ret v => exact h₄
  · have e : i = n := by omega
    subst e
    refine wpAny_mono (fin s' hJ) (fun r s₁ h₁ => ?_) fun _ _ x => x.elim
    cases r with
    | none => exact wpAny_mono h₁ (fun _ _ x => x) fun _ _ x => x.elim
    | some v => exact h₁.elim
end
end Mine
end
section
open PySem PySem.W PyProof.Rows PySem.Calls PySem.Spec
set_option maxRecDepth 100000
set_option maxHeartbeats 4000000
namespace Mine

def enumOb (it : Addr) (i : Nat) : Ob := .raw fun o => ∃ old, o = { cls := .type "enumerate", dict := none, data := .fields #[.none, .bool false, .ref it, rawInt i, .none, old], slots := #[] }

theorem idx_first {b : Int} : ∀ (ns : List Int) (i : Nat), (∀ n ∈ ns.take i, n ≠ b) → ns[i]? = some b → ns.idxOf b = i
  | [], i, _, h => by simp at h
  | n :: r, 0, _, h => by simp at h; subst h; simp
  | n :: r, i + 1, hno, h => by
    have h1 : n ≠ b := hno n (by simp)
    have h2 := idx_first r i (fun m hm => hno m (by simp [hm])) (by simpa using h)
    rw [List.idxOf_cons, h2, beq_false_of_ne h1]
    rfl

section
variable {w : World} {A : Around} {env fenv : Env} {g : Heap} {L : Addr} {d : Nat} {s0 : Base} {s : Shared} {ps : List (Str × Value)} {cs : List (Addr × Ob)} {E : Value → Shared → Prop}

theorem c_indexOf {l : Addr} {ns : List Int} {b : Int} {t : NTok s0 b} {Q : Value → Shared → Prop} (C : Cx w A env g L (d + 1)) (S : St g L s0 s ps cs) (hm : (l, Ob.il ns) ∈ cs) (hb : b ∈ ns)
    (h : ∀ t s', St g L s0 s' ps cs → Q (.int (ns.idxOf b : Nat) t) s') :
    wpAny (M w) A (call (.ref 70) [.ref l, .int b t]) Q E s := by
  refine enterM (binds := [(Str.ofString "a", .ref l), (Str.ofString "b", .int b t)]) C S (f := 70) (by rfl) (by rfl) (by rfl) (locs rfl) ?_
  intro L' s' cs hcs C' S'
  replace hm := hcs _ hm
  refine wpAny_execs_cons (wpAny_For (callT S' (bnm C') fun s1 S1 => (nm).go S1 fun _ s2 S2 => ?_))
  obtain ⟨vs0, nn, hl, _, _⟩ := S2.isIntsX hm
  refine call_enumerate_1 hl fun h' he hit hsz hk => ?_
  have S3 : St g L' s0 { s2 with heap := h' } [(Str.ofString "b", .int b t)] ((s2.heap.objs.size + 1, enumOb s2.heap.objs.size 0) :: (s2.heap.objs.size, lstIt l 0) :: cs) := by
    obtain ⟨m, F, km⟩ := S2.fr
    have fresh : ∀ a, s2.heap.objs.size ≤ a → a ≠ L' ∧ g.get? a = none := fun a ha => by
      refine ⟨fun q => ?_, ?_⟩
      · have := F.ns.lt
        rw [q] at ha
        exact absurd this (Nat.not_lt.mpr ha)
      · cases e : g.get? a with
        | none => rfl
        | some o => exact absurd (Heap.lt_size (F.keep _ _ e)) (Nat.not_lt.mpr ha)
    obtain ⟨oL, a1, a2, hoL, a3⟩ := F.ns
    refine ⟨⟨m, ⟨⟨oL, a1, a2, hk _ _ hoL, a3⟩, fun b o e => hk b o (F.keep b o e), F.above⟩, fun x v e => km x v ?_⟩, fun c hc => ?_, ?_, let ⟨_, _, e⟩ := S2.sh; ⟨h', _, by rw [e]⟩⟩
    · exact lk_subs (qs := [(Str.ofString "b", .int b t)]) ⟨rfl, trivial⟩ e
    · rcases List.mem_cons.mp hc with rfl | hc
      · exact ⟨_, he, ⟨⟨_, rfl⟩, rfl⟩, fresh _ (Nat.le_succ _)⟩
      · rcases List.mem_cons.mp hc with rfl | hc
        · obtain ⟨o, ho, e1, e2⟩ := hit
          exact ⟨o, ho, ⟨⟨e1, e2⟩, Obj.isFreed_of_fields e2⟩, fresh _ (Nat.le_refl _)⟩
        · obtain ⟨o, k1, k2⟩ := S2.led _ hc
          exact ⟨o, hk _ _ k1, k2⟩
    · simp only [List.map_cons, List.nodup_cons, List.mem_cons, List.mem_map, not_or, not_exists, not_and]
      refine ⟨⟨Nat.ne_of_gt (Nat.lt_succ_self _), fun c hc e => ?_⟩, fun c hc e => ?_, S2.nd⟩
      · have := S2.lt hc
        rw [e] at this
        exact absurd this (Nat.not_lt.mpr (Nat.le_succ _))
      · have := S2.lt hc
        rw [e] at this
        exact absurd this (Nat.lt_irrefl _)
  generalize s2.heap.objs.size + 1 = ea at *
  generalize s2.heap.objs.size = ia at *
  refine wpAny_pyIter_enum he ?_
  refine xforA ns.length (fun i s4 => ∃ ps₁, Subs [(Str.ofString "b", .int b t)] ps₁ ∧ St g L' s0 s4 ps₁ ((ea, enumOb ia i) :: (ia, lstIt l i) :: cs) ∧ ∀ n ∈ ns.take i, n ≠ b) ⟨_, ⟨rfl, trivial⟩, S3, by simp⟩ ?_ ?_
  · rintro i s4 hi ⟨ps₁, hps, S4, hno⟩
    obtain ⟨o, ho, ⟨⟨old, rfl⟩, _⟩, _⟩ := S4.led _ (.head _)
    have hit4 := S4.lit (.tail _ (.head _))
    obtain ⟨vs, hl4, hv, z⟩ := S4.isIntsZ (.tail _ (.tail _ hm))
    have hn : ns[i]? = some ns[i] := by simp [hi]
    obtain ⟨tn, htn⟩ := IZ_get hv z hn
    have nd := S4.nd
    simp only [List.map_cons, List.nodup_cons, List.mem_cons, not_or] at nd
    refine wpAny_pyNext_enum_item ho hit4 hl4 (by simpa using htn) nd.1.1 fun h5 heo hit5 hT hsz5 hk5 => ?_
    refine wpAny_letOwnedTupleGo_enum heo fun h6 he6 hs6 => ?_
    have hne : s4.heap.objs.size ≠ ea := Nat.ne_of_gt (Heap.lt_size ho)
    have S6 : St g L' s0 { s4 with heap := h6, toks := s4.toks + 1 } ps₁ ((ea, enumOb ia (i + 1)) :: (ia, lstIt l (i + 1)) :: cs) := by
      refine S4.rebuild (pre := [(ea, enumOb ia i), (ia, lstIt l i)]) (pre' := [(ea, enumOb ia (i + 1)), (ia, lstIt l (i + 1))]) rfl (fun b o hb e => ?_) (fun c hc => ?_)
      · simp only [List.map_cons, List.map_nil, List.mem_cons, List.not_mem_nil, or_false, not_or] at hb
        exact (hs6.2 b hb.1).trans (hk5 b o hb.1 hb.2 e)
      · simp only [List.mem_cons, List.not_mem_nil, or_false] at hc
        rcases hc with rfl | rfl
        · exact ⟨_, he6, ⟨⟨_, rfl⟩, rfl⟩⟩
        · obtain ⟨o, ho5, e1, e2⟩ := hit5
          exact ⟨o, (hs6.2 _ (Ne.symm nd.1.1)).trans ho5, ⟨e1, e2⟩, Obj.isFreed_of_fields e2⟩
    have hT6 : h6.IsTuple s4.heap.objs.size #[.int i s4.toks, .int ns[i] tn] := ⟨_, (hs6.2 _ hne).trans hT, rfl, _, rfl⟩
    refine xasg2 C'.hh S6 hT6 fun s7 S7 => ?_
    have S8 := S7.subs (qs := [(Str.ofString "b", .int b t), (Str.ofString "i", .int i s4.toks), (Str.ofString "j", .int ns[i] tn)]) ⟨by
      show lk (Str.ofString "b") _ = _
      rw [lk_upd, lk_upd, if_neg (by decide), if_neg (by decide)]; exact hps.1, by
      show lk (Str.ofString "i") _ = _
      rw [lk_upd, lk_upd, if_neg (by decide), if_pos rfl], by
      show lk (Str.ofString "j") _ = _
      rw [lk_upd, if_pos rfl], trivial⟩
    refine wpAny_execs_cons (xif S8 (tisor C' (nmZ (t := tn)) (nmZ (t := t)) nmI nmI) (fun hc s9 S9 => ?_) fun hc s9 S9 => ?_)
    · refine wpAny_execs_cons (wpAny_Return_some ((nmI).go S9 fun t10 s10 S10 => ?_))
      have e : ns.idxOf b = i := by
        have hc' : ns[i] = b := by simpa using hc
        exact idx_first ns i hno (by rw [hn, hc'])
      refine ⟨_, S10.tail.tail, fun S11 => ?_⟩
      rw [← e]
      exact h _ _ S11
    · refine wpAny_execs_nil (wpAny_execs_nil ⟨_, ⟨rfl, trivial⟩, S9, ?_⟩)
      have hc' : ns[i] ≠ b := by simpa using hc
      intro n hn'
      rw [List.take_add_one, hn] at hn'
      rcases List.mem_append.mp hn' with q | q
      · exact hno n q
      · simp at q; rw [q]; exact hc'
  · rintro s4 ⟨ps₁, hps, S4, hno⟩
    rw [List.take_length] at hno
    exact absurd rfl (hno b hb)
end
end Mine
end
section
open PySem PySem.W PyProof.Rows PySem.Calls PySem.Spec
set_option maxRecDepth 100000
set_option maxHeartbeats 4000000
namespace Mine

/-- an IndexError: raised; noted (its traceback at T) -/
def exc0 (c : Bool) : Ob := .raw fun o => o.cls = .type "IndexError" ∧ ∃ vs, o.data = .fields vs ∧ vs.size = 6 ∧ vs[1]? = some .none ∧ (c = true → vs[2]? = some .none)
def excT (c : Bool) (T : Addr) : Ob := .raw fun o => o.cls = .type "IndexError" ∧ ∃ vs, o.data = .fields vs ∧ vs.size = 6 ∧ vs[1]? = some (.ref T) ∧ (c = true → vs[2]? = some .none)
def tbOb (fl : Value) : Ob := .raw fun o => ∃ ts, o.data = .fields ts ∧ ts[3]? = some fl

theorem entry_unchain : entryFor table "proto.unchain" = some Builtin.«proto.unchain» := entryFor_of_tree (by kernel_rfl)

section
variable {w : World} {A : Around} {env fenv : Env} {g : Heap} {L : Addr} {d : Nat} {s0 : Base} {s : Shared} {ps : List (Str × Value)} {cs : List (Addr × Ob)} {E : Value → Shared → Prop}

theorem raise_under {α : Type} {e1 : Addr} {oe : Obj} {vs : Array Value} {msg : String} {Q : α → Shared → Prop} (hh : A.handled = some (.ref e1)) (he : s.heap.get? e1 = some oe) (hd : oe.data = .fields vs) (h2 : vs[2]? = some .none)
    (h : ∀ h' tk e, (∀ b o, s.heap.get? b = some o → h'.get? b = some o) → s.heap.get? e = none → (∃ ob ws, h'.get? e = some ob ∧ ob.cls = .type "IndexError" ∧ ob.data = .fields ws ∧ ws.size = 6 ∧ ws[1]? = some .none) → E (.ref e) { s with heap := h', toks := tk }) :
    wpAny (M w) A (raiseErrorWords "IndexError" msg : Sem α) Q E s := by
  unfold raiseErrorWords
  refine wpAny_bind (wpAny_mkText (wpAny_bind (wpAny_newExc_plain plainExc_IndexError fun h₁ e hm => ?_)))
  obtain ⟨t, ht, _, _⟩ := hm.there
  have he1 : h₁.get? e1 = some oe := hm.keeps _ _ he
  have hne : e1 ≠ e := by
    intro q
    have hnew := hm.new
    rw [← q] at hnew
    have he' : s.heap.get? e1 = some oe := he
    rw [show s.heap.get? e1 = none from hnew] at he'
    cases he'
  unfold raiseNew
  refine wpAny_bind (wpAny_handled ?_)
  rw [hh]
  simp only
  have hq : (Value.ref e1 != Value.ref e) = true := by simpa using hne
  rw [if_pos hq]
  refine wpAny_bind (wpAny_holding (wpAny_runValue (codeAny_builtin entry_unchain ?_)))
  unfold Builtin.«proto.unchain»
  refine wpAny_bind (wpAny_field he1 hd h2 ?_)
  rw [if_pos (show (Value.none == Value.none) = true from rfl)]
  refine wpAny_bind (wpAny_pure (wpAny_pure ?_))
  refine wpAny_bind (wpAny_setField (i := 2) (x := .ref e1) ht rfl (by simp) (wpAny_throw ?_))
  refine h _ _ e (fun b o hb => ?_) hm.new ?_
  · have hb' := hm.keeps b o hb
    have hbe : b ≠ e := by
      rintro rfl
      have hnew := hm.new
      rw [show s.heap.get? b = none from hnew] at hb
      cases hb
    rw [Heap.get?_update_other _ _ (Ne.symm hbe)]
    exact hb'
  · exact ⟨_, _, Heap.get?_update_self _ ht rfl, rfl, rfl, by simp, by simp⟩

/-- an index beyond the list's end -/
theorem getItem_outG {l : Addr} {items : Array Value} {k : Nat} {t : Tok} {Q : Value → Shared → Prop} (hl : s.heap.IsList l items) (hout : items.size ≤ k) (hk : k < 2 ^ 62)
    (hR : ∀ (α : Type) (A' : Around) (Q' : α → Shared → Prop), A'.handled = A.handled → wpAny (M w) A' (raiseErrorWords "IndexError" "list index out of range" : Sem α) Q' E s) :
    wpAny (M w) A (getItem (.ref l) (.int k t)) Q E s := by
  have hfit : Builtin.List.listFitsIndex (k : Int) = true := fitsIndex_both (by omega) (by omega)
  clear hk
  obtain ⟨o, ho, hc, ne, hd⟩ := id hl
  obtain ⟨z, hz⟩ : ∃ z : Int, z = (k : Int) := ⟨_, rfl⟩
  rw [← hz] at hfit ⊢
  unfold getItem
  try with_reducible refine wpAny_holding ?_
  first | refine wpAny_bind (wpAny_pure ?_) | skip
  refine wpAny_bind (wpAny_sequenceKey hl.typeIs (by decide) ?_)
  refine wpAny_bind (wpAny_callSpecial?_slot (name := Str.ofString "__getitem__") hl.typeIs slot_list_getitem
    (wpAny_call_entry slot_list_getitem hl.typeIs entry_list_getitem ?_ (args_list_getitem _ _)))
  show wpAny _ _ (Builtin.List.listSubscript? (.int z t) >>= _) _ _ s
  refine wpAny_bind (wpAny_listSubscript_int hfit ?_)
  have hx : items[k]? = none := Array.getElem?_eq_none hout
  clear hfit hout
  subst hz
  show wpAny _ _ ((seqItemAt l k >>= fun r => pure (r.map (k, ·))) >>= _) _ _ s
  refine wpAny_bind (wpAny_bind (wpAny_seqItemAt ho hd (wpAny_pure ?_)))
  rw [hx]
  first
    | exact wpAny_bind (wpAny_rule (hR _ _ _ rfl))
    | exact wpAny_bind (wpAny_rule (wpAny_bind (hR _ _ _ rfl)))
    | exact wpAny_bind (wpAny_bind (wpAny_rule (hR _ _ _ rfl)))
    | exact wpAny_bind (wpAny_rule (wpAny_pure (wpAny_bind (hR _ _ _ rfl))))

/-- a new object, all others as they were -/
theorem St.grow {h' : Heap} {tk : Nat} {e : Addr} {o : Obj} {b : Ob} (S : St g L s0 s ps cs) (hk : ∀ b o, s.heap.get? b = some o → h'.get? b = some o) (hn : s.heap.get? e = none) (ho : h'.get? e = some o) (hb : b.Is s0 o) :
    St g L s0 { s with heap := h', toks := tk } ps ((e, b) :: cs) := by
  obtain ⟨m, F, km⟩ := S.fr
  obtain ⟨oL, a1, a2, hoL, a3⟩ := F.ns
  refine ⟨⟨m, ⟨⟨oL, a1, a2, hk _ _ hoL, a3⟩, fun b o e => hk b o (F.keep b o e), F.above⟩, km⟩, fun c hc => ?_, ?_, let ⟨_, _, e⟩ := S.sh; ⟨h', tk, by rw [e]⟩⟩
  · rcases List.mem_cons.mp hc with rfl | hc
    · refine ⟨o, ho, hb, ?_, ?_⟩
      · rintro rfl; rw [hoL] at hn; cases hn
      · cases q : g.get? e with
        | none => rfl
        | some o' => rw [F.keep _ _ q] at hn; cases hn
    · obtain ⟨o₂, k1, k2⟩ := S.led _ hc
      exact ⟨o₂, hk _ _ k1, k2⟩
  · simp only [List.map_cons, List.nodup_cons]
    refine ⟨fun q => ?_, S.nd⟩
    obtain ⟨c, hc, e'⟩ := List.mem_map.mp q
    obtain ⟨o₂, k1, _⟩ := S.led _ hc
    have e'' : c.1 = e := e'
    rw [e'', hn] at k1
    cases k1

/-- what is handled where an IndexError is raised -/
def Hd (A : Around) (cs : List (Addr × Ob)) : Prop := A.handled = none ∨ ∃ e1 T, A.handled = some (.ref e1) ∧ (e1, excT true T) ∈ cs

theorem item_out {v i : PySem.Expr} {pos : Pos} {a : Addr} {k : Nat} {ns : List Int} {Q : Value → Shared → Prop} (S : St g L s0 s ps cs) (hd : Hd A cs) (h1 : EvR w A env g L s0 ps cs v a) (h2 : EvI w A env g L s0 ps cs i k) (hm : (a, Ob.il ns) ∈ cs) (hk : k < 2 ^ 62) (hn : ns.length ≤ k)
    (hE : ∀ e c s', (A.handled = none → c = true) → St g L s0 s' ps ((e, exc0 c) :: cs) → E (.ref e) s')
    (hs : ∀ t, subscripted i false (.ref a) (.int k t) = operate [.ref a, .int k t] (getItem (.ref a) (.int k t)) := by intro _; with_unfolding_all rfl) (ht : ∀ r, letTemporaryGo v (.ref a) r = pure () := by intro _; with_unfolding_all rfl) :
    wpAny (M w) A (eval (.Subscript v i pos) env) Q E s := by
  refine Subscript_ (h1 _ _ _ S fun _ s1 S1 => h2 _ _ _ S1 fun u s2 S2 => ?_)
  obtain ⟨vs, hl, hi⟩ := S2.isInts hm
  refine subscriptTail_builtin hl.typeIs slot_list_getitem.lookup (getItem_outG hl (by rw [List.size_toArray, IA_len hi]; exact hn) hk fun α A' Q' hA' => ?_) (hs u) ht
  rcases hd with hd | ⟨e1, T, hd, hmem⟩
  · refine wpAny_raiseErrorWords plainExc_IndexError (hA'.trans hd) fun h' tk e hx => ?_
    obtain ⟨ob, t, hob, hc, hdat⟩ := hx.there
    exact hE e true _ (fun _ => rfl) (S2.grow hx.keeps hx.new hob ⟨⟨hc, _, hdat, by simp, by simp, fun _ => by simp⟩, Obj.isFreed_of_fields hdat⟩)
  · obtain ⟨o, ho, ⟨⟨_, vs1, hdat, _, _, h2'⟩, _⟩, _⟩ := S2.led _ hmem
    refine raise_under (hA'.trans hd) ho hdat (h2' rfl) fun h' tk e hk' hnew hob => ?_
    obtain ⟨ob, ws, hob, hc, hdat', hsz, h1'⟩ := hob
    exact hE e false _ (fun q => by rw [hd] at q; cases q) (S2.grow hk' hnew hob ⟨⟨hc, ws, hdat', hsz, h1', fun q => by cases q⟩, Obj.isFreed_of_fields hdat'⟩)

/-- the frames on the stack -/
theorem St.frames {outer : List Env} (S : St g L s0 s ps cs) (hz : FzIn outer cs) (hf : env.frame = some L) (hk : env.scope.kind = .function) : s.heap.FunFrames ⟨#[], {}⟩ (env :: outer) := by
  have none_ : ∀ b, (⟨#[], {}⟩ : Heap).get? b = none := fun b => by simp [Heap.get?]
  obtain ⟨m, F, _⟩ := S.fr
  obtain ⟨oL, hoL, es, ep, hd, _⟩ := LCg.ns_obj F.ns
  refine ⟨by rw [hk]; decide, ⟨L, oL, hf, none_ _, hoL, fun vs q => by rw [hd] at q; cases q⟩, ?_⟩
  clear hf hk
  induction outer with
  | nil => trivial
  | cons e r ih =>
    obtain ⟨h1, Li, mi, h2, h3⟩ := hz e (.head _)
    obtain ⟨o, ho, ⟨⟨es', ep', hd', _⟩, _⟩, _⟩ := S.led _ h3
    exact ⟨h1, ⟨Li, o, h2, none_ _, ho, fun vs q => by rw [hd'] at q; cases q⟩, ih fun e' he' => hz e' (.tail _ he')⟩

/-- frames' slots may turn -/
theorem St.slots {outer : List Env} {h' : Heap} (S : St g L s0 s ps cs) (hz : FzIn outer cs) (hf : env.frame = some L) (hs : Heap.SlotsOnly ((env :: outer).filterMap (·.frame)) s.heap h') : St g L s0 { s with heap := h' } ps cs := by
  obtain ⟨m, F, km⟩ := S.fr
  obtain ⟨oL, es, ep, hoL, hd, r⟩ := F.ns
  obtain ⟨sl, hsl⟩ := hs.2.2 L oL hoL
  have mem : ∀ b, b ∈ (env :: outer).filterMap (·.frame) → b = L ∨ ∃ mi, (b, frOb mi) ∈ cs := by
    intro b hb
    obtain ⟨e, he, hfe⟩ := List.mem_filterMap.mp hb
    rcases List.mem_cons.mp he with rfl | he
    · rw [hf] at hfe; exact .inl (Option.some.inj hfe).symm
    · obtain ⟨_, Li, mi, h2, h3⟩ := hz e he
      rw [h2] at hfe
      obtain rfl := Option.some.inj hfe
      exact .inr ⟨mi, h3⟩
  have gnone : ∀ b, b ∈ (env :: outer).filterMap (·.frame) → g.get? b = none := by
    intro b hb
    rcases mem b hb with rfl | ⟨mi, h3⟩
    · cases q : g.get? b with
      | none => rfl
      | some o => exact absurd (Nat.lt_of_lt_of_le (Heap.lt_size q) F.above) (Nat.lt_irrefl _)
    · obtain ⟨_, _, _, _, h4⟩ := S.led _ h3
      exact h4
  refine ⟨⟨m, ⟨⟨_, es, ep, hsl, hd, r⟩, fun b o e => ?_, F.above⟩, km⟩, fun c hc => ?_, S.nd, let ⟨_, tk, e⟩ := S.sh; ⟨h', tk, by rw [e]⟩⟩
  · rw [hs.2.1 b fun q => by rw [gnone b q] at e; cases e]
    exact F.keep b o e
  · obtain ⟨o, k1, k2, k3, k4⟩ := S.led c hc
    by_cases hb : c.1 ∈ (env :: outer).filterMap (·.frame)
    · rcases mem _ hb with q | ⟨mi, h3⟩
      · exact absurd q k3
      · have e : c = (c.1, frOb mi) := by
          have nd := S.nd
          have : ∀ {l : List (Addr × Ob)} {x y : Addr × Ob}, (l.map (·.1)).Nodup → x ∈ l → y ∈ l → x.1 = y.1 → x = y := by
            intro l
            induction l with
            | nil => intro x y _ h; cases h
            | cons z r ih =>
              intro x y nd hx hy e
              simp only [List.map_cons, List.nodup_cons] at nd
              rcases List.mem_cons.mp hx with q1 | hx'
              · rcases List.mem_cons.mp hy with q2 | hy'
                · rw [q1, q2]
                · exact absurd (q1 ▸ e ▸ List.mem_map_of_mem hy') nd.1
              · rcases List.mem_cons.mp hy with q2 | hy'
                · exact absurd (q2 ▸ e ▸ List.mem_map_of_mem hx') nd.1
                · exact ih nd.2 hx' hy' e
          exact this nd hc h3 rfl
        obtain ⟨sl', hsl'⟩ := hs.2.2 _ _ k1
        rw [e] at k2
        obtain ⟨⟨es', ep', hd', r'⟩, _⟩ := k2
        refine ⟨_, hsl', ?_, k3, k4⟩
        rw [e]
        exact frOb_is ⟨es', ep', hd', r'⟩
    · exact ⟨o, (hs.2.1 _ hb).trans k1, k2, k3, k4⟩

theorem note_new {e : Addr} {c : Bool} {Q : Unit → Shared → Prop} (S : St g L s0 s ps ((e, exc0 c) :: cs)) (hz : FzA A env cs) (hf : env.frame = some L) (hk : env.scope.kind = .function)
    (h : ∀ T s', St g L s0 s' ps ((e, excT c T) :: (T, tbOb (rawInt L)) :: cs) → Q () s') : wpAny (M w) A (noteFrame (.ref e) env) Q E s := by
  obtain ⟨outer, hA, hz⟩ := hz
  obtain ⟨oe, he, ⟨⟨hcls, vs, hd, hsz, h1, h2⟩, _⟩, _⟩ := S.led _ (.head _)
  have hz' : FzIn outer ((e, exc0 c) :: cs) := fun x hx => let ⟨a, b, c, d, f⟩ := hz x hx; ⟨a, b, c, d, .tail _ f⟩
  unfold noteFrame
  simp only [hf]
  refine wpAny_bind (wpAny_field he hd h1 ?_)
  rw [if_neg (by decide)]
  refine wpAny_bind (wpAny_frameOf_fun hA (S.frames hz' hf hk) hf fun h₁ hs₁ => ?_)
  have S1 := S.slots hz' hf hs₁
  refine wpAny_bind (wpAny_entryPlaceOf fun pl hpl => ?_)
  unfold EntryCells.newEntry newFields
  refine wpAny_bind (wpAny_newObj_type ?_ (hpl.sizeOk5 _ _ _ _ _))
  have S2 := S1.push (b := tbOb (rawInt L)) (o := { cls := .type "traceback", data := .fields ([Value.none, .ref L, .none, rawInt L, .none] ++ (if pl.isEmpty then List.replicate 6 Value.none else pl)).toArray })
    ⟨⟨_, rfl, by first | (simp; done) | (rcases hpl with rfl | ⟨_, _, _, _, _, _, _, rfl⟩ <;> simp)⟩, rfl⟩
  obtain ⟨oe2, he2, ⟨⟨hcls2, vs2, hd2, hsz2, h12, h22⟩, _⟩, _⟩ := S2.led (e, exc0 c) (.tail _ (.head _))
  refine wpAny_setField he2 hd2 (by omega) (h h₁.objs.size _ ?_)
  have hd3 := Obj.data_mapFields hd2 (·.setIfInBounds 1 (Value.ref h₁.objs.size))
  refine S2.swap.change (Heap.SameBut.update ..) (Heap.get?_update_self _ he2 (Obj.isFreed_of_fields hd3)) ⟨⟨(Obj.cls_mapFields ..).trans hcls2, _, hd3, by simpa using hsz2, by simp [hsz2], fun q => ?_⟩, Obj.isFreed_of_fields hd3⟩
  rw [Array.getElem?_setIfInBounds_ne (by decide)]
  exact h22 q

theorem note_again {e T : Addr} {c : Bool} {Q : Unit → Shared → Prop} (S : St g L s0 s ps ((e, excT c T) :: (T, tbOb (rawInt L)) :: cs)) (hf : env.frame = some L) (h : Q () s) : wpAny (M w) A (noteFrame (.ref e) env) Q E s := by
  obtain ⟨oe, he, ⟨⟨hcls, vs, hd, hsz, h1, h2⟩, _⟩, _⟩ := S.led _ (.head _)
  obtain ⟨ot, hto, ⟨⟨ts, hdt, h3⟩, _⟩, _⟩ := S.led _ (.tail _ (.head _))
  exact wpAny_noteFrame_inFlight hf he hd h1 hto hdt h3 h
theorem set_flight {e T : Addr} {c : Bool} {fl : Value} {fr : Option Addr} {Q : Unit → Shared → Prop} (S : St g L s0 s ps ((e, excT c T) :: (T, tbOb fl) :: cs))
    (h : ∀ s', St g L s0 s' ps ((e, excT c T) :: (T, tbOb (fr.elim .none fun f => rawInt f)) :: cs) → Q () s') : wpAny (M w) A (setFlight (.ref e) fr) Q E s := by
  obtain ⟨oe, he, ⟨⟨hcls, vs, hd, hsz, h1, h2⟩, _⟩, _⟩ := S.led _ (.head _)
  obtain ⟨ot, hto, ⟨⟨ts, hdt, h3⟩, _⟩, _⟩ := S.led _ (.tail _ (.head _))
  have hs3 : 3 < ts.size := (Array.getElem?_eq_some_iff.mp h3).1
  unfold setFlight
  refine wpAny_bind (wpAny_field he hd h1 ?_)
  rw [if_pos (show (Value.ref T != Value.none) = true from by simp)]
  refine wpAny_setField hto hdt hs3 (h _ ?_)
  have hd3 := Obj.data_mapFields hdt (·.setIfInBounds 3 (fr.elim Value.none fun f => rawInt f))
  exact (S.swap.change (Heap.SameBut.update ..) (Heap.get?_update_self _ hto (Obj.isFreed_of_fields hd3)) (b' := tbOb _) ⟨⟨_, hd3, by simp [hs3]⟩, Obj.isFreed_of_fields hd3⟩).swap

/-- the exception comes back out of a loop or a block of the frame's own -/
theorem came_back {e T : Addr} {c : Bool} {fl : Value} (S : St g L s0 s ps ((e, excT c T) :: (T, tbOb fl) :: cs)) (hf : env.frame = some L)
    (h : ∀ s', St g L s0 s' ps ((e, excT c T) :: (T, tbOb (rawInt L)) :: cs) → E (.ref e) s') : cameBackBy (M w) A env E (.ref e) s := by
  obtain ⟨oe, he, ⟨⟨hcls, vs, hd, hsz, h1, h2⟩, _⟩, _⟩ := S.led _ (.head _)
  unfold cameBackBy
  refine wpAny_bind (wpAny_field he hd h1 ?_)
  rw [if_neg (by simp)]
  rw [hf]
  first
    | exact set_flight (fr := some L) S h
    | exact wpAny_bind (wpAny_pure (set_flight (fr := some L) S h))
theorem pass_on {α : Type} {what : String} {e T : Addr} {c : Bool} {fl : Value} {Q : α → Shared → Prop} (S : St g L s0 s ps ((e, excT c T) :: (T, tbOb fl) :: cs)) (hf : env.frame = some L)
    (h : ∀ s', St g L s0 s' ps ((e, excT c T) :: (T, tbOb (rawInt L)) :: cs) → E (.ref e) s') : wpAny (M w) A (PySem.passOn what (.ref e) env : Sem α) Q E s := by
  obtain ⟨oe, he, ⟨⟨hcls, vs, hd, hsz, h1, h2⟩, _⟩, _⟩ := S.led _ (.head _)
  unfold PySem.passOn
  refine wpAny_bind (wpAny_field he hd h1 ?_)
  rw [if_neg (by simp)]
  rw [hf]
  first
    | exact wpAny_bind (set_flight (fr := some L) S fun s' S' => wpAny_throw (h s' S'))
    | exact wpAny_bind (wpAny_pure (wpAny_bind (set_flight (fr := some L) S fun s' S' => wpAny_throw (h s' S'))))
end
end Mine
end
section
open PySem PySem.W PyProof.Rows PySem.Calls PySem.Spec
set_option maxRecDepth 100000
set_option maxHeartbeats 4000000
namespace Mine

def skip (ns : List Int) (e : Int) (k : Nat) : Nat := if k < ns.length ∧ ns.getD k 0 = e then skip ns e (k + 1) else k
termination_by ns.length - k
decreasing_by omega
theorem skip_le (ns : List Int) (e : Int) (k : Nat) (h : k ≤ ns.length) : skip ns e k ≤ ns.length := by
  fun_induction skip ns e k with
  | case1 k hc ih => exact ih (by omega)
  | case2 k hc => exact h
theorem skip_ge (ns : List Int) (e : Int) (k : Nat) : k ≤ skip ns e k := by
  fun_induction skip ns e k with
  | case1 k hc ih => omega
  | case2 k hc => exact Nat.le_refl _

theorem upd_upd {x : Str} {v u : Value} : ∀ (ps : List (Str × Value)), upd x v (upd x u ps) = upd x v ps
  | [] => by simp [upd]
  | p :: r => by
    have h1 : ∀ v, upd x v (p :: r) = if p.1 = x then (x, v) :: r else p :: upd x v r := fun _ => rfl
    rw [h1 u, h1 v]
    by_cases e : p.1 = x
    · rw [if_pos e, if_pos e]
      show (if (x, u).1 = x then (x, v) :: r else (x, u) :: upd x v r) = _
      rw [if_pos rfl]
    · rw [if_neg e, if_neg e]
      show (if p.1 = x then (x, v) :: upd x u r else p :: upd x v (upd x u r)) = _
      rw [if_neg e, upd_upd r]

section
variable {w : World} {A : Around} {env fenv : Env} {g : Heap} {L : Addr} {d : Nat} {s0 : Base} {s : Shared} {ps : List (Str × Value)} {cs : List (Addr × Ob)} {E : Value → Shared → Prop}

theorem elist0 {pos : Pos} {Q : Value → Shared → Prop} (S : St g L s0 s ps cs) (h : ∀ D s', St g L s0 s' ps ((D, .il []) :: cs) → Q (.ref D) s') : wpAny (M w) A (eval (.List [] pos) env) Q E s := by
  refine List_ (args_nil (wpAny_newObj_type (h _ _ ?_)))
  exact S.push (b := .il []) (o := { cls := .type "list", data := .seq ([] : List Value).toArray }) ⟨[], 0, rfl, .nil, NZ_nil⟩

theorem elistV {pos : Pos} {Q : Value → Shared → Prop} (S : St g L s0 s ps cs) (h : ∀ D s', St g L s0 s' ps ((D, .list []) :: cs) → Q (.ref D) s') : wpAny (M w) A (eval (.List [] pos) env) Q E s := by
  refine List_ (args_nil (wpAny_newObj_type (h _ _ ?_)))
  exact S.push (b := .list []) (o := { cls := .type "list", data := .seq ([] : List Value).toArray }) ⟨0, rfl⟩

theorem c_append {a : Addr} {ns : List Int} {n : Int} {t : NTok s0 n} {Q : Value → Shared → Prop} (S : St g L s0 s ps ((a, .il ns) :: cs)) (hN : ns.length < 1000)
    (h : ∀ s', St g L s0 s' ps ((a, .il (ns ++ [n])) :: cs) → Q .none s') : wpAny (M w) A (call (.builtin "list.append") [.ref a, .int n t]) Q E s := by
  obtain ⟨vs, m, ho, hi, z⟩ := S.isIntsX (.head _)
  refine append_at ho (fun h' hs hD => h _ ?_) (by rw [List.size_toArray, IA_len hi, sizeLine_eq]; omega)
  have e : (vs.toArray.push (Value.int n t)) = (vs ++ [Value.int n t.1]).toArray := by simp
  rw [e] at hD
  exact S.change hs hD (Ob.Is.il (IA_append hi (.cons _ _ .nil)) (NZ_append z NZ_one))
theorem c_extend {a b : Addr} {ns ms : List Int} {Q : Value → Shared → Prop} (S : St g L s0 s ps ((a, .il ns) :: cs)) (hb : (b, Ob.il ms) ∈ cs) (hN : ns.length < 1000) (hM : ms.length < 1000)
    (h : ∀ s', St g L s0 s' ps ((a, .il (ns ++ ms)) :: cs) → Q .none s') : wpAny (M w) A (call (.builtin "list.extend") [.ref a, .ref b]) Q E s := by
  obtain ⟨vs, m, ho, hi, z⟩ := S.isIntsX (.head _)
  obtain ⟨us, m2, ho2, hi2, z2⟩ := S.isIntsX (.tail _ hb)
  have e1 : vs.toArray.size = ns.length := by rw [List.size_toArray, IA_len hi]
  have e2 : us.toArray.size = ms.length := by rw [List.size_toArray, IA_len hi2]
  refine call_meets PySem.F.slot_list_extend ⟨_, ho, rfl⟩ PySem.F.entry_list_extend (PySem.F.args_list_extend_2 _ _)
    (PySem.AutoSeq1.list_extend_list_list_0 a vs.toArray m b us.toArray m2 (extend_door (by rw [e1, e2, sizeLine_eq]; omega)) (by rw [e1, sizeLine_eq]; omega) (by rw [e1, e2, sizeLine_eq]; omega)) ⟨ho, ho2, h _ ?_⟩
  have q := PySem.IsL.update ho (fun x => x ++ us.toArray)
  have e : (vs.toArray ++ us.toArray) = (vs ++ us).toArray := by simp
  simp only [e] at q
  exact S.change (Heap.SameBut.update ..) q (Ob.Is.il (IA_append hi hi2) (NZ_append z z2))

theorem xskip {x y z : Str} {p1 p2 p3 p4 p5 p6 p7 p8 p9 : Pos} {kk : Nat} {l : Addr} {ns : List Int} {e : Int} {k : Nat} {tk te : Tok} {Q : Flow → Shared → Prop}
    (S : St g L s0 s ps cs) (hx : lk x ps = some (.int (k : Nat) tk)) (hy : lk y ps = some (.ref l)) (hz : lk z ps = some (.int e te)) (hyx : y ≠ x) (hzx : z ≠ x) (hm : (l, Ob.il ns) ∈ cs) (hN : ns.length < 1000) (hk : k ≤ ns.length)
    (hd : Hd A cs) (hfz : FzA A env cs)
    (hQ : ∀ (t : Tok) s', skip ns e k < ns.length → St g L s0 s' (upd x (.int (skip ns e k : Nat) t) ps) cs → Q .next s')
    (hE : ∀ e0 c T (t : Tok) s', skip ns e k = ns.length → (A.handled = none → c = true) → St g L s0 s' (upd x (.int (ns.length : Nat) t) ps) ((e0, excT c T) :: (T, tbOb (rawInt L)) :: cs) → E (.ref e0) s')
    (hl : env.locals = L := by rfl) (hf : env.frame = some L := by rfl) (hkd : env.scope.kind = .function := by rfl) (kx : env.kindOf x = some .local := by rfl) (ky : env.kindOf y = some .local := by rfl) (kz : env.kindOf z = some .local := by rfl)
    (dx : (x == ("__debug__" : Str)) = false := by decide) (dy : (y == ("__debug__" : Str)) = false := by decide) (dz : (z == ("__debug__" : Str)) = false := by decide) :
    wpAny (M w) A (exec (.While (.Compare (.Subscript (.Name y p1) (.Name x p2) p3) [.Eq] [.Name z p4] p5) [.AugAssign (.Name x p6) .Add (.Constant (.int 1) kk p7) p8] [] p9) env) Q E s := by
  refine wpAny_While (codeAny_whileLoop (fun n s' => ∃ (j : Nat) (t : Tok), n + j = ns.length ∧ skip ns e j = skip ns e k ∧ St g L s0 s' (upd x (.int (j : Nat) t) ps) cs) ?_ (ns.length - k) ⟨k, tk, by omega, rfl, ?_⟩)
  · rintro n s1 ⟨j, t, hnj, hsk, S1⟩
    have hx1 : lk x (upd x (.int (j : Nat) t) ps) = some (.int (j : Nat) t) := by rw [lk_upd, if_pos rfl]
    have hy1 : lk y (upd x (.int (j : Nat) t) ps) = some (.ref l) := by rw [lk_upd, if_neg hyx, hy]
    have hz1 : lk z (upd x (.int (j : Nat) t) ps) = some (.int e te) := by rw [lk_upd, if_neg hzx, hz]
    by_cases hj : j < ns.length
    · refine (teq (item (nm hy1 hl hkd ky dy) (nmI hx1 hl hkd kx dx) hm (by omega) (getD_get hj)).i (nmI hz1 hl hkd kz dz)).go S1 fun s2 S2 => ?_
      by_cases hc : ns.getD j 0 = e
      · rw [if_pos (by simpa using hc)]
        refine wpAny_execs_cons (xaug S2 (cst (n := 1)) (fun t3 s3 S3 => wpAny_execs_nil ?_) hx1 hl hkd kx)
        rw [upd_upd] at S3
        refine ⟨n - 1, by omega, j + 1, t3, by omega, ?_, ?_⟩
        · rw [← hsk]; conv => rhs; rw [skip, if_pos ⟨hj, hc⟩]
        · exact S3
      · rw [if_neg (by simpa using hc)]
        have e1 : skip ns e k = j := by rw [← hsk, skip, if_neg (by rintro ⟨_, q⟩; exact hc q)]
        refine wpAny_execs_nil (hQ t s2 (by omega) ?_)
        rw [e1]
        exact S2
    · have hj' : j = ns.length := by omega
      have e1 : skip ns e k = ns.length := by rw [← hsk, skip, if_neg (by omega), hj']
      subst hj'
      refine wpAny_isTrue_Compare1 (item_out S1 hd (nm hy1 hl hkd ky dy) (nmI hx1 hl hkd kx dx) hm (by omega) (Nat.le_refl _) fun e0 c s2 hc S2 => ?_)
      exact note_new S2 hfz hf hkd fun T s3 S3 => came_back S3 hf fun s4 S4 => hE e0 c T t s4 e1 hc S4
  · refine ⟨?_, S.led, S.nd, S.sh⟩
    obtain ⟨m, F, km⟩ := S.fr
    refine ⟨m, F, fun y' v' e' => km y' v' ?_⟩
    rw [lk_upd] at e'
    by_cases q : y' = x
    · rw [if_pos q] at e'; rw [q, hx]; exact e'
    · rw [if_neg q] at e'; exact e'
end
end Mine
end
section
open PySem PySem.W PyProof.Rows PySem.Calls PySem.Spec
set_option maxRecDepth 100000
set_option maxHeartbeats 4000000
namespace Mine

def sldL (xs ys : List Int) (i j : Nat) (m u : List Int) : List Int × List Int :=
  if i < xs.length ∧ j < ys.length then
    if xs.getD i 0 < ys.getD j 0 then sldL xs ys (skip xs (xs.getD i 0) (i + 1)) j (m ++ [xs.getD i 0]) u
    else if ys.getD j 0 < xs.getD i 0 then sldL xs ys i (skip ys (ys.getD j 0) (j + 1)) m (u ++ [ys.getD j 0])
    else sldL xs ys (skip xs (xs.getD i 0) (i + 1)) (skip ys (ys.getD j 0) (j + 1)) m u
  else (m ++ xs.drop i, u ++ ys.drop j)
termination_by (xs.length - i) + (ys.length - j)
decreasing_by
  · have := skip_ge xs (xs.getD i 0) (i + 1); omega
  · have := skip_ge ys (ys.getD j 0) (j + 1); omega
  · have := skip_ge xs (xs.getD i 0) (i + 1); have := skip_ge ys (ys.getD j 0) (j + 1); omega

theorem exc_isexc : isSubtype (.type "IndexError") (.type "BaseException") = pure true := by rw [isSubtype_type]; kernel_rfl
theorem exc_nt : isSubtype (.type ((Manifest.find? "IndexError").elim "type" fun x => x.metatype)) (.type "tuple") = pure false := by rw [isSubtype_type]; kernel_rfl
theorem exc_self : isSubtype (.type "IndexError") (.type "IndexError") = pure true := by rw [isSubtype_type]; kernel_rfl

section
variable {w : World} {A : Around} {env fenv : Env} {g : Heap} {L : Addr} {d : Nat} {s0 : Base} {s : Shared} {ps : List (Str × Value)} {cs : List (Addr × Ob)} {E : Value → Shared → Prop}

theorem FzA.up {cs' : List (Addr × Ob)} (hz : FzA A env cs) (h : ∀ c ∈ cs, c ∈ cs') : FzA A env cs' :=
  let ⟨o, h1, h2⟩ := hz; ⟨o, h1, fun e he => let ⟨a, b, c, d, f⟩ := h2 e he; ⟨a, b, c, d, h _ f⟩⟩

abbrev nmS (lx ly lm lu : Addr) (i j : Nat) (ti tj : Tok) : List (Str × Value) :=
  [(Str.ofString "expected", .ref lx), (Str.ofString "actual", .ref ly), (Str.ofString "i", .int (i : Nat) ti), (Str.ofString "j", .int (j : Nat) tj), (Str.ofString "missing", .ref lm), (Str.ofString "unexpected", .ref lu)]

theorem c_sld {lx ly : Addr} {xs ys : List Int} {Q : Value → Shared → Prop} (C : Cx w A env g L (d + 1)) (S : St g L s0 s ps ((lx, .il xs) :: (ly, .il ys) :: cs)) (hfz : FzA A env cs)
    (hx : 0 < xs.length) (hy : 0 < ys.length) (hX : xs.length < 300) (hY : ys.length < 300)
    (h : ∀ t lm lu s', St g L s0 s' ps ((t, .tup [.ref lm, .ref lu]) :: (lm, .il (sldL xs ys 0 0 [] []).1) :: (lu, .il (sldL xs ys 0 0 [] []).2) :: (lx, .il xs) :: (ly, .il ys) :: cs) → Q (.ref t) s') :
    wpAny (M w) A (call (.ref 21) [.ref lx, .ref ly]) Q E s := by
  refine enter [(lx, .il xs), (ly, .il ys)] (binds := [(Str.ofString "expected", .ref lx), (Str.ofString "actual", .ref ly)]) C S (f := 21) (by rfl) (by rfl) (by rfl) (locs rfl) ?_
  intro L' s' cs Z' C' S'
  replace hfz := Z' hfz
  replace S' : St g L' s0 s' [(Str.ofString "actual", .ref ly), (Str.ofString "expected", .ref lx)] ((lx, .il xs) :: (ly, .il ys) :: cs) := S'
  refine wpAny_execs_cons (wpAny_Assign_two ((cst (n := 0)).go S' fun t1 s1 S1 => wpAny_assign_Name (xstore S1 fun s2 S2 => wpAny_assign_Name (xstore S2 fun s3 S3 => ?_))))
  refine wpAny_execs_cons (xlet (elist0 S3 fun lm s4 S4 => ⟨_, _, S4, fun s5 S5 => ?_⟩))
  refine wpAny_execs_cons (xlet (elist0 S5 fun lu s6 S6 => ⟨_, _, S6, fun s7 S7 => ?_⟩))
  have S8 : St g L' s0 s7 (nmS lx ly lm lu 0 0 t1 t1) ((lm, .il []) :: (lu, .il []) :: (lx, .il xs) :: (ly, .il ys) :: cs) := S7.swap.subs ⟨rfl, rfl, rfl, rfl, rfl, rfl, trivial⟩
  refine xmid (fun s8 => ∃ ps8, Subs [(Str.ofString "missing", .ref lm), (Str.ofString "unexpected", .ref lu)] ps8 ∧ St g L' s0 s8 ps8 ((lm, .il (sldL xs ys 0 0 [] []).1) :: (lu, .il (sldL xs ys 0 0 [] []).2) :: (lx, .il xs) :: (ly, .il ys) :: cs)) ?_ ?_
  · refine wpAny_While (codeAny_whileLoop (fun n s8 => ∃ (i j : Nat) (ti tj : Tok) (m u : List Int), St g L' s0 s8 (nmS lx ly lm lu i j ti tj) ((lm, .il m) :: (lu, .il u) :: (lx, .il xs) :: (ly, .il ys) :: cs) ∧ i < xs.length ∧ j < ys.length ∧
      n = (xs.length - i) + (ys.length - j) ∧ m.length ≤ i ∧ u.length ≤ j ∧ sldL xs ys i j m u = sldL xs ys 0 0 [] []) ?_ (xs.length + ys.length) ⟨0, 0, t1, t1, [], [], S8, hx, hy, rfl, Nat.le_refl _, Nat.le_refl _, rfl⟩)
    rintro n s8 ⟨i, j, ti, tj, m, u, S8, hi, hj, rfl, hm, hu, hs⟩
    refine isTrue_plain (wpAny_Constant_bool (wpAny_truthy_bool ?_))
    rw [if_pos rfl]
    have hxi := getD_get hi
    have hyj := getD_get hj
    have hge1 := skip_ge xs (xs.getD i 0) (i + 1)
    have hge2 := skip_ge ys (ys.getD j 0) (j + 1)
    have hle1 := skip_le xs (xs.getD i 0) (i + 1) hi
    have hle2 := skip_le ys (ys.getD j 0) (j + 1) hj
    rw [sldL, if_pos ⟨hi, hj⟩] at hs
    refine wpAny_execs_cons (wpAny_Try_except (wpAny_mono
      (Q := fun f s9 => f = .next ∧ ∃ (i' j' : Nat) (ti tj : Tok) (m u : List Int), St g L' s0 s9 (nmS lx ly lm lu i' j' ti tj) ((lm, .il m) :: (lu, .il u) :: (lx, .il xs) :: (ly, .il ys) :: cs) ∧ i' < xs.length ∧ j' < ys.length ∧
        (xs.length - i') + (ys.length - j') < (xs.length - i) + (ys.length - j) ∧ m.length ≤ i' ∧ u.length ≤ j' ∧ sldL xs ys i' j' m u = sldL xs ys 0 0 [] [])
      (E := fun e s9 => ∃ (e0 : Addr) (c : Bool) (T : Addr) (i' j' : Nat) (ti tj : Tok) (m u : List Int), e = .ref e0 ∧ St g L' s0 s9 (nmS lx ly lm lu i' j' ti tj) ((e0, excT c T) :: (T, tbOb (rawInt L')) :: (lm, .il m) :: (lu, .il u) :: (lx, .il xs) :: (ly, .il ys) :: cs) ∧
        i' ≤ xs.length ∧ j' ≤ ys.length ∧ ¬ (i' < xs.length ∧ j' < ys.length) ∧ m.length ≤ i' ∧ u.length ≤ j' ∧ sldL xs ys i' j' m u = sldL xs ys 0 0 [] []) ?_ ?_ ?_))
    · refine wpAny_execs_cons (xassignZ S8 (item nm nmI (.tail _ (.tail _ (.head _))) (by omega) hxi) fun te s9 S9 => ?_)
      refine wpAny_execs_cons (xassignZ S9 (item nm nmI (.tail _ (.tail _ (.tail _ (.head _)))) (by omega) hyj) fun ta s10 S10 => ?_)
      refine wpAny_execs_cons (xif S10 (tlt nmI nmI) (fun b s11 S11 => ?_) fun b s11 S11 => ?_)
      · have b' : xs.getD i 0 < ys.getD j 0 := by simpa [-List.getD_eq_getElem?_getD] using b
        rw [if_pos b'] at hs
        refine wpAny_execs_cons (wpAny_Expr (meth1 S11 nm (.head _) trivial slot_list_append type_list_append fun s12 S12 => (nmZ).go S12 fun t13 s13 S13 => c_append S13 (by omega) fun s14 S14 => ?_))
        refine wpAny_execs_cons (xaug S14 (cst (n := 1)) fun t15 s15 S15 => ?_)
        refine wpAny_execs_cons (xskip (k := i + 1) (ns := xs) (l := lx) (e := xs.getD i 0) S15 rfl rfl rfl (by decide) (by decide) (.tail _ (.tail _ (.head _))) (by omega) hi (.inl C'.hh) ?_ (fun t16 s16 hlt S16 => wpAny_execs_nil ?_) fun e0 c T t16 s16 heq hc S16 => ?_)
        · exact hfz.up fun c hc => .tail _ (.tail _ (.tail _ (.tail _ hc)))
        · repeat refine wpAny_execs_nil ?_
          exact ⟨rfl, _, j, t16, tj, _, u, S16.subs ⟨rfl, rfl, rfl, rfl, rfl, rfl, trivial⟩, hlt, hj, by omega, by rw [List.length_append, List.length_singleton]; omega, hu, hs⟩
        · rw [heq] at hs
          exact ⟨e0, c, T, _, j, t16, tj, _, u, rfl, S16.subs ⟨rfl, rfl, rfl, rfl, rfl, rfl, trivial⟩, Nat.le_refl _, Nat.le_of_lt hj, by omega, by rw [List.length_append, List.length_singleton]; omega, hu, hs⟩
      · have b' : ¬ xs.getD i 0 < ys.getD j 0 := by simpa [-List.getD_eq_getElem?_getD] using b
        rw [if_neg b'] at hs
        refine wpAny_execs_cons (xif S11 (tgt nmI nmI) (fun b2 s12 S12 => ?_) fun b2 s12 S12 => ?_)
        · have b2' : ys.getD j 0 < xs.getD i 0 := by simpa [-List.getD_eq_getElem?_getD] using b2
          rw [if_pos b2'] at hs
          refine wpAny_execs_cons (wpAny_Expr (meth1 S12 nm (.tail _ (.head _)) trivial slot_list_append type_list_append fun s13 S13 => (nmZ).go S13 fun t14 s14 S14 => c_append S14.swap (by omega) fun s15 S15 => ?_))
          refine wpAny_execs_cons (xaug S15.swap (cst (n := 1)) fun t16 s16 S16 => ?_)
          refine wpAny_execs_cons (xskip (k := j + 1) (ns := ys) (l := ly) (e := ys.getD j 0) S16 rfl rfl rfl (by decide) (by decide) (.tail _ (.tail _ (.tail _ (.head _)))) (by omega) hj (.inl C'.hh) ?_ (fun t17 s17 hlt S17 => wpAny_execs_nil (wpAny_execs_nil ?_)) fun e0 c T t17 s17 heq hc S17 => ?_)
          · exact hfz.up fun c hc => .tail _ (.tail _ (.tail _ (.tail _ hc)))
          · repeat refine wpAny_execs_nil ?_
            exact ⟨rfl, i, _, ti, t17, m, _, S17.subs ⟨rfl, rfl, rfl, rfl, rfl, rfl, trivial⟩, hi, hlt, by omega, hm, by rw [List.length_append, List.length_singleton]; omega, hs⟩
          · rw [heq] at hs
            exact ⟨e0, c, T, i, _, ti, t17, m, _, rfl, S17.subs ⟨rfl, rfl, rfl, rfl, rfl, rfl, trivial⟩, Nat.le_of_lt hi, Nat.le_refl _, by omega, hm, by rw [List.length_append, List.length_singleton]; omega, hs⟩
        · have b2' : ¬ ys.getD j 0 < xs.getD i 0 := by simpa [-List.getD_eq_getElem?_getD] using b2
          rw [if_neg b2'] at hs
          refine wpAny_execs_cons (xaug S12 (cst (n := 1)) fun t13 s13 S13 => ?_)
          refine wpAny_execs_cons (wpAny_Try_finally (wpAny_execs_cons (xskip (k := i + 1) (ns := xs) (l := lx) (e := xs.getD i 0) S13 rfl rfl rfl (by decide) (by decide) (.tail _ (.tail _ (.head _))) (by omega) hi (.inl C'.hh) ?_ (fun t14 s14 hlt S14 => wpAny_execs_nil (wpAny_execs_nil ?_)) fun e0 c T t14 s14 heq hc S14 => ?_)))
          · exact hfz.up fun c hc => .tail _ (.tail _ (.tail _ (.tail _ hc)))
          · refine wpAny_execs_cons (xaug S14 (cst (n := 1)) fun t15 s15 S15 => ?_)
            refine wpAny_execs_cons (xskip (k := j + 1) (ns := ys) (l := ly) (e := ys.getD j 0) S15 rfl rfl rfl (by decide) (by decide) (.tail _ (.tail _ (.tail _ (.head _)))) (by omega) hj (.inl C'.hh) ?_ (fun t17 s17 hlt2 S17 => wpAny_execs_nil (wpAny_execs_nil (wpAny_execs_nil ?_))) fun e0 c T t17 s17 heq hc S17 => ?_)
            · exact hfz.up fun c hc => .tail _ (.tail _ (.tail _ (.tail _ hc)))
            · repeat refine wpAny_execs_nil ?_
              exact ⟨rfl, _, _, t14, t17, m, u, S17.subs ⟨rfl, rfl, rfl, rfl, rfl, rfl, trivial⟩, hlt, hlt2, by omega, by omega, by omega, hs⟩
            · rw [heq] at hs
              refine note_again S17 rfl (came_back S17 rfl fun s18 S18 => ?_)
              exact ⟨e0, c, T, _, _, t14, t17, m, u, rfl, S18.subs ⟨rfl, rfl, rfl, rfl, rfl, rfl, trivial⟩, Nat.le_of_lt hlt, Nat.le_refl _, by omega, by omega, by omega, hs⟩
          · rw [heq] at hs
            have hc' := hc C'.hh
            subst hc'
            refine note_again S14 rfl ⟨ref_ne_byPass _, note_again S14 rfl (set_flight S14 fun s15 S15 => ?_)⟩
            refine wpAny_execs_cons (xaug S15 (cst (n := 1)) fun t16 s16 S16 => ?_)
            refine wpAny_execs_cons (xskip (k := j + 1) (ns := ys) (l := ly) (e := ys.getD j 0) S16 rfl rfl rfl (by decide) (by decide) (.tail _ (.tail _ (.tail _ (.tail _ (.tail _ (.head _)))))) (by omega) hj (.inr ⟨e0, T, rfl, .head _⟩) ?_ (fun t17 s17 hlt2 S17 => wpAny_execs_nil ?_) fun e2 c2 T2 t17 s17 heq2 hc2 S17 => ?_)
            · exact hfz.up fun c hc => .tail _ (.tail _ (.tail _ (.tail _ (.tail _ (.tail _ hc)))))
            · refine pass_on S17 rfl fun s18 S18 => ?_
              exact ⟨e0, true, T, _, _, t14, t17, m, u, rfl, S18.subs ⟨rfl, rfl, rfl, rfl, rfl, rfl, trivial⟩, Nat.le_refl _, Nat.le_of_lt hlt2, by omega, by omega, by omega, hs⟩
            · rw [heq2] at hs
              refine note_again S17 rfl (came_back S17 rfl fun s18 S18 => ?_)
              exact ⟨e2, c2, T2, _, _, t14, t17, m, u, rfl, S18.up2.tail.up2.tail.subs ⟨rfl, rfl, rfl, rfl, rfl, rfl, trivial⟩, Nat.le_refl _, Nat.le_refl _, by omega, by omega, by omega, hs⟩
    · rintro f s9 ⟨rfl, i', j', ti', tj', m', u', S9, h1, h2, h3, h4, h5, h6⟩
      exact wpAny_execs_nil (wpAny_execs_nil ⟨_, h3, i', j', ti', tj', m', u', S9, h1, h2, rfl, h4, h5, h6⟩)
    · rintro e s9 ⟨e0, c, T, i', j', ti', tj', m', u', rfl, S9, h1, h2, h3, h4, h5, h6⟩
      rw [sldL, if_neg h3] at h6
      refine note_again S9 rfl (set_flight S9 fun s10 S10 => ?_)
      refine wpAny_handleBy_builtin (X := "IndexError") (T := "IndexError") (b := true) exc_isexc exc_nt exc_self ((bnm C').go S10 fun _ s11 S11 => ⟨rfl, ?_, ?_⟩)
      · obtain ⟨oe, he, ⟨⟨hcls, _⟩, _⟩, _⟩ := S11.led _ (.head _)
        exact ⟨oe, he, hcls⟩
      rw [if_pos rfl]
      refine set_flight S11 fun s12 S12 => ?_
      replace S12 := S12.tail.tail
      refine wpAny_execs_cons (wpAny_Expr (meth1 S12 nm (.head _) trivial PySem.F.slot_list_extend PySem.F.type_list_extend fun s13 S13 =>
        exslice (ns := xs) (a := some (i' : Nat)) (b := none) (c := none) S13 nm (nmI) trivial trivial (fun s1 S1 => S1.isIntsZ (.tail _ (.tail _ (.head _)))) (by omega) (by simp) fun D s14 S14 => ?_))
      rw [pick_from] at S14
      refine c_extend S14.swap (.head _) (by omega) (by rw [List.length_drop]; omega) fun s15 S15 => ?_
      replace S15 := S15.swap.tail
      refine wpAny_execs_cons (wpAny_Expr (meth1 S15 nm (.tail _ (.head _)) trivial PySem.F.slot_list_extend PySem.F.type_list_extend fun s16 S16 =>
        exslice (ns := ys) (a := some (j' : Nat)) (b := none) (c := none) S16 nm (nmI) trivial trivial (fun s1 S1 => S1.isIntsZ (.tail _ (.tail _ (.tail _ (.head _))))) (by omega) (by simp) fun D2 s17 S17 => ?_))
      rw [pick_from] at S17
      refine c_extend (S17.up2) (.head _) (by omega) (by rw [List.length_drop]; omega) fun s18 S18 => ?_
      replace S18 := S18.swap.tail.swap
      refine wpAny_execs_cons (wpAny_Break ?_)
      refine ⟨rfl, nmS lx ly lm lu i' j' ti' tj', ⟨rfl, rfl, trivial⟩, ?_⟩
      rw [← h6]
      exact S18
  · rintro s8 ⟨ps8, hps, S8⟩
    replace S8 := S8.subs hps
    refine wpAny_execs_cons (wpAny_Return_some (Tuple_ (args_cons ((nm).go S8 fun _ s9 S9 => args_cons ((nm).go S9 fun _ s10 S10 => args_nil (wpAny_newObj_type ?_))))))
    have S11 := S10.push (b := .tup [.ref lm, .ref lu]) (o := { cls := .type "tuple", data := .seq [Value.ref lm, Value.ref lu].toArray }) ⟨0, rfl⟩
    exact ⟨_, [(_, .tup [.ref lm, .ref lu]), (lm, _), (lu, _), (lx, _), (ly, _)], S11, fun S12 => h _ lm lu _ S12⟩
end
end Mine
end
section
open PySem PySem.W PyProof.Rows PySem.Calls PySem.Spec
set_option maxRecDepth 100000
set_option maxHeartbeats 4000000
namespace Mine

/-- read off a part of the ledger, whatever the heap -/
def Rd (s0 : Base) (tc : List (Addr × Ob)) (v : Value) (d : PyData) : Prop := ∀ h : Heap, (∀ c ∈ tc, ∃ o, h.get? c.1 = some o ∧ c.2.Is s0 o) → ∃ as, Reads h v d as
def RdAll (s0 : Base) (tc : List (Addr × Ob)) (vs : List Value) (ds : List PyData) : Prop := ∀ h : Heap, (∀ c ∈ tc, ∃ o, h.get? c.1 = some o ∧ c.2.Is s0 o) → ∃ as, ReadsAll h vs ds as

section
variable {s0 : Base} {tc tc' : List (Addr × Ob)} {v : Value} {d : PyData} {vs ws : List Value} {ds es : List PyData} {a : Addr}
theorem Rd.mono (h : Rd s0 tc v d) (k : ∀ c ∈ tc, c ∈ tc') : Rd s0 tc' v d := fun H hc => h H fun c m => hc c (k c m)
theorem RdAll.mono (h : RdAll s0 tc vs ds) (k : ∀ c ∈ tc, c ∈ tc') : RdAll s0 tc' vs ds := fun H hc => h H fun c m => hc c (k c m)
theorem RdAll.nil : RdAll s0 tc [] [] := fun _ _ => ⟨[], .nil⟩
theorem RdAll.cons (h1 : Rd s0 tc v d) (h2 : RdAll s0 tc vs ds) : RdAll s0 tc (v :: vs) (d :: ds) := fun H hc => let ⟨_, r1⟩ := h1 H hc; let ⟨_, r2⟩ := h2 H hc; ⟨_, .cons r1 r2⟩
theorem RdAll.append : ∀ {vs : List Value} {ds : List PyData}, RdAll s0 tc vs ds → RdAll s0 tc ws es → RdAll s0 tc (vs ++ ws) (ds ++ es) := by
  intro vs ds h1 h2 H hc
  obtain ⟨as, r1⟩ := h1 H hc
  obtain ⟨bs, r2⟩ := h2 H hc
  clear h1 h2
  have key : ∀ {vs : List Value} {ds : List PyData} {as : List Addr}, ReadsAll H vs ds as → ∃ cs, ReadsAll H (vs ++ ws) (ds ++ es) cs := by
    intro vs
    induction vs with
    | nil => intro ds as h; cases h; exact ⟨bs, r2⟩
    | cons v vs ih =>
      intro ds as h
      cases h with
      | cons r rs =>
        obtain ⟨cs, q⟩ := ih rs
        exact ⟨_, .cons r q⟩
  exact key r1
theorem Rd.int {n : Int} {t : Tok} : Rd s0 tc (.int n t) (.int n) := fun _ _ => ⟨_, .int n t⟩
theorem Rd.bool {b : Bool} : Rd s0 tc (.bool b) (.bool b) := fun _ _ => ⟨_, .bool b⟩
theorem Rd.list (hm : (a, Ob.list vs) ∈ tc) (h : RdAll s0 tc vs ds) : Rd s0 tc (.ref a) (.list ds) := fun H hc => by
  obtain ⟨o, ho, n, e⟩ := hc _ hm
  obtain ⟨as, r⟩ := h H hc
  exact ⟨_, .list ho (by rw [e]) (by rw [e]) (by simpa using r)⟩
theorem Rd.tup (hm : (a, Ob.tup vs) ∈ tc) (h : RdAll s0 tc vs ds) : Rd s0 tc (.ref a) (.tuple ds) := fun H hc => by
  obtain ⟨o, ho, n, e⟩ := hc _ hm
  obtain ⟨as, r⟩ := h H hc
  exact ⟨_, .tuple ho (by rw [e]) (by rw [e]) (by simpa using r)⟩
theorem IA_reads {H : Heap} : ∀ {vs : List Value} {ns : List Int}, IntsAre vs ns → ∃ as, ReadsAll H vs (ns.map .int) as
  | _, _, .nil => ⟨_, .nil⟩
  | _, _, .cons n t r => let ⟨_, q⟩ := IA_reads r; ⟨_, .cons (.int n t) q⟩
theorem Rd.il {ns : List Int} (hm : (a, Ob.il ns) ∈ tc) : Rd s0 tc (.ref a) (.list (ns.map .int)) := fun H hc => by
  obtain ⟨o, ho, us, n, e, hi, _⟩ := hc _ hm
  obtain ⟨as, r⟩ := IA_reads (H := H) hi
  exact ⟨_, .list ho (by rw [e]) (by rw [e]) (by simpa using r)⟩
end

section
variable {w : World} {A : Around} {env fenv : Env} {g : Heap} {L : Addr} {d : Nat} {s0 : Base} {s : Shared} {ps : List (Str × Value)} {cs : List (Addr × Ob)} {E : Value → Shared → Prop}

theorem St.rd {tc : List (Addr × Ob)} {v : Value} {d : PyData} (S : St g L s0 s ps cs) (h : Rd s0 tc v d) (k : ∀ c ∈ tc, c ∈ cs) : ∃ as, Reads s.heap v d as :=
  h _ fun c hc => let ⟨o, h1, h2, _⟩ := S.led c (k c hc); ⟨o, h1, h2⟩

theorem nmxZ {x : Str} {pos : Pos} {n : Int} {t : NTok s0 n} {C : Addr} (hm : (C, nsOb x (.int n t)) ∈ cs) (hl : env.locals = C := by rfl) (hk : env.scope.kind = .function := by rfl) (hx : env.kindOf x = some .local := by rfl)
    (hd : (x == ("__debug__" : Str)) = false := by decide) : EvZ w A env g L s0 ps cs (.Name x pos) n := by
  intro s Q E S h
  exact nmx hm hl hk hx hd s Q E S fun _ s' S' => h t s' S'
theorem nmcZ {x : Str} {pos : Pos} {n : Int} {t : NTok s0 n} {c : Addr} (hm : (c, cellOb (some (.int n t))) ∈ cs) (hc : env.cells.lookup x = some c := by rfl) (hk : env.scope.kind = .function := by rfl) (hx : env.kindOf x = some .cell := by rfl)
    (hd : (x == ("__debug__" : Str)) = false := by decide) : EvZ w A env g L s0 ps cs (.Name x pos) n := by
  intro s Q E S h
  exact nmc hm hc hk hx hd s Q E S fun _ s' S' => h t s' S'

/-- an item of a list of objects, of a tuple -/
theorem itemV {v i : PySem.Expr} {pos : Pos} {a : Addr} {k : Nat} {vs : List Value} {x : Value} (h1 : EvR w A env g L s0 ps cs v a) (h2 : EvI w A env g L s0 ps cs i k) (hm : (a, Ob.list vs) ∈ cs) (hk : k < 2 ^ 62) (hn : vs[k]? = some x)
    (hs : ∀ t, subscripted i false (.ref a) (.int k t) = operate [.ref a, .int k t] (getItem (.ref a) (.int k t)) := by intro _; with_unfolding_all rfl) : Ev w A env g L s0 ps cs (.Subscript v i pos) (fun _ => x) := by
  intro s Q E S h
  refine Subscript_ (h1 _ _ _ S fun _ s1 S1 => h2 _ _ _ S1 fun u s2 S2 => ?_)
  have hl := S2.isList hm
  exact tail_any hl.typeIs slot_list_getitem.lookup (wpAny_getItem_list hl (by omega) (by omega) (by simpa using hn) (h 0 s2 S2)) (hs u)
theorem itemT {v i : PySem.Expr} {pos : Pos} {a : Addr} {k : Nat} {vs : List Value} {x : Value} (h1 : EvR w A env g L s0 ps cs v a) (h2 : EvI w A env g L s0 ps cs i k) (hm : (a, Ob.tup vs) ∈ cs) (hk : k < 2 ^ 62) (hn : vs[k]? = some x)
    (hs : ∀ t, subscripted i false (.ref a) (.int k t) = operate [.ref a, .int k t] (getItem (.ref a) (.int k t)) := by intro _; with_unfolding_all rfl) : Ev w A env g L s0 ps cs (.Subscript v i pos) (fun _ => x) := by
  intro s Q E S h
  refine Subscript_ (h1 _ _ _ S fun _ s1 S1 => h2 _ _ _ S1 fun u s2 S2 => ?_)
  have hl := S2.isTup hm
  have hlt : k < vs.length := (List.getElem?_eq_some_iff.mp hn).1
  refine tail_any hl.typeIs slot_tuple_getitem.lookup (getItem_tuple hl (by omega) (by omega) (j := k) ?_ (by simpa using hn) (h 0 s2 S2)) (hs u)
  unfold seqIndex?
  rw [List.size_toArray]
  simp
  omega

theorem c_appendV {a : Addr} {vs : List Value} {v : Value} {Q : Value → Shared → Prop} (S : St g L s0 s ps ((a, .list vs) :: cs)) (hN : vs.length < 1000)
    (h : ∀ s', St g L s0 s' ps ((a, .list (vs ++ [v])) :: cs) → Q .none s') : wpAny (M w) A (call (.builtin "list.append") [.ref a, v]) Q E s := by
  obtain ⟨m, ho⟩ := S.isListX (.head _)
  refine append_at ho (fun h' hs hD => h _ ?_) (by rw [List.size_toArray, sizeLine_eq]; omega)
  have e : (vs.toArray.push v) = (vs ++ [v]).toArray := by simp
  rw [e] at hD
  exact S.change hs hD ⟨_, rfl⟩

theorem callF2Z {fn : Str} {p pos : Pos} {e1 e2 : PySem.Expr} {v1 : Tok → Value} {n : Int} {f : Addr} {o : Obj} {fd : FuncData} {Q : Value → Shared → Prop} (C : Cx w A fenv g L d) (S : St g L s0 s ps cs)
    (hf : Ev w A env g L s0 ps cs (.Name fn p) (fun _ => .ref f)) (ho : (Kf w).lookup f = some o) (hdat : o.data = .func fd) (h1 : Ev w A env g L s0 ps cs e1 v1) (h2 : EvZ w A env g L s0 ps cs e2 n)
    (h : ∀ t1 (t2 : NTok s0 n) s', St g L s0 s' ps cs → wpAny (M w) A (call (.ref f) [v1 t1, .int n t2]) Q E s')
    (q1 : starEach [e1, e2] env = (false, eval e1 env) :: starEach [e2] env := by rfl) (q2 : starEach [e2] env = (false, eval e2 env) :: starEach [] env := by rfl)  :
    wpAny (M w) A (eval (.Call (.Name fn p) [e1, e2] [] pos) env) Q E s := by
  refine Call_ (hf _ _ _ S fun _ s1 S1 => callWith_def hdat (args_cons (h1 _ _ _ S1 fun t1 s2 S2 => args_cons (h2 _ _ _ S2 fun t2 s3 S3 => args_nil ⟨C.fn S3 ho, h t1 t2 s3 S3⟩) q2) q1) q1)

theorem range_pick {α : Type} (l : List α) : (List.range l.length).filterMap (l[·]?) = l := by
  induction l with
  | nil => rfl
  | cons x r ih =>
    rw [List.length_cons, List.range_succ_eq_map, List.filterMap_cons]
    simp only [List.getElem?_cons_zero, List.filterMap_map]
    congr 1
/-- the first n cells in another order -/
theorem St.re (n : Nat) (idx : List Nat) (S : St g L s0 s ps cs) (hp : idx.Perm (List.range n) := by decide) (hn : (cs.take n).length = n := by rfl) : St g L s0 s ps (idx.filterMap ((cs.take n)[·]?) ++ cs.drop n) := by
  refine S.perm ?_
  have h1 : (idx.filterMap ((cs.take n)[·]?)).Perm (cs.take n) := by
    have := hp.filterMap ((cs.take n)[·]?)
    have e := range_pick (cs.take n)
    rw [hn] at e
    rw [e] at this
    exact this
  have h2 := h1.append (List.Perm.refl (cs.drop n))
  rw [List.take_append_drop] at h2
  exact h2

/-- list(xs) of ints -/
theorem c_list {a : Addr} {ns : List Int} {Q : Value → Shared → Prop} (S : St g L s0 s ps cs) (hm : (a, Ob.il ns) ∈ cs) (hN : ns.length < 1000)
    (h : ∀ D s', St g L s0 s' ps ((D, .il ns) :: cs) → Q (.ref D) s') : wpAny (M w) A (call (.type "list") [.ref a]) Q E s := by
  obtain ⟨vs, hl, hi, z⟩ := S.isIntsZ hm
  obtain ⟨m, F, km⟩ := S.fr
  obtain ⟨news, N, kn⟩ := S.news
  obtain ⟨o, ho, hc, n, hd⟩ := hl
  refine call_list_seq (hsz := by rw [List.size_toArray, IA_len hi, sizeLine_eq]; omega) a (.inl rfl) ho hc hd fun h' c' hk hD => ?_
  have S' := S.grow (tk := s.toks) hk (Heap.get?_none_of_le (Nat.le_refl _)) hD (b := .il ns) (Ob.Is.il hi z)
  exact h _ _ S'
end
end Mine
end
section
open PySem PySem.W PyProof.Rows PySem.Calls PySem.Spec
set_option maxRecDepth 100000
set_option maxHeartbeats 4000000
namespace Mine
local macro_rules | `(tactic| k_lt2 $h:ident) => `(tactic| simp only [List.filterMap_cons, List.filterMap_nil, List.take_succ_cons, List.take_zero, List.getElem?_cons_succ, List.getElem?_cons_zero, List.drop_succ_cons, List.drop_zero, List.cons_append, List.nil_append] at $h:ident)

def rowD (hs p o q : List Int) : List PyData := hs.map fun x => .tuple [.int (p.count x : Nat), .bool (o.any (· == x)), .int (q.idxOf x : Nat)]
def toldL (left right : List Int) : List PyData :=
  [.list (rowD left (sldL (offL left) (offL right) 0 0 [] []).1 (offL right) (offL left)), .list ((sldL (offL left) (offL right) 0 0 [] []).1.map .int),
   .list (rowD right (sldL (offL left) (offL right) 0 0 [] []).2 (offL left) (offL right)), .list ((sldL (offL left) (offL right) 0 0 [] []).2.map .int)]

theorem sld_len (xs ys : List Int) (i j : Nat) (m u : List Int) (hi : i ≤ xs.length) (hj : j ≤ ys.length) : (sldL xs ys i j m u).1.length ≤ m.length + (xs.length - i) ∧ (sldL xs ys i j m u).2.length ≤ u.length + (ys.length - j) := by
  fun_induction sldL xs ys i j m u with
  | case1 i j m u h1 h2 ih =>
    have := skip_ge xs (xs.getD i 0) (i + 1)
    have := skip_le xs (xs.getD i 0) (i + 1) h1.1
    have := ih this hj
    rw [List.length_append, List.length_singleton] at this
    omega
  | case2 i j m u h1 h2 h3 ih =>
    have := skip_ge ys (ys.getD j 0) (j + 1)
    have := skip_le ys (ys.getD j 0) (j + 1) h1.2
    have := ih hi this
    rw [List.length_append, List.length_singleton] at this
    omega
  | case3 i j m u h1 h2 h3 ih =>
    have := skip_ge xs (xs.getD i 0) (i + 1)
    have := skip_ge ys (ys.getD j 0) (j + 1)
    have h4 := skip_le xs (xs.getD i 0) (i + 1) h1.1
    have h5 := skip_le ys (ys.getD j 0) (j + 1) h1.2
    have := ih h4 h5
    omega
  | case4 i j m u h1 =>
    simp only [List.length_append, List.length_drop]
    omega

theorem St.nameit {g : Heap} {L : Addr} {s0 : Base} {s : Shared} {ps : List (Str × Value)} {cs : List (Addr × Ob)} (S : St g L s0 s ps cs) : ∃ R, R = cs ∧ St g L s0 s ps R := ⟨_, rfl, S⟩
theorem St.nameA {g : Heap} {L : Addr} {s0 : Base} {s : Shared} {ps : List (Str × Value)} {cs : List (Addr × Ob)} {a : Addr} {b : Ob} (S : St g L s0 s ps ((a, b) :: cs)) : ∃ R, R = a ∧ St g L s0 s ps ((R, b) :: cs) := ⟨_, rfl, S⟩
theorem out3 {α : Type} (l : List α) (a b c : α) (r : List α) : (l ++ a :: b :: c :: r).Perm (c :: a :: b :: (l ++ r)) :=
  (List.perm_append_comm_assoc l [a, b, c] r).trans (List.perm_middle (l₁ := [a, b]))
theorem nodup3 (n : Nat) : ([n + 1 + 1, n + 1, n] : List Nat).Nodup := by simp; omega
section
variable {w : World} {A : Around} {env fenv : Env} {g : Heap} {L : Addr} {d : Nat} {s0 : Base} {s : Shared} {ps : List (Str × Value)} {cs : List (Addr × Ob)} {E : Value → Shared → Prop}

theorem c_told {ll lr : Addr} {left right : List Int} {Q : Value → Shared → Prop} (C : Cx w A env g L (d + 5)) (S : St g L s0 s ps ((ll, .il left) :: (lr, .il right) :: cs)) (hfz : FzA A env cs)
    (hl0 : 0 < left.length) (hr0 : 0 < right.length) (hl1 : left.length < 300) (hr1 : right.length < 300) (hlm : ∀ x ∈ left, x ∈ offL left) (hrm : ∀ x ∈ right, x ∈ offL right)
    (h : ∀ t tc s', St g L s0 s' ps (tc ++ (ll, .il left) :: (lr, .il right) :: cs) → Rd s0 tc (.ref t) (.list (toldL left right)) → Q (.ref t) s') :
    wpAny (M w) A (call (.ref 80) [.ref ll, .ref lr]) Q E s := by
  refine enterC [(ll, .il left), (lr, .il right)] (binds := [(Str.ofString "left", .ref ll), (Str.ofString "right", .ref lr)]) C S (f := 80) (by rfl) (by rfl) (by rfl) (by rfl) (fun L' x v hx => ?_) (fun L' x => by rfl) (fun n => ?_) ?_
  · simp only [lk] at hx
    split at hx
    · rename_i e; cases hx; subst e; rfl
    · split at hx
      · rename_i e; cases hx; subst e; rfl
      · cases hx
  · refine ⟨nodup3 n, by simp [cellsFrom]; omega, ?_⟩
    intro c hc
    simp [cellsFrom] at hc
    rcases hc with rfl | rfl | rfl <;> rfl
  intro L' s' cs Z' C' S'
  replace hfz := Z' hfz
  replace S' : St g L' s0 s' [(Str.ofString "left", .ref ll), (Str.ofString "right", .ref lr)] ((L' + 1 + 1 + 1, cellOb none) :: (L' + 1 + 1, cellOb none) :: (L' + 1, cellOb none) :: (ll, .il left) :: (lr, .il right) :: cs) := S'
  generalize hc1 : L' + 1 = c1 at S'
  generalize hc2 : c1 + 1 = c2 at S'
  generalize hc3 : c2 + 1 = c3 at S'
  refine wpAny_execs_cons (xletC (g := g) (L := L') (s0 := s0) (c := c1) (List_ (args_cons (callF1 C' S' (gnm C') (by rfl) (by rfl) nm fun _ s1 S1 => c_lawoff C' S1.up3 (by omega) fun D1 s2 S2 =>
    args_cons (callF1 C' S2 (gnm C') (by rfl) (by rfl) nm fun _ s3 S3 => c_lawoff C' (ns := right) (cs := (D1, .il (offL left)) :: (ll, .il left) :: (c3, cellOb none) :: (c2, cellOb none) :: (c1, cellOb none) :: cs) (S3.perm ?p1) (by omega) fun D2 s4 S4 => args_nil (wpAny_newObj_type ?_)))) ) (hc := by subst hc1; rfl))
  case p1 => exact (List.perm_middle (l₁ := [(D1, .il (offL left)), (ll, .il left), (c3, cellOb none), (c2, cellOb none), (c1, cellOb none)])).symm
  have S5 := S4.push (b := .list [.ref D1, .ref D2]) (o := { cls := .type "list", data := .seq [Value.ref D1, Value.ref D2].toArray }) ⟨0, rfl⟩
  generalize s4.heap.objs.size = ls at S5 ⊢
  refine ⟨_, (ls, .list [.ref D1, .ref D2]) :: (D2, .il (offL right)) :: (lr, .il right) :: (D1, .il (offL left)) :: (ll, .il left) :: (c3, cellOb none) :: (c2, cellOb none) :: cs, _, S5.perm (List.perm_middle (l₁ := [(ls, .list [.ref D1, .ref D2]), (D2, .il (offL right)), (lr, .il right), (D1, .il (offL left)), (ll, .il left), (c3, cellOb none), (c2, cellOb none)])).symm, fun s6 S6 => ?_⟩
  have hox := offL_len left
  have hoy := offL_len right
  have hsl := sld_len (offL left) (offL right) 0 0 [] [] (Nat.zero_le _) (Nat.zero_le _)
  simp only [List.length_nil] at hsl
  refine wpAny_execs_cons (xletC (g := g) (L := L') (s0 := s0) (c := c2) (callF2 C' S6 (gnm C') (by rfl) (by rfl) (itemV (k := 0) (nmc (.head _) (hc := by subst hc1; rfl)) (cst (n := 0)) (.tail _ (.head _)) (by decide) rfl) (itemV (k := 1) (nmc (.head _) (hc := by subst hc1; rfl)) (cst (n := 1)) (.tail _ (.head _)) (by decide) rfl) fun _ _ s7 S7 => ?_) (hc := by subst hc2 hc1; rfl))
  replace S7 := S7.re 8 [4, 2, 0, 1, 3, 5, 6, 7]
  k_lt2 S7
  refine c_sld C' S7 (hfz.up fun c hc => by simp [hc]) (by omega) (by omega) (by omega) (by omega) fun tp lm lu s8 S8 => ?_
  replace S8 := S8.re 11 [10, 0, 1, 2, 3, 4, 5, 6, 7, 8, 9]
  k_lt2 S8
  refine ⟨_, _, _, S8, fun s9 S9 => ?_⟩
  refine wpAny_execs_cons (xlet (g := g) (L := L') (s0 := s0) (elistV S9 fun lt s10 S10 => ⟨_, _, S10, fun s11 S11 => ?_⟩))
  replace S11 := S11.re 12 [0, 11, 1, 2, 3, 4, 5, 6, 7, 8, 9, 10]
  k_lt2 S11
  replace S11 := S11.subs (qs := [(Str.ofString "left", .ref ll), (Str.ofString "right", .ref lr), (Str.ofString "told", .ref lt)]) ⟨rfl, rfl, rfl, trivial⟩
  have hB : ∃ Bs, Bs = (c2, cellOb (some (Value.ref tp))) :: (tp, Ob.tup [Value.ref lm, Value.ref lu]) :: (lm, Ob.il (sldL (offL left) (offL right) 0 0 [] []).1) :: (lu, Ob.il (sldL (offL left) (offL right) 0 0 [] []).2) ::
    (D1, Ob.il (offL left)) :: (D2, Ob.il (offL right)) :: (c1, cellOb (some (Value.ref ls))) :: (ls, Ob.list [Value.ref D1, Value.ref D2]) :: (lr, Ob.il right) :: (ll, Ob.il left) :: cs := ⟨_, rfl⟩
  obtain ⟨Bs, hBs⟩ := hB
  have b1 : (c2, cellOb (some (Value.ref tp))) ∈ Bs := by rw [hBs]; simp
  have b2 : (tp, Ob.tup [Value.ref lm, Value.ref lu]) ∈ Bs := by rw [hBs]; simp
  have b3 : (c1, cellOb (some (Value.ref ls))) ∈ Bs := by rw [hBs]; simp
  have b4 : (ls, Ob.list [Value.ref D1, Value.ref D2]) ∈ Bs := by rw [hBs]; simp
  have pick : ∀ i, i < 2 → ∃ (pk so sk hk : Addr) (p o q hs : List Int), ([Value.ref lm, Value.ref lu] : List Value)[i]? = some (.ref pk) ∧ ([Value.ref D1, Value.ref D2] : List Value)[1 - i]? = some (.ref so) ∧ ([Value.ref D1, Value.ref D2] : List Value)[i]? = some (.ref sk) ∧ ([Value.ref ll, Value.ref lr] : List Value)[i]? = some (.ref hk) ∧
      (pk, Ob.il p) ∈ Bs ∧ (so, Ob.il o) ∈ Bs ∧ (sk, Ob.il q) ∈ Bs ∧ (hk, Ob.il hs) ∈ Bs ∧ (∀ x ∈ hs, x ∈ q) ∧ hs.length < 300 ∧ p.length < 300 ∧ (toldL left right).take (2 * (i + 1)) = (toldL left right).take (2 * i) ++ [.list (rowD hs p o q), .list (p.map .int)] := by
    intro i hi
    rcases (show i = 0 ∨ i = 1 by omega) with rfl | rfl
    · exact ⟨lm, D2, D1, ll, _, _, _, _, rfl, rfl, rfl, rfl, by rw [hBs]; simp, by rw [hBs]; simp, by rw [hBs]; simp, by rw [hBs]; simp, hlm, hl1, by omega, rfl⟩
    · exact ⟨lu, D1, D2, lr, _, _, _, _, rfl, rfl, rfl, rfl, by rw [hBs]; simp, by rw [hBs]; simp, by rw [hBs]; simp, by rw [hBs]; simp, hrm, hr1, by omega, rfl⟩
  rw [← hBs] at S11
  refine xmid (fun s12 => ∃ vs tc u, St g L' s0 s12 [(Str.ofString "told", .ref lt)] ((lt, .list vs) :: (c3, cellOb u) :: (tc ++ Bs)) ∧ RdAll s0 tc vs (toldL left right)) ?_ ?_
  · refine wpAny_For (callT S11 (bnm C') fun s12 S12 => (cst (n := 2)).go S12 fun t13 s13 S13 => call_range_1 ?_)
    have hr : IsRange (s13.heap.push { cls := .type "range", data := .fields #[.int 0 s13.toks, .int 2 t13, .int 1 (s13.toks + 1)] }) s13.heap.objs.size 0 2 1 s13.toks t13 (s13.toks + 1) := Heap.get?_push_size _ rfl
    have S14 := (S13.pushed { cls := .type "range", data := .fields #[.int 0 s13.toks, .int 2 t13, .int 1 (s13.toks + 1)] }).toks (s13.toks + 1 + 1)
    refine wpAny_pyIter_range hr (by decide +kernel) ?_
    have S15 := S14.push (b := rngIt 0 (2 : Nat) 1) (o := { cls := .type "range_iterator", data := .fields #[rawInt 0, rawInt (Builtin.Range.rangeSize 0 2 1), rawInt 1] }) ⟨by rw [show Builtin.Range.rangeSize 0 2 1 = 2 by decide +kernel]; rfl, rfl⟩
    obtain ⟨ita, hita, S15⟩ := S15.nameA
    refine xforA 2 (fun i s16 => ∃ vs tc u, St g L' s0 s16 [(Str.ofString "left", .ref ll), (Str.ofString "right", .ref lr), (Str.ofString "told", .ref lt)] ((ita, rngIt (0 + (i : Nat) * 1) (((2 : Nat) : Int) - (i : Nat)) 1) :: (lt, .list vs) :: (c3, cellOb u) :: (tc ++ Bs)) ∧ RdAll s0 tc vs ((toldL left right).take (2 * i)) ∧ vs.length = 2 * i)
      ⟨[], [], none, rngStart S15, RdAll.nil, rfl⟩ ?_ ?_
    · rintro i s16 hi ⟨vs, tc, u, S16, hrd, hvl⟩
      subst hita
      refine (iterRange C'.hh 0 1 2).item i _ s16 _ _ _ _ hi trivial S16 fun v s17 hv S17 => ?_
      obtain ⟨tv, rfl⟩ := hv
      have e1 : (0 : Int) + (i : Nat) * 1 = (i : Nat) := by omega
      rw [e1]
      refine wpAny_of_eq (a := ()) rfl ?_
      refine wpAny_assign_Name (xstoreC (c := c3) S17.up2 (fun s18 S18 => ?_) (hc := by subst hc3 hc2 hc1; rfl))
      obtain ⟨pk, so, sk, hk, p, o, q, hs, q1, q2, q3, q4, m1, m2, m3, m4, hin, hhs, hpl, htk⟩ := pick i hi
      obtain ⟨R, hR, S18⟩ := S18.nameit
      have r0 : (c3, cellOb (some (.int (i : Nat) tv))) ∈ R := by rw [hR]; exact .head _
      have r1 : (lt, Ob.list vs) ∈ R := by rw [hR]; exact .tail _ (.tail _ (.head _))
      have r2 : ∀ c ∈ Bs, c ∈ R := by intro c hc; rw [hR]; exact .tail _ (.tail _ (.tail _ (List.mem_append_right _ hc)))
      refine wpAny_execs_cons (wpAny_Expr (meth1 S18 nm r1 trivial slot_list_append type_list_append fun s19 S19 => ?_))
      refine xcomp (g := g) (L := L') (s0 := s0) (iterInts C'.hh hk hs) (x := Str.ofString "x") (fun n ys ps' cs' => ps' = [(Str.ofString "left", .ref ll), (Str.ofString "right", .ref lr), (Str.ofString "told", .ref lt)] ∧ ∃ tc', cs' = tc' ++ R ∧ RdAll s0 tc' ys ((rowD hs p o q).take n) ∧ ys.length = n ∧ n ≤ hs.length)
        selfList (Subscript_ (List_ (args_cons ((nm).go S19 fun _ s20 S20 => args_cons ((nm).go S20 fun _ s21 S21 => args_nil (wpAny_newObj_type ?_)))))) ?_ ?_ ?_ ?_
      · have S22 := S21.push (b := .list [.ref ll, .ref lr]) (o := { cls := .type "list", data := .seq [Value.ref ll, Value.ref lr].toArray }) ⟨0, rfl⟩
        refine (nmcI (c := c3) (.tail _ r0) (hc := by subst hc3 hc2 hc1; rfl)).go S22 fun u23 s23 S23 => ?_
        have hl23 := S23.isList (.head _)
        refine tail_any hl23.typeIs slot_list_getitem.lookup (wpAny_getItem_list hl23 (by omega) (by omega) (by simpa using q4) ?_) (by with_unfolding_all rfl)
        refine pyIterL S23.tail (b := .il hs) (r2 _ m4) trivial fun it2 s24 S24 => ⟨it2, _, _, rfl, S24, rfl, [], rfl, RdAll.nil, rfl, Nat.zero_le _⟩
      · rintro n ys ps' cs' k1 k2 ⟨rfl, tc', rfl, _⟩
        exact .tail _ (.tail _ (List.mem_append_right _ (r2 _ m4)))
      · rintro n ys ps' cs' ⟨rfl, tc', rfl, _, h2, h3⟩
        omega
      · rintro n v ys ps' cs' it2 Cc D s20 E' hn ⟨x, tx, hx, rfl⟩ ⟨rfl, tc', rfl, hrd', hyl, hnl⟩ S20
        refine wpAny_tests_nil ?_
        simp only [if_true]
        obtain ⟨T, hT, S20⟩ := S20.nameit
        have t0 : ∀ c ∈ R, c ∈ T := by intro c hc; rw [hT]; exact .tail _ (.tail _ (.tail _ (List.mem_append_right _ hc)))
        have t1 : (Cc, nsOb (Str.ofString "x") (.int x tx)) ∈ T := by rw [hT]; exact .tail _ (.head _)
        have hxm : x ∈ hs := List.mem_of_getElem? hx
        refine Tuple_ (args_cons (callF2Z C' S20 (gnm C') (by rfl) (by rfl) (itemT (k := i) (nmc (c := c2) (t0 _ (r2 _ b1)) (hc := by subst hc2 hc1; rfl)) (nmcI (c := c3) (t0 _ r0) (hc := by subst hc3 hc2 hc1; rfl)) (t0 _ (r2 _ b2)) (by omega) q1) (nmxZ t1) fun _ u1 s21 S21 => c_countOf C' S21 (t0 _ (r2 _ m1)) fun k1 s22 S22 => ?_))
        refine args_cons (callF2Z C' S22 (gnm C') (by rfl) (by rfl) (itemV (k := 1 - i) (nmc (c := c1) (t0 _ (r2 _ b3)) (hc := by subst hc1; rfl)) ((sub (cst (n := 1)) (nmcI (c := c3) (t0 _ r0) (hc := by subst hc3 hc2 hc1; rfl))).to (by omega)) (t0 _ (r2 _ b4)) (by omega) q2) (nmxZ t1) fun _ u2 s23 S23 => c_contains C' S23 (t0 _ (r2 _ m2)) fun s24 S24 => ?_)
        refine args_cons (callF2Z C' S24 (gnm C') (by rfl) (by rfl) (itemV (k := i) (nmc (c := c1) (t0 _ (r2 _ b3)) (hc := by subst hc1; rfl)) (nmcI (c := c3) (t0 _ r0) (hc := by subst hc3 hc2 hc1; rfl)) (t0 _ (r2 _ b4)) (by omega) q3) (nmxZ t1) fun _ u3 s25 S25 => c_indexOf C' S25 (t0 _ (r2 _ m3)) (hin x hxm) fun k3 s26 S26 => args_nil (wpAny_newObj_type ?_))
        subst hT
        have S27 := S26.push (b := .tup [.int (p.count x : Nat) k1, .bool (o.any (· == x)), .int (q.idxOf x : Nat) k3]) (o := { cls := .type "tuple", data := .seq [Value.int (p.count x : Nat) k1, .bool (o.any (· == x)), .int (q.idxOf x : Nat) k3].toArray }) ⟨0, rfl⟩
        replace S27 := S27.re 4 [1, 2, 3, 0]
        k_lt2 S27
        refine ⟨_, _, ⟨rfl, _ :: tc', rfl, ?_, ?_, ?_⟩, S27⟩
        · have hrow : (rowD hs p o q).take (n + 1) = (rowD hs p o q).take n ++ [.tuple [.int (p.count x : Nat), .bool (o.any (· == x)), .int (q.idxOf x : Nat)]] := by
            rw [List.take_add_one]
            unfold rowD
            rw [List.getElem?_map, hx]
            rfl
          rw [hrow]
          exact (hrd'.mono fun c hc => .tail _ hc).append (.cons (.tup (.head _) (.cons .int (.cons .bool (.cons .int .nil)))) .nil)
        · rw [List.length_append, List.length_singleton, hyl]
        · omega
      · rintro D ys ps' cs' s20 ⟨rfl, tc', rfl, hrd', hyl, hnl⟩ S20
        have hful : (rowD hs p o q).take hs.length = rowD hs p o q := List.take_of_length_le (by simp [rowD])
        rw [hful] at hrd'
        subst hR
        replace S20 := S20.perm (out3 ((D, Ob.list ys) :: tc') _ _ _ _).symm
        refine c_appendV S20 (by omega) fun s21 S21 => ?_
        replace S21 := S21.re 3 [0, 1, 2]
        k_lt2 S21
        refine wpAny_execs_cons (wpAny_Expr (meth1 S21 nm (.head _) trivial slot_list_append type_list_append fun s22 S22 => callT S22 (bnm C') fun s23 S23 => ?_))
        have z0 : ∀ c ∈ Bs, ∀ k1 k2 k3, c ∈ k1 :: k2 :: k3 :: (D, Ob.list ys) :: (tc' ++ (tc ++ Bs)) := by intro c hc k1 k2 k3; exact .tail _ (.tail _ (.tail _ (.tail _ (List.mem_append_right _ (List.mem_append_right _ hc)))))
        refine (itemT (k := i) (nmc (c := c2) (z0 _ b1 _ _ _) (hc := by subst hc2 hc1; rfl)) (nmcI (c := c3) (.tail _ (.head _)) (hc := by subst hc3 hc2 hc1; rfl)) (z0 _ b2 _ _ _) (by omega) q1).go S23 fun _ s24 S24 => ?_
        refine c_list S24 (z0 _ m1 _ _ _) (by omega) fun D2 s25 S25 => ?_
        refine c_appendV S25.swap (by simp; omega) fun s26 S26 => ?_
        replace S26 := S26.re 4 [3, 0, 2, 1]
        k_lt2 S26
        repeat refine wpAny_execs_nil ?_
        refine ⟨vs ++ [.ref D] ++ [.ref D2], (D2, .il p) :: (D, .list ys) :: (tc' ++ tc), some (.int (i : Nat) tv), ?_, ?_, ?_⟩
        · simpa only [List.cons_append, List.append_assoc] using S26
        · rw [htk, List.append_assoc]
          refine RdAll.append (hrd.mono fun c hc => .tail _ (.tail _ (List.mem_append_right _ hc))) (.cons (.list (.tail _ (.head _)) (hrd'.mono fun c hc => .tail _ (.tail _ (List.mem_append_left _ hc)))) (.cons (.il (.head _)) .nil))
        · simp; omega
    · rintro s16 ⟨vs, tc, u, S16, hrd, hvl⟩
      subst hita
      refine (iterRange C'.hh 0 1 2).done _ s16 _ _ _ _ trivial S16 fun s17 S17 => ?_
      exact wpAny_execs_nil ⟨rfl, vs, tc, u, S17.subs ⟨rfl, trivial⟩, hrd⟩
  · rintro s12 ⟨vs, tc, u, S12, hrd⟩
    refine wpAny_execs_cons (wpAny_Return_some ((nm).go S12 fun _ s13 S13 => ?_))
    subst hBs
    refine ⟨[(Str.ofString "told", .ref lt)], (lt, .list vs) :: (tc ++ [(ll, .il left), (lr, .il right)]), ?_, fun S14 => h lt ((lt, .list vs) :: tc) _ ?_ ?_⟩
    · have e1 : ((lr, Ob.il right) :: (ll, Ob.il left) :: cs).Sublist ((c2, cellOb (some (Value.ref tp))) :: (tp, Ob.tup [Value.ref lm, Value.ref lu]) :: (lm, Ob.il (sldL (offL left) (offL right) 0 0 [] []).1) :: (lu, Ob.il (sldL (offL left) (offL right) 0 0 [] []).2) ::
          (D1, Ob.il (offL left)) :: (D2, Ob.il (offL right)) :: (c1, cellOb (some (Value.ref ls))) :: (ls, Ob.list [Value.ref D1, Value.ref D2]) :: (lr, Ob.il right) :: (ll, Ob.il left) :: cs) := (List.suffix_append [_, _, _, _, _, _, _, _] _).sublist
      have S14 := S13.sub (((List.Sublist.refl tc).append e1).cons _ |>.cons_cons _)
      have e2 : ((lt, Ob.list vs) :: (tc ++ ((lr, Ob.il right) :: (ll, Ob.il left) :: cs))).Perm ((lt, .list vs) :: (tc ++ [(ll, .il left), (lr, .il right)]) ++ cs) := by
        rw [List.cons_append, List.append_assoc]
        exact (List.Perm.append_left tc (List.Perm.swap _ _ _)).cons _
      exact S14.perm e2.symm
    · simpa only [List.cons_append, List.append_assoc, List.nil_append] using S14
    · have : (toldL left right) = toldL left right := rfl
      exact .list (.head _) (hrd.mono fun c hc => .tail _ hc)
end
end Mine
end
section
open PySem PySem.W PyProof.Rows PySem.Calls PySem.Spec
set_option maxRecDepth 100000
set_option maxHeartbeats 4000000
namespace Mine

def Sh (k : Nat) (d : PyData) : Prop := d.canLay0 = true ∧ d.depth ≤ k
theorem Sh.all {k : Nat} : ∀ {xs : List PyData}, (∀ x ∈ xs, Sh k x) → PyData.canLayAll0 xs = true ∧ PyData.depthAll xs ≤ k
  | [], _ => ⟨rfl, Nat.zero_le _⟩
  | x :: r, h => by
    have h1 := h x (.head _)
    have h2 := Sh.all (xs := r) fun y hy => h y (.tail _ hy)
    simp only [PyData.canLayAll0, PyData.depthAll, h1.1, h2.1, Bool.and_self, true_and]
    exact Nat.max_le.mpr ⟨h1.2, h2.2⟩
theorem Sh.list {k : Nat} {xs : List PyData} (h : ∀ x ∈ xs, Sh k x) : Sh (k + 1) (.list xs) := by
  have := Sh.all h
  exact ⟨by simp only [PyData.canLay0]; exact this.1, by simp only [PyData.depth]; omega⟩
theorem Sh.tup {k : Nat} {xs : List PyData} (h : ∀ x ∈ xs, Sh k x) : Sh (k + 1) (.tuple xs) := by
  have := Sh.all h
  exact ⟨by simp only [PyData.canLay0]; exact this.1, by simp only [PyData.depth]; omega⟩
theorem Sh.int {n : Int} : Sh 0 (.int n) := ⟨rfl, Nat.le_refl _⟩
theorem Sh.bool {n : Bool} : Sh 0 (.bool n) := ⟨rfl, Nat.le_refl _⟩
theorem Sh.up {k k' : Nat} {d : PyData} (h : Sh k d) (q : k ≤ k') : Sh k' d := ⟨h.1, Nat.le_trans h.2 q⟩
theorem Sh.ints {ns : List Int} : Sh 1 (.list (ns.map .int)) := Sh.list fun x hx => by obtain ⟨n, _, rfl⟩ := List.mem_map.mp hx; exact Sh.int
theorem Sh.ed {k : Nat} {d : PyData} (h : Sh k d) (q : k ≤ 64) : SeqAt.shaped d = true := by
  unfold SeqAt.shaped
  rw [h.1, Bool.true_and, decide_eq_true_eq]
  exact Nat.le_trans h.2 q

section
variable {w : World} {A : Around} {env fenv : Env} {g : Heap} {L : Addr} {d : Nat} {s0 : Base} {s : Shared} {ps : List (Str × Value)} {cs : List (Addr × Ob)} {E : Value → Shared → Prop}

theorem tin {l r : PySem.Expr} {pos : Pos} {k : Int} {a : Addr} {ns : List Int} (h1 : EvI w A env g L s0 ps cs l k) (h2 : EvR w A env g L s0 ps cs r a) (hm : (a, Ob.il ns) ∈ cs) (hb : behindInMarks .In r = false := by with_unfolding_all rfl) :
    Tr w A env g L s0 ps cs (.Compare l [.In] [r] pos) (ns.any (· == k)) := by
  intro s Q E S h
  refine wpAny_isTrue_Compare1 (h1 _ _ _ S fun t s1 S1 => h2 _ _ _ S1 fun u s2 S2 => ?_) hb
  obtain ⟨vs, hl, hi⟩ := S2.isInts hm
  exact in_list_ints hl hi (wpAny_truthy_bool (h s2 S2))
theorem tnin {l r : PySem.Expr} {pos : Pos} {k : Int} {a : Addr} {ns : List Int} (h1 : EvI w A env g L s0 ps cs l k) (h2 : EvR w A env g L s0 ps cs r a) (hm : (a, Ob.il ns) ∈ cs) (hb : behindInMarks .NotIn r = false := by with_unfolding_all rfl) :
    Tr w A env g L s0 ps cs (.Compare l [.NotIn] [r] pos) (!(ns.any (· == k))) := by
  intro s Q E S h
  refine wpAny_isTrue_Compare1 (h1 _ _ _ S fun t s1 S1 => h2 _ _ _ S1 fun u s2 S2 => ?_) hb
  obtain ⟨vs, hl, hi⟩ := S2.isInts hm
  exact notin_list_ints hl hi (wpAny_truthy_bool (h s2 S2))
theorem ein {l r : PySem.Expr} {pos : Pos} {k : Int} {a : Addr} {ns : List Int} (h1 : EvI w A env g L s0 ps cs l k) (h2 : EvR w A env g L s0 ps cs r a) (hm : (a, Ob.il ns) ∈ cs) (hb : behindInMarks .In r = false := by with_unfolding_all rfl) :
    Ev w A env g L s0 ps cs (.Compare l [.In] [r] pos) (fun _ => .bool (ns.any (· == k))) := by
  intro s Q E S h
  refine wpAny_Compare1 (h1 _ _ _ S fun t s1 S1 => h2 _ _ _ S1 fun u s2 S2 => ?_) hb
  obtain ⟨vs, hl, hi⟩ := S2.isInts hm
  exact in_list_ints hl hi (h 0 s2 S2)

/-- [y for y in l if test] -/
theorem efilt {y nm0 : Str} {py pz pn : Pos} {test : PySem.Expr} {scope : Scope} {cl : List (Str × Addr)} {pos : Pos} {l : Addr} {ns : List Int} {Q : Value → Shared → Prop} (hh : A.handled = none) (S : St g L s0 s ps cs) (hm : (l, Ob.il ns) ∈ cs) (hN : ns.length < 1000)
    (P : Int → Bool) (hl : EvR w A env g L s0 ps cs (.Name nm0 pn) l)
    (htest : ∀ Cc cs' n (t : NTok s0 n), (Cc, nsOb y (.int n t)) ∈ cs' → (∀ c ∈ cs, c ∈ cs') → Tr w A (compEnvC scope cl Cc env) g L s0 ps cs' test (P n))
    (h : ∀ D s', St g L s0 s' ps ((D, .il (ns.filter P)) :: cs) → Q (.ref D) s')
    (hclos : closureFor scope env = pure cl := by rfl) (hcell : ∀ y ∈ scope.names, y.2 ≠ .cell := by decide) (hkind : scope.kind = .function := by rfl)
    (hnames : ∀ y ∈ scope.names, y.2 = .local → scope.names.lookup y.1 = some .local := by decide) (hx : scope.names.lookup y = some .local := by rfl)
    (hd : (y == ("__debug__" : Str)) = false := by decide)
    (hs : ∀ x, foldedSetIterable (.Name nm0 pn) env x = pure x := by intro _; rfl) :
    wpAny (M w) A (eval (.ListComp (.Name y py) [⟨.Name y pz, .Name nm0 pn, [test], 0⟩] scope pos) env) Q E s := by
  refine xcomp (g := g) (L := L) (s0 := s0) (iterInts hh l ns) (x := y) (fun n us ps' cs' => ps' = ps ∧ cs' = cs ∧ IntsAre us ((ns.take n).filter P) ∧ NZs s0 us ∧ us.length ≤ n ∧ n ≤ ns.length)
    selfList (hl _ _ _ S fun _ s1 S1 => pyIterL S1 hm trivial fun it s2 S2 => ⟨it, _, _, rfl, S2, rfl, rfl, .nil, NZ_nil, Nat.le_refl _, Nat.zero_le _⟩) ?_ ?_ ?_ ?_ hclos hcell hkind hnames hx hs
  · rintro n us ps' cs' k1 k2 ⟨rfl, rfl, _⟩
    exact .tail _ (.tail _ hm)
  · rintro n us ps' cs' ⟨rfl, rfl, _, _, h1, h2⟩
    omega
  · rintro n v us ps' cs' it Cc D s1 E' hn ⟨x, tx, hx', rfl⟩ ⟨rfl, rfl, hI, hz, h1, h2⟩ S1
    refine wpAny_tests_one ((htest Cc _ x tx (.tail _ (.head _)) (fun c hc => .tail _ (.tail _ (.tail _ hc)))).go S1 fun s2 S2 => ?_)
    have etk : (ns.take (n + 1)).filter P = (ns.take n).filter P ++ [x].filter P := by
      rw [List.take_add_one, hx', Option.toList_some, List.filter_append]
    cases hP : P x with
    | true =>
      simp only [if_true]
      refine (nmxZ (env := compEnvC scope cl Cc env) (t := tx) (C := Cc) (.tail _ (.head _)) rfl (by simp [compEnvC, relabel, hkind]) (lookup_relabel_local hx) hd).go S2 fun t3 s3 S3 => ⟨_, _, ⟨rfl, rfl, ?_, ?_, ?_, hn⟩, S3⟩
      · rw [etk]
        refine IA_append hI ?_
        simp only [List.filter_cons, hP, if_true, List.filter_nil]
        exact .cons _ _ .nil
      · exact NZ_append hz NZ_one
      · rw [List.length_append, List.length_singleton]; omega
    | false =>
      simp only [Bool.false_eq_true, if_false]
      refine ⟨_, _, ⟨rfl, rfl, ?_, hz, by omega, hn⟩, S2⟩
      rw [etk]
      simpa [hP] using hI
  · rintro D us ps' cs' s1 ⟨rfl, rfl, hI, hz, h1, h2⟩ S1
    rw [List.take_length] at hI
    exact h D s1 (S1.toInts hI hz)

/-- a list of ints compared with [] -/
theorem tne {e : PySem.Expr} {p1 pos : Pos} {Q : Bool → Shared → Prop} (hu : A.units + 64 < cLine)
    (he : wpAny (M w) A (eval e env) (fun v s1 => ∃ D ns cs1, v = .ref D ∧ St g L s0 s1 ps ((D, .il ns) :: cs1) ∧ ∀ s2, St g L s0 s2 ps cs1 → Q (!(ns.isEmpty)) s2) E s) :
    wpAny (M w) A (isTrue (.Compare e [.NotEq] [.List [] p1] pos) env (eval (.Compare e [.NotEq] [.List [] p1] pos) env)) Q E s := by
  refine wpAny_isTrue_Compare1 (wpAny_mono he (fun v s1 ⟨D, ns, cs1, e1, S1, h⟩ => ?_) fun _ _ x => x) (by with_unfolding_all rfl)
  subst e1
  refine elist0 S1 fun D2 s2 S2 => ?_
  obtain ⟨as, r1⟩ := S2.rd (Rd.il (tc := [(D, .il ns)]) (.head _)) (by simp)
  obtain ⟨bs, r2⟩ := S2.rd (Rd.il (tc := [(D2, .il [])]) (.head _)) (by simp)
  have sh : ∀ ns : List Int, SeqAt.shaped (.list (ns.map .int)) = true := by
    intro ns
    exact Sh.ints.ed (by decide)
  refine SeqAt.compareNe_shaped r1 r2 (sh ns) (sh []) hu (wpAny_truthy_bool ?_)
  have e2 : (!PyData.eqv (.list (ns.map .int)) (.list (([] : List Int).map .int))) = !ns.isEmpty := by
    cases ns <;> simp [PyData.eqv, PyData.eqvAll]
  rw [e2]
  exact h s2 S2.tail.tail

theorem fold_one {α : Type} (x : α) : ∀ (k : Nat) (a : Array α), List.foldl (fun x1 x2 => x1 ++ x2) a (List.replicate k #[x]) = (a.toList ++ List.replicate k x).toArray
  | 0, a => by simp
  | k + 1, a => by
    rw [List.replicate_succ, List.foldl_cons, fold_one x k]
    simp [List.replicate_succ]
theorem IA_rep {n : Int} {t : Tok} : ∀ k : Nat, IntsAre (List.replicate k (.int n t)) (List.replicate k n)
  | 0 => .nil
  | k + 1 => .cons n t (IA_rep k)
theorem NZ_rep {n : Int} {t : NTok s0 n} : ∀ k : Nat, NZs s0 (List.replicate k (.int n t))
  | 0 => NZ_nil
  | k + 1 => by
    have h1 : NZs s0 ([Value.int n t.1] ++ List.replicate k (Value.int n t.1)) := NZ_append (vs := [Value.int n t.1]) (NZ_append (vs := []) NZ_nil NZ_one) (NZ_rep k)
    exact h1

/-- [x] * k -/
theorem c_mul1 {D : Addr} {x : Int} {t : NTok s0 x} {k : Nat} {u : Tok} {Q : Value → Shared → Prop} (S : St g L s0 s ps ((D, .list [.int x t]) :: cs)) (hk : k < 1000)
    (h : ∀ D2 s', St g L s0 s' ps ((D2, .il (List.replicate k x)) :: cs) → Q (.ref D2) s') : wpAny (M w) A (binaryOp .Mult (.ref D) (.int (k : Nat) u)) Q E s := by
  obtain ⟨m, ho⟩ := S.isListX (.head _)
  obtain ⟨mm, F, km⟩ := S.fr
  obtain ⟨news, N, kn⟩ := S.news
  refine mul_list F N ho (by omega) (by omega) (by simp; omega) fun h' F' N' => ?_
  have e : (List.foldl (fun x1 x2 => x1 ++ x2) #[] (List.replicate (if [Value.int x t.1].toArray.isEmpty = true then 0 else (k : Int).toNat) [Value.int x t.1].toArray)) = (List.replicate k (Value.int x t.1)).toArray := by
    rw [if_neg (by simp), Int.toNat_natCast, show [Value.int x t.1].toArray = #[Value.int x t.1] from rfl, fold_one]
    rfl
  rw [e] at N'
  exact h _ _ (S.newOf km kn F' N' (fun c hc => Nat.ne_of_lt (S.lt hc)) (b := .il (List.replicate k x)) ⟨_, 0, rfl, IA_rep k, NZ_rep k⟩).swap.tail

/-- sorted(xs) of ints -/
theorem c_sorted {l : Addr} {ns : List Int} {Q : Value → Shared → Prop} (S : St g L s0 s ps cs) (hm : (l, Ob.il ns) ∈ cs) (hN : ns.length < 64)
    (h : ∀ D vs ms s', St g L s0 s' ps ((D, .list vs) :: cs) → IntsAre vs ms → ms.Perm ns → ms.Pairwise (· ≤ ·) → Q (.ref D) s') : wpAny (M w) A (call (.builtin "sorted") [.ref l]) Q E s := by
  obtain ⟨vs, hl, hi⟩ := S.isInts hm
  obtain ⟨mm, F, km⟩ := S.fr
  obtain ⟨news, N, kn⟩ := S.news
  refine sorted_N F N hl hi (by rw [IA_len hi]; exact hN) fun h' vs' ns' e F' N' h1 h2 h3 => h _ _ _ _ (S.newOf km kn F' N' (fun c hc => Nat.ne_of_lt (Nat.lt_succ_of_lt (S.lt hc))) (b := .list vs') ⟨e, rfl⟩) h1 h2 h3
end
end Mine
end
section
open PySem PySem.W PyProof.Rows PySem.Calls PySem.Spec
set_option maxRecDepth 100000
set_option maxHeartbeats 4000000
namespace Mine
local macro_rules | `(tactic| k_lt2 $h:ident) => `(tactic| simp only [List.filterMap_cons, List.filterMap_nil, List.take_succ_cons, List.take_zero, List.getElem?_cons_succ, List.getElem?_cons_zero, List.drop_succ_cons, List.drop_zero, List.cons_append, List.nil_append] at $h:ident)

def timesL (here there : List Int) (x : Int) : Nat := if there.any (· == x) = true then 0 else if (!(there.filter fun y => decide (x < y)).isEmpty) = true then 1 else (here.filter (· == x)).length
def rowU (here there : List Int) : List PyData := here.map fun x => .tuple [.int (timesL here there x : Nat), .bool (there.any (· == x)), .int ((here.filter fun y => decide (y < x)).length : Nat)]
def partsW (here there xs : List Int) : List Int := xs.foldl (fun p x => if (!(p.any (· == x))) = true then p ++ List.replicate (timesL here there x) x else p) []
def dueL (left right : List Int) : List PyData := [.list (rowU left right), .list ((sortI (partsW left right left)).map .int), .list (rowU right left), .list ((sortI (partsW right left right)).map .int)]

section
variable {w : World} {A : Around} {env fenv : Env} {g : Heap} {L : Addr} {d : Nat} {s0 : Base} {s : Shared} {ps : List (Str × Value)} {cs : List (Addr × Ob)} {E : Value → Shared → Prop}

theorem Cx.un64 (C : Cx w A env g L (d + 8)) : A.units + 64 < cLine := by have := C.un; omega
theorem callBW {fn : Str} {p pos : Pos} {e : PySem.Expr} {id : String} {Q : Value → Shared → Prop} (S : St g L s0 s ps cs) (hf : Ev w A env g L s0 ps cs (.Name fn p) (fun _ => .builtin id))
    (h : ∀ s', St g L s0 s' ps cs → wpAny (M w) A (eval e env) (fun v s₁ => wpAny (M w) A (call (.builtin id) [v]) Q E s₁) E s')
    (q1 : starEach [e] env = (false, eval e env) :: starEach [] env := by rfl) : wpAny (M w) A (eval (.Call (.Name fn p) [e] [] pos) env) Q E s :=
  Call_ (hf _ _ _ S fun _ s1 S1 => callWith_builtin1 (args_cons (wpAny_mono (h s1 S1) (fun _ _ h2 => args_nil h2) fun _ _ x => x) q1) q1)
theorem c_len {a : Addr} {ns : List Int} {Q : Value → Shared → Prop} (S : St g L s0 s ps cs) (hm : (a, Ob.il ns) ∈ cs) (hN : ns.length < 1000) (h : ∀ t s', St g L s0 s' ps cs → Q (.int (ns.length : Nat) t) s') :
    wpAny (M w) A (call (.builtin "len") [.ref a]) Q E s := by
  obtain ⟨vs, hl, hi⟩ := S.isInts hm
  have e : vs.toArray.size = ns.length := by rw [List.size_toArray, IA_len hi]
  refine call_len_list hl (by rw [e]; omega) ?_
  rw [e]
  exact h _ _ (S.toks _)
theorem c_due {ll lr : Addr} {left right : List Int} {Q : Value → Shared → Prop} (C : Cx w A env g L (d + 9)) (S : St g L s0 s ps ((ll, .il left) :: (lr, .il right) :: cs))
    (hl1 : left.length < 300) (hr1 : right.length < 300) (hq1 : ∀ i, (partsW left right (left.take i)).length < 64) (hq2 : ∀ i, (partsW right left (right.take i)).length < 64)
    (h : ∀ t tc s', St g L s0 s' ps (tc ++ (ll, .il left) :: (lr, .il right) :: cs) → Rd s0 tc (.ref t) (.list (dueL left right)) → Q (.ref t) s') :
    wpAny (M w) A (call (.ref 85) [.ref ll, .ref lr]) Q E s := by
  refine enterC [(ll, .il left), (lr, .il right)] (binds := [(Str.ofString "left", .ref ll), (Str.ofString "right", .ref lr)]) C S (f := 85) (by rfl) (by rfl) (by rfl) (by rfl) (fun L' x v hx => ?_) (fun L' x => by rfl) (fun n => ?_) ?_
  · simp only [lk] at hx
    split at hx
    · rename_i e; cases hx; subst e; rfl
    · split at hx
      · rename_i e; cases hx; subst e; rfl
      · cases hx
  · exact ⟨by simp [cellsFrom], by simp [cellsFrom], by simp [cellsFrom]⟩
  intro L' s' cs _ C' S'
  replace S' : St g L' s0 s' [(Str.ofString "left", .ref ll), (Str.ofString "right", .ref lr)] ((L' + 1, cellOb none) :: (ll, .il left) :: (lr, .il right) :: cs) := S'
  have hun := C'.un64
  generalize hc1 : L' + 1 = c1 at S'
  refine wpAny_execs_cons (xlet (g := g) (L := L') (s0 := s0) (elistV S' fun lt s1 S1 => ⟨_, _, S1, fun s2 S2 => ?_⟩))
  replace S2 := S2.subs (qs := [(Str.ofString "left", .ref ll), (Str.ofString "right", .ref lr), (Str.ofString "due", .ref lt)]) ⟨rfl, rfl, rfl, trivial⟩
  refine xmid (fun s12 => ∃ vs tc u, St g L' s0 s12 [(Str.ofString "due", .ref lt)] ((lt, .list vs) :: (c1, cellOb u) :: (tc ++ (ll, .il left) :: (lr, .il right) :: cs)) ∧ RdAll s0 tc vs (dueL left right)) ?_ ?_
  · refine wpAny_For (List_ (args_cons (Tuple_ (args_cons ((nm).go S2 fun _ s3 S3 => args_cons ((nm).go S3 fun _ s4 S4 => args_nil (wpAny_newObj_type ?_)))))))
    have S5 := S4.push (b := .tup [.ref ll, .ref lr]) (o := { cls := .type "tuple", data := .seq [Value.ref ll, Value.ref lr].toArray }) ⟨0, rfl⟩
    generalize s4.heap.objs.size = T1 at S5 ⊢
    refine args_cons (Tuple_ (args_cons ((nm).go S5 fun _ s6 S6 => args_cons ((nm).go S6 fun _ s7 S7 => args_nil (wpAny_newObj_type ?_)))))
    have S8 := S7.push (b := .tup [.ref lr, .ref ll]) (o := { cls := .type "tuple", data := .seq [Value.ref lr, Value.ref ll].toArray }) ⟨0, rfl⟩
    generalize s7.heap.objs.size = T2 at S8 ⊢
    refine args_nil (wpAny_newObj_type ?_)
    have S9 := S8.push (b := .list [.ref T1, .ref T2]) (o := { cls := .type "list", data := .seq [Value.ref T1, Value.ref T2].toArray }) ⟨0, rfl⟩
    refine pyIterL S9 (.head _) trivial fun it s10 S10 => ?_
    generalize (Heap.push _ _).objs.size = ls at S10
    replace S10 := S10.re 6 [0, 4, 5, 1, 2, 3]
    k_lt2 S10
    obtain ⟨Bs, hBs⟩ : ∃ Bs, Bs = (ls, Ob.list [.ref T1, .ref T2]) :: (T2, Ob.tup [.ref lr, .ref ll]) :: (T1, Ob.tup [.ref ll, .ref lr]) :: (ll, Ob.il left) :: (lr, Ob.il right) :: cs := ⟨_, rfl⟩
    rw [← hBs] at S10
    have b0 : (ls, Ob.list [.ref T1, .ref T2]) ∈ Bs := by rw [hBs]; exact .head _
    have pick : ∀ i, i < 2 → ∃ (T hk tk : Addr) (hs ts : List Int), ([Value.ref T1, Value.ref T2] : List Value)[i]? = some (.ref T) ∧ (T, Ob.tup [.ref hk, .ref tk]) ∈ Bs ∧ (hk, Ob.il hs) ∈ Bs ∧ (tk, Ob.il ts) ∈ Bs ∧ hs.length < 300 ∧ ts.length < 300 ∧ (∀ j, (partsW hs ts (hs.take j)).length < 64) ∧
        (dueL left right).take (2 * (i + 1)) = (dueL left right).take (2 * i) ++ [.list (rowU hs ts), .list ((sortI (partsW hs ts hs)).map .int)] := by
      intro i hi
      rcases (show i = 0 ∨ i = 1 by omega) with rfl | rfl
      · exact ⟨T1, ll, lr, left, right, rfl, by rw [hBs]; simp, by rw [hBs]; simp, by rw [hBs]; simp, hl1, hr1, hq1, rfl⟩
      · exact ⟨T2, lr, ll, right, left, rfl, by rw [hBs]; simp, by rw [hBs]; simp, by rw [hBs]; simp, hr1, hl1, hq2, rfl⟩
    refine xforA 2 (fun i s16 => ∃ vs tc u, St g L' s0 s16 [(Str.ofString "due", .ref lt)] ((it, lstIt ls i) :: (lt, .list vs) :: (c1, cellOb u) :: (tc ++ Bs)) ∧ RdAll s0 tc vs ((dueL left right).take (2 * i)) ∧ vs.length = 2 * i)
      ⟨[], [], none, S10.subs ⟨rfl, trivial⟩, RdAll.nil, rfl⟩ ?_ ?_
    · rintro i s16 hi ⟨vs, tc, u, S16, hrd, hvl⟩
      obtain ⟨T, hk, tk, hs, ts, q1, m0, m1, m2, hhs, hts, hpl, htk⟩ := pick i hi
      refine (iterVals C'.hh ls [.ref T1, .ref T2]).item i _ s16 _ _ _ _ hi (.tail _ (.tail _ (List.mem_append_right _ b0))) S16 fun v s17 hv S17 => ?_
      rw [q1] at hv
      cases hv
      refine wpAny_letOwnedTupleGo_listiter (S17.lit (.head _)) ?_
      refine xasg2 C'.hh S17 (S17.isTup (.tail _ (.tail _ (.tail _ (List.mem_append_right _ m0))))) fun s18 S18 => ?_
      replace S18 := S18.subs (qs := [(Str.ofString "here", .ref hk), (Str.ofString "there", .ref tk), (Str.ofString "due", .ref lt)]) ⟨rfl, rfl, rfl, trivial⟩
      refine wpAny_execs_cons (xlet (g := g) (L := L') (s0 := s0) (elistV S18 fun lw s19 S19 => ⟨_, _, S19, fun s20 S20 => ?_⟩))
      refine wpAny_execs_cons (xlet (g := g) (L := L') (s0 := s0) (elist0 S20 fun lp s21 S21 => ⟨_, _, S21, fun s22 S22 => ?_⟩))
      replace S22 := S22.subs (qs := [(Str.ofString "here", .ref hk), (Str.ofString "there", .ref tk), (Str.ofString "due", .ref lt), (Str.ofString "row", .ref lw), (Str.ofString "parts", .ref lp)]) ⟨rfl, rfl, rfl, rfl, rfl, trivial⟩
      refine xmid (fun s23 => ∃ ws tc2 u, St g L' s0 s23 [(Str.ofString "due", .ref lt), (Str.ofString "row", .ref lw), (Str.ofString "parts", .ref lp)] ((lw, .list ws) :: (lp, .il (partsW hs ts hs)) :: (c1, cellOb u) :: (it, lstIt ls (i + 1)) :: (lt, .list vs) :: (tc2 ++ (tc ++ Bs))) ∧ RdAll s0 tc2 ws (rowU hs ts)) ?_ ?_
      · refine wpAny_For ((nm).go S22 fun _ s23 S23 => pyIterL S23 (.tail _ (.tail _ (.tail _ (.tail _ (.tail _ (List.mem_append_right _ m1)))))) trivial fun it2 s24 S24 => ?_)
        refine xforA hs.length (fun n s25 => ∃ ws tc2 u, St g L' s0 s25 [(Str.ofString "here", .ref hk), (Str.ofString "there", .ref tk), (Str.ofString "due", .ref lt), (Str.ofString "row", .ref lw), (Str.ofString "parts", .ref lp)]
          ((it2, lstIt hk n) :: (c1, cellOb u) :: (lw, .list ws) :: (lp, .il (partsW hs ts (hs.take n))) :: (it, lstIt ls (i + 1)) :: (lt, .list vs) :: (tc2 ++ (tc ++ Bs))) ∧ RdAll s0 tc2 ws ((rowU hs ts).take n) ∧ ws.length = n) ⟨[], [], u, ?_, RdAll.nil, rfl⟩ ?_ ?_
        · replace S24 := S24.re 6 [0, 5, 2, 1, 3, 4]
          k_lt2 S24
          exact S24
        · rintro n s25 hn ⟨ws, tc2, u2, S25, hrd2, hwl⟩
          refine (iterInts C'.hh hk hs).item n _ s25 _ _ _ _ hn (.tail _ (.tail _ (.tail _ (.tail _ (.tail _ (List.mem_append_right _ (List.mem_append_right _ m1))))))) S25 fun v s26 hv S26 => ?_
          obtain ⟨x, tx, hx, rfl⟩ := hv
          refine wpAny_of_eq (a := ()) rfl ?_
          refine wpAny_assign_Name (xstoreC (c := c1) S26.swap (fun s27 S27 => ?_) (hc := by subst hc1; rfl))
          obtain ⟨R, hR, S27⟩ := S27.nameit
          have r0 : (c1, cellOb (some (.int x tx))) ∈ R := by rw [hR]; exact .head _
          have r1 : ∀ c ∈ Bs, c ∈ R := by intro c hc; rw [hR]; exact .tail _ (.tail _ (.tail _ (.tail _ (.tail _ (.tail _ (List.mem_append_right _ (List.mem_append_right _ hc)))))))
          have r2 : (lw, Ob.list ws) ∈ R := by rw [hR]; exact .tail _ (.tail _ (.head _))
          have r3 : (lp, Ob.il (partsW hs ts (hs.take n))) ∈ R := by rw [hR]; exact .tail _ (.tail _ (.tail _ (.head _)))
          refine wpAny_execs_cons (xlet (g := g) (L := L') (s0 := s0) (wpAny_mono (Q := fun v s1 => ∃ t, v = .int (timesL hs ts x : Nat) t ∧ St g L' s0 s1 [(Str.ofString "here", .ref hk), (Str.ofString "there", .ref tk), (Str.ofString "due", .ref lt), (Str.ofString "row", .ref lw), (Str.ofString "parts", .ref lp)] R) ?_ (fun v s28 h28 => ?_) fun _ _ x => x))
          · refine IfExp_ ((tin (nmcI (c := c1) r0 (hc := by subst hc1; rfl)) nm (r1 _ m2)).go S27 fun s28 S28 => ?_)
            unfold timesL
            split
            · exact (cst (n := 0)).go S28 fun t s29 S29 => ⟨t, rfl, S29⟩
            · refine IfExp_ (tne (g := g) (L := L') (s0 := s0) (ps := [(Str.ofString "here", .ref hk), (Str.ofString "there", .ref tk), (Str.ofString "due", .ref lt), (Str.ofString "row", .ref lw), (Str.ofString "parts", .ref lp)]) hun (efilt (cl := [(Str.ofString "x", L' + 1)]) C'.hh S28 (r1 _ m2) (by omega) (fun y => decide (x < y)) nm (fun Cc cs' m tm hm1 hm2 => tgt (nmxI hm1) (nmcI (c := c1) (hm2 _ r0) (hc := by subst hc1; rfl))) fun D s29 S29 => ⟨D, _, R, rfl, S29, fun s30 S30 => ?_⟩))
              split
              · exact (cst (n := 1)).go S30 fun t s31 S31 => ⟨t, rfl, S31⟩
              · refine callBW S30 (bnm C') fun s31 S31 => efilt (cl := [(Str.ofString "x", L' + 1)]) C'.hh S31 (r1 _ m1) (by omega) (fun y => y == x) nm (fun Cc cs' m tm hm1 hm2 => teq (nmxI hm1) (nmcI (c := c1) (hm2 _ r0) (hc := by subst hc1; rfl))) fun D s32 S32 => ?_
                exact c_len S32 (.head _) (by have := List.length_filter_le (fun y => y == x) hs; omega) fun t s33 S33 => ⟨t, rfl, S33.tail⟩
          · obtain ⟨t28, rfl, S28⟩ := h28
            refine ⟨_, _, S28, fun s29 S29 => ?_⟩
            replace S29 := S29.subs (qs := [(Str.ofString "here", .ref hk), (Str.ofString "there", .ref tk), (Str.ofString "due", .ref lt), (Str.ofString "row", .ref lw), (Str.ofString "parts", .ref lp), (Str.ofString "times", .int (timesL hs ts x : Nat) t28)]) ⟨rfl, rfl, rfl, rfl, rfl, rfl, trivial⟩
            refine wpAny_execs_cons (wpAny_Expr (meth1 S29 nm r2 trivial slot_list_append type_list_append fun s30 S30 => ?_))
            refine Tuple_ (args_cons ((nm).go S30 fun _ s31 S31 => args_cons ((ein (nmcI (c := c1) r0 (hc := by subst hc1; rfl)) nm (r1 _ m2)).go S31 fun _ s32 S32 => args_cons (callBW S32 (bnm C') fun s33 S33 => efilt (cl := [(Str.ofString "x", L' + 1)]) C'.hh S33 (r1 _ m1) (by omega) (fun y => decide (y < x)) nm (fun Cc cs' m tm hm1 hm2 => tlt (nmxI hm1) (nmcI (c := c1) (hm2 _ r0) (hc := by subst hc1; rfl))) fun D s34 S34 => ?_))))
            refine c_len S34 (.head _) (by have := List.length_filter_le (fun y => decide (y < x)) hs; omega) fun t35 s35 S35 => args_nil (wpAny_newObj_type ?_)
            have S36 := S35.tail.push (b := .tup [.int (timesL hs ts x : Nat) t28, .bool (ts.any (· == x)), .int ((hs.filter fun y => decide (y < x)).length : Nat) t35]) (o := { cls := .type "tuple", data := .seq [Value.int (timesL hs ts x : Nat) t28, .bool (ts.any (· == x)), .int ((hs.filter fun y => decide (y < x)).length : Nat) t35].toArray }) ⟨0, rfl⟩
            subst hR
            replace S36 := S36.re 4 [3, 1, 2, 0]
            k_lt2 S36
            refine c_appendV S36 (by omega) fun s37 S37 => ?_
            have hrow : RdAll s0 ((s35.heap.objs.size, Ob.tup [.int (timesL hs ts x : Nat) t28, .bool (ts.any (· == x)), .int ((hs.filter fun y => decide (y < x)).length : Nat) t35]) :: tc2) (ws ++ [.ref s35.heap.objs.size]) ((rowU hs ts).take (n + 1)) := by
              have e : (rowU hs ts).take (n + 1) = (rowU hs ts).take n ++ [.tuple [.int (timesL hs ts x : Nat), .bool (ts.any (· == x)), .int ((hs.filter fun y => decide (y < x)).length : Nat)]] := by
                rw [List.take_add_one]
                unfold rowU
                rw [List.getElem?_map, hx]
                rfl
              rw [e]
              exact (hrd2.mono fun c hc => .tail _ hc).append (.cons (.tup (.head _) (.cons .int (.cons .bool (.cons .int .nil)))) .nil)
            have hlen : (ws ++ [Value.ref s35.heap.objs.size]).length = n + 1 := by rw [List.length_append, hwl]; rfl
            have hpa : partsW hs ts (hs.take (n + 1)) = if (!((partsW hs ts (hs.take n)).any (· == x))) = true then partsW hs ts (hs.take n) ++ List.replicate (timesL hs ts x) x else partsW hs ts (hs.take n) := by
              rw [List.take_add_one, hx]
              unfold partsW
              rw [Option.toList_some, List.foldl_append]
              rfl
            have htm : timesL hs ts x < 1000 := by
              have := List.length_filter_le (fun y => y == x) hs
              unfold timesL
              split
              · omega
              · split <;> omega
            generalize s35.heap.objs.size = Tu at *
            refine wpAny_execs_cons (xif S37 (tnin (nmcI (c := c1) (.tail _ (.head _)) (hc := by subst hc1; rfl)) nm (.tail _ (.tail _ (.tail _ (.tail _ (.head _)))))) (fun hc s38 S38 => ?_) fun hc s38 S38 => ?_)
            · refine wpAny_execs_cons (wpAny_Expr (meth1 S38 nm (.tail _ (.tail _ (.tail _ (.tail _ (.head _))))) trivial PySem.F.slot_list_extend PySem.F.type_list_extend fun s39 S39 => wpAny_BinOp (List_ (args_cons ((nmcZ (c := c1) (.tail _ (.head _)) (hc := by subst hc1; rfl)).go S39 fun t40 s40 S40 => args_nil (wpAny_newObj_type ?_))))))
              have S41 := S40.push (b := .list [.int x t40]) (o := { cls := .type "list", data := .seq [Value.int x t40].toArray }) ⟨0, rfl⟩
              refine (nm).go S41 fun _ s42 S42 => c_mul1 S42 htm fun D2 s43 S43 => ?_
              replace S43 := S43.re 6 [5, 0, 1, 2, 3, 4]
              k_lt2 S43
              refine c_extend S43 (.head _) (by have := hpl n; omega) (by rw [List.length_replicate]; exact htm) fun s44 S44 => ?_
              rw [hc, if_pos rfl] at hpa
              rw [← hpa] at S44
              replace S44 := S44.swap.tail.re 7 [3, 2, 1, 0, 5, 6, 4]
              k_lt2 S44
              repeat refine wpAny_execs_nil ?_
              exact ⟨_, _ :: tc2, _, S44.subs ⟨rfl, rfl, rfl, rfl, rfl, trivial⟩, hrow, hlen⟩
            · rw [hc, if_neg (by decide)] at hpa
              rw [← hpa] at S38
              replace S38 := S38.re 7 [2, 1, 0, 4, 5, 6, 3]
              k_lt2 S38
              repeat refine wpAny_execs_nil ?_
              exact ⟨_, _ :: tc2, _, S38.subs ⟨rfl, rfl, rfl, rfl, rfl, trivial⟩, hrow, hlen⟩
        · rintro s25 ⟨ws, tc2, u2, S25, hrd2, hwl⟩
          rw [List.take_length] at S25
          refine (iterInts C'.hh hk hs).done _ s25 _ _ _ _ (.tail _ (.tail _ (.tail _ (.tail _ (.tail _ (List.mem_append_right _ (List.mem_append_right _ m1))))))) S25 fun s26 S26 => ?_
          refine wpAny_execs_nil ⟨rfl, ws, tc2, u2, ?_, ?_⟩
          · replace S26 := S26.re 5 [1, 2, 0, 3, 4]
            k_lt2 S26
            exact S26.subs ⟨rfl, rfl, rfl, trivial⟩
          · rwa [List.take_of_length_le (by simp [rowU])] at hrd2
      · rintro s23 ⟨ws, tc2, u2, S23, hrd2⟩
        refine wpAny_execs_cons (wpAny_Expr (meth1 S23 nm (.tail _ (.tail _ (.tail _ (.tail _ (.head _))))) trivial slot_list_append type_list_append fun s24 S24 => (nm).go S24 fun _ s25 S25 => ?_))
        replace S25 := S25.re 5 [4, 0, 1, 2, 3]
        k_lt2 S25
        refine c_appendV S25 (by omega) fun s26 S26 => ?_
        refine wpAny_execs_cons (wpAny_Expr (meth1 S26 nm (.head _) trivial slot_list_append type_list_append fun s27 S27 => callB1 S27 (bnm C') nm fun _ s28 S28 => ?_))
        refine c_sorted S28 (.tail _ (.tail _ (.head _))) (by have := hpl hs.length; rwa [List.take_length] at this) fun D us ms s29 S29 hI hp ho => ?_
        refine c_appendV S29.swap (by simp; omega) fun s30 S30 => ?_
        replace S30 := S30.re 6 [5, 0, 4, 1, 2, 3]
        k_lt2 S30
        repeat refine wpAny_execs_nil ?_
        refine ⟨vs ++ [.ref lw] ++ [.ref D], (D, .list us) :: (lw, .list ws) :: (lp, .il (partsW hs ts hs)) :: (tc2 ++ tc), u2, ?_, ?_, ?_⟩
        · have := S30.subs (qs := [(Str.ofString "due", .ref lt)]) ⟨rfl, trivial⟩
          simpa only [List.cons_append, List.append_assoc] using this
        · rw [htk, List.append_assoc]
          refine RdAll.append (hrd.mono fun c hc => .tail _ (.tail _ (.tail _ (List.mem_append_right _ hc)))) (.cons (.list (.tail _ (.head _)) (hrd2.mono fun c hc => .tail _ (.tail _ (.tail _ (List.mem_append_left _ hc))))) (.cons (.list (.head _) ?_) .nil))
          rw [← eq_sortI hp ho]
          exact fun H _ => IA_reads hI
        · simp; omega
    · rintro s16 ⟨vs, tc, u, S16, hrd, hvl⟩
      refine (iterVals C'.hh ls [.ref T1, .ref T2]).done _ s16 _ _ _ _ (.tail _ (.tail _ (List.mem_append_right _ b0))) S16 fun s17 S17 => ?_
      refine wpAny_execs_nil ⟨rfl, vs, tc, u, ?_, hrd⟩
      subst hBs
      exact S17.sub ((((List.Sublist.refl tc).append (List.suffix_append [_, _, _] _).sublist).cons_cons _).cons_cons _)
  · rintro s12 ⟨vs, tc, u, S12, hrd⟩
    refine wpAny_execs_cons (wpAny_Return_some ((nm).go S12 fun _ s13 S13 => ?_))
    refine ⟨[(Str.ofString "due", .ref lt)], (lt, .list vs) :: (tc ++ [(ll, .il left), (lr, .il right)]), ?_, fun S14 => h lt ((lt, .list vs) :: tc) _ ?_ ?_⟩
    · simpa only [List.cons_append, List.append_assoc, List.nil_append] using S13.swap.tail
    · simpa only [List.cons_append, List.append_assoc, List.nil_append] using S14
    · exact .list (.head _) (hrd.mono fun c hc => .tail _ hc)
end
end Mine
end
section
open PySem PySem.W PyProof.Rows PySem.Calls PySem.Spec
set_option maxRecDepth 100000
set_option maxHeartbeats 4000000
namespace Mine

def HF (k : Nat) (xs : List Int) : Prop := ∀ i, i < xs.length → 0 < i → k ≤ (i - 1) / 2 → xs.getD ((i - 1) / 2) 0 ≤ xs.getD i 0
inductive Desc (k : Nat) : Nat → Prop
  | refl : Desc k k
  | step {p c : Nat} : Desc k p → 0 < c → (c - 1) / 2 = p → Desc k c
theorem Desc.le {k p : Nat} (h : Desc k p) : k ≤ p := by
  induction h with
  | refl => exact Nat.le_refl _
  | step _ h1 h2 ih => omega
theorem Desc.up {k p : Nat} (h : Desc k p) (q : k < p) : Desc k ((p - 1) / 2) := by
  cases h with
  | refl => omega
  | step h1 h2 h3 => rw [h3]; exact h1

theorem gset {xs : List Int} {i j : Nat} {a : Int} (h : i < xs.length) : (xs.set i a).getD j 0 = if i = j then a else xs.getD j 0 := by
  simp only [List.getD, List.getElem?_set]
  split
  · simp
  · rfl

theorem swap_perm {l : List Int} {i j : Nat} {x : Int} (hij : i ≠ j) (hi : i < l.length) (hj : j < l.length) : ((l.set i (l.getD j 0)).set j x).Perm (l.set i x) := by
  rw [List.perm_iff_count]
  intro b
  have e1 : (l.set i (l.getD j 0))[j]'(by simpa using hj) = l[j] := by rw [List.getElem_set]; simp [hij]
  have e2 : l.getD j 0 = l[j] := by simp [List.getD, hj]
  rw [List.count_set (by simpa using hj), List.count_set hi, List.count_set hi, e1, e2]
  have h1 : 0 < l.count l[i] := List.count_pos_iff.mpr (List.getElem_mem hi)
  by_cases c1 : (l[i] == b) = true <;> by_cases c2 : (l[j] == b) = true <;> by_cases c3 : (x == b) = true <;> simp only [c1, c2, c3, if_true, if_false, Bool.false_eq_true] <;> try omega
  all_goals (have h2 : 0 < l.count b := by (have := eq_of_beq c1; rw [← this]; exact h1)); omega

theorem su_step {k p : Nat} {ys : List Int} (hk : 2 * p + 1 < ys.length) (hd : Desc k p) (h1 : ∀ i, i < ys.length → 0 < i → k ≤ (i - 1) / 2 → (i - 1) / 2 ≠ p → ys.getD ((i - 1) / 2) 0 ≤ ys.getD i 0) (h2 : p = k ∨ HF k ys) : HF k (ys.set p (ys.getD (kid ys p) 0)) := by
  intro i hi h0 hp
  rw [List.length_set] at hi
  have hpl : p < ys.length := by omega
  have hle := hd.le
  rw [gset hpl, gset hpl]
  have hk1 : ys.getD (kid ys p) 0 ≤ ys.getD (2 * p + 1) 0 := by
    unfold kid; split <;> omega
  have hk2 : 2 * p + 2 < ys.length → ys.getD (kid ys p) 0 ≤ ys.getD (2 * p + 2) 0 := by
    intro q; unfold kid; split <;> omega
  have hkid : (kid ys p - 1) / 2 = p ∧ 0 < kid ys p := by unfold kid; split <;> omega
  split
  · rename_i e
    rw [if_neg (by omega)]
    rcases (show i = 2 * p + 1 ∨ i = 2 * p + 2 by omega) with rfl | rfl
    · exact hk1
    · exact hk2 hi
  · rename_i e
    split
    · rename_i e2
      subst e2
      rcases h2 with rfl | h2
      · omega
      · have a1 := h2 p hi h0 hp
        have a2 := h2 (kid ys p) (kid_lt hk) hkid.2 (by omega)
        rw [hkid.1] at a2
        omega
    · exact h1 i hi h0 hp (fun q => e q.symm)

theorem suL_heap {k : Nat} (x : Int) (ys : List Int) (p : Nat) (hpl : p < ys.length) (hd : Desc k p) (h1 : ∀ i, i < ys.length → 0 < i → k ≤ (i - 1) / 2 → (i - 1) / 2 ≠ p → ys.getD ((i - 1) / 2) 0 ≤ ys.getD i 0) (h2 : p = k ∨ HF k ys) :
    HF k (suL ys p).1 ∧ Desc k (suL ys p).2 ∧ ys.length ≤ 2 * (suL ys p).2 + 1 ∧ ((suL ys p).1.set (suL ys p).2 x).Perm (ys.set p x) := by
  fun_induction suL ys p with
  | case1 ys p h ih =>
    have hs := su_step h hd h1 h2
    have hkid : (kid ys p - 1) / 2 = p ∧ 0 < kid ys p := by unfold kid; split <;> omega
    have hne : p ≠ kid ys p := Nat.ne_of_lt kid_gt
    obtain ⟨a1, a2, a3, a4⟩ := ih (by rw [List.length_set]; exact kid_lt h) (.step hd hkid.2 hkid.1) (fun i b1 b2 b3 _ => hs i b1 b2 b3) (.inr hs)
    rw [List.length_set] at a3
    exact ⟨a1, a2, a3, a4.trans (swap_perm hne hpl (kid_lt h))⟩
  | case2 ys p h =>
    refine ⟨?_, hd, by omega, List.Perm.refl _⟩
    intro i b1 b2 b3
    replace b1 : i < ys.length := b1
    exact h1 i b1 b2 b3 (by omega)

theorem sd_heap {k : Nat} (x : Int) (zs : List Int) (p : Nat) (hpl : p < zs.length) (hd : Desc k p)
    (h1 : ∀ i, i < zs.length → 0 < i → k ≤ (i - 1) / 2 → i ≠ p → (zs.set p x).getD ((i - 1) / 2) 0 ≤ (zs.set p x).getD i 0)
    (h2 : ∀ c, c < zs.length → 0 < c → (c - 1) / 2 = p → 0 < p → k ≤ (p - 1) / 2 → zs.getD ((p - 1) / 2) 0 ≤ zs.getD c 0) :
    HF k (sd x k zs p) ∧ (sd x k zs p).Perm (zs.set p x) := by
  fun_induction sd x k zs p with
  | case1 zs p hk hx ih =>
    have hpar : (p - 1) / 2 < p := by omega
    have hd' := hd.up hk
    have hle := hd'.le
    have hpl' : (p - 1) / 2 < zs.length := by omega
    refine (fun q => ⟨q.1, q.2.trans (swap_perm (by omega) hpl hpl')⟩) (ih (by rw [List.length_set]; exact hpl') hd' ?_ ?_)
    · intro i b1 b2 b3 b4
      rw [List.length_set] at b1
      have h := h1 i b1 b2 b3
      have hs' : (p - 1) / 2 < (zs.set p (zs.getD ((p - 1) / 2) 0)).length := by rw [List.length_set]; exact hpl'
      rw [gset hs', gset hs', gset hpl, gset hpl]
      rw [gset hpl, gset hpl] at h
      by_cases c1 : i = p
      · subst c1
        rw [if_pos rfl, if_neg (by omega), if_pos rfl]
        omega
      · by_cases c2 : (i - 1) / 2 = p
        · rw [if_neg (by omega), if_pos c2.symm, if_neg (by omega), if_neg (by omega)]
          exact h2 i b1 b2 c2 (by omega) hle
        · have := h c1
          rw [if_neg (fun q => c2 q.symm), if_neg (fun q => c1 q.symm)] at this
          by_cases c3 : (i - 1) / 2 = (p - 1) / 2
          · rw [if_pos c3.symm, if_neg (by omega), if_neg (by omega)]
            rw [c3] at this
            omega
          · rw [if_neg (fun q => c3 q.symm), if_neg (fun q => c2 q.symm), if_neg (by omega), if_neg (by omega)]
            exact this
    · intro c b1 b2 b3 b4 b5
      rw [List.length_set] at b1
      rw [gset hpl, gset hpl, if_neg (by omega)]
      have h3 := h1 ((p - 1) / 2) hpl' b4 b5 (by omega)
      rw [gset hpl, gset hpl, if_neg (by omega), if_neg (by omega)] at h3
      split
      · exact h3
      · have h4 := h1 c b1 b2 (by omega) (by omega)
        rw [gset hpl, gset hpl, if_neg (by omega), if_neg (by omega), b3] at h4
        omega
  | case2 zs p hk hx =>
    refine ⟨?_, List.Perm.refl _⟩
    intro i b1 b2 b3
    rw [List.length_set] at b1
    by_cases c : i = p
    · subst c
      rw [gset hpl, gset hpl, if_neg (by omega), if_pos rfl]
      omega
    · exact h1 i b1 b2 b3 c
  | case3 zs p hk =>
    refine ⟨?_, List.Perm.refl _⟩
    have := hd.le
    intro i b1 b2 b3
    rw [List.length_set] at b1
    exact h1 i b1 b2 b3 (by omega)
end Mine
end
section
open PySem PySem.W PyProof.Rows PySem.Calls PySem.Spec
set_option maxRecDepth 100000
set_option maxHeartbeats 4000000
namespace Mine

theorem set_self {l : List Int} {i : Nat} (h : i < l.length) : l.set i (l.getD i 0) = l := by
  have e : l.getD i 0 = l[i] := by simp [List.getD, h]
  rw [e, List.set_getElem_self]
theorem su_heap {k : Nat} {xs : List Int} (hk : k < xs.length) (h : HF (k + 1) xs) : HF k (su xs k) ∧ (su xs k).Perm xs := by
  obtain ⟨a1, a2, a3, a4⟩ := suL_heap (k := k) (xs.getD k 0) xs k hk .refl (fun i b1 b2 b3 b4 => h i b1 b2 (by omega)) (.inl rfl)
  have hlt := suL_lt xs k hk
  have hlen := suL_len xs k
  unfold su
  generalize (suL xs k).2 = p at *
  generalize (suL xs k).1 = ys at *
  have hpl : p < ys.length := by omega
  have e : (ys.set p (xs.getD k 0)).getD p 0 = xs.getD k 0 := by rw [gset hpl, if_pos rfl]
  rw [e]
  have e2 : (ys.set p (xs.getD k 0)).set p (xs.getD k 0) = ys.set p (xs.getD k 0) := by rw [List.set_set]
  rw [set_self hk] at a4
  refine (fun q => ⟨q.1, q.2.trans (by rw [e2]; exact a4)⟩) (sd_heap (k := k) (xs.getD k 0) (ys.set p (xs.getD k 0)) p (by rw [List.length_set]; exact hpl) a2 ?_ ?_)
  · intro i b1 b2 b3 b4
    rw [List.length_set] at b1
    rw [e2, gset hpl, gset hpl, if_neg (by omega), if_neg (fun q => b4 q.symm)]
    exact a1 i b1 b2 b3
  · intro c b1 b2 b3
    rw [List.length_set] at b1
    omega

theorem heapify_heap : ∀ (k : Nat) (xs : List Int), k ≤ xs.length → HF k xs → HF 0 (heapifyL k xs) ∧ (heapifyL k xs).Perm xs
  | 0, xs, _, h => ⟨h, List.Perm.refl _⟩
  | k + 1, xs, hk, h => by
    obtain ⟨a1, a2⟩ := su_heap (k := k) (xs := xs) (by omega) h
    obtain ⟨b1, b2⟩ := heapify_heap k (su xs k) (by rw [su_len]; omega) a1
    exact ⟨b1, b2.trans a2⟩

theorem HF.min {xs : List Int} (h : HF 0 xs) : ∀ i, i < xs.length → xs.getD 0 0 ≤ xs.getD i 0 := by
  intro i
  induction i using Nat.strongRecOn with
  | _ i ih =>
    intro hi
    by_cases h0 : i = 0
    · subst h0; exact Int.le_refl _
    · have a := h i hi (by omega) (Nat.zero_le _)
      have b := ih ((i - 1) / 2) (by omega) (by omega)
      omega

theorem popH_heap {xs : List Int} (h : HF 0 xs) (h0 : 0 < xs.length) : HF 0 (popH xs) ∧ (xs.getD 0 0 :: popH xs).Perm xs := by
  unfold popH
  match xs, h0 with
  | [x], _ => exact ⟨fun i hi => by simp at hi, List.Perm.refl _⟩
  | x :: y :: r, _ =>
    rw [if_neg (by simp)]
    have hne : y :: r ≠ [] := by simp
    have e1 : (x :: y :: r).dropLast = x :: (y :: r).dropLast := rfl
    have e2 : (x :: y :: r).getLastD 0 = (y :: r).getLast hne := by simp [List.getLastD, List.getLast_cons]
    rw [e1, e2, List.set_cons_zero]
    have hz : HF 1 ((y :: r).getLast hne :: (y :: r).dropLast) := by
      intro i hi h0 hp
      have e : ∀ j, 0 < j → j < ((y :: r).getLast hne :: (y :: r).dropLast).length → ((y :: r).getLast hne :: (y :: r).dropLast).getD j 0 = (x :: y :: r).getD j 0 := by
        intro j hj hjl
        obtain ⟨j, rfl⟩ := Nat.exists_eq_succ_of_ne_zero (Nat.ne_of_gt hj)
        simp only [List.length_cons, List.length_dropLast] at hjl
        simp only [List.getD, List.getElem?_cons_succ, List.getElem?_dropLast]
        rw [if_pos (by simp; omega)]
      rw [e _ (by omega) (by omega), e _ h0 hi]
      refine h i ?_ h0 (Nat.zero_le _)
      simp only [List.length_cons, List.length_dropLast] at hi ⊢
      omega
    obtain ⟨a1, a2⟩ := su_heap (k := 0) (by simp) hz
    refine ⟨a1, ?_⟩
    refine List.Perm.cons x (a2.trans ?_)
    have e3 : (y :: r).dropLast ++ [(y :: r).getLast hne] = y :: r := List.dropLast_concat_getLast hne
    have := (List.perm_append_singleton ((y :: r).getLast hne) (y :: r).dropLast).symm
    rw [e3] at this
    exact this

theorem pops_sorted : ∀ (k : Nat) (xs : List Int), xs.length = k → HF 0 xs → (popsL k xs).Perm xs ∧ (popsL k xs).Pairwise (· ≤ ·)
  | 0, xs, hk, _ => by
    have := List.length_eq_zero_iff.mp hk
    subst this
    exact ⟨List.Perm.refl _, .nil⟩
  | k + 1, xs, hk, h => by
    obtain ⟨a1, a2⟩ := popH_heap h (by omega)
    obtain ⟨b1, b2⟩ := pops_sorted k (popH xs) (by rw [popH_len]; omega) a1
    have hp : (popsL (k + 1) xs).Perm xs := (b1.cons _).trans a2
    refine ⟨hp, ?_⟩
    rw [popsL, List.pairwise_cons]
    refine ⟨fun y hy => ?_, b2⟩
    have hm : y ∈ xs := a2.subset (.tail _ (b1.subset hy))
    obtain ⟨i, hi, rfl⟩ := List.getElem_of_mem hm
    have := h.min i hi
    simpa [List.getD, hi] using this

theorem off_sorted (ns : List Int) : (offL ns).Perm ns ∧ (offL ns).Pairwise (· ≤ ·) := by
  have h0 : HF (ns.length / 2) ns := by intro i h1 h2 h3; omega
  obtain ⟨a1, a2⟩ := heapify_heap (ns.length / 2) ns (by omega) h0
  obtain ⟨b1, b2⟩ := pops_sorted ns.length _ (heapifyL_len _ _) a1
  exact ⟨b1.trans a2, b2⟩
end Mine
end
section
open PySem PySem.W PyProof.Rows PySem.Calls PySem.Spec
set_option maxRecDepth 100000
set_option maxHeartbeats 4000000
namespace Mine

def dw (x : Int) (xs : List Int) : List Int := xs.dropWhile (· == x)
theorem dw_len (x : Int) (xs : List Int) : (dw x xs).length ≤ xs.length := (List.dropWhile_sublist _).length_le
theorem dw_sub (x : Int) (xs : List Int) : (dw x xs).Sublist xs := List.dropWhile_sublist _
theorem dw_count {x z : Int} (h : z ≠ x) : ∀ xs : List Int, (dw x xs).count z = xs.count z
  | [] => rfl
  | a :: r => by
    unfold dw
    rw [List.dropWhile_cons]
    split
    · rename_i e
      have e := eq_of_beq e
      have := dw_count h r
      unfold dw at this
      rw [this, List.count_cons_of_ne (by rw [e]; exact fun q => h q.symm)]
    · rfl
theorem dw_no {x : Int} : ∀ {xs : List Int}, (x :: xs).Pairwise (· ≤ ·) → x ∉ dw x xs
  | [], _ => by simp [dw]
  | a :: r, h => by
    unfold dw
    rw [List.dropWhile_cons]
    have h1 := List.pairwise_cons.mp h
    have h2 := List.pairwise_cons.mp h1.2
    split
    · exact dw_no (List.pairwise_cons.mpr ⟨fun y hy => h1.1 y (.tail _ hy), h2.2⟩)
    · rename_i e
      intro q
      have ha := h1.1 a (.head _)
      rcases List.mem_cons.mp q with q | q
      · subst q; simp at e
      · have := h2.1 x q
        have : a = x := by omega
        simp [this] at e

def sl : List Int → List Int → List Int × List Int
  | x :: xs, y :: ys =>
    if x < y then (x :: (sl (dw x xs) (y :: ys)).1, (sl (dw x xs) (y :: ys)).2)
    else if y < x then ((sl (x :: xs) (dw y ys)).1, y :: (sl (x :: xs) (dw y ys)).2)
    else sl (dw x xs) (dw y ys)
  | xs, ys => (xs, ys)
termination_by xs ys => xs.length + ys.length
decreasing_by
  all_goals (have := dw_len x xs; have := dw_len y ys; simp only [List.length_cons]; omega)

theorem skip_drop (ns : List Int) (e : Int) (k : Nat) : ns.drop (skip ns e k) = dw e (ns.drop k) := by
  fun_induction skip ns e k with
  | case1 k hc ih =>
    have hk := hc.1
    have e1 : ns.getD k 0 = ns[k] := by simp [List.getD, hk]
    rw [ih, List.drop_eq_getElem_cons hk]
    unfold dw
    rw [List.dropWhile_cons, if_pos (by rw [← e1, hc.2]; simp)]
  | case2 k hc =>
    by_cases hk : k < ns.length
    · have e1 : ns.getD k 0 = ns[k] := by simp [List.getD, hk]
      unfold dw
      rw [List.drop_eq_getElem_cons hk, List.dropWhile_cons, if_neg]
      intro q
      exact hc ⟨hk, by rw [e1]; exact eq_of_beq q⟩
    · rw [List.drop_of_length_le (by omega)]
      rfl

theorem sld_sl (xs ys : List Int) (i j : Nat) (m u : List Int) : sldL xs ys i j m u = (m ++ (sl (xs.drop i) (ys.drop j)).1, u ++ (sl (xs.drop i) (ys.drop j)).2) := by
  fun_induction sldL xs ys i j m u with
  | case1 i j m u h1 h2 ih =>
    have e1 : xs.getD i 0 = xs[i]'h1.1 := by simp [List.getD, h1.1]
    have e2 : ys.getD j 0 = ys[j]'h1.2 := by simp [List.getD, h1.2]
    rw [ih, skip_drop, List.drop_eq_getElem_cons h1.1, List.drop_eq_getElem_cons h1.2, ← e1, ← e2]
    rw [sl, if_pos h2]
    simp
  | case2 i j m u h1 h2 h3 ih =>
    have e1 : xs.getD i 0 = xs[i]'h1.1 := by simp [List.getD, h1.1]
    have e2 : ys.getD j 0 = ys[j]'h1.2 := by simp [List.getD, h1.2]
    rw [ih, skip_drop, List.drop_eq_getElem_cons h1.1, List.drop_eq_getElem_cons h1.2, ← e1, ← e2]
    rw [sl, if_neg h2, if_pos h3]
    simp
  | case3 i j m u h1 h2 h3 ih =>
    have e1 : xs.getD i 0 = xs[i]'h1.1 := by simp [List.getD, h1.1]
    have e2 : ys.getD j 0 = ys[j]'h1.2 := by simp [List.getD, h1.2]
    rw [ih, skip_drop, skip_drop, List.drop_eq_getElem_cons h1.1, List.drop_eq_getElem_cons h1.2, ← e1, ← e2]
    conv => rhs; rw [sl, if_neg h2, if_neg h3]
  | case4 i j m u h1 =>
    by_cases hi : i < xs.length
    · have hj : ¬ j < ys.length := fun q => h1 ⟨hi, q⟩
      rw [List.drop_of_length_le (l := ys) (by omega), List.drop_eq_getElem_cons hi]
      simp [sl]
    · rw [List.drop_of_length_le (l := xs) (by omega)]
      cases ys.drop j <;> simp [sl]

theorem sl_swap (xs ys : List Int) : (sl xs ys).2 = (sl ys xs).1 := by
  fun_induction sl xs ys with
  | case1 x xs y ys h ih => rw [sl, if_neg (by omega), if_pos h]; exact ih
  | case2 x xs y ys h1 h2 ih => rw [sl, if_pos h2]; simp [ih]
  | case3 x xs y ys h1 h2 ih => rw [ih]; conv => rhs; rw [sl, if_neg h2, if_neg h1]
  | case4 xs ys h =>
    cases xs with
    | nil => cases ys <;> simp [sl]
    | cons a r =>
      cases ys with
      | nil => simp [sl]
      | cons b q => exact absurd rfl (h a r b q rfl)
end Mine
end
section
open PySem PySem.W PyProof.Rows PySem.Calls PySem.Spec
set_option maxRecDepth 100000
set_option maxHeartbeats 4000000
namespace Mine

def tm (xs ys : List Int) (z : Int) : Nat := if z ∈ ys then 0 else if ∃ y ∈ ys, z < y then min 1 (xs.count z) else xs.count z
theorem tm_zero {xs ys : List Int} {z : Int} (h : xs.count z = 0) : tm xs ys z = 0 := by
  unfold tm
  rw [h]
  split
  · rfl
  · split <;> rfl
theorem tm_same {xs xs' ys ys' : List Int} {z : Int} (h : xs.count z = xs'.count z) (h2 : z ∈ ys ↔ z ∈ ys') (h3 : (∃ y ∈ ys, z < y) ↔ ∃ y ∈ ys', z < y) : tm xs ys z = tm xs' ys' z := by
  unfold tm
  simp only [h, h2, h3]
theorem dw_mem {x z : Int} {xs : List Int} (h : z ≠ x) : z ∈ dw x xs ↔ z ∈ x :: xs := by
  rw [← List.count_pos_iff, ← List.count_pos_iff, dw_count h, List.count_cons_of_ne (fun q => h q.symm)]

theorem sl_spec (xs ys : List Int) (hx : xs.Pairwise (· ≤ ·)) (hy : ys.Pairwise (· ≤ ·)) : (sl xs ys).1.Pairwise (· ≤ ·) ∧ (∀ z ∈ (sl xs ys).1, z ∈ xs) ∧ ∀ z, (sl xs ys).1.count z = tm xs ys z := by
  fun_induction sl xs ys with
  | case1 x xs y ys h ih =>
    have h1 := List.pairwise_cons.mp hx
    have h2 := List.pairwise_cons.mp hy
    obtain ⟨a1, a2, a3⟩ := ih (h1.2.sublist (dw_sub x xs)) hy
    have hm : ∀ z ∈ (sl (dw x xs) (y :: ys)).1, z ∈ xs := fun z hz => (dw_sub x xs).subset (a2 z hz)
    refine ⟨List.pairwise_cons.mpr ⟨fun z hz => h1.1 z (hm z hz), a1⟩, fun z hz => ?_, fun z => ?_⟩
    · rcases List.mem_cons.mp hz with rfl | hz
      · exact .head _
      · exact .tail _ (hm z hz)
    · by_cases e : z = x
      · subst e
        have e0 : (dw z xs).count z = 0 := List.count_eq_zero.mpr (dw_no hx)
        rw [List.count_cons_self, a3, tm_zero e0]
        unfold tm
        rw [if_neg, if_pos ⟨y, .head _, h⟩, List.count_cons_self]
        · omega
        · intro q
          rcases List.mem_cons.mp q with q | q
          · omega
          · have := h2.1 z q; omega
      · rw [List.count_cons_of_ne (fun q => e q.symm), a3]
        exact tm_same (by rw [dw_count e, List.count_cons_of_ne (fun q => e q.symm)]) Iff.rfl Iff.rfl
  | case2 x xs y ys h1 h2 ih =>
    have k1 := List.pairwise_cons.mp hx
    have k2 := List.pairwise_cons.mp hy
    obtain ⟨a1, a2, a3⟩ := ih hx (k2.2.sublist (dw_sub y ys))
    refine ⟨a1, a2, fun z => ?_⟩
    rw [a3]
    by_cases c : (x :: xs).count z = 0
    · rw [tm_zero c, tm_zero c]
    · have hz : z ∈ x :: xs := List.count_pos_iff.mp (by omega)
      have hxz : x ≤ z := by
        rcases List.mem_cons.mp hz with rfl | q
        · exact Int.le_refl _
        · exact k1.1 z q
      refine tm_same rfl (dw_mem (by omega)) ⟨fun ⟨v, hv, q⟩ => ⟨v, .tail _ ((dw_sub y ys).subset hv), q⟩, fun ⟨v, hv, q⟩ => ⟨v, (dw_mem (by omega)).mpr hv, q⟩⟩
  | case3 x xs y ys h1 h2 ih =>
    have k1 := List.pairwise_cons.mp hx
    have k2 := List.pairwise_cons.mp hy
    have hxy : x = y := by omega
    subst hxy
    obtain ⟨a1, a2, a3⟩ := ih (k1.2.sublist (dw_sub x xs)) (k2.2.sublist (dw_sub x ys))
    refine ⟨a1, fun z hz => .tail _ ((dw_sub x xs).subset (a2 z hz)), fun z => ?_⟩
    rw [a3]
    by_cases e : z = x
    · subst e
      rw [tm_zero (List.count_eq_zero.mpr (dw_no hx))]
      unfold tm
      rw [if_pos (.head _)]
    · by_cases c : (x :: xs).count z = 0
      · rw [tm_zero c, tm_zero (by rw [dw_count e]; rw [List.count_cons_of_ne (fun q => e q.symm)] at c; exact c)]
      · have hz : z ∈ x :: xs := List.count_pos_iff.mp (by omega)
        have hxz : x ≤ z := by
          rcases List.mem_cons.mp hz with rfl | q
          · exact Int.le_refl _
          · exact k1.1 z q
        refine tm_same (by rw [dw_count e, List.count_cons_of_ne (fun q => e q.symm)]) (dw_mem e) ⟨fun ⟨v, hv, q⟩ => ⟨v, .tail _ ((dw_sub x ys).subset hv), q⟩, fun ⟨v, hv, q⟩ => ⟨v, (dw_mem (by omega)).mpr hv, q⟩⟩
  | case4 xs ys h =>
    refine ⟨hx, fun z hz => hz, fun z => ?_⟩
    cases xs with
    | nil => rw [tm_zero rfl]; rfl
    | cons a r =>
      cases ys with
      | nil => unfold tm; simp
      | cons b q => exact absurd rfl (h a r b q rfl)
end Mine
end
section
open PySem PySem.W PyProof.Rows PySem.Calls PySem.Spec
set_option maxRecDepth 100000
set_option maxHeartbeats 4000000
namespace Mine

theorem any_mem {p : List Int} {x : Int} : (p.any (· == x)) = true ↔ x ∈ p := by
  rw [List.any_eq_true]
  exact ⟨fun ⟨y, h, e⟩ => eq_of_beq e ▸ h, fun h => ⟨x, h, by simp⟩⟩

theorem idx_sorted : ∀ {q : List Int} {x : Int}, q.Pairwise (· ≤ ·) → x ∈ q → q.idxOf x = (q.filter fun y => decide (y < x)).length
  | a :: r, x, h, hm => by
    have h1 := List.pairwise_cons.mp h
    by_cases e : a = x
    · subst e
      rw [List.idxOf_cons_self, List.filter_cons, if_neg (by simp)]
      symm
      rw [List.length_eq_zero_iff, List.filter_eq_nil_iff]
      intro y hy
      have := h1.1 y hy
      simp; omega
    · have hr : x ∈ r := by
        rcases List.mem_cons.mp hm with q | q
        · exact absurd q.symm e
        · exact q
      have hlt : a < x := by have := h1.1 x hr; omega
      rw [List.idxOf_cons, show (a == x) = false from by simpa using e, cond_false, List.filter_cons, if_pos (by simpa using hlt), List.length_cons, idx_sorted h1.2 hr]

theorem times_tm {here there xs ys : List Int} {x : Int} (hx : xs.Perm here) (hy : ys.Perm there) (hm : x ∈ here) : tm xs ys x = timesL here there x := by
  unfold tm timesL
  have e1 : x ∈ ys ↔ (there.any (· == x)) = true := by rw [any_mem]; exact hy.mem_iff
  have e2 : (∃ y ∈ ys, x < y) ↔ (!(there.filter fun y => decide (x < y)).isEmpty) = true := by
    constructor
    · rintro ⟨y, h1, h2⟩
      have : y ∈ there.filter fun y => decide (x < y) := List.mem_filter.mpr ⟨hy.mem_iff.mp h1, by simpa using h2⟩
      cases q : there.filter fun y => decide (x < y) with
      | nil => rw [q] at this; cases this
      | cons a r => rfl
    · intro h
      cases q : there.filter fun y => decide (x < y) with
      | nil => rw [q] at h; cases h
      | cons a r =>
        have : a ∈ there.filter fun y => decide (x < y) := by rw [q]; exact .head _
        have := List.mem_filter.mp this
        exact ⟨a, hy.mem_iff.mpr this.1, by simpa using this.2⟩
  have e3 : xs.count x = (here.filter (· == x)).length := by rw [hx.count_eq, List.count_eq_length_filter]
  have e4 : 0 < xs.count x := List.count_pos_iff.mpr (hx.mem_iff.mpr hm)
  simp only [e1, e2]
  split
  · rfl
  · split
    · omega
    · exact e3

def pf (here there : List Int) (p : List Int) (x : Int) : List Int := if (!(p.any (· == x))) = true then p ++ List.replicate (timesL here there x) x else p
theorem parts_count (here there : List Int) (z : Int) : ∀ (xs p : List Int), (xs.foldl (pf here there) p).count z = if z ∈ p then p.count z else if z ∈ xs then timesL here there z else 0
  | [], p => by
    by_cases h : z ∈ p
    · simp [h]
    · simp [h, List.count_eq_zero.mpr h]
  | a :: r, p => by
    rw [List.foldl_cons, parts_count here there z r]
    by_cases ha : a ∈ p
    · have e : pf here there p a = p := by unfold pf; rw [if_neg (by simp [any_mem.mpr ha])]
      rw [e]
      by_cases hz : z ∈ p
      · simp only [hz, if_true]
      · have : z ≠ a := fun q => hz (q ▸ ha)
        simp only [hz, if_false, List.mem_cons, this, false_or]
    · have e : pf here there p a = p ++ List.replicate (timesL here there a) a := by
        unfold pf
        rw [if_pos]
        cases q : p.any (· == a) with
        | true => exact absurd (any_mem.mp q) ha
        | false => rfl
      rw [e]
      by_cases hz : z = a
      · subst hz
        have hc : (p ++ List.replicate (timesL here there z) z).count z = timesL here there z := by
          rw [List.count_append, List.count_eq_zero.mpr ha, List.count_replicate_self, Nat.zero_add]
        have hm2 : z ∈ z :: r := .head _
        simp only [if_neg ha, if_pos hm2]
        by_cases h0 : timesL here there z = 0
        · rw [h0]
          simp [ha]
        · rw [if_pos (List.count_pos_iff.mp (by rw [hc]; omega)), hc]
      · have hm : z ∈ p ++ List.replicate (timesL here there a) a ↔ z ∈ p := by simp [hz]
        have hc : (p ++ List.replicate (timesL here there a) a).count z = p.count z := by
          rw [List.count_append, List.count_replicate]
          have : (a == z) = false := by simpa using fun q : a = z => hz q.symm
          simp [this]
        simp only [hm, hc, List.mem_cons, hz, false_or]
end Mine
end
section
open PySem PySem.W PyProof.Rows PySem.Calls PySem.Spec
set_option maxRecDepth 100000
set_option maxHeartbeats 4000000
namespace Mine

theorem len_of_count : ∀ (p h : List Int), (∀ z, p.count z ≤ h.count z) → p.length ≤ h.length
  | [], _, _ => Nat.zero_le _
  | a :: r, h, k => by
    have ha : a ∈ h := List.count_pos_iff.mp (by have := k a; rw [List.count_cons_self] at this; omega)
    have hp := List.perm_cons_erase ha
    have := len_of_count r (h.erase a) fun z => by
      have := k z
      rw [hp.count_eq, List.count_cons, List.count_cons] at this
      omega
    rw [hp.length_eq, List.length_cons, List.length_cons]
    omega

theorem times_le {h t : List Int} {z : Int} (hm : z ∈ h) : timesL h t z ≤ h.count z := by
  have e4 : 0 < h.count z := List.count_pos_iff.mpr hm
  rw [List.count_eq_length_filter] at e4 ⊢
  unfold timesL
  split
  · omega
  · split
    · omega
    · exact Nat.le_refl _

theorem parts_len (h t : List Int) (i : Nat) : (partsW h t (h.take i)).length ≤ h.length := by
  refine len_of_count _ _ fun z => ?_
  have := parts_count h t z (h.take i) []
  rw [if_neg (by simp)] at this
  show ((h.take i).foldl (pf h t) []).count z ≤ _
  rw [this]
  split
  · rename_i q
    exact times_le (List.mem_of_mem_take q)
  · exact Nat.zero_le _

theorem sl_parts (h t : List Int) : (sl (offL h) (offL t)).1 = sortI (partsW h t h) := by
  obtain ⟨a1, a2⟩ := off_sorted h
  obtain ⟨b1, b2⟩ := off_sorted t
  obtain ⟨c1, c2, c3⟩ := sl_spec _ _ a2 b2
  refine eq_sortI ?_ c1
  rw [List.perm_iff_count]
  intro z
  rw [c3]
  show _ = (h.foldl (pf h t) []).count z
  rw [parts_count, if_neg (by simp)]
  split
  · rename_i q
    exact times_tm a1 b1 q
  · rename_i q
    exact tm_zero (by rw [a1.count_eq]; exact List.count_eq_zero.mpr q)

theorem row_same (h t : List Int) : rowD h (sl (offL h) (offL t)).1 (offL t) (offL h) = rowU h t := by
  obtain ⟨a1, a2⟩ := off_sorted h
  obtain ⟨b1, b2⟩ := off_sorted t
  obtain ⟨c1, c2, c3⟩ := sl_spec _ _ a2 b2
  unfold rowD rowU
  refine List.map_congr_left fun x hx => ?_
  have e1 : (sl (offL h) (offL t)).1.count x = timesL h t x := by rw [c3]; exact times_tm a1 b1 hx
  have e2 : ((offL t).any (· == x)) = (t.any (· == x)) := by rw [Bool.eq_iff_iff, any_mem, any_mem]; exact b1.mem_iff
  have e3 : (offL h).idxOf x = (h.filter fun y => decide (y < x)).length := by rw [idx_sorted a2 (a1.mem_iff.mpr hx)]; exact (a1.filter _).length_eq
  rw [e1, e2, e3]

/-- the plain law -/
theorem told_due (left right : List Int) : toldL left right = dueL left right := by
  unfold toldL dueL
  rw [sld_sl]
  simp only [List.drop_zero, List.nil_append]
  rw [sl_swap, sl_parts left right, sl_parts right left, ← sl_parts left right, row_same left right, ← sl_parts right left, row_same right left, sl_parts, sl_parts]
theorem off_mem (ns : List Int) : ∀ x ∈ ns, x ∈ offL ns := fun _ hx => (off_sorted ns).1.mem_iff.mpr hx
end Mine
end
section
open PySem PySem.W PyProof.Rows PySem.Calls PySem.Spec
set_option maxRecDepth 100000
set_option maxHeartbeats 4000000
namespace Mine

/-- the script's ints have the tokens t, t + 1, .. -/
def valsFrom : Nat → List Int → List Value
  | _, [] => []
  | t, n :: ns => .int n t :: valsFrom (t + 1) ns
theorem lay_exact {R : WRecords} {cl : Str → Option Addr} {P : Params} {ord : List DictEntry → List DictEntry} : ∀ (ns : List Int) (s : Shared) (r : List Value × Shared), layAllW R cl P ord (ofPys (ns.map PyData.int)) s = some r → r.1 = valsFrom s.toks ns ∧ r.2 = { s with toks := s.toks + ns.length }
  | [], s, r, e => by
    have : layAllW R cl P ord (ofPys (List.map PyData.int [])) s = some ([], s) := by simp [ofPys, layAllW]
    rw [this] at e
    cases e; exact ⟨rfl, rfl⟩
  | n :: ns, s, r, e => by
    simp only [List.map_cons, ofPys, ofPy, layAllW, layW] at e
    cases q : layAllW R cl P ord (ofPys (List.map PyData.int ns)) { s with toks := s.toks + 1 } with
    | none => rw [q] at e; cases e
    | some r' =>
      rw [q] at e
      cases e
      have z := lay_exact ns { s with toks := s.toks + 1 } r' q
      refine ⟨by rw [valsFrom, ← z.1], ?_⟩
      show r'.2 = _
      rw [z.2, List.length_cons, show s.toks + (ns.length + 1) = s.toks + 1 + ns.length by omega]
theorem script_vals {R : WRecords} {w : World} {s₀ s₁ : Shared} {ns : List Int} {a : Addr} {as : List Addr} (L : Laid R w s₀ s₁ [ofPy (PyData.list (ns.map PyData.int))] [.ref a] as) :
    s₁.heap.IsList a (valsFrom s₀.toks ns).toArray ∧ s₁.toks = s₀.toks + ns.length := by
  obtain ⟨ord, _, e⟩ := L.laid
  simp only [ofPy, layAllW, layW] at e
  cases q : layAllW R (classAt s₀.heap) w.params ord (ofPys (List.map PyData.int ns)) s₀ with
  | none => rw [q] at e; cases e
  | some r =>
    rw [q] at e
    have hh := lay_exact ns s₀ r q
    simp only [Option.some.injEq, Prod.mk.injEq, List.cons.injEq, Value.ref.injEq] at e
    obtain ⟨⟨ea, _⟩, es⟩ := e
    rw [← es, ← ea, hh.2, hh.1]
    exact ⟨⟨_, Heap.get?_push_size _ rfl, rfl, _, rfl⟩, rfl⟩
end Mine
end
section
open PySem PySem.W PyProof.Rows PySem.Calls PySem.Spec
set_option maxRecDepth 100000
set_option maxHeartbeats 4000000
namespace Mine
section
variable {w : World} {A : Around} {env fenv : Env} {d : Nat} {s : Shared} {E : Value → Shared → Prop}
/-- the first call, from outside -/
theorem enterTop {f : Addr} {vals : List Value} {name qual : Str} {params : Arguments} {body : List Stmt} {scope : Scope} {dV kV doc pm cdv ct oc : Value} {an od : Option Addr} {osl : Array (Option Value)} {binds : List (Str × Value)}
    {Q : Value → Shared → Prop} {mean : ExcName → Option Value} {mg mb : Str → Option Value} (T : TopM mean mg mb s.heap) (X : (Kf w).In s.heap) (hh : A.handled = none) (hdep : A.depth + (d + 1) < recursionLimit) (hun : A.units + 8 * (d + 1) < cLine)
    (ho : (Kf w).lookup f = some ⟨oc, od, .func (fnOf name qual params body scope dV kV doc pm an cdv ct), osl⟩) (hcd : codeIn (Kf w) cdv qual = true)
    (hbind : bindArgs (fnOf name qual params body scope dV kV doc pm an cdv ct) ⟨vals, []⟩ = pure binds) (hloc : ∀ y ∈ binds, scope.names.lookup y.1 = some .local)
    (h : ∀ L' h₁, Cx w (A.deeper (envOf qual scope L' f cdv)) (envOf qual scope L' f cdv) s.heap L' d → (∀ tv, St s.heap L' ⟨s, tv⟩ { s with heap := h₁, toks := s.toks + binds.length } binds.reverse []) →
      wpAny (M w) (A.deeper (envOf qual scope L' f cdv)) (execs body (envOf qual scope L' f cdv))
        (fun fl s₁ => Q (match fl with | .ret v => v | _ => .none) s₁) (fun _ _ => False) { s with heap := h₁, toks := s.toks + binds.length })
    (hco : scope.isCoroutine = false := by rfl) (hgen : scope.isGenerator = false := by rfl) (hk : scope.kind = .function := by rfl)
    (hcell : ∀ x ∈ scope.names, x.2 ≠ .cell := by decide) : wpAny (M w) A (call (.ref f) vals) Q E s := by
  refine wpAny_call (codeAny_call_def (fd := fnOf name qual params body scope dV kV doc pm an cdv ct) (body := body) (binds := binds) (by omega) (X _ _ ho) rfl T.nolimit (codeRec_of X hcd) rfl (BindsTo.of_eq hbind) hcell hloc (fun h₁ hns hk₁ => ?_) hco hgen hk)
  refine wpAny_mono (h s.heap.objs.size h₁ ⟨⟨mean, mg, mb, T⟩, X, rfl, rfl, hk, rfl, rfl, hh, by show A.depth + 1 + d < _; omega, by show A.units + 3 + 8 * d < _; omega⟩ fun tv => ?_) (fun fl s₁ hfl => hfl) fun _ _ x => x.elim
  exact ⟨⟨_, ⟨hns, hk₁, Nat.le_refl _⟩, fun x v e => lk_rev e⟩, fun _ hc => (nomatch hc), List.Pairwise.nil, ⟨_, _, rfl⟩⟩
end
end Mine
end
section
open PySem PySem.W PyProof.Rows PySem.Calls PySem.Spec
set_option maxRecDepth 100000
set_option maxHeartbeats 4000000
namespace Mine
theorem vf_len : ∀ (ns : List Int) (t : Nat), (valsFrom t ns).length = ns.length
  | [], _ => rfl
  | _ :: r, t => by rw [valsFrom, List.length_cons, vf_len r, List.length_cons]
theorem vf_ints : ∀ (ns : List Int) (t : Nat), IntsAre (valsFrom t ns) ns
  | [], _ => .nil
  | n :: r, t => .cons n t (vf_ints r (t + 1))
theorem vf_mem : ∀ {ns : List Int} {t u : Nat} {n : Int}, Value.int n u ∈ valsFrom t ns → t ≤ u ∧ u < t + ns.length ∧ ns[u - t]? = some n
  | [], _, _, _, h => nomatch h
  | m :: r, t, u, n, h => by
    rw [valsFrom] at h
    rcases List.mem_cons.mp h with h | h
    · cases h
      exact ⟨Nat.le_refl _, by simp, by simp⟩
    · obtain ⟨h1, h2, h3⟩ := vf_mem h
      refine ⟨by omega, by rw [List.length_cons]; omega, ?_⟩
      rw [show u - t = (u - (t + 1)) + 1 by omega, List.getElem?_cons_succ]
      exact h3

section
variable {w : World} {A : Around} {env : Env} {g : Heap} {L : Addr} {d : Nat} {s0 : Base} {s : Shared} {ps : List (Str × Value)} {cs : List (Addr × Ob)} {E : Value → Shared → Prop}

def litE (c : Int × Pos) : PySem.Expr := .Constant (.int c.1) 0 c.2
theorem args_lits {pos : Pos} : ∀ (ls : List (Int × Pos)) (s : Shared) (Q : List Value → Shared → Prop), Q (valsFrom s.toks (ls.map (·.1))) { s with toks := s.toks + ls.length } →
    wpAny (M w) A (spliced (backTo pos (starEach (ls.map litE) env))) Q E s
  | [], s, Q, h => args_nil h
  | c :: r, s, Q, h => by
    refine args_cons (e := litE c) (wpAny_Constant_int (args_lits r _ _ ?_)) rfl
    have e : s.toks + 1 + r.length = s.toks + (c :: r).length := by rw [List.length_cons]; omega
    show Q _ { s with toks := s.toks + 1 + r.length }
    rw [e]
    exact h
theorem St.retv {sh : Shared} {tv tv' : Tok → Int} (S : St g L ⟨sh, tv⟩ s ps cs) (h : ∀ c ∈ cs, ∃ vs, c.2 = .list vs) : St g L ⟨sh, tv'⟩ s ps cs := by
  refine ⟨S.fr, fun c hc => ?_, S.nd, S.sh⟩
  obtain ⟨o, h1, h2, h3⟩ := S.led c hc
  obtain ⟨vs, e⟩ := h c hc
  refine ⟨o, h1, ?_, h3⟩
  rw [e] at h2 ⊢
  exact h2

theorem elits {p1 : Pos} {ls : List (Int × Pos)} {Q : Value → Shared → Prop} (S : St g L s0 s ps cs) (hM : ls.length ≤ 100)
    (h : ∀ D s', St g L s0 s' ps ((D, .list (valsFrom s.toks (ls.map (·.1)))) :: cs) → s'.toks = s.toks + ls.length → Q (.ref D) s') : wpAny (M w) A (eval (.List (ls.map litE) p1) env) Q E s := by
  refine List_ (args_lits ls s _ (wpAny_newObj_type ?_ (by show (valsFrom _ _).toArray.size ≤ sizeLine; rw [List.size_toArray, vf_len, List.length_map, sizeLine_eq]; omega)))
  exact h _ _ ((S.toks (s.toks + ls.length)).push (b := .list (valsFrom s.toks (ls.map (·.1)))) (o := { cls := .type "list", data := .seq (valsFrom s.toks (ls.map (·.1))).toArray }) ⟨0, rfl⟩) rfl
theorem epart {lo : Option PySem.Expr} {a : Option Int} {Q : Value → Shared → Prop} (S : St g L s0 s ps cs) (hlo : (lo = none ∧ a = none) ∨ ∃ k p, lo = some (.Constant (.int k) 0 p) ∧ a = some k)
    (h : ∀ v s', IsPart v a → St g L s0 s' ps cs → s.toks ≤ s'.toks → Q v s') : wpAny (M w) A (evalPart lo env) Q E s := by
  rcases hlo with ⟨rfl, rfl⟩ | ⟨k, p, rfl, rfl⟩
  · exact evalPart_none_step (h _ _ .none S (Nat.le_refl _))
  · exact evalPart_some_step (wpAny_Constant_int (h _ _ (.int k _) (S.toks _) (Nat.le_succ _)))
theorem eslice {x : Str} {p2 p5 p6 : Pos} {lo hi st : Option PySem.Expr} {a b c : Option Int} {l : Addr} {us : List Value} {Q : Value → Shared → Prop} (S : St g L s0 s ps cs)
    (h1 : (lo = none ∧ a = none) ∨ ∃ k p, lo = some (.Constant (.int k) 0 p) ∧ a = some k) (h2 : (hi = none ∧ b = none) ∨ ∃ k p, hi = some (.Constant (.int k) 0 p) ∧ b = some k) (h3 : (st = none ∧ c = none) ∨ ∃ k p, st = some (.Constant (.int k) 0 p) ∧ c = some k)
    (h0 : c ≠ some 0) (hv : lk x ps = some (.ref l)) (hl : g.IsList l us.toArray) (hN : us.length ≤ 100)
    (h : ∀ D s', St g L s0 s' ps ((D, .list (slicePick us.toArray a b c).toList) :: cs) → s.toks ≤ s'.toks → Q (.ref D) s')
    (hs : ∀ n, subscripted (.Slice lo hi st p5) false (.ref l) (.ref n) = operate [.ref l, .ref n] (getItem (.ref l) (.ref n)) := by intro _; with_unfolding_all rfl)
    (hloc : env.locals = L := by rfl) (hk : env.scope.kind = .function := by rfl) (hx2 : env.kindOf x = some .local := by rfl) (hd : (x == ("__debug__" : Str)) = false := by decide) :
    wpAny (M w) A (eval (.Subscript (.Name x p2) (.Slice lo hi st p5) p6) env) Q E s := by
  obtain ⟨m, F, km⟩ := S.fr
  refine Subscript_ (wpAny_Name (wpAny_loadName_local hk hx2 (hloc ▸ F.ns) (km _ _ hv) ?_) hd)
  refine wpAny_Slice (epart S h1 fun va s2 pa S2 k2 => epart S2 h2 fun vb s3 pb S3 k3 => epart S3 h3 fun vc s4 pc S4 k4 => ?_)
  obtain ⟨m, F, km⟩ := S4.fr
  obtain ⟨news, N, kn⟩ := S4.news
  have hl4 : s4.heap.IsList l us.toArray := by
    obtain ⟨o, ho, q⟩ := hl
    exact ⟨o, F.keep _ _ ho, q⟩
  refine slice_list3 F N hl4 pa pb pc h0 (fun h' F' N' => h _ _ (S4.newOf km kn F' N' (fun c hc q => ?_) ⟨0, ?_⟩) (Nat.le_trans k2 (Nat.le_trans k3 k4))) (hs _) (by intro _; with_unfolding_all rfl) (by rw [List.size_toArray, sizeLine_eq]; omega)
  · have := S4.lt hc
    rw [q] at this
    exact absurd this (Nat.not_lt.mpr (Nat.le_succ _))
  · simp [W.listOf]
theorem eadd {a b : Addr} {us vs : List Value} {Q : Value → Shared → Prop} (S : St g L s0 s ps cs) (h1 : (a, Ob.list us) ∈ cs) (h2 : (b, Ob.list vs) ∈ cs) (hN : us.length ≤ 100) (hM : vs.length ≤ 100)
    (h : ∀ D s', St g L s0 s' ps ((D, .list (us ++ vs)) :: cs) → s'.toks = s.toks → Q (.ref D) s') : wpAny (M w) A (binaryOp .Add (.ref a) (.ref b)) Q E s := by
  obtain ⟨m, F, km⟩ := S.fr
  obtain ⟨news, N, kn⟩ := S.news
  refine add_lists F N (S.isList h1) (S.isList h2) (fun h' F' N' => h _ _ (S.newOf km kn F' N' (fun c hc q => ?_) ⟨0, rfl⟩) rfl) (by rw [sizeLine_eq]; omega)
  have := S.lt hc
  rw [q] at this
  exact absurd this (Nat.lt_irrefl _)
theorem xstoreT {x : Str} {v : Value} {Q : Unit → Shared → Prop} (S : St g L s0 s ps cs) (h : ∀ s', St g L s0 s' (upd x v ps) cs → s'.toks = s.toks + 1 → Q () s')
    (hl : env.locals = L := by rfl) (hk : env.scope.kind = .function := by rfl) (hx : env.kindOf x = some .local := by rfl) : wpAny (M w) A (storeName env x v) Q E s := by
  obtain ⟨m, F, k⟩ := S.fr
  refine wpAny_storeName_local hx (hl ▸ F.ns) (fun h' hn hs => h _ ?_ rfl) (by rw [hk]; rfl)
  rw [hl] at hn hs
  refine ⟨⟨_, F.set hn hs, fun y u e => ?_⟩, fun c hc => ?_, S.nd, let ⟨_, _, e⟩ := S.sh; ⟨_, _, by rw [e]⟩⟩
  · rw [lk_upd] at e
    by_cases q : y = x
    · rw [if_pos q] at e ⊢; exact e
    · rw [if_neg q] at e ⊢; exact k _ _ e
  · obtain ⟨o, k1, k2, k3, k4⟩ := S.led c hc
    exact ⟨o, (hs.2 _ k3).trans k1, k2, k3, k4⟩

/-- x = [literals] + script[lo:10:2] -/
theorem xhalf {x y : Str} {px p1 p2 p5 p6 p7 pos : Pos} {ls : List (Int × Pos)} {es : List PySem.Expr} {lo hi st : Option PySem.Expr} {a b c : Option Int} {l : Addr} {us : List Value} {Q : Flow → Shared → Prop} (he : ls.map litE = es) (S : St g L s0 s ps cs)
    (h1 : (lo = none ∧ a = none) ∨ ∃ k p, lo = some (.Constant (.int k) 0 p) ∧ a = some k) (h2 : (hi = none ∧ b = none) ∨ ∃ k p, hi = some (.Constant (.int k) 0 p) ∧ b = some k) (h3 : (st = none ∧ c = none) ∨ ∃ k p, st = some (.Constant (.int k) 0 p) ∧ c = some k)
    (h0 : c ≠ some 0) (hv : lk y ps = some (.ref l)) (hl : g.IsList l us.toArray) (hN : us.length ≤ 100) (hM : ls.length ≤ 100)
    (h : ∀ D s', St g L s0 s' (upd x (.ref D) ps) ((D, .list (valsFrom s.toks (ls.map (·.1)) ++ (slicePick us.toArray a b c).toList)) :: cs) → s.toks + ls.length ≤ s'.toks → Q .next s')
    (hsw : swapsWith (.BinOp (.List es p1) .Add (.Subscript (.Name y p2) (.Slice lo hi st p5) p6) p7) (some (.Name x px)) pos.line env = pure false := by rfl)
    (hs : ∀ n, subscripted (.Slice lo hi st p5) false (.ref l) (.ref n) = operate [.ref l, .ref n] (getItem (.ref l) (.ref n)) := by intro _; with_unfolding_all rfl)
    (hloc : env.locals = L := by rfl) (hk : env.scope.kind = .function := by rfl) (hx : env.kindOf x = some .local := by rfl) (hx2 : env.kindOf y = some .local := by rfl) (hd : (y == ("__debug__" : Str)) = false := by decide) :
    wpAny (M w) A (exec (.Assign [.Name x px] (.BinOp (.List es p1) .Add (.Subscript (.Name y p2) (.Slice lo hi st p5) p6) p7) pos) env) Q E s := by
  subst he
  refine wpAny_Assign_Name (wpAny_BinOp (elits S hM fun D1 s1 S1 k1 => eslice S1 h1 h2 h3 h0 hv hl hN (fun D2 s2 S2 k2 => ?_) hs hloc hk hx2 hd)) hsw
  refine eadd S2 (.tail _ (.head _)) (.head _) (by rw [vf_len, List.length_map]; exact hM) ?_ fun D s3 S3 k3 => xstoreT (S3.sub ((List.sublist_append_right [_, _] cs).cons_cons _)) (fun s4 S4 k4 => h D s4 S4 (by omega)) hloc hk hx
  have := slicePick_size_le us.toArray a b c
  simp only [List.size_toArray, Array.length_toList] at this ⊢
  omega
end
end Mine
end
section
open PySem PySem.W PyProof.Rows PySem.Calls PySem.Spec
set_option maxRecDepth 100000
set_option maxHeartbeats 4000000
namespace Mine
theorem pick_ten (ns : List Int) (a : Option Int) : (pickNums ns a (some 10) (some 2)).length ≤ 10 := by
  unfold pickNums
  refine Nat.le_trans (List.length_filterMap_le _ _) (sliceRange_length_le _ _ _ 10 (fun hc => ?_) fun hc => ?_)
  · simp only [sliceBounds] at hc ⊢
    simp only [hc, if_true]
    constructor
    · cases a with
      | none => simp
      | some i => dsimp only; omega
    · omega
  · exact absurd (show (2 : Int) > 0 by decide) hc
theorem pick_sub {us : List Value} {a b c : Option Int} : ∀ v ∈ (slicePick us.toArray a b c).toList, v ∈ us := by
  intro v hv
  unfold slicePick at hv
  simp only [List.mem_filterMap] at hv
  obtain ⟨j, _, hj⟩ := hv
  have := Array.mem_of_getElem? hj
  simpa using this
def tvOf (t0 T U : Nat) (ns ls rs : List Int) (t : Tok) : Int := if t < T then ns.getD (t - t0) 0 else if t < U then ls.getD (t - T) 0 else rs.getD (t - U) 0
section
variable {sh : Shared} {t0 T U : Nat} {ns ls rs : List Int}
theorem tv_script (h0 : 0 < t0) (h1 : t0 + ns.length ≤ T) (t : Nat) (n : Int) (k1 : t0 ≤ t) (k2 : t < t0 + ns.length) (k3 : ns[t - t0]? = some n) : t ≠ 0 ∧ tvOf t0 T U ns ls rs t = n := by
  refine ⟨by omega, ?_⟩
  unfold tvOf
  rw [if_pos (show t < T by omega), List.getD_eq_getElem?_getD, k3]
  rfl
theorem tv_left (h0 : 0 < T) (h1 : T + ls.length ≤ U) (t : Nat) (n : Int) (k1 : T ≤ t) (k2 : t < T + ls.length) (k3 : ls[t - T]? = some n) : t ≠ 0 ∧ tvOf t0 T U ns ls rs t = n := by
  refine ⟨by omega, ?_⟩
  unfold tvOf
  rw [if_neg (show ¬ t < T by omega), if_pos (show t < U by omega), List.getD_eq_getElem?_getD, k3]
  rfl
theorem tv_right (h0 : 0 < T) (h1 : T ≤ U) (t : Nat) (n : Int) (k1 : U ≤ t) (k3 : rs[t - U]? = some n) : t ≠ 0 ∧ tvOf t0 T U ns ls rs t = n := by
  refine ⟨by omega, ?_⟩
  unfold tvOf
  rw [if_neg (show ¬ t < T by omega), if_neg (show ¬ t < U by omega), List.getD_eq_getElem?_getD, k3]
  rfl
theorem nz_script (h0 : 0 < t0) (h1 : t0 + ns.length ≤ T) : NZs ⟨sh, tvOf t0 T U ns ls rs⟩ (valsFrom t0 ns) := by
  intro n t hm
  obtain ⟨k1, k2, k3⟩ := vf_mem hm
  exact tv_script h0 h1 t n k1 k2 k3
theorem nz_left (h0 : 0 < T) (h1 : T + ls.length ≤ U) : NZs ⟨sh, tvOf t0 T U ns ls rs⟩ (valsFrom T ls) := by
  intro n t hm
  obtain ⟨k1, k2, k3⟩ := vf_mem hm
  exact tv_left h0 h1 t n k1 k2 k3
theorem nz_right (h0 : 0 < T) (h1 : T ≤ U) : NZs ⟨sh, tvOf t0 T U ns ls rs⟩ (valsFrom U rs) := by
  intro n t hm
  obtain ⟨k1, k2, k3⟩ := vf_mem hm
  exact tv_right h0 h1 t n k1 k3
end
theorem sh_due (l r : List Int) : Sh 3 (.list (dueL l r)) := by
  have hr : ∀ h t : List Int, Sh 2 (.list (rowU h t)) := by
    intro h t
    refine Sh.list fun x hx => ?_
    obtain ⟨n, _, rfl⟩ := List.mem_map.mp hx
    refine Sh.tup fun y hy => ?_
    simp only [List.mem_cons, List.not_mem_nil, or_false] at hy
    rcases hy with rfl | rfl | rfl
    · exact Sh.int
    · exact Sh.bool
    · exact Sh.int
  refine Sh.list fun x hx => ?_
  simp only [dueL, List.mem_cons, List.not_mem_nil, or_false] at hx
  rcases hx with rfl | rfl | rfl | rfl
  · exact hr _ _
  · exact Sh.ints.up (by decide)
  · exact hr _ _
  · exact Sh.ints.up (by decide)
end Mine
end
section
open PySem PySem.W PyProof.Rows PySem.Calls PySem.Spec
set_option maxRecDepth 100000
set_option maxHeartbeats 4000000
namespace Mine
def leftL (ns : List Int) : List Int := [7, 3, 5, 3, 9, 9, 1, 7] ++ pickNums ns none (some 10) (some 2)
def rightL (ns : List Int) : List Int := [5, 1, 3, 8, 1] ++ pickNums ns (some 1) (some 10) (some 2)
section
variable {w : World} {s : Shared} {E : Value → Shared → Prop}
theorem c_law {ns : List Int} {t0 : Nat} {Q : Value → Shared → Prop} {mean : ExcName → Option Value} {mg mb : Str → Option Value} (T : TopM mean mg mb s.heap) (X : (Kf w).In s.heap)
    (hl : s.heap.IsList 93 (valsFrom t0 ns).toArray) (ht : s.toks = t0 + ns.length) (h0 : 0 < t0) (hN : ns.length ≤ 63)
    (h : ∀ m L' s', Fr s.heap L' s'.heap m → s'.gens = s.gens → s'.os = s.os → Q (.bool true) s') : wpAny (M w) callerA (call (.ref 92) [.ref 93]) Q E s := by
  refine enterTop (d := 20) (binds := [(Str.ofString "script", .ref 93)]) T X (by rfl) (by decide) (by decide) (f := 92) (by rfl) (by rfl) (by rfl) (by decide) fun L' h₁ C' S' => ?_
  replace S' := S' fun _ => 0
  obtain ⟨s1, hs1, ht1⟩ : ∃ s1 : Shared, s1 = { s with heap := h₁, toks := s.toks + [(Str.ofString "script", Value.ref 93)].length } ∧ s1.toks = s.toks + 1 := ⟨_, rfl, rfl⟩
  rw [← hs1] at S' ⊢
  clear hs1
  refine wpAny_execs_cons (xhalf (ls := [(7, _), (3, _), (5, _), (3, _), (9, _), (9, _), (1, _), (7, _)]) rfl S' (.inl ⟨rfl, rfl⟩) (.inr ⟨10, _, rfl, rfl⟩) (.inr ⟨2, _, rfl, rfl⟩) (by decide) rfl hl (by rw [vf_len]; omega) (by decide) fun D1 s2 S2 k2 => ?_)
  refine wpAny_execs_cons (xhalf (ls := [(5, _), (1, _), (3, _), (8, _), (1, _)]) rfl S2 (.inr ⟨1, _, rfl, rfl⟩) (.inr ⟨10, _, rfl, rfl⟩) (.inr ⟨2, _, rfl, rfl⟩) (by decide) rfl hl (by rw [vf_len]; omega) (by decide) fun D2 s3 S3 k3 => ?_)
  have hN1 : (leftL ns).length ≤ 18 := by have := pick_ten ns none; simp only [leftL, List.length_append, List.length_cons, List.length_nil]; omega
  have hN2 : (rightL ns).length ≤ 15 := by have := pick_ten ns (some 1); simp only [rightL, List.length_append, List.length_cons, List.length_nil]; omega
  have hp1 : 0 < (leftL ns).length := by simp [leftL]
  have hp2 : 0 < (rightL ns).length := by simp [rightL]
  have i1 : IntsAre (valsFrom s1.toks [7, 3, 5, 3, 9, 9, 1, 7] ++ (slicePick (valsFrom t0 ns).toArray none (some 10) (some 2)).toList) (leftL ns) := IA_append (vf_ints _ _) ((vf_ints ns t0).pick none (some 10) (some 2))
  have i2 : IntsAre (valsFrom s2.toks [5, 1, 3, 8, 1] ++ (slicePick (valsFrom t0 ns).toArray (some 1) (some 10) (some 2)).toList) (rightL ns) := IA_append (vf_ints _ _) ((vf_ints ns t0).pick (some 1) (some 10) (some 2))
  have k2' : s1.toks + 8 ≤ s2.toks := k2
  have z0 : NZs ⟨s, tvOf t0 s1.toks s2.toks ns [7, 3, 5, 3, 9, 9, 1, 7] [5, 1, 3, 8, 1]⟩ (valsFrom t0 ns) := nz_script h0 (by omega)
  have z1 : NZs ⟨s, tvOf t0 s1.toks s2.toks ns [7, 3, 5, 3, 9, 9, 1, 7] [5, 1, 3, 8, 1]⟩ (valsFrom s1.toks [7, 3, 5, 3, 9, 9, 1, 7]) := nz_left (by omega) k2'
  have z2 : NZs ⟨s, tvOf t0 s1.toks s2.toks ns [7, 3, 5, 3, 9, 9, 1, 7] [5, 1, 3, 8, 1]⟩ (valsFrom s2.toks [5, 1, 3, 8, 1]) := nz_right (by omega) (by omega)
  replace S3 := S3.retv (tv' := tvOf t0 s1.toks s2.toks ns [7, 3, 5, 3, 9, 9, 1, 7] [5, 1, 3, 8, 1]) (by
    intro c hc
    simp only [List.mem_cons, List.not_mem_nil, or_false] at hc
    rcases hc with rfl | rfl
    · exact ⟨_, rfl⟩
    · exact ⟨_, rfl⟩)
  replace S3 := S3.toInts i2 (NZ_append z2 (NZ_sub z0 pick_sub))
  replace S3 := S3.swap.toInts i1 (NZ_append z1 (NZ_sub z0 pick_sub))
  replace S3 := S3.subs (qs := [(Str.ofString "left", .ref D1), (Str.ofString "right", .ref D2)]) ⟨rfl, rfl, trivial⟩
  generalize leftL ns = left at *
  generalize rightL ns = right at *
  generalize hs0 : (Base.mk s (tvOf t0 s1.toks s2.toks ns [7, 3, 5, 3, 9, 9, 1, 7] [5, 1, 3, 8, 1])) = s0 at S3
  have hsh : s0.sh = s := by rw [← hs0]
  have hq1 : ∀ i, (partsW left right (left.take i)).length < 64 := fun i => by have := parts_len left right i; omega
  have hq2 : ∀ i, (partsW right left (right.take i)).length < 64 := fun i => by have := parts_len right left i; omega
  clear i1 i2 z0 z1 z2 hs0 k2 k3 k2' S' S2 ht1
  refine wpAny_execs_cons (wpAny_Return_some (wpAny_Compare1 (callF2 C' S3 (gnm C') (by rfl) (by rfl) nm nm fun _ _ s4 S4 => ?_)))
  refine c_told (d := 15) C' S4 ⟨[], rfl, fun _ he => nomatch he⟩ hp1 hp2 (by omega) (by omega) (off_mem left) (off_mem right) fun tA tc s5 S5 r5 => ?_
  replace S5 := S5.perm (cs' := (D1, .il left) :: (D2, .il right) :: tc) (List.perm_append_comm (l₁ := [_, _]))
  refine callF2 C' S5 (gnm C') (by rfl) (by rfl) nm nm fun _ _ s6 S6 => ?_
  refine c_due (d := 11) C' S6 (by omega) (by omega) hq1 hq2 fun tB tc2 s7 S7 r7 => ?_
  obtain ⟨as, rA⟩ := S7.rd r5 fun c hc => List.mem_append_right _ (.tail _ (.tail _ hc))
  obtain ⟨bs, rB⟩ := S7.rd r7 fun c hc => List.mem_append_left _ hc
  rw [told_due] at rA
  have e : PyData.eqv (.list (dueL left right)) (.list (dueL left right)) = true := PySem.SeqAt.eqv_refl _ (sh_due left right).1
  refine SeqAt.compareEq_shaped rA rB ((sh_due left right).ed (by decide)) ((sh_due left right).ed (by decide)) (C'.un64 (d := 12)) ?_
  rw [e]
  obtain ⟨m, F, _⟩ := S7.fr
  obtain ⟨hh, tk, es⟩ := S7.sh
  rw [hsh] at es
  exact h m L' s7 F (by rw [es]) (by rw [es])
end
end Mine
end
section
open PySem PySem.W PyProof.Rows PySem.Calls PySem.Spec
set_option maxRecDepth 100000
set_option maxHeartbeats 4000000
namespace Mine
def SubIn (h : Heap) : Frag → Prop
  | [] => True
  | p :: r => h.get? p.1 = some p.2 ∧ SubIn h r
theorem in_of_sub {h : Heap} : ∀ {K : Frag}, SubIn h K → K.In h
  | [], _, _, _, e => by cases e
  | p :: r, hs, a, o, e => by
    rw [List.lookup_cons] at e
    cases q : (a == p.1) with
    | true =>
      rw [q] at e
      cases e
      rw [eq_of_beq q]
      exact hs.1
    | false =>
      rw [q] at e
      exact in_of_sub hs.2 a o e
end Mine
end
open PySem PySem.W PySem.W.X PySem.W.ZRun PyProof.Rows PySem.Calls PySem.Spec
set_option maxRecDepth 100000
set_option maxHeartbeats 8000000
theorem PySem.Challenge.cw_ny0107_01_holds : PySem.Challenge.rw_ny0107_01.Holds := by
  w_on; o_law; z_head; (case hw => w_witness2)
  k_fill
  intro w s₀ s₁ mg mb G y fa o pm cd doc dV kV ho hd hcd hD hmg hg args vals as L hpre hlay hrd hwl hlo
  z_open y L KX ZH ZN ZT
  refine Ground.open G ?_
  intro T B D TE TW
  wrow_args hpre hlay hrd hwl hlo
  obtain ⟨hat, hsz⟩ := script_at L
  rw [ZN] at hat hsz
  subst hat
  x_fa T KX hmg
  obtain ⟨hl, htk⟩ := Mine.script_vals L
  clear hd hD hmg ho G y B D TE TW ZH
  have hX : (Mine.Kf w).In s₁.heap := by
    refine Mine.in_of_sub ?_
    unfold Mine.Kf Mine.hd.heap_39
    repeat refine ⟨KX _ _ (by rfl), ?_⟩
    exact trivial
  have hT : Mine.TopM (ExcName.means s₀.heap) mg mb s₁.heap := T
  refine Mine.c_law hT hX hl htk (by rw [ZT]; decide) (by omega) fun m L' s' F hgens hos => ?_
  refine GoodW.toG (goodW_bool F (hgens.trans hg) ?_ ?_ hos)
  · skip
    exact raisesW_false (by wrow_none_raised)
  · exact postW_of rfl (by first | wtm_val | with_unfolding_all rfl) (by first | rfl | with_unfolding_all rfl | decide)
