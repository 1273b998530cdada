import PyProof.Rows.All
import Wide.All
import OpenK.AllK
import Wide.FinOn
import PyProof.GenObj
import PyProof.ListNew
import Lean
import PySem.Challenge.RW_co0044_01
open PySem PySem.W PyProof.Rows
set_option Elab.async false

section
open PySem PySem.W PyProof.Rows
set_option maxRecDepth 100000
set_option maxHeartbeats 8000000
namespace Mine
open_top hd for PySem.Challenge.rw_co0044_01
end Mine
end

section
open PySem PySem.W PySem.Calls PyProof.Rows
set_option maxRecDepth 100000
set_option maxHeartbeats 8000000
namespace Mine

/-- every object of the one heap stands in the other -/
abbrev Sub (h h' : Heap) : Prop := ∀ b o, h.get? b = some o → h'.get? b = some o
/-- the same but for one address -/
abbrev SubBut (a : Addr) (h h' : Heap) : Prop := ∀ b o, b ≠ a → h.get? b = some o → h'.get? b = some o

/-- the ground: what stands from the start -/
structure Gnd (w : World) (loose : List Str) (mean : ExcName → Option Value) (mg mb : Str → Option Value) (h₀ : Heap) : Prop where
  X : (hd.heap_39 w.params).In h₀
  T : Top hd.view_39 loose mean mg mb h₀
theorem Gnd.keeps {w loose mean mg mb h₀ h} (G : Gnd w loose mean mg mb h₀) (k : Sub h₀ h) : Gnd w loose mean mg mb h := ⟨G.X.keeps k, G.T.keeps k⟩

theorem enter {w : World} {loose : List Str} {mean : ExcName → Option Value} {mg mb : Str → Option Value} {A : Around} {s : Shared} {h₀ : Heap} {news : List (Addr × Obj)}
    {R : Result → Shared → Prop} {name qual : Str} {params : Arguments} {body : List Stmt} {scope : Scope} {dV kV doc pm cdv ct oc : Value} {an od : Option Addr} {osl : Array (Option Value)} {f : Addr} {args : Args} {binds : List (Str × Value)}
    (G : Gnd w loose mean mg mb h₀) (k : Sub h₀ s.heap) (hN : ∀ p ∈ news, s.heap.get? p.1 = some p.2 ∧ h₀.get? p.1 = none)
    (ho : (hd.heap_39 w.params).lookup f = some ⟨oc, od, .func (fnOf name qual params body scope dV kV doc pm an cdv ct), osl⟩) (hcd : codeIn (hd.heap_39 w.params) cdv qual = true) (hroom : A.depth < recursionLimit)
    (hbind : BindsTo s (fnOf name qual params body scope dV kV doc pm an cdv ct) args binds) (hloc : ∀ y ∈ binds, scope.names.lookup y.1 = some .local)
    (h : ∀ g L' h₁, L' = s.heap.objs.size → Sub h₀ g → Sub g s.heap → (∀ b o, b ∉ news.map (·.1) → s.heap.get? b = some o → g.get? b = some o) → Fr g L' h₁ (fun y => binds.reverse.lookup y) → News g L' h₁ news →
      (hd.heap_39 w.params).In g → Top hd.view_39 loose mean mg mb g →
      wpAny (model PySem.Challenge.rw_co0044_01.row.toRowW.prog w) (A.deeper (envOf qual scope L' f cdv)) (execs body (envOf qual scope L' f cdv))
        (fun fl s' => R (.ok (.ret (match fl with | .ret v => v | _ => .none))) s') (fun _ _ => False) { s with heap := h₁, toks := s.toks + binds.length })
    (hco : scope.isCoroutine = false) (hgen : scope.isGenerator = false) (hk : scope.kind = .function)
    (hcell : ∀ x ∈ scope.names, x.2 ≠ .cell) : codeAny (model PySem.Challenge.rw_co0044_01.row.toRowW.prog w) A (.call (.ref f) args) R s := by
  have G₁ := G.keeps k
  refine codeAny_call_def (fd := fnOf name qual params body scope dV kV doc pm an cdv ct) (body := body) (binds := binds) hroom (G₁.X _ _ ho) rfl G₁.T.nolimit (codeRec_of G₁.X hcd) rfl hbind hcell hloc (fun h₁ hns hk₁ => ?_) hco hgen hk
  have nm : ∀ b o, h₀.get? b = some o → b ∉ news.map (·.1) := fun b o e q => by
    obtain ⟨p, hp, rfl⟩ := List.mem_map.mp q
    rw [(hN p hp).2] at e; cases e
  have st : Sub h₀ (hideAll s.heap (news.map (·.1))) := fun b o e => hideAll_get _ (k b o e) (nm b o e)
  refine wpAny_mono (h _ s.heap.objs.size h₁ rfl st (fun b o e => of_hideAll _ e) (fun b o hb e => hideAll_get _ e hb)
    ⟨hns, fun b o e => hk₁ b o (of_hideAll _ e), Nat.le_of_eq (hideAll_size _ _)⟩ (fun p hp => ⟨hk₁ _ _ (hN p hp).1, Nat.ne_of_lt (Heap.lt_size (hN p hp).1), hideAll_none _ (List.mem_map_of_mem hp)⟩)
    (G.keeps st).X (G.keeps st).T) (fun fl s' hl => hl) fun _ _ x => x.elim

end Mine
end

section
open PySem PySem.W PySem.Calls PyProof.Rows
set_option maxRecDepth 100000
set_option maxHeartbeats 8000000
namespace Mine
abbrev stOf (aL : Addr) (i c : Int) (t1 t2 : Tok) (n : Nat) : Obj := W.listOf #[.ref aL, .int i t1, .int c t2] n

theorem next_code {w : World} {loose : List Str} {mean : ExcName → Option Value} {mg mb : Str → Option Value} {A : Around} {s : Shared} {h₀ : Heap}
    {aS aL : Addr} {vs : List Value} {ns : List Int} {n nL : Nat} {i c many : Int} {t1 t2 t3 : Tok} {R : Result → Shared → Prop}
    (G : Gnd w loose mean mg mb h₀) (k : Sub h₀ s.heap) (hS : s.heap.get? aS = some (stOf aL i c t1 t2 n)) (hS0 : h₀.get? aS = none) (hL : s.heap.get? aL = some (W.listOf vs.toArray nL)) (hne : aL ≠ aS) (hroom : A.depth < 600)
    (hI : IntsAre vs ns) (h0 : 0 ≤ i) (hc0 : 0 ≤ c) (hc : c < 2147483647) (hm0 : 0 < many) (hm : many < 100) (hlen : vs.length ≤ 1000)
    (h : ∀ h' tk i' c' v t1' t2' t3', SubBut aS s.heap h' → h'.get? aS = some (stOf aL i' c' t1' t2' n) → 0 ≤ i' → 0 ≤ c' → c' < 2147483647 → 0 ≤ v → v < many → R (.ok (.ret (.int v t3'))) { s with heap := h', toks := tk }) :
    codeAny (model PySem.Challenge.rw_co0044_01.row.toRowW.prog w) A (.call (.ref 101) ⟨[.ref aS, .int many t3], []⟩) R s := by
  have XG := G.X
  revert XG
  k_fill
  intro XG
  refine' enter (news := [(aS, stOf aL i c t1 t2 n)]) (binds := [(Str.ofString "state", .ref aS), (Str.ofString "many", .int many t3)]) G k ?N ?k6 ?k7 ?k8 ?k9 ?kB ?_ ?c2 ?c3 ?c4 ?c5
  case N => intro p hp; rcases List.mem_singleton.mp hp with rfl; exact ⟨hS, hS0⟩
  case k6 => k_is
  case k7 => k_is
  case k8 => exact Nat.lt_trans hroom (by decide)
  case k9 => exact BindsTo.of_eq rfl
  case c5 => decide
  case kB => exact locs rfl
  case c2 => exact rfl
  case c3 => exact rfl
  case c4 => exact rfl
  intro g L' h₁ _ kg kg' kg'' F' N' X' T'
  have lL : g.IsList aL vs.toArray := ⟨_, kg'' _ _ (by simpa using hne) hL, rfl, nL, rfl⟩
  have hlen' : ns.length ≤ 1000 := by have := hI.length; omega
  (try dsimp only)

  k_unmd
  k_fold
  all_goals (repeat' walk1)

  all_goals (try simp only [])
  · rename Fr g L' _ _ => FE
    rename News g L' _ _ => NE
    exact h _ _ _ _ _ _ _ _ (fun b o hb e => FE.keep _ _ (kg'' b o (by simpa using hb) e)) (NE _ (.head _)).1 (by omega) (fmod_lo _ (by decide)) (fmod_hi _ (by decide)) (fmod_lo _ hm0) (fmod_hi _ hm0)
  · rename Fr g L' _ _ => FE
    rename News g L' _ _ => NE
    exact h _ _ _ _ _ _ _ _ (fun b o hb e => FE.keep _ _ (kg'' b o (by simpa using hb) e)) (NE _ (.head _)).1 h0 (fmod_lo _ (by decide)) (fmod_hi _ (by decide)) (fmod_lo _ hm0) (fmod_hi _ hm0)
end Mine
end

section
open PySem PySem.W PySem.Calls PyProof.Rows
set_option maxRecDepth 100000
set_option maxHeartbeats 8000000
namespace Mine

/-- the script's list, the state's address -/
structure Scr (h₀ h : Heap) (aS aL : Addr) (vs : List Value) (ns : List Int) (nL : Nat) : Prop where
  k : Sub h₀ h
  hS0 : h₀.get? aS = none
  hL : h.get? aL = some (W.listOf vs.toArray nL)
  hne : aL ≠ aS
  hI : IntsAre vs ns
  hlen : vs.length ≤ 1000
theorem Scr.to {h₀ h h' : Heap} {aS aL : Addr} {vs : List Value} {ns : List Int} {nL : Nat} (S : Scr h₀ h aS aL vs ns nL) (k : SubBut aS h h') : Scr h₀ h' aS aL vs ns nL :=
  ⟨fun b o e => k b o (fun q => by rw [q, S.hS0] at e; cases e) (S.k b o e), S.hS0, k _ _ S.hne S.hL, S.hne, S.hI, S.hlen⟩

theorem frAfter {g h h' : Heap} {L aS : Addr} {m : Str → Option Value} (F : Fr g L h m) (hs : SubBut aS h h') (h0 : g.get? aS = none) (hL : aS ≠ L) : Fr g L h' m :=
  ⟨F.ns.extBut hs (Ne.symm hL), fun b o e => hs b o (fun q => by rw [q, h0] at e; cases e) (F.keep b o e), F.above⟩
theorem newsAfter {g h h' : Heap} {L aS : Addr} {o : Obj} {news : List (Addr × Obj)} {nf : Obj → List (Addr × Obj)} (N : News g L h news) (U : UpdF aS o news nf) (hs : SubBut aS h h') {o' : Obj} (hg : h'.get? aS = some o') : News g L h' (nf o') := by
  obtain ⟨pre, post, rfl, hf, a, b⟩ := U.split
  rw [hf o']
  intro p hp
  rcases List.mem_append.mp hp with q | q
  · have P := N p (List.mem_append_left _ q); exact ⟨hs _ _ (a p q) P.1, P.2⟩
  · rcases List.mem_cons.mp q with rfl | q
    · have P := N (aS, o) (List.mem_append_right _ (.head _)); exact ⟨hg, P.2⟩
    · have P := N p (List.mem_append_right _ (.tail _ q)); exact ⟨hs _ _ (b p q) P.1, P.2⟩

theorem next_K {w : World} {loose : List Str} {mean : ExcName → Option Value} {mg mb : Str → Option Value} {A : Around} {s : Shared} {h₀ g : Heap} {L : Addr} {m : Str → Option Value} {news : List (Addr × Obj)} {nf : Obj → List (Addr × Obj)}
    {aS aL : Addr} {vs : List Value} {ns : List Int} {n nL : Nat} {i c many : Int} {t1 t2 t3 : Tok} {Q : Value → Shared → Prop} {E : Value → Shared → Prop}
    (G : Gnd w loose mean mg mb h₀) (S : Scr h₀ g aS aL vs ns nL) (F : Fr g L s.heap m) (N : News g L s.heap news) (U : UpdF aS (stOf aL i c t1 t2 n) news nf) (hroom : A.depth < 600)
    (h0 : 0 ≤ i) (hc0 : 0 ≤ c) (hc : c < 2147483647) (hm0 : 0 < many) (hm : many < 100)
    (h : ∀ h' tk i' c' v t1' t2' t3', Fr g L h' m → News g L h' (nf (stOf aL i' c' t1' t2' n)) → 0 ≤ i' → 0 ≤ c' → c' < 2147483647 → 0 ≤ v → v < many → Q (.int v t3') { s with heap := h', toks := tk }) :
    wpAny (model PySem.Challenge.rw_co0044_01.row.toRowW.prog w) A (call (.ref 101) [.ref aS, .int many t3] []) Q E s := by
  have D := U.split
  obtain ⟨pre, post, hn, hf, a, b⟩ := D
  have P := N (aS, stOf aL i c t1 t2 n) (by rw [hn]; exact List.mem_append_right _ (.head _))
  refine wpAny_call (next_code G (fun b o e => F.keep b o (S.k b o e)) P.1 S.hS0 (F.keep _ _ S.hL) S.hne hroom S.hI h0 hc0 hc hm0 hm S.hlen ?_)
  intro h' tk i' c' v t1' t2' t3' hs hg b1 b2 b3 b4 b5
  exact h h' tk i' c' v t1' t2' t3' (frAfter F hs P.2.2 P.2.1) (newsAfter N U hs hg) b1 b2 b3 b4 b5

structure Pc where
  kind : Int
  word : Str
  what : Str

abbrev tupOf (vs : List Value) : Obj := { cls := .type "tuple", data := .seq vs.toArray }
/-- the value is the piece's tuple, as the ledger has it -/
def PcIn (T : List (Addr × Obj)) (v : Value) (p : Pc) : Prop := ∃ t t1 t2 t3, v = .ref t ∧ (t, tupOf [.int p.kind t1, .str p.word t2, .str p.what t3]) ∈ T
inductive PcsIn (T : List (Addr × Obj)) : List Value → List Pc → Prop
  | nil : PcsIn T [] []
  | cons {v p vs ps} : PcIn T v p → PcsIn T vs ps → PcsIn T (v :: vs) (p :: ps)
theorem PcIn.mono {T T' : List (Addr × Obj)} {v p} (h : PcIn T v p) (k : ∀ q ∈ T, q ∈ T') : PcIn T' v p := let ⟨t, a, b, c, e, m⟩ := h; ⟨t, a, b, c, e, k _ m⟩
theorem PcsIn.mono {T T' : List (Addr × Obj)} {vs ps} (h : PcsIn T vs ps) (k : ∀ q ∈ T, q ∈ T') : PcsIn T' vs ps := by
  induction h with
  | nil => exact .nil
  | cons a _ ih => exact .cons (a.mono k) ih
theorem PcsIn.append {T : List (Addr × Obj)} {vs ps vs' ps'} (h : PcsIn T vs ps) (h' : PcsIn T vs' ps') : PcsIn T (vs ++ vs') (ps ++ ps') := by
  induction h with
  | nil => exact h'
  | cons a _ ih => exact .cons a ih
theorem PcsIn.length {T : List (Addr × Obj)} {vs ps} (h : PcsIn T vs ps) : vs.length = ps.length := by
  induction h with
  | nil => rfl
  | cons _ _ ih => simp [ih]

def either : List Str := ["+", "-", "*", "/", "**", "%", "|", ">>", "@", "//", "<<", "^", "&"]
def both : List Str := ["==", "<", "!=", "and", "in", ">", "<=", ">=", "or", "is"]
def named : List Str := ["and", "in", "or", "is"]
def opPc (w : Str) : Pc := ⟨if w ∈ named then 1 else 54, w, if w ∈ both then "both" else "either"⟩
abbrev pAb : Pc := ⟨1, "ab", ""⟩
abbrev pTen : Pc := ⟨2, "10", ""⟩
abbrev pC : Pc := ⟨1, "c", ""⟩
abbrev pSign (x : Str) : Pc := ⟨54, x, "sign"⟩
abbrev pOp (x : Str) : Pc := ⟨54, x, ""⟩
abbrev pNm (x : Str) : Pc := ⟨1, x, ""⟩
abbrev pTw : Pc := ⟨2, "2", ""⟩
abbrev pKq : Pc := ⟨3, "'k'", ""⟩
abbrev pComma (x : Str) : Pc := ⟨54, x, "comma"⟩
abbrev pWord : Pc := ⟨54, "=", "word"⟩
abbrev pSlice : Pc := ⟨54, ":", "slice"⟩
abbrev pLast : Pc := ⟨54, ",", "last"⟩
inductive TermP (S : List Pc → Prop) : List Pc → Prop
  | ab : TermP S [pAb]
  | ten : TermP S [pTen]
  | sign (x : Str) : x = "-" ∨ x = "+" → TermP S [pSign x, pC]
  | paren (q) : S q → TermP S ([pOp "("] ++ q ++ [pOp ")"])
  | call (q r) : S q → S r → TermP S ([pNm "f", pOp "("] ++ q ++ [pComma ",", pNm "k", pWord] ++ r ++ [pOp ")"])
  | slice (q) : S q → TermP S ([pNm "d", pOp "["] ++ q ++ [pSlice, pTw, pOp "]"])
  | list (q) : S q → TermP S ([pOp "["] ++ q ++ [pLast, pOp "]"])
  | tuple (q) : S q → TermP S ([pOp "("] ++ q ++ [pLast, pOp ")"])
  | dict (q) : S q → TermP S ([pOp "{", pKq, pComma ":"] ++ q ++ [pOp "}"])
inductive SumP (T : List Pc → Prop) : Nat → List Pc → Prop
  | base {p} : T p → SumP T 0 p
  | step {n p w q} : SumP T n p → w ∈ either ++ both → T q → SumP T (n + 1) (p ++ [opPc w] ++ q)
def IsTerm : Nat → List Pc → Prop
  | 0 => TermP fun _ => False
  | d + 1 => TermP fun q => ∃ n, n ≤ 2 ∧ SumP (IsTerm d) n q
def IsSum (d : Nat) (q : List Pc) : Prop := ∃ n, n ≤ 2 ∧ SumP (IsTerm d) n q

theorem SumP.len {T : List Pc → Prop} {k : Nat} (hT : ∀ q, T q → q.length ≤ k) : ∀ {n p}, SumP T n p → p.length ≤ k * (n + 1) + n := by
  intro n p h
  induction h with
  | base h => have := hT _ h; omega
  | step _ _ h ih =>
    have := hT _ h
    simp only [List.length_append, List.length_cons, List.length_nil]
    rw [Nat.mul_add k _ 1] 
    omega
theorem TermP.len {S : List Pc → Prop} {k : Nat} (hS : ∀ q, S q → q.length ≤ k) : ∀ {p}, TermP S p → p.length ≤ 2 * k + 6 := by
  intro p h
  cases h with
  | ab => simp
  | ten => simp
  | sign => simp
  | paren q h => have := hS _ h; simp; omega
  | call q r h h' => have := hS _ h; have := hS _ h'; simp; omega
  | slice q h => have := hS _ h; simp; omega
  | list q h => have := hS _ h; simp; omega
  | tuple q h => have := hS _ h; simp; omega
  | dict q h => have := hS _ h; simp; omega
theorem sumLen {T : List Pc → Prop} {k : Nat} (hT : ∀ q, T q → q.length ≤ k) {q : List Pc} (h : ∃ n, n ≤ 2 ∧ SumP T n q) : q.length ≤ 3 * k + 2 := by
  obtain ⟨n, hn, h⟩ := h
  have h1 := h.len hT
  have h2 : k * (n + 1) ≤ k * 3 := Nat.mul_le_mul_left k (by omega)
  omega
theorem IsTerm.len0 {p} (h : IsTerm 0 p) : p.length ≤ 6 := TermP.len (k := 0) (fun _ h => h.elim) h
theorem IsTerm.len1 {p} (h : IsTerm 1 p) : p.length ≤ 46 := TermP.len (k := 20) (fun _ h => sumLen (fun _ h => IsTerm.len0 h) h) h
theorem IsTerm.len2 {p} (h : IsTerm 2 p) : p.length ≤ 286 := TermP.len (k := 140) (fun _ h => sumLen (fun _ h => IsTerm.len1 h) h) h
theorem IsTerm.len {d p} (hd : d ≤ 2) (h : IsTerm d p) : p.length ≤ 286 := by
  match d, hd, h with
  | 0, _, h => have := IsTerm.len0 h; omega
  | 1, _, h => have := IsTerm.len1 h; omega
  | 2, _, h => exact IsTerm.len2 h
theorem IsSum.len {d p} (hd : d ≤ 2) (h : IsSum d p) : p.length ≤ 860 := sumLen (fun _ h => IsTerm.len hd h) h

end Mine
end

section
open PySem PySem.W PySem.Calls PyProof.Rows
set_option maxRecDepth 100000
set_option maxHeartbeats 8000000
namespace Mine

structure Res (h h' : Heap) (a : Addr) (vs : List Value) (n : Nat) (T : List (Addr × Obj)) (ps : List Pc) : Prop where
  get : h'.get? a = some (W.listOf vs.toArray n)
  new : h.get? a = none
  tin : ∀ p ∈ T, h'.get? p.1 = some p.2 ∧ h.get? p.1 = none
  pcs : PcsIn T vs ps

/-- what a call of term or sum hands on -/
def Hands (s : Shared) (aS aL : Addr) (n : Nat) (P : List Pc → Prop) (R : Result → Shared → Prop) : Prop :=
  ∀ h' tk i' c' t1' t2' a vs' n' T ps, SubBut aS s.heap h' → h'.get? aS = some (stOf aL i' c' t1' t2' n) → 0 ≤ i' → 0 ≤ c' → c' < 2147483647 → P ps → Res s.heap h' a vs' n' T ps →
    R (.ok (.ret (.ref a))) { s with heap := h', toks := tk }
def Does (w : World) (h₀ : Heap) (aS aL : Addr) (vs : List Value) (ns : List Int) (n nL : Nat) (f : Addr) (d : Nat) (room : Nat) (P : List Pc → Prop) : Prop :=
  ∀ (A : Around) (s : Shared) (i c x : Int) (t1 t2 t3 : Tok) (R : Result → Shared → Prop), Scr h₀ s.heap aS aL vs ns nL → s.heap.get? aS = some (stOf aL i c t1 t2 n) → A.handled = none → A.depth + 2 * d < room → 0 ≤ i → 0 ≤ c → c < 2147483647 → x = (d : Int) →
    Hands s aS aL n P R → codeAny (model PySem.Challenge.rw_co0044_01.row.toRowW.prog w) A (.call (.ref f) ⟨[.ref aS, .int x t3], []⟩) R s

theorem endRes {g h h' : Heap} {L' aS aL a : Addr} {ledger : List (Addr × Obj)} {i c : Int} {t1 t2 : Tok} {n n' : Nat} {vs' : List Value} {ps : List Pc} (N : News g L' h' ledger)
    (kg : ∀ b o, b ≠ aS → h.get? b = some o → g.get? b = some o) (hSt : (aS, stOf aL i c t1 t2 n) ∈ ledger) (ha : (a, W.listOf vs'.toArray n') ∈ ledger) (hne : a ≠ aS) (hp : PcsIn ledger vs' ps) :
    ∃ T, Res h h' a vs' n' T ps := by
  have new : ∀ p ∈ ledger, p.1 ≠ aS → h.get? p.1 = none := fun p hp hn => by
    cases e : h.get? p.1 with
    | none => rfl
    | some o => have := kg _ _ hn e; rw [(N p hp).2.2] at this; cases this
  refine ⟨ledger.filter fun p => decide (p.1 ≠ aS), (N _ ha).1, new _ ha hne, fun p hp => ?_, ?_⟩
  · have := List.mem_filter.mp hp
    exact ⟨(N p this.1).1, new p this.1 (of_decide_eq_true this.2)⟩
  · clear ha
    induction hp with
    | nil => exact .nil
    | cons q _ ih =>
      refine .cons ?_ ih
      obtain ⟨t, u1, u2, u3, e, m⟩ := q
      refine ⟨t, u1, u2, u3, e, List.mem_filter.mpr ⟨m, decide_eq_true fun q => ?_⟩⟩
      have z := (N _ m).1
      have y := (N _ hSt).1
      dsimp only at q z y
      rw [q, y] at z
      have := congrArg (fun o : Option Obj => o.map (·.cls)) z
      simp [tupOf] at this

theorem does_K {w : World} {A : Around} {s : Shared} {h₀ g : Heap} {L : Addr} {m : Str → Option Value} {news : List (Addr × Obj)} {nf : Obj → List (Addr × Obj)}
    {aS aL f : Addr} {vs : List Value} {ns : List Int} {n nL d room : Nat} {P : List Pc → Prop} {i c x : Int} {t1 t2 t3 : Tok} {Q : Value → Shared → Prop} {E : Value → Shared → Prop}
    (D : Does w h₀ aS aL vs ns n nL f d room P) (S : Scr h₀ g aS aL vs ns nL) (F : Fr g L s.heap m) (N : News g L s.heap news) (U : UpdF aS (stOf aL i c t1 t2 n) news nf) (hh : A.handled = none) (hroom : A.depth + 2 * d < room)
    (h0 : 0 ≤ i) (hc0 : 0 ≤ c) (hc : c < 2147483647) (hx : x = (d : Int))
    (h : ∀ h' tk i' c' t1' t2' a vs' n' T ps, Fr g L h' m → News g L h' ((a, W.listOf vs'.toArray n') :: (nf (stOf aL i' c' t1' t2' n) ++ T)) → 0 ≤ i' → 0 ≤ c' → c' < 2147483647 → P ps → PcsIn T vs' ps →
      (∀ p ∈ T, p.1 ≠ aS) → (∀ p ∈ news, p.1 ≠ a) → a ≠ aS → (∀ p ∈ news, ∀ q ∈ T, q.1 ≠ p.1) → Q (.ref a) { s with heap := h', toks := tk }) :
    wpAny (model PySem.Challenge.rw_co0044_01.row.toRowW.prog w) A (call (.ref f) [.ref aS, .int x t3] []) Q E s := by
  obtain ⟨pre, post, hn, hf, a0, b0⟩ := U.split
  have P0 := N (aS, stOf aL i c t1 t2 n) (by rw [hn]; exact List.mem_append_right _ (.head _))
  have S' : Scr h₀ s.heap aS aL vs ns nL := ⟨fun b o e => F.keep _ _ (S.k b o e), S.hS0, F.keep _ _ S.hL, S.hne, S.hI, S.hlen⟩
  refine wpAny_call (D A s i c x t1 t2 t3 _ S' P0.1 hh hroom h0 hc0 hc hx ?_)
  intro h' tk i' c' t1' t2' a vs' n' T ps hs hg b1 b2 b3 hP hr
  have lt : ∀ {b : Addr}, s.heap.get? b = none → b ≠ aS ∧ b ≠ L ∧ g.get? b = none ∧ ∀ p ∈ news, p.1 ≠ b := fun {b} e => by
    refine ⟨fun q => ?_, fun q => ?_, ?_, fun p hp q => ?_⟩
    · rw [q, P0.1] at e; cases e
    · obtain ⟨o, _, _, ho, _⟩ := F.ns; rw [q, ho] at e; cases e
    · cases q : g.get? b with
      | none => rfl
      | some o => rw [F.keep _ _ q] at e; cases e
    · rw [← q, (N p hp).1] at e; cases e
  refine h h' tk i' c' t1' t2' a vs' n' T ps (frAfter F hs P0.2.2 P0.2.1) ?_ b1 b2 b3 hP hr.pcs (fun p hp => (lt (hr.tin p hp).2).1) (lt hr.new).2.2.2 (lt hr.new).1 (fun p hp q hq e => (lt (hr.tin q hq).2).2.2.2 p hp e.symm)
  intro p hp
  rcases List.mem_cons.mp hp with rfl | hp
  · exact ⟨hr.get, (lt hr.new).2.1, (lt hr.new).2.2.1⟩
  · rcases List.mem_append.mp hp with hp | hp
    · exact newsAfter N U hs hg p hp
    · exact ⟨(hr.tin p hp).1, (lt (hr.tin p hp).2).2.1, (lt (hr.tin p hp).2).2.2.1⟩

theorem add_K {prog : Program} {w : World} {A : Around} {s : Shared} {g : Heap} {L : Addr} {m : Str → Option Value} {news : List (Addr × Obj)} {l b : Addr} {vs ws : List Value} {k k2 : Nat} {Q : Value → Shared → Prop} {E : Value → Shared → Prop}
    (F : Fr g L s.heap m) (N : News g L s.heap news) (hl : (l, W.listOf vs.toArray k) ∈ news) (hb : (b, W.listOf ws.toArray k2) ∈ news)
    (h : ∀ D h', Fr g L h' m → News g L h' ((D, W.listOf (vs ++ ws).toArray 0) :: news) → (∀ p ∈ news, p.1 < D) → Q (.ref D) { s with heap := h' }) (hsz : vs.length + ws.length ≤ 100000) :
    wpAny (model prog w) A (binaryOp .Add (.ref l) (.ref b)) Q E s :=
  add_lists F N ⟨_, (N _ hl).1, rfl, k, rfl⟩ ⟨_, (N _ hb).1, rfl, k2, rfl⟩ (fun h' F' N' => h _ h' F' N' fun p hp => Heap.lt_size (N p hp).1) (by rw [sizeLine_eq]; omega)

theorem endHands {g h' : Heap} {s : Shared} {L' aS aL a : Addr} {m : Str → Option Value} {ledger : List (Addr × Obj)} {i c : Int} {t1 t2 : Tok} {n n' tk : Nat} {vs' : List Value} {ps : List Pc} {P : List Pc → Prop} {R : Result → Shared → Prop}
    (hnd : Hands s aS aL n P R) (hP : P ps) (F : Fr g L' h' m) (N : News g L' h' ledger) (kg : ∀ b o, b ≠ aS → s.heap.get? b = some o → g.get? b = some o)
    (hSt : (aS, stOf aL i c t1 t2 n) ∈ ledger) (ha : (a, W.listOf vs'.toArray n') ∈ ledger) (hne : a ≠ aS) (hp : PcsIn ledger vs' ps) (h0 : 0 ≤ i) (hc0 : 0 ≤ c) (hc : c < 2147483647) :
    R (.ok (.ret (.ref a))) { s with heap := h', toks := tk } := by
  obtain ⟨T, hr⟩ := endRes N kg hSt ha hne hp
  exact hnd h' tk i c t1 t2 a vs' n' T ps (fun b o hb e => F.keep _ _ (kg b o hb e)) (N _ hSt).1 h0 hc0 hc hP hr
end Mine
end

section
open PySem PySem.W PySem.Calls PyProof.Rows
set_option maxRecDepth 100000
set_option maxHeartbeats 8000000
namespace Mine

local macro_rules | `(tactic| k_all) => `(tactic| assumption)
local macro_rules | `(tactic| walk_at "binaryOp Add ref ref") => `(tactic| (k_here; (with_reducible show wpAny _ _ (binaryOp _ (Value.ref _) (Value.ref _)) _ _ _); k_dflt (refine' add_K ?F ?N ?l ?b ?_ ?z; (case F => k_asm); (case N => k_asm); (case l => k_mem); (case b => k_mem); (case z => (simp only [List.length_append, List.length_cons, List.length_nil]; omega))); intro D' h' F' N' l1; (try k_lt l1); (try k_sweep)))
local macro_rules | `(tactic| walk_at "ite") => `(tactic| (k_closed; first | ((with_reducible refine' ite_pos ?hc ?_); (case hc => k_dflt decide)) | ((with_reducible refine' ite_neg ?hc ?_); (case hc => k_dflt decide))))

theorem termS {w : World} {loose : List Str} {mean : ExcName → Option Value} {mg mb : Str → Option Value} {h₀ : Heap} {aS aL : Addr} {vs : List Value} {ns : List Int} {n nL d : Nat} {P : List Pc → Prop}
    (G : Gnd w loose mean mg mb h₀) (hd2 : d ≤ 1) (hP : ∀ q, P q → q.length ≤ 1000) (D : Does w h₀ aS aL vs ns n nL 115 d 590 P) : Does w h₀ aS aL vs ns n nL 108 (d + 1) 591 (TermP P) := by
  intro A s i c x t1 t2 t3 R S hS hh hroom h0 hc0 hc hx h
  have hx0 : 0 < x := by omega
  have hx1 : x - 1 = (d : Int) := by omega
  have XG := G.X
  revert XG
  k_fill
  intro XG
  refine' enter (news := [(aS, stOf aL i c t1 t2 n)]) (binds := [(Str.ofString "state", .ref aS), (Str.ofString "deep", .int x t3)]) G S.k ?N ?k6 ?k7 ?k8 ?k9 ?kB ?_ ?c2 ?c3 ?c4 ?c5
  case N => intro p hp; rcases List.mem_singleton.mp hp with rfl; exact ⟨hS, S.hS0⟩
  case k6 => k_is
  case k7 => k_is
  case k8 => exact Nat.lt_of_le_of_lt (show A.depth ≤ 595 by omega) (by decide)
  case k9 => exact BindsTo.of_eq rfl
  case c5 => decide
  case kB => exact locs rfl
  case c2 => exact rfl
  case c3 => exact rfl
  case c4 => exact rfl
  intro g L' h₁ _ kg kg' kg'' F' N' X' T'
  have S' : Scr h₀ g aS aL vs ns nL := ⟨kg, S.hS0, kg'' _ _ (by simpa using S.hne) S.hL, S.hne, S.hI, S.hlen⟩
  have kgb : ∀ b o, b ≠ aS → s.heap.get? b = some o → g.get? b = some o := fun b o hb e => kg'' b o (by simpa using hb) e
  clear kg'' kg'
  (try dsimp only)
  k_unmd
  k_fold
  repeat' walk1
  refine' next_K G S' ?F ?N ?U ?r h0 hc0 hc ?p1 ?p2 ?main
  case F => assumption
  case N => assumption
  case U => k_updF
  case r => (simp only [Around.deeper]; omega)
  case p1 => decide
  case p2 => decide
  case main =>
  intro h' tk i' c' v t1' t2' t3' F1 N1 b1 b2 b3 b4 b5
  dsimp only
  have hv : v = 0 ∨ v = 1 ∨ v = 2 ∨ v = 3 ∨ v = 4 ∨ v = 5 ∨ v = 6 ∨ v = 7 ∨ v = 8 ∨ v = 9 := by omega
  rcases hv with rfl | rfl | rfl | rfl | rfl | rfl | rfl | rfl | rfl | rfl
  · repeat' walk1
    (try k_unmd)
    (try k_unfold)
    dsimp only
    rename Fr g L' _ _ => FE
    rename News g L' _ _ => NE
    refine' endHands h (.ab) FE NE kgb ?e1u1 ?e2u1 ?e3u1 ?e4u1 ?e5u1 ?e6u1 ?e7u1
    case e1u1 => k_mem
    case e2u1 => k_mem
    case e3u1 => k_ne
    case e4u1 => exact .cons ⟨_, _, _, _, rfl, by k_mem⟩ .nil
    all_goals assumption
  · repeat' walk1
    (try k_unmd)
    (try k_unfold)
    dsimp only
    rename Fr g L' _ _ => FE
    rename News g L' _ _ => NE
    refine' endHands h (.ten) FE NE kgb ?e1u2 ?e2u2 ?e3u2 ?e4u2 ?e5u2 ?e6u2 ?e7u2
    case e1u2 => k_mem
    case e2u2 => k_mem
    case e3u2 => k_ne
    case e4u2 => exact .cons ⟨_, _, _, _, rfl, by k_mem⟩ .nil
    all_goals assumption
  · repeat' walk1
    refine' next_K G S' ?Fu3 ?Nu3 ?Uu3 ?ru3 ?z1u3 ?z2u3 ?z3u3 ?p1u3 ?p2u3 ?mainu3
    case Fu3 => assumption
    case Nu3 => assumption
    case Uu3 => k_updF
    case ru3 => (simp only [Around.deeper]; omega)
    case z1u3 => assumption
    case z2u3 => assumption
    case z3u3 => assumption
    case p1u3 => decide
    case p2u3 => decide
    case mainu3 =>
    intro h2 tk2 i2 c2 v2 ta2 tb2 tc2 F2 N2 x1 x2 x3 x4 x5
    dsimp only
    have hv : v2 = 0 ∨ v2 = 1 := by omega
    rcases hv with rfl | rfl
    · repeat' walk1
      (try k_unmd)
      (try k_unfold)
      dsimp only
      rename Fr g L' _ _ => FE
      rename News g L' _ _ => NE
      refine' endHands h (.sign "-" (by decide)) FE NE kgb ?e1u4 ?e2u4 ?e3u4 ?e4u4 ?e5u4 ?e6u4 ?e7u4
      case e1u4 => k_mem
      case e2u4 => k_mem
      case e3u4 => k_ne
      case e4u4 => exact .cons ⟨_, _, _, _, rfl, by k_mem⟩ (.cons ⟨_, _, _, _, rfl, by k_mem⟩ .nil)
      all_goals assumption
    · repeat' walk1
      (try k_unmd)
      (try k_unfold)
      dsimp only
      rename Fr g L' _ _ => FE
      rename News g L' _ _ => NE
      refine' endHands h (.sign "+" (by decide)) FE NE kgb ?e1u5 ?e2u5 ?e3u5 ?e4u5 ?e5u5 ?e6u5 ?e7u5
      case e1u5 => k_mem
      case e2u5 => k_mem
      case e3u5 => k_ne
      case e4u5 => exact .cons ⟨_, _, _, _, rfl, by k_mem⟩ (.cons ⟨_, _, _, _, rfl, by k_mem⟩ .nil)
      all_goals assumption
  · repeat' walk1
    refine' does_K D S' ?Fu6 ?Nu6 ?Uu6 hh ?ru6 ?z1u6 ?z2u6 ?z3u6 hx1 ?mainu6
    case Fu6 => assumption
    case Nu6 => assumption
    case Uu6 => k_updF
    case ru6 => (simp only [Around.deeper]; omega)
    case z1u6 => assumption
    case z2u6 => assumption
    case z3u6 => assumption
    case mainu6 =>
    intro hh1 tk1 i1 c1 ta1 tb1 a1 vs1 n1 T1 ps1 F1 N1 g11 g12 g13 hP1 hq1 of1 o11 o12 o13
    simp only [List.forall_mem_cons, List.mem_append, List.forall_mem_nil, and_true, ne_eq] at o11 o13
    simp only [List.cons_append, List.nil_append] at N1
    have ln1 := hq1.length
    have lm1 := hP _ hP1
    dsimp only
    repeat' walk1
    (try k_unmd)
    (try k_unfold)
    dsimp only
    rename Fr g L' _ _ => FE
    rename News g L' _ _ => NE
    refine' endHands h (.paren _ hP1) FE NE kgb ?e1u7 ?e2u7 ?e3u7 ?e4u7 ?e5u7 ?e6u7 ?e7u7
    case e1u7 => k_mem
    case e2u7 => k_mem
    case e3u7 => k_ne
    case e4u7 => exact PcsIn.append (PcsIn.append (.cons ⟨_, _, _, _, rfl, by k_mem⟩ .nil) (hq1.mono fun q hq => by simp only [List.mem_cons]; simp [hq])) (.cons ⟨_, _, _, _, rfl, by k_mem⟩ .nil)
    all_goals assumption
  · repeat' walk1
    refine' does_K D S' ?Fu8 ?Nu8 ?Uu8 hh ?ru8 ?z1u8 ?z2u8 ?z3u8 hx1 ?mainu8
    case Fu8 => assumption
    case Nu8 => assumption
    case Uu8 => k_updF
    case ru8 => (simp only [Around.deeper]; omega)
    case z1u8 => assumption
    case z2u8 => assumption
    case z3u8 => assumption
    case mainu8 =>
    intro hh1 tk1 i1 c1 ta1 tb1 a1 vs1 n1 T1 ps1 F1 N1 g11 g12 g13 hP1 hq1 of1 o11 o12 o13
    simp only [List.forall_mem_cons, List.mem_append, List.forall_mem_nil, and_true, ne_eq] at o11 o13
    simp only [List.cons_append, List.nil_append] at N1
    have ln1 := hq1.length
    have lm1 := hP _ hP1
    dsimp only
    repeat' walk1
    (try k_unmd)
    (try k_unfold)
    dsimp only
    rename Fr g L' _ _ => FE
    rename News g L' _ _ => NE
    refine' endHands h (.paren _ hP1) FE NE kgb ?e1u9 ?e2u9 ?e3u9 ?e4u9 ?e5u9 ?e6u9 ?e7u9
    case e1u9 => k_mem
    case e2u9 => k_mem
    case e3u9 => k_ne
    case e4u9 => exact PcsIn.append (PcsIn.append (.cons ⟨_, _, _, _, rfl, by k_mem⟩ .nil) (hq1.mono fun q hq => by simp only [List.mem_cons]; simp [hq])) (.cons ⟨_, _, _, _, rfl, by k_mem⟩ .nil)
    all_goals assumption
  · repeat' walk1
    refine' does_K D S' ?Fu10 ?Nu10 ?Uu10 hh ?ru10 ?z1u10 ?z2u10 ?z3u10 hx1 ?mainu10
    case Fu10 => assumption
    case Nu10 => assumption
    case Uu10 => k_updF
    case ru10 => (simp only [Around.deeper]; omega)
    case z1u10 => assumption
    case z2u10 => assumption
    case z3u10 => assumption
    case mainu10 =>
    intro hh1 tk1 i1 c1 ta1 tb1 a1 vs1 n1 T1 ps1 F1 N1 g11 g12 g13 hP1 hq1 of1 o11 o12 o13
    simp only [List.forall_mem_cons, List.mem_append, List.forall_mem_nil, and_true, ne_eq] at o11 o13
    simp only [List.cons_append, List.nil_append] at N1
    have ln1 := hq1.length
    have lm1 := hP _ hP1
    dsimp only
    repeat' walk1
    refine' does_K D S' ?Fu11 ?Nu11 ?Uu11 hh ?ru11 ?z1u11 ?z2u11 ?z3u11 hx1 ?mainu11
    case Fu11 => assumption
    case Nu11 => assumption
    case Uu11 => k_updF
    case ru11 => (simp only [Around.deeper]; omega)
    case z1u11 => assumption
    case z2u11 => assumption
    case z3u11 => assumption
    case mainu11 =>
    intro hh2 tk2 i2 c2 ta2 tb2 a2 vs2 n2 T2 ps2 F2 N2 g21 g22 g23 hP2 hq2 of2 o21 o22 o23
    simp only [List.forall_mem_cons, List.mem_append, List.forall_mem_nil, and_true, ne_eq] at o21 o23
    simp only [List.cons_append, List.nil_append] at N2
    have ln2 := hq2.length
    have lm2 := hP _ hP2
    dsimp only
    repeat' walk1
    (try k_unmd)
    (try k_unfold)
    dsimp only
    rename Fr g L' _ _ => FE
    rename News g L' _ _ => NE
    refine' endHands h (.call _ _ hP1 hP2) FE NE kgb ?e1u12 ?e2u12 ?e3u12 ?e4u12 ?e5u12 ?e6u12 ?e7u12
    case e1u12 => k_mem
    case e2u12 => k_mem
    case e3u12 => k_ne
    case e4u12 => exact (PcsIn.append (PcsIn.append (PcsIn.append (PcsIn.append (.cons ⟨_, _, _, _, rfl, by k_mem⟩ (.cons ⟨_, _, _, _, rfl, by k_mem⟩ .nil)) (hq1.mono fun q hq => by simp only [List.mem_cons]; simp [hq])) (.cons ⟨_, _, _, _, rfl, by k_mem⟩ (.cons ⟨_, _, _, _, rfl, by k_mem⟩ (.cons ⟨_, _, _, _, rfl, by k_mem⟩ .nil)))) (hq2.mono fun q hq => by simp only [List.mem_cons]; simp [hq])) (.cons ⟨_, _, _, _, rfl, by k_mem⟩ .nil))
    all_goals assumption
  · repeat' walk1
    refine' does_K D S' ?Fu13 ?Nu13 ?Uu13 hh ?ru13 ?z1u13 ?z2u13 ?z3u13 hx1 ?mainu13
    case Fu13 => assumption
    case Nu13 => assumption
    case Uu13 => k_updF
    case ru13 => (simp only [Around.deeper]; omega)
    case z1u13 => assumption
    case z2u13 => assumption
    case z3u13 => assumption
    case mainu13 =>
    intro hh1 tk1 i1 c1 ta1 tb1 a1 vs1 n1 T1 ps1 F1 N1 g11 g12 g13 hP1 hq1 of1 o11 o12 o13
    simp only [List.forall_mem_cons, List.mem_append, List.forall_mem_nil, and_true, ne_eq] at o11 o13
    simp only [List.cons_append, List.nil_append] at N1
    have ln1 := hq1.length
    have lm1 := hP _ hP1
    dsimp only
    repeat' walk1
    (try k_unmd)
    (try k_unfold)
    dsimp only
    rename Fr g L' _ _ => FE
    rename News g L' _ _ => NE
    refine' endHands h (.slice _ hP1) FE NE kgb ?e1u14 ?e2u14 ?e3u14 ?e4u14 ?e5u14 ?e6u14 ?e7u14
    case e1u14 => k_mem
    case e2u14 => k_mem
    case e3u14 => k_ne
    case e4u14 => exact (PcsIn.append (PcsIn.append (.cons ⟨_, _, _, _, rfl, by k_mem⟩ (.cons ⟨_, _, _, _, rfl, by k_mem⟩ .nil)) (hq1.mono fun q hq => by simp only [List.mem_cons]; simp [hq])) (.cons ⟨_, _, _, _, rfl, by k_mem⟩ (.cons ⟨_, _, _, _, rfl, by k_mem⟩ (.cons ⟨_, _, _, _, rfl, by k_mem⟩ .nil))))
    all_goals assumption
  · repeat' walk1
    refine' does_K D S' ?Fu15 ?Nu15 ?Uu15 hh ?ru15 ?z1u15 ?z2u15 ?z3u15 hx1 ?mainu15
    case Fu15 => assumption
    case Nu15 => assumption
    case Uu15 => k_updF
    case ru15 => (simp only [Around.deeper]; omega)
    case z1u15 => assumption
    case z2u15 => assumption
    case z3u15 => assumption
    case mainu15 =>
    intro hh1 tk1 i1 c1 ta1 tb1 a1 vs1 n1 T1 ps1 F1 N1 g11 g12 g13 hP1 hq1 of1 o11 o12 o13
    simp only [List.forall_mem_cons, List.mem_append, List.forall_mem_nil, and_true, ne_eq] at o11 o13
    simp only [List.cons_append, List.nil_append] at N1
    have ln1 := hq1.length
    have lm1 := hP _ hP1
    dsimp only
    repeat' walk1
    (try k_unmd)
    (try k_unfold)
    dsimp only
    rename Fr g L' _ _ => FE
    rename News g L' _ _ => NE
    refine' endHands h (.list _ hP1) FE NE kgb ?e1u16 ?e2u16 ?e3u16 ?e4u16 ?e5u16 ?e6u16 ?e7u16
    case e1u16 => k_mem
    case e2u16 => k_mem
    case e3u16 => k_ne
    case e4u16 => exact (PcsIn.append (PcsIn.append (.cons ⟨_, _, _, _, rfl, by k_mem⟩ .nil) (hq1.mono fun q hq => by simp only [List.mem_cons]; simp [hq])) (.cons ⟨_, _, _, _, rfl, by k_mem⟩ (.cons ⟨_, _, _, _, rfl, by k_mem⟩ .nil)))
    all_goals assumption
  · repeat' walk1
    refine' does_K D S' ?Fu17 ?Nu17 ?Uu17 hh ?ru17 ?z1u17 ?z2u17 ?z3u17 hx1 ?mainu17
    case Fu17 => assumption
    case Nu17 => assumption
    case Uu17 => k_updF
    case ru17 => (simp only [Around.deeper]; omega)
    case z1u17 => assumption
    case z2u17 => assumption
    case z3u17 => assumption
    case mainu17 =>
    intro hh1 tk1 i1 c1 ta1 tb1 a1 vs1 n1 T1 ps1 F1 N1 g11 g12 g13 hP1 hq1 of1 o11 o12 o13
    simp only [List.forall_mem_cons, List.mem_append, List.forall_mem_nil, and_true, ne_eq] at o11 o13
    simp only [List.cons_append, List.nil_append] at N1
    have ln1 := hq1.length
    have lm1 := hP _ hP1
    dsimp only
    repeat' walk1
    (try k_unmd)
    (try k_unfold)
    dsimp only
    rename Fr g L' _ _ => FE
    rename News g L' _ _ => NE
    refine' endHands h (.tuple _ hP1) FE NE kgb ?e1u18 ?e2u18 ?e3u18 ?e4u18 ?e5u18 ?e6u18 ?e7u18
    case e1u18 => k_mem
    case e2u18 => k_mem
    case e3u18 => k_ne
    case e4u18 => exact (PcsIn.append (PcsIn.append (.cons ⟨_, _, _, _, rfl, by k_mem⟩ .nil) (hq1.mono fun q hq => by simp only [List.mem_cons]; simp [hq])) (.cons ⟨_, _, _, _, rfl, by k_mem⟩ (.cons ⟨_, _, _, _, rfl, by k_mem⟩ .nil)))
    all_goals assumption
  · repeat' walk1
    refine' does_K D S' ?Fu19 ?Nu19 ?Uu19 hh ?ru19 ?z1u19 ?z2u19 ?z3u19 hx1 ?mainu19
    case Fu19 => assumption
    case Nu19 => assumption
    case Uu19 => k_updF
    case ru19 => (simp only [Around.deeper]; omega)
    case z1u19 => assumption
    case z2u19 => assumption
    case z3u19 => assumption
    case mainu19 =>
    intro hh1 tk1 i1 c1 ta1 tb1 a1 vs1 n1 T1 ps1 F1 N1 g11 g12 g13 hP1 hq1 of1 o11 o12 o13
    simp only [List.forall_mem_cons, List.mem_append, List.forall_mem_nil, and_true, ne_eq] at o11 o13
    simp only [List.cons_append, List.nil_append] at N1
    have ln1 := hq1.length
    have lm1 := hP _ hP1
    dsimp only
    repeat' walk1
    (try k_unmd)
    (try k_unfold)
    dsimp only
    rename Fr g L' _ _ => FE
    rename News g L' _ _ => NE
    refine' endHands h (.dict _ hP1) FE NE kgb ?e1u20 ?e2u20 ?e3u20 ?e4u20 ?e5u20 ?e6u20 ?e7u20
    case e1u20 => k_mem
    case e2u20 => k_mem
    case e3u20 => k_ne
    case e4u20 => exact (PcsIn.append (PcsIn.append (.cons ⟨_, _, _, _, rfl, by k_mem⟩ (.cons ⟨_, _, _, _, rfl, by k_mem⟩ (.cons ⟨_, _, _, _, rfl, by k_mem⟩ .nil))) (hq1.mono fun q hq => by simp only [List.mem_cons]; simp [hq])) (.cons ⟨_, _, _, _, rfl, by k_mem⟩ .nil))
    all_goals assumption
end Mine
end

section
open PySem PySem.W PySem.Calls PyProof.Rows
set_option maxRecDepth 100000
set_option maxHeartbeats 8000000
namespace Mine

local macro_rules | `(tactic| k_all) => `(tactic| assumption)
local macro_rules | `(tactic| walk_at "binaryOp Add ref ref") => `(tactic| (k_here; (with_reducible show wpAny _ _ (binaryOp _ (Value.ref _) (Value.ref _)) _ _ _); k_dflt (refine' add_K ?F ?N ?l ?b ?_ ?z; (case F => k_asm); (case N => k_asm); (case l => k_mem); (case b => k_mem); (case z => (simp only [List.length_append, List.length_cons, List.length_nil]; omega))); intro D' h' F' N' l1; (try k_lt l1); (try k_sweep)))
local macro_rules | `(tactic| walk_at "ite") => `(tactic| (k_closed; first | ((with_reducible refine' ite_pos ?hc ?_); (case hc => k_dflt decide)) | ((with_reducible refine' ite_neg ?hc ?_); (case hc => k_dflt decide))))

theorem termZ {w : World} {loose : List Str} {mean : ExcName → Option Value} {mg mb : Str → Option Value} {h₀ : Heap} {aS aL : Addr} {vs : List Value} {ns : List Int} {n nL : Nat}
    (G : Gnd w loose mean mg mb h₀) : Does w h₀ aS aL vs ns n nL 108 0 591 (TermP fun _ => False) := by
  intro A s i c x t1 t2 t3 R S hS hh hroom h0 hc0 hc hx h
  have hx0 : ¬ 0 < x := by omega
  have XG := G.X
  revert XG
  k_fill
  intro XG
  refine' enter (news := [(aS, stOf aL i c t1 t2 n)]) (binds := [(Str.ofString "state", .ref aS), (Str.ofString "deep", .int x t3)]) G S.k ?N ?k6 ?k7 ?k8 ?k9 ?kB ?_ ?c2 ?c3 ?c4 ?c5
  case N => intro p hp; rcases List.mem_singleton.mp hp with rfl; exact ⟨hS, S.hS0⟩
  case k6 => k_is
  case k7 => k_is
  case k8 => exact Nat.lt_of_le_of_lt (show A.depth ≤ 595 by omega) (by decide)
  case k9 => exact BindsTo.of_eq rfl
  case c5 => decide
  case kB => exact locs rfl
  case c2 => exact rfl
  case c3 => exact rfl
  case c4 => exact rfl
  intro g L' h₁ _ kg kg' kg'' F' N' X' T'
  have S' : Scr h₀ g aS aL vs ns nL := ⟨kg, S.hS0, kg'' _ _ (by simpa using S.hne) S.hL, S.hne, S.hI, S.hlen⟩
  have kgb : ∀ b o, b ≠ aS → s.heap.get? b = some o → g.get? b = some o := fun b o hb e => kg'' b o (by simpa using hb) e
  clear kg'' kg'
  (try dsimp only)
  k_unmd
  k_fold
  repeat' walk1
  refine' next_K G S' ?F ?N ?U ?r h0 hc0 hc ?p1 ?p2 ?main
  case F => assumption
  case N => assumption
  case U => k_updF
  case r => (simp only [Around.deeper]; omega)
  case p1 => decide
  case p2 => decide
  case main =>
  intro h' tk i' c' v t1' t2' t3' F1 N1 b1 b2 b3 b4 b5
  dsimp only
  have hv : v = 0 ∨ v = 1 ∨ v = 2 := by omega
  rcases hv with rfl | rfl | rfl
  · repeat' walk1
    (try k_unmd)
    (try k_unfold)
    dsimp only
    rename Fr g L' _ _ => FE
    rename News g L' _ _ => NE
    refine' endHands h (.ab) FE NE kgb ?e1u1 ?e2u1 ?e3u1 ?e4u1 ?e5u1 ?e6u1 ?e7u1
    case e1u1 => k_mem
    case e2u1 => k_mem
    case e3u1 => k_ne
    case e4u1 => exact .cons ⟨_, _, _, _, rfl, by k_mem⟩ .nil
    all_goals assumption
  · repeat' walk1
    (try k_unmd)
    (try k_unfold)
    dsimp only
    rename Fr g L' _ _ => FE
    rename News g L' _ _ => NE
    refine' endHands h (.ten) FE NE kgb ?e1u2 ?e2u2 ?e3u2 ?e4u2 ?e5u2 ?e6u2 ?e7u2
    case e1u2 => k_mem
    case e2u2 => k_mem
    case e3u2 => k_ne
    case e4u2 => exact .cons ⟨_, _, _, _, rfl, by k_mem⟩ .nil
    all_goals assumption
  · repeat' walk1
    refine' next_K G S' ?Fu3 ?Nu3 ?Uu3 ?ru3 ?z1u3 ?z2u3 ?z3u3 ?p1u3 ?p2u3 ?mainu3
    case Fu3 => assumption
    case Nu3 => assumption
    case Uu3 => k_updF
    case ru3 => (simp only [Around.deeper]; omega)
    case z1u3 => assumption
    case z2u3 => assumption
    case z3u3 => assumption
    case p1u3 => decide
    case p2u3 => decide
    case mainu3 =>
    intro h2 tk2 i2 c2 v2 ta2 tb2 tc2 F2 N2 x1 x2 x3 x4 x5
    dsimp only
    have hv : v2 = 0 ∨ v2 = 1 := by omega
    rcases hv with rfl | rfl
    · repeat' walk1
      (try k_unmd)
      (try k_unfold)
      dsimp only
      rename Fr g L' _ _ => FE
      rename News g L' _ _ => NE
      refine' endHands h (.sign "-" (by decide)) FE NE kgb ?e1u4 ?e2u4 ?e3u4 ?e4u4 ?e5u4 ?e6u4 ?e7u4
      case e1u4 => k_mem
      case e2u4 => k_mem
      case e3u4 => k_ne
      case e4u4 => exact .cons ⟨_, _, _, _, rfl, by k_mem⟩ (.cons ⟨_, _, _, _, rfl, by k_mem⟩ .nil)
      all_goals assumption
    · repeat' walk1
      (try k_unmd)
      (try k_unfold)
      dsimp only
      rename Fr g L' _ _ => FE
      rename News g L' _ _ => NE
      refine' endHands h (.sign "+" (by decide)) FE NE kgb ?e1u5 ?e2u5 ?e3u5 ?e4u5 ?e5u5 ?e6u5 ?e7u5
      case e1u5 => k_mem
      case e2u5 => k_mem
      case e3u5 => k_ne
      case e4u5 => exact .cons ⟨_, _, _, _, rfl, by k_mem⟩ (.cons ⟨_, _, _, _, rfl, by k_mem⟩ .nil)
      all_goals assumption

end Mine
end

section
open PySem PySem.W PySem.Calls PyProof.Rows
set_option maxRecDepth 100000
set_option maxHeartbeats 8000000
namespace Mine
local macro_rules | `(tactic| k_all) => `(tactic| assumption)
local macro_rules | `(tactic| walk_at "binaryOp Add ref ref") => `(tactic| (k_here; (with_reducible show wpAny _ _ (binaryOp _ (Value.ref _) (Value.ref _)) _ _ _); k_dflt (refine' add_K ?F ?N ?l ?b ?_ ?z; (case F => k_asm); (case N => k_asm); (case l => k_mem); (case b => k_mem); (case z => (simp only [List.length_append, List.length_cons, List.length_nil]; omega))); intro D' h' F' N' l1; (try k_lt l1); (try k_sweep)))
local macro_rules | `(tactic| walk_at "ite") => `(tactic| (k_closed; first | ((with_reducible refine' ite_pos ?hc ?_); (case hc => k_dflt decide)) | ((with_reducible refine' ite_neg ?hc ?_); (case hc => k_dflt decide))))

theorem new_of {h g : Heap} (kk : Sub h g) {D : Addr} (e : g.get? D = none) : h.get? D = none := by
  cases q : h.get? D with
  | none => rfl
  | some o => have := kk _ _ q; rw [e] at this; cases this
theorem new_news {g h : Heap} {L D : Addr} {m : Str → Option Value} {news : List (Addr × Obj)} (F : Fr g L h m) (N : News g L h news) (e : h.get? D = none) : D ≠ L ∧ g.get? D = none ∧ ∀ p ∈ news, p.1 ≠ D := by
  refine ⟨fun q => ?_, new_of F.keep e, fun p hp q => ?_⟩
  · obtain ⟨o, _, _, ho, _⟩ := F.ns; rw [q, ho] at e; cases e
  · rw [← q, (N p hp).1] at e; cases e
theorem frSub {g h h' : Heap} {L : Addr} {m : Str → Option Value} (F : Fr g L h m) (hs : Sub h h') : Fr g L h' m := ⟨F.ns.keeps hs, fun b o e => hs _ _ (F.keep _ _ e), F.above⟩
theorem newsSub {g h h' : Heap} {L : Addr} {news : List (Addr × Obj)} (N : News g L h news) (hs : Sub h h') : News g L h' news := fun p hp => ⟨hs _ _ (N p hp).1, (N p hp).2⟩

theorem named_code {w : World} {loose : List Str} {mean : ExcName → Option Value} {mg mb : Str → Option Value} {A : Around} {s : Shared} {h₀ : Heap} {R : Result → Shared → Prop}
    (G : Gnd w loose mean mg mb h₀) (k : Sub h₀ s.heap) (hroom : A.depth < 595)
    (h : ∀ h' tk D ta tb tc td, Sub s.heap h' → s.heap.get? D = none → h'.get? D = some (W.listOf #[.str "and" ta, .str "in" tb, .str "or" tc, .str "is" td] 0) → R (.ok (.ret (.ref D))) { s with heap := h', toks := tk }) :
    codeAny (model PySem.Challenge.rw_co0044_01.row.toRowW.prog w) A (.call (.ref 94) ⟨[], []⟩) R s := by
  have XG := G.X
  revert XG
  k_fill
  intro XG
  refine' enter (news := []) (binds := []) G k ?N ?k6 ?k7 ?k8 ?k9 ?kB ?_ ?c2 ?c3 ?c4 ?c5
  case N => intro p hp; cases hp
  case k6 => k_is
  case k7 => k_is
  case k8 => exact Nat.lt_of_le_of_lt (show A.depth ≤ 595 by omega) (by decide)
  case k9 => exact BindsTo.of_eq rfl
  case c5 => decide
  case kB => exact locs rfl
  case c2 => exact rfl
  case c3 => exact rfl
  case c4 => exact rfl
  intro g L' h₁ _ kg kg' kg'' F' N' X' T'
  (try dsimp only)
  k_unmd
  k_fold
  repeat' walk1
  (try k_unmd)
  (try k_unfold)
  dsimp only
  rename Fr g L' _ _ => FE
  rename News g L' _ _ => NE
  have kk : Sub s.heap g := fun b o e => kg'' b o (by simp) e
  refine h _ _ _ _ _ _ _ (fun b o e => FE.keep _ _ (kk _ _ e)) ?_ (NE _ (by k_mem)).1
  exact new_of kk (NE _ (by k_mem)).2.2

theorem named_K {w : World} {loose : List Str} {mean : ExcName → Option Value} {mg mb : Str → Option Value} {A : Around} {s : Shared} {h₀ g : Heap} {L : Addr} {m : Str → Option Value} {news : List (Addr × Obj)} {Q : Value → Shared → Prop} {E : Value → Shared → Prop}
    (G : Gnd w loose mean mg mb h₀) (k : Sub h₀ g) (F : Fr g L s.heap m) (N : News g L s.heap news) (hroom : A.depth < 595)
    (h : ∀ h' tk D ta tb tc td, Fr g L h' m → News g L h' ((D, W.listOf #[.str "and" ta, .str "in" tb, .str "or" tc, .str "is" td] 0) :: news) → (∀ p ∈ news, p.1 ≠ D) → Q (.ref D) { s with heap := h', toks := tk }) :
    wpAny (model PySem.Challenge.rw_co0044_01.row.toRowW.prog w) A (call (.ref 94) [] []) Q E s := by
  refine wpAny_call (named_code G (fun b o e => F.keep _ _ (k _ _ e)) hroom ?_)
  intro h' tk D ta tb tc td hs hD hg
  have z := new_news F N hD
  refine h h' tk D ta tb tc td (frSub F hs) (fun p hp => ?_) z.2.2
  rcases List.mem_cons.mp hp with rfl | hp
  · exact ⟨hg, z.1, z.2.1⟩
  · exact newsSub N hs p hp
end Mine
end

section
open PySem PySem.W PySem.Calls PyProof.Rows
set_option maxRecDepth 100000
set_option maxHeartbeats 8000000
namespace Mine

abbrev rangeIt (x left : Int) : Obj := { cls := .type "range_iterator", dict := none, data := .fields #[rawInt x, rawInt left, rawInt 1], slots := #[] }

theorem newsBut {g h h' : Heap} {L I : Addr} {news : List (Addr × Obj)} (N : News g L h news) (hI : ∀ p ∈ news, p.1 ≠ I) (hs : Heap.SameBut I h h') : News g L h' news := fun p hp => ⟨(hs.2 _ (hI p hp)).trans (N p hp).1, (N p hp).2⟩
theorem frBut {g h h' : Heap} {L I : Addr} {m : Str → Option Value} (F : Fr g L h m) (hs : Heap.SameBut I h h') (h0 : g.get? I = none) (hL : I ≠ L) : Fr g L h' m := frAfter F (fun b o hb e => (hs.2 b hb).trans e) h0 hL

/-- a turn's end: the frame, the loop's own objects, the ledger -/
def TurnPost (s : Shared) (g : Heap) (L : Addr) (own : List (Addr × Obj)) (J : (Str → Option Value) → List (Addr × Obj) → Prop) (f : Flow) (s₃ : Shared) : Prop :=
  f = .next ∧ ∃ h' tk' m' news', s₃ = { s with heap := h', toks := tk' } ∧ Fr g L h' m' ∧ News g L h' (own ++ news') ∧ (∀ q ∈ own, ∀ p ∈ news', p.1 ≠ q.1) ∧ J m' news'

theorem loopRange {prog : Program} {w : World} {A : Around} {env : Env} {g : Heap} {L I : Addr} {s : Shared} {m : Str → Option Value} {news : List (Addr × Obj)} {x : Str} {px : Pos} {body : List Stmt} {Q : Flow → Shared → Prop} {E : Value → Shared → Prop} {n : Nat}
    (hL : env.locals = L) (hh : A.handled = none) (hx : env.kindOf x = some .local) (hp : (env.scope.kind == .class || (env.scope.kind == .module && env.locals != env.globals)) = false)
    (F : Fr g L s.heap m) (N : News g L s.heap ((I, rangeIt 0 n) :: news)) (hI : ∀ p ∈ news, p.1 ≠ I) (J : Nat → (Str → Option Value) → List (Addr × Obj) → Prop) (hj : J 0 m news)
    (turn : ∀ i tk₀ m₁ news₁ h tk, i < n → J i m₁ news₁ → Fr g L h (fun y => if y = x then some (.int i tk₀) else m₁ y) → News g L h ((I, rangeIt ((i + 1 : Nat) : Int) ((n : Int) - ((i + 1 : Nat) : Int))) :: news₁) → (∀ p ∈ news₁, p.1 ≠ I) →
      wpAny (model prog w) A (execs body env) (TurnPost s g L [(I, rangeIt ((i + 1 : Nat) : Int) ((n : Int) - ((i + 1 : Nat) : Int)))] (J (i + 1)))
        (fun _ _ => False) { s with heap := h, toks := tk })
    (done : ∀ m₁ news₁ h tk, J n m₁ news₁ → Fr g L h m₁ → News g L h news₁ → Q .next { s with heap := h, toks := tk }) :
    codeAny (model prog w) A (.forLoop (.Name x px) (.ref I) body [] env) (fun r s' => match r with | .ok f => Q f s' | .error e => E e s') s := by
  subst hL
  refine codeAny_forLoop (fun k s' => ∃ i m₁ news₁ h tk, k = n + 1 - i ∧ i ≤ n ∧ s' = { s with heap := h, toks := tk } ∧ J i m₁ news₁ ∧ Fr g env.locals h m₁ ∧ News g env.locals h ((I, rangeIt (i : Int) ((n : Int) - (i : Int))) :: news₁) ∧ (∀ p ∈ news₁, p.1 ≠ I)) ?_ (n + 1)
    ⟨0, m, news, s.heap, s.toks, rfl, Nat.zero_le _, rfl, hj, F, by simpa using N, hI⟩
  rintro k s' ⟨i, m₁, news₁, h, tk, rfl, hi, rfl, hJ, F₁, N₁, hI₁⟩
  have hit := (N₁ _ (.head _))
  by_cases hlt : i < n
  · refine wpAny_pyNext_range_item (s := { s with heap := h, toks := tk }) hit.1 (by omega) fun h' hit' hs' => ?_
    have F₂ := frBut F₁ hs' hit.2.2 hit.2.1
    have N₂ : News g env.locals h' news₁ := newsBut (fun p hp => N₁ p (.tail _ hp)) hI₁ hs'
    refine wpAny_assign_Name (wpAny_storeName_local (s := { s with heap := h', toks := tk + 1 }) hx F₂.ns (fun h'' hn'' hs'' => ?_) hp)
    have e1 : ((i : Int) + 1) = ((i + 1 : Nat) : Int) := by push_cast; rfl
    have e2 : ((n : Int) - (i : Int) - 1) = ((n : Int) - ((i + 1 : Nat) : Int)) := by push_cast; omega
    rw [e1, e2] at hit'
    have NI : News g env.locals h' ((I, rangeIt ((i + 1 : Nat) : Int) ((n : Int) - ((i + 1 : Nat) : Int))) :: news₁) := fun p hp => by
      rcases List.mem_cons.mp hp with rfl | hp
      · exact ⟨hit', hit.2⟩
      · exact N₂ p hp
    refine wpAny_mono (turn i tk m₁ news₁ h'' (tk + 1 + 1) hlt hJ (F₂.set hn'' hs'') (NI.set hs'') hI₁) (fun f s₃ z => ?_) fun _ _ z => z.elim
    obtain ⟨rfl, h₃, tk₃, m₃, news₃, rfl, F₃, N₃, hI₃, hJ₃⟩ := z
    exact ⟨n + 1 - (i + 1), by omega, i + 1, m₃, news₃, h₃, tk₃, rfl, hlt, rfl, hJ₃, F₃, N₃, fun p hp => hI₃ _ (.head _) p hp⟩
  · have : i = n := by omega
    subst this
    refine wpAny_pyNext_range_end (s := { s with heap := h, toks := tk }) hh hit.1 (by omega) fun h' he' => wpAny_execs_nil ?_
    have hs' : SubBut I h h' := fun b o hb e => he' b o hb e
    exact done m₁ news₁ h' tk hJ (frAfter F₁ hs' hit.2.2 hit.2.1) (fun p hp => ⟨hs' _ _ (hI₁ p hp) (N₁ p (.tail _ hp)).1, (N₁ p (.tail _ hp)).2⟩)

theorem Fr.know {g h : Heap} {L : Addr} {m : Str → Option Value} {x : Str} {v : Value} (F : Fr g L h m) (hv : m x = some v) : Fr g L h (fun y => if y = x then some v else m y) := by
  have : (fun y => if y = x then some v else m y) = m := by
    funext y
    by_cases h : y = x
    · rw [if_pos h, h, hv]
    · rw [if_neg h]
  rw [this]; exact F

/-- range(n): its object, then its iterator, stand in the ledger -/
theorem rangeCall {prog : Program} {w : World} {A : Around} {g : Heap} {L : Addr} {s : Shared} {m : Str → Option Value} {news : List (Addr × Obj)} {v : Int} {t : Tok} {Q : Value → Shared → Prop} {E : Value → Shared → Prop}
    (F : Fr g L s.heap m) (N : News g L s.heap news) (h0 : 0 ≤ v) (hv : v < 1000000)
    (h : ∀ I h' tk, Fr g L h' m → News g L h' ((I, rangeIt 0 (v.toNat : Int)) :: news) → (∀ p ∈ news, p.1 ≠ I) → Q (.ref I) { s with heap := h', toks := tk }) :
    wpAny (model prog w) A (call (.type "range") [.int v t]) (fun x s₁ => wpAny (model prog w) A (pyIter x) Q E s₁) E s := by
  refine call_range_1 ?_
  refine wpAny_pyIter_range (IsRange.new ..) (small_one (by decide) (by decide) (by omega) (by omega)) ?_
  have hsz : Builtin.Range.rangeSize 0 v 1 = (v.toNat : Int) := by rw [rangeSize_one]; split <;> omega
  rw [hsz]
  have F1 := F.push { cls := .type "range", data := .fields #[.int 0 s.toks, .int v t, .int 1 (s.toks + 1)] }
  have N1 : News g L (s.heap.push { cls := .type "range", data := .fields #[.int 0 s.toks, .int v t, .int 1 (s.toks + 1)] }) news := fun p hp => ⟨Heap.get?_push_of_some _ (N p hp).1, (N p hp).2⟩
  refine h _ _ _ (F1.push _) (News.push F1 N1 _ rfl) fun p hp => ?_
  have := Heap.lt_size (N p hp).1
  rw [Heap.size_push]
  exact Nat.ne_of_lt (Nat.lt_succ_of_lt this)
end Mine
end

section
open PySem PySem.W PySem.Calls PyProof.Rows
set_option maxRecDepth 100000
set_option maxHeartbeats 8000000
namespace Mine

theorem PcsIn.filter {T : List (Addr × Obj)} {f : Addr × Obj → Bool} {vs ps} (h : PcsIn T vs ps) (k : ∀ t vs', (t, tupOf vs') ∈ T → f (t, tupOf vs') = true) : PcsIn (T.filter f) vs ps := by
  induction h with
  | nil => exact .nil
  | cons q _ ih =>
    obtain ⟨t, a, b, c, e, m⟩ := q
    exact .cons ⟨t, a, b, c, e, List.mem_filter.mpr ⟨m, k _ _ m⟩⟩ ih

theorem regroup {g h' : Heap} {L aS aL a I : Addr} {i c x l : Int} {t1 t2 : Tok} {n n' : Nat} {vs' : List Value} {ps : List Pc} {ledger : List (Addr × Obj)} (N : News g L h' ledger)
    (hSt : (aS, stOf aL i c t1 t2 n) ∈ ledger) (hIt : (I, rangeIt x l) ∈ ledger) (ha : (a, W.listOf vs'.toArray n') ∈ ledger) (hp : PcsIn ledger vs' ps) (_h1 : a ≠ aS) (_h2 : a ≠ I) (_h3 : aS ≠ I) :
    ∃ T, News g L h' ((I, rangeIt x l) :: (a, W.listOf vs'.toArray n') :: (aS, stOf aL i c t1 t2 n) :: T) ∧ PcsIn T vs' ps ∧ (∀ p ∈ T, p.1 ≠ aS) ∧ (∀ p ∈ T, p.1 ≠ I) := by
  refine ⟨ledger.filter fun p => decide (p.1 ≠ aS) && decide (p.1 ≠ I), fun p hp => ?_, hp.filter fun t vs'' m => ?_, fun p hp => ?_, fun p hp => ?_⟩
  · rcases List.mem_cons.mp hp with rfl | hp
    · exact N _ hIt
    rcases List.mem_cons.mp hp with rfl | hp
    · exact N _ ha
    rcases List.mem_cons.mp hp with rfl | hp
    · exact N _ hSt
    · exact N _ (List.mem_filter.mp hp).1
  · have z := (N _ m).1
    have y := (N _ hSt).1
    have x := (N _ hIt).1
    dsimp only at x y z
    refine Bool.and_eq_true_iff.mpr ⟨decide_eq_true fun q => ?_, decide_eq_true fun q => ?_⟩
    · dsimp only at q
      rw [q, y] at z
      have := congrArg (fun o : Option Obj => o.map (·.cls)) z
      simp [tupOf] at this
    · dsimp only at q
      rw [q, x] at z
      have := congrArg (fun o : Option Obj => o.map (·.cls)) z
      simp [tupOf] at this
  · exact of_decide_eq_true (Bool.and_eq_true_iff.mp (List.mem_filter.mp hp).2).1
  · exact of_decide_eq_true (Bool.and_eq_true_iff.mp (List.mem_filter.mp hp).2).2

theorem strs_nth : ∀ {vs : List Value} {ss : List Str}, StrsAre vs ss → ∀ k : Nat, k < ss.length → ∃ x t, vs[k]? = some (.str x t) ∧ x ∈ ss
  | _, _, .cons y t _, 0, _ => ⟨y, t, rfl, .head _⟩
  | _, _, .cons _ _ h, k + 1, hk => by
    obtain ⟨x, t, e, m⟩ := strs_nth h k (Nat.lt_of_succ_lt_succ hk)
    exact ⟨x, t, by simpa using e, .tail _ m⟩

theorem words_K {w : World} {A : Around} {s : Shared} {g : Heap} {L : Addr} {m : Str → Option Value} {news : List (Addr × Obj)} {Q : Value → Shared → Prop} {E : Value → Shared → Prop}
    (X : (hd.heap_39 w.params).In g) (F : Fr g L s.heap m) (N : News g L s.heap news)
    (h : ∀ D h' its, Fr g L h' m → News g L h' ((D, W.listOf its.toArray 0) :: news) → (∀ p ∈ news, p.1 < D) → StrsAre its (either ++ both) → Q (.ref D) { s with heap := h' }) :
    wpAny (model PySem.Challenge.rw_co0044_01.row.toRowW.prog w) A (binaryOp .Add (.ref 86) (.ref 87)) Q E s := by
  have XG := X
  revert XG
  k_fill
  intro XG
  have X86 : ∃ its n, (hd.heap_39 w.params).lookup 86 = some (W.listOf its n) ∧ StrsAre its.toList either := by
    refine ⟨_, _, by k_is, ?_⟩
    simp only [either]
    repeat' constructor
  have X87 : ∃ its n, (hd.heap_39 w.params).lookup 87 = some (W.listOf its n) ∧ StrsAre its.toList both := by
    refine ⟨_, _, by k_is, ?_⟩
    simp only [both]
    repeat' constructor
  obtain ⟨its, k, e, hs⟩ := X86
  obtain ⟨its2, k2, e2, hs2⟩ := X87
  refine add_lists (vs := its.toList) (ws := its2.toList) F N ⟨_, F.keep _ _ (X _ _ e), rfl, k, rfl⟩ ⟨_, F.keep _ _ (X _ _ e2), rfl, k2, rfl⟩ (fun h' F' N' => h _ h' _ F' N' (fun p hp => Heap.lt_size (N p hp).1) (hs.append' hs2)) ?_
  rw [hs.length, hs2.length, sizeLine_eq]
  decide

theorem item_K {prog : Program} {w : World} {A : Around} {E : Value → Shared → Prop} {s : Shared} {g : Heap} {L : Addr} {news : List (Addr × Obj)} {value slice : PySem.Expr} {l : Addr} {vs : List Value} {n : Nat} {k : Int} {u : Tok} {v : Value} {Q : Value → Shared → Prop}
    (N : News g L s.heap news) (hl : (l, W.listOf vs.toArray n) ∈ news) (h0 : 0 ≤ k) (hhi : k < 2 ^ 63) (hx : vs[k.toNat]? = some v) (h : Q v s)
    (hs : subscripted slice false (.ref l) (.int k u) = operate [.ref l, .int k u] (getItem (.ref l) (.int k u)) := by with_unfolding_all rfl) :
    wpAny (model prog w) A (subscriptTail value slice (.ref l) (.int k u)) Q E s :=
  have hL : s.heap.IsList l vs.toArray := ⟨_, (N _ hl).1, rfl, n, rfl⟩
  tail_any hL.typeIs slot_list_getitem.lookup (wpAny_getItem_list hL h0 hhi (by simpa using hx) h) hs

theorem pc_eq {p : Pc} {a : Int} {w c : Str} (h1 : p.kind = a) (h2 : p.word = w) (h3 : p.what = c) : p = ⟨a, w, c⟩ := by
  cases p
  dsimp only at h1 h2 h3
  rw [h1, h2, h3]

theorem opPc_is {w : Str} (m : w ∈ either ++ both) {b1 b2 : Bool} (ha : ([Str.ofString "and", Str.ofString "in", Str.ofString "or", Str.ofString "is"].any fun x => x == w) = b1)
    (hb : (decide (w = { cps := #[61, 61] }) || (decide (w = { cps := #[60] }) || (decide (w = { cps := #[33, 61] }) || (decide (w = { cps := #[97, 110, 100] }) || (decide (w = { cps := #[105, 110] }) || (decide (w = { cps := #[62] }) || (decide (w = { cps := #[60, 61] }) || (decide (w = { cps := #[62, 61] }) || (decide (w = { cps := #[111, 114] }) || (decide (w = { cps := #[105, 115] }) || false)))))))))) = b2) :
    opPc w = ⟨if b1 = true then 1 else 54, w, if b2 = true then "both" else "either"⟩ := by
  subst ha hb
  simp only [either, both, List.cons_append, List.nil_append, List.mem_cons, List.not_mem_nil, or_false] at m
  rcases m with rfl | rfl | rfl | rfl | rfl | rfl | rfl | rfl | rfl | rfl | rfl | rfl | rfl | rfl | rfl | rfl | rfl | rfl | rfl | rfl | rfl | rfl | rfl <;> exact pc_eq (by decide) rfl (by decide)
end Mine
end

section
open PySem PySem.W PySem.Calls PyProof.Rows
set_option maxRecDepth 100000
set_option maxHeartbeats 8000000
namespace Mine
local macro_rules | `(tactic| k_all) => `(tactic| assumption)
local macro_rules | `(tactic| walk_at "binaryOp Add ref ref") => `(tactic| (k_here; (with_reducible show wpAny _ _ (binaryOp _ (Value.ref _) (Value.ref _)) _ _ _); k_dflt (refine' add_K ?F ?N ?l ?b ?_ ?z; (case F => k_asm); (case N => k_asm); (case l => k_mem); (case b => k_mem); (case z => (simp only [List.length_append, List.length_cons, List.length_nil]; omega))); intro D' h' F' N' l1; (try k_lt l1); (try k_sweep)))
local macro_rules | `(tactic| walk_at "ite") => `(tactic| (k_closed; first | ((with_reducible refine' ite_pos ?hc ?_); (case hc => k_dflt decide)) | ((with_reducible refine' ite_neg ?hc ?_); (case hc => k_dflt decide))))
local macro_rules | `(tactic| walk_at "exec For Name Call cons nil") => `(tactic| (k_here; k_dflt (refine wpAny_For ?_)))
local macro_rules | `(tactic| walk_at "call type:range") => `(tactic| (k_here; k_dflt (refine' rangeCall ?F ?N ?z1 ?z2 ?_; (case F => k_asm); (case N => k_asm); (case z1 => omega); (case z2 => omega)); intro I' h' tk' F' N' l1; (try simp only [List.forall_mem_cons, List.mem_append, List.forall_mem_nil, and_true, ne_eq] at l1)))

def SumJ (aS aL : Addr) (n : Nat) (x : Int) (t3 : Tok) (P : List Pc → Prop) (i : Nat) (m₁ : Str → Option Value) (news₁ : List (Addr × Obj)) : Prop :=
  ∃ i' c' t1' t2' a vs' n' T ps, news₁ = (a, W.listOf vs'.toArray n') :: (aS, stOf aL i' c' t1' t2' n) :: T ∧ m₁ (Str.ofString "pieces") = some (.ref a) ∧ m₁ (Str.ofString "state") = some (.ref aS) ∧ m₁ (Str.ofString "deep") = some (.int x t3) ∧
    SumP P i ps ∧ PcsIn T vs' ps ∧ 0 ≤ i' ∧ 0 ≤ c' ∧ c' < 2147483647 ∧ (∀ p ∈ T, p.1 ≠ aS) ∧ a ≠ aS

theorem sumS {w : World} {loose : List Str} {mean : ExcName → Option Value} {mg mb : Str → Option Value} {h₀ : Heap} {aS aL : Addr} {vs : List Value} {ns : List Int} {n nL d : Nat} {P : List Pc → Prop}
    (G : Gnd w loose mean mg mb h₀) (hP : ∀ q, P q → q.length ≤ 1000) (D : Does w h₀ aS aL vs ns n nL 108 d 591 P) : Does w h₀ aS aL vs ns n nL 115 d 590 (fun q => ∃ k, k ≤ 2 ∧ SumP P k q) := by
  intro A s i c x t1 t2 t3 R S hS hh hroom h0 hc0 hc hx h
  have XG := G.X
  revert XG
  k_fill
  intro XG
  refine' enter (news := [(aS, stOf aL i c t1 t2 n)]) (binds := [(Str.ofString "state", .ref aS), (Str.ofString "deep", .int x t3)]) G S.k ?N ?k6 ?k7 ?k8 ?k9 ?kB ?_ ?c2 ?c3 ?c4 ?c5
  case N => intro p hp; rcases List.mem_singleton.mp hp with rfl; exact ⟨hS, S.hS0⟩
  case k6 => k_is
  case k7 => k_is
  case k8 => exact Nat.lt_of_le_of_lt (show A.depth ≤ 595 by omega) (by decide)
  case k9 => exact BindsTo.of_eq rfl
  case c5 => decide
  case kB => exact locs rfl
  case c2 => exact rfl
  case c3 => exact rfl
  case c4 => exact rfl
  intro g L' h₁ _ kg kg' kg'' F' N' X' T'
  have S' : Scr h₀ g aS aL vs ns nL := ⟨kg, S.hS0, kg'' _ _ (by simpa using S.hne) S.hL, S.hne, S.hI, S.hlen⟩
  have kgb : ∀ b o, b ≠ aS → s.heap.get? b = some o → g.get? b = some o := fun b o hb e => kg'' b o (by simpa using hb) e
  clear kg'' kg'
  (try dsimp only)
  k_unmd
  k_fold
  repeat' walk1
  refine' does_K D S' ?Fu1 ?Nu1 ?Uu1 hh ?ru1 h0 hc0 hc hx ?mainu1
  case Fu1 => assumption
  case Nu1 => assumption
  case Uu1 => k_updF
  case ru1 => (simp only [Around.deeper]; omega)
  case mainu1 =>
  intro hh1 tk1 i1 c1 ta1 tb1 a1 vs1 n1 T1 ps1 F1 N1 g11 g12 g13 hP1 hq1 of1 o11 o12 o13
  simp only [List.forall_mem_cons, List.forall_mem_nil, and_true, ne_eq] at o11
  simp only [List.cons_append, List.nil_append] at N1
  have ln1 := hq1.length
  have lm1 := hP _ hP1
  dsimp only
  repeat' walk1
  refine' next_K G S' ?Fu2 ?Nu2 ?Uu2 ?ru2 g11 g12 g13 ?p1u2 ?p2u2 ?mainu2
  case Fu2 => assumption
  case Nu2 => assumption
  case Uu2 => k_updF
  case ru2 => (simp only [Around.deeper]; omega)
  case p1u2 => decide
  case p2u2 => decide
  case mainu2 =>
  intro h2 tk2 i2 c2 v2 ta2 tb2 tc2 F2 N2 b21 b22 b23 b24 b25
  dsimp only
  repeat' walk1
  rename News g L' _ _ => N3
  rename Fr g L' _ _ => F3
  rename ¬a1 = _ ∧ _ => o3
  refine loopRange (L := L') rfl hh rfl rfl F3 N3 (by simpa only [List.forall_mem_cons] using o3) (SumJ aS aL n x t3 P) ?_ ?_ ?_
  · exact ⟨_, _, _, _, _, _, _, _, _, rfl, rfl, rfl, rfl, .base hP1, hq1, b21, b22, b23, of1, o12⟩
  · intro i3 tk3 m3 news3 h3 tk3' hlt hJ F4 N4 hI4
    obtain ⟨i4, c4, ta4, tb4, a4, vs4, n4, T4, ps4, rfl, hm1, hm2, hm3, hS4, hp4, z1, z2, z3, of4, o4⟩ := hJ
    replace F4 := Fr.know (Fr.know (Fr.know F4 (x := Str.ofString "pieces") (v := .ref a4) (by rw [if_neg (by decide)]; exact hm1)) (x := Str.ofString "state") (v := .ref aS) (by rw [if_neg (by decide), if_neg (by decide)]; exact hm2)) (x := Str.ofString "deep") (v := .int x t3) (by rw [if_neg (by decide), if_neg (by decide), if_neg (by decide)]; exact hm3)
    have ln4 := hp4.length
    have lm4 : ps4.length ≤ 3002 := by
      have h1 := hS4.len hP
      have h2 : 1000 * (i3 + 1) ≤ 1000 * 3 := Nat.mul_le_mul_left _ (by omega)
      omega
    simp only [List.forall_mem_cons] at hI4
    have q41 := neN o4
    have q42 := neN hI4.1
    have q43 := neN hI4.2.1
    have q44 := hI4.2.2
    clear hI4
    k_unmd
    k_fold
    repeat' walk1
    refine words_K X' F4 N4 ?_
    intro D5 h5 its5 F5 N5 l5 hs5
    k_lt l5
    dsimp only
    repeat' walk1
    refine' next_K G S' ?Fu6 ?Nu6 ?Uu6 ?ru6 z1 z2 z3 ?p1u6 ?p2u6 ?mainu6
    case Fu6 => assumption
    case Nu6 => assumption
    case Uu6 => k_updF
    case ru6 => (simp only [Around.deeper]; omega)
    case p1u6 => decide
    case p2u6 => decide
    case mainu6 =>
    intro h6 tk6 i6 c6 v6 ta6 tb6 tc6 F6 N6 b61 b62 b63 b64 b65
    obtain ⟨w6, tw6, e6, m6⟩ := strs_nth hs5 v6.toNat (by simp [either, both]; omega)
    refine item_K N6 (by k_mem) b64 (by omega) e6 ?_
    (try dsimp only)
    repeat' walk1
    refine named_K G S'.k (by assumption) (by assumption) (by simp only [Around.deeper]; omega) ?_
    intro h7 tk7 D7 ta7 tb7 tc7 td7 F7 N7 o7
    simp only [List.forall_mem_cons] at o7
    have q71 := neN o7.1
    have q72 := neN o7.2.1
    have q73 := neN o7.2.2.1
    have q74 := neN o7.2.2.2.1
    clear o7
    (try dsimp only)
    repeat' walk1
    all_goals (
      rename List.any _ _ = _ => ha
      rename (decide _ || _) = _ => hb
      have hop := opPc_is m6 ha hb
      clear ha hb
      refine does_K D S' (by assumption) (by assumption) (by k_updF) hh (by simp only [Around.deeper]; omega) b61 b62 b63 hx ?_
      intro h8 tk8 i8 c8 ta8 tb8 a8 vs8 n8 T8 ps8 F8 N8 b81 b82 b83 hP8 hq8 of8 o81 o82 o83
      simp only [List.forall_mem_cons] at o81
      have q81 := neN o82
      have q82 := neN o81.1
      have q83 := neN o81.2.2.2.2.2.1
      have ln8 := hq8.length
      have lm8 := hP _ hP8
      clear o81
      simp only [List.cons_append, List.nil_append] at N8
      (try dsimp only)
      repeat' walk1
      (try k_unmd)
      (try k_unfold)
      dsimp only
      rename Fr g L' _ _ => FE
      rename News g L' _ _ => NE
      obtain ⟨T, NE', hpc, hT1, hT2⟩ := regroup (ps := ps4 ++ [opPc w6] ++ ps8) NE (by k_mem) (by k_mem) (by k_mem) (by
        refine PcsIn.append (PcsIn.append (hp4.mono ?_) (.cons ?_ .nil)) (hq8.mono ?_)
        · intro q hq; simp only [List.mem_cons, List.mem_append]; simp [hq]
        · rw [hop]; exact ⟨_, _, _, _, rfl, by k_mem⟩
        · intro q hq; simp only [List.mem_cons, List.mem_append]; simp [hq]) (by k_ne) (by k_ne) (by k_ne)
      refine ⟨rfl, _, _, _, _, rfl, FE, NE', ?_, ?_⟩
      · intro q hq p hp
        rcases List.mem_singleton.mp hq with rfl
        rcases List.mem_cons.mp hp with rfl | hp
        · k_ne
        rcases List.mem_cons.mp hp with rfl | hp
        · k_ne
        · exact hT2 p hp
      · exact ⟨_, _, _, _, _, _, _, _, _, rfl, rfl, rfl, rfl, .step hS4 m6 hP8, hpc, b81, b82, b83, hT1, by k_ne⟩)
  · intro m3 news3 h3 tk3' hJ F4 N4
    obtain ⟨i4, c4, ta4, tb4, a4, vs4, n4, T4, ps4, rfl, hm1, hm2, hm3, hS4, hp4, z1, z2, z3, of4, o4⟩ := hJ
    replace F4 := Fr.know F4 (x := Str.ofString "pieces") (v := .ref a4) hm1
    (try dsimp only)
    repeat' walk1
    dsimp only
    (try k_unmd)
    (try k_unfold)
    dsimp only
    rename Fr g L' _ _ => FE
    rename News g L' _ _ => NE
    exact endHands h ⟨_, by omega, hS4⟩ FE NE kgb (by k_mem) (by k_mem) o4 (hp4.mono (fun q hq => by simp only [List.mem_cons]; simp [hq])) z1 z2 z3

theorem sum2 {w : World} {loose : List Str} {mean : ExcName → Option Value} {mg mb : Str → Option Value} {h₀ : Heap} {aS aL : Addr} {vs : List Value} {ns : List Int} {n nL : Nat}
    (G : Gnd w loose mean mg mb h₀) : Does w h₀ aS aL vs ns n nL 115 2 590 (IsSum 2) := by
  have T0 : Does w h₀ aS aL vs ns n nL 108 0 591 (IsTerm 0) := termZ G
  have S0 : Does w h₀ aS aL vs ns n nL 115 0 590 (IsSum 0) := sumS G (fun q h => Nat.le_trans (IsTerm.len (by decide) h) (by decide)) T0
  have T1 : Does w h₀ aS aL vs ns n nL 108 1 591 (IsTerm 1) := termS G (by decide) (fun q h => Nat.le_trans (IsSum.len (d := 0) (by decide) h) (by decide)) S0
  have S1 : Does w h₀ aS aL vs ns n nL 115 1 590 (IsSum 1) := sumS G (fun q h => Nat.le_trans (IsTerm.len (by decide) h) (by decide)) T1
  have T2 : Does w h₀ aS aL vs ns n nL 108 2 591 (IsTerm 2) := termS G (by decide) (fun q h => Nat.le_trans (IsSum.len (d := 1) (by decide) h) (by decide)) S1
  exact sumS G (fun q h => Nat.le_trans (IsTerm.len (by decide) h) (by decide)) T2
end Mine
end

section
open PySem PySem.W PySem.Calls PyProof.Rows PySem.Spec
set_option maxRecDepth 100000
set_option maxHeartbeats 8000000
namespace Mine

theorem enterC {w : World} {loose : List Str} {mean : ExcName → Option Value} {mg mb : Str → Option Value} {A : Around} {s : Shared}
    {R : Result → Shared → Prop} {name qual : Str} {params : Arguments} {body : List Stmt} {scope : Scope} {dV kV doc pm cdv ct oc : Value} {an od : Option Addr} {osl : Array (Option Value)} {f : Addr} {args : Args} {binds : List (Str × Value)}
    (G : Gnd w loose mean mg mb s.heap)
    (ho : (hd.heap_39 w.params).lookup f = some ⟨oc, od, .func (fnOf name qual params body scope dV kV doc pm an cdv ct), osl⟩) (hcd : codeIn (hd.heap_39 w.params) cdv qual = true) (hroom : A.depth < recursionLimit)
    (hbind : BindsTo s (fnOf name qual params body scope dV kV doc pm an cdv ct) args binds) (hkind : (binds.all fun y => scope.names.lookup y.1 == some .local || scope.names.lookup y.1 == some .cell) = true)
    (hnd : ((cellsFrom 0 scope.names []).map (·.1)).Nodup)
    (h : ∀ L' h₁ tk cells, L' = s.heap.objs.size → Fr s.heap L' h₁ (bindL (envOfC qual scope L' f cdv).kindOf binds fun _ => none) → News s.heap L' h₁ cells →
      CellsAre (bindC (envOfC qual scope L' f cdv).kindOf binds fun _ => none) (cellsFrom (L' + 1) scope.names []) cells →
      wpAny (model PySem.Challenge.rw_co0044_01.row.toRowW.prog w) (A.deeper (envOfC qual scope L' f cdv)) (execs body (envOfC qual scope L' f cdv))
        (fun fl s' => R (.ok (.ret (match fl with | .ret v => v | _ => .none))) s') (fun _ _ => False) { s with heap := h₁, toks := tk })
    (hco : scope.isCoroutine = false) (hgen : scope.isGenerator = false) (hk : scope.kind = .function) : codeAny (model PySem.Challenge.rw_co0044_01.row.toRowW.prog w) A (.call (.ref f) args) R s := by
  refine codeAny_call_function (fd := fnOf name qual params body scope dV kV doc pm an cdv ct) hroom (G.X _ _ ho) rfl hco hgen rfl (codeRec_of G.X hcd) (hbind _ _ _ _ ?_)
  refine wpAny_newFunctionEnv_cells hk (kindsX hkind _) fun env' he s' x => ?_
  subst he
  refine ⟨G.T.nolimit.keeps x.toInCall.keep, codeAny_func ?_⟩
  obtain ⟨h₁, tk, rfl, _⟩ := x.done
  have hk₁ := x.toInCall.keep
  obtain ⟨cells, NC, Y⟩ := Cl.news (h₀ := s.heap) (Nat.le_refl _) fun n c hm => ⟨x.cell n c (lookup_of_mem_nodup (cellsFrom_names scope.names 0 (s.heap.objs.size + 1) [] [] rfl ▸ hnd) hm), x.above n c hm⟩
  refine wpAny_mono (h s.heap.objs.size h₁ tk cells rfl ⟨x.toInCall.ns, hk₁, Nat.le_refl _⟩ NC Y) (fun fl s' hl => hl) fun _ _ y => y.elim

theorem next_L {w : World} {loose : List Str} {mean : ExcName → Option Value} {mg mb : Str → Option Value} {A : Around} {s : Shared} {g : Heap} {L : Addr} {m : Str → Option Value} {news : List (Addr × Obj)} {nf : Obj → List (Addr × Obj)}
    {aS aL : Addr} {vs : List Value} {ns : List Int} {n nL : Nat} {i c many : Int} {t1 t2 t3 : Tok} {Q : Value → Shared → Prop} {E : Value → Shared → Prop}
    (G : Gnd w loose mean mg mb g) (F : Fr g L s.heap m) (N : News g L s.heap news) (U : UpdF aS (stOf aL i c t1 t2 n) news nf) (hL : (aL, W.listOf vs.toArray nL) ∈ news) (hne : aL ≠ aS) (hI : IntsAre vs ns) (hlen : vs.length ≤ 1000) (hroom : A.depth < 600)
    (h0 : 0 ≤ i) (hc0 : 0 ≤ c) (hc : c < 2147483647) (hm0 : 0 < many) (hm : many < 100)
    (h : ∀ h' tk i' c' v t1' t2' t3', Fr g L h' m → News g L h' (nf (stOf aL i' c' t1' t2' n)) → 0 ≤ i' → 0 ≤ c' → c' < 2147483647 → 0 ≤ v → v < many → Q (.int v t3') { s with heap := h', toks := tk }) :
    wpAny (model PySem.Challenge.rw_co0044_01.row.toRowW.prog w) A (call (.ref 101) [.ref aS, .int many t3] []) Q E s := by
  have D := U.split
  obtain ⟨pre, post, hn, hf, a, b⟩ := D
  have P := N (aS, stOf aL i c t1 t2 n) (by rw [hn]; exact List.mem_append_right _ (.head _))
  refine wpAny_call (next_code G F.keep P.1 P.2.2 (N _ hL).1 hne hroom hI h0 hc0 hc hm0 hm hlen ?_)
  intro h' tk i' c' v t1' t2' t3' hs hg b1 b2 b3 b4 b5
  exact h h' tk i' c' v t1' t2' t3' (frAfter F hs P.2.2 P.2.1) (newsAfter N U hs hg) b1 b2 b3 b4 b5

theorem does_L {w : World} {A : Around} {s : Shared} {g : Heap} {L : Addr} {m : Str → Option Value} {news : List (Addr × Obj)} {nf : Obj → List (Addr × Obj)}
    {aS aL f : Addr} {vs : List Value} {ns : List Int} {n nL d room : Nat} {P : List Pc → Prop} {i c x : Int} {t1 t2 t3 : Tok} {Q : Value → Shared → Prop} {E : Value → Shared → Prop}
    (D : Does w g aS aL vs ns n nL f d room P) (F : Fr g L s.heap m) (N : News g L s.heap news) (U : UpdF aS (stOf aL i c t1 t2 n) news nf) (hL : (aL, W.listOf vs.toArray nL) ∈ news) (hne : aL ≠ aS) (hI : IntsAre vs ns) (hlen : vs.length ≤ 1000) (hh : A.handled = none) (hroom : A.depth + 2 * d < room)
    (h0 : 0 ≤ i) (hc0 : 0 ≤ c) (hc : c < 2147483647) (hx : x = (d : Int))
    (h : ∀ h' tk i' c' t1' t2' a vs' n' T ps, Fr g L h' m → News g L h' ((a, W.listOf vs'.toArray n') :: (nf (stOf aL i' c' t1' t2' n) ++ T)) → 0 ≤ i' → 0 ≤ c' → c' < 2147483647 → P ps → PcsIn T vs' ps →
      (∀ p ∈ news, p.1 ≠ a) → a ≠ aS → (∀ p ∈ news, ∀ q ∈ T, q.1 ≠ p.1) → Q (.ref a) { s with heap := h', toks := tk }) :
    wpAny (model PySem.Challenge.rw_co0044_01.row.toRowW.prog w) A (call (.ref f) [.ref aS, .int x t3] []) Q E s := by
  obtain ⟨pre, post, hn, hf, a0, b0⟩ := U.split
  have P0 := N (aS, stOf aL i c t1 t2 n) (by rw [hn]; exact List.mem_append_right _ (.head _))
  have S' : Scr g s.heap aS aL vs ns nL := ⟨F.keep, P0.2.2, (N _ hL).1, hne, hI, hlen⟩
  refine wpAny_call (D A s i c x t1 t2 t3 _ S' P0.1 hh hroom h0 hc0 hc hx ?_)
  intro h' tk i' c' t1' t2' a vs' n' T ps hs hg b1 b2 b3 hP hr
  have z := new_news F N hr.new
  have zT := fun p hp => new_news F N (hr.tin p hp).2
  have zS : a ≠ aS := fun q => by have := hr.new; rw [q, P0.1] at this; cases this
  refine h h' tk i' c' t1' t2' a vs' n' T ps (frAfter F hs P0.2.2 P0.2.1) ?_ b1 b2 b3 hP hr.pcs z.2.2 zS (fun p hp q hq e => (zT q hq).2.2 p hp e.symm)
  intro p hp
  rcases List.mem_cons.mp hp with rfl | hp
  · exact ⟨hr.get, z.1, z.2.1⟩
  · rcases List.mem_append.mp hp with hp | hp
    · exact newsAfter N U hs hg p hp
    · exact ⟨(hr.tin p hp).1, (zT p hp).1, (zT p hp).2.1⟩
end Mine
end

section
open PySem PySem.W PySem.Calls PyProof.Rows PySem.Spec
set_option maxRecDepth 100000
set_option maxHeartbeats 8000000
namespace Mine

section
variable {prog : Program} {w : World} {A : Around} {R : GenEnd} {Y : Protocol} {n : Nat} {s₀ : Shared} {c : Code} {fs : List Frame} {s : Shared} {env : Env}
  {K : Flow → Sem Fin} {H : Value → Sem Fin} {gd : Bool → Bool} {lv : List Value → List Value}

theorem seg_stmt {st : Stmt} {rest : List Stmt}
    (h : wpAny (model prog w) (A.over c fs) (exec st env) (fun f s' => match f with | .next => Seg (model prog w) A R Y n s₀ c ((execs rest env).wrap K H gd lv) fs s' | f => Seg (model prog w) A R Y n s₀ c (K f) fs s') (fun _ _ => False) s) :
    Seg (model prog w) A R Y n s₀ c ((execs (st :: rest) env).wrap K H gd lv) fs s := by
  rw [execs_cons_wrap]
  refine seg_wrap (wpAny_mono h (fun f s' h' => ?_) fun _ _ h' => h'.elim)
  cases f <;> exact h'

theorem seg_If {test : Expr} {body orelse : List Stmt} {pos : Pos}
    (h : wpAny (model prog w) (A.over c fs) (isTrue test env (eval test env)) (fun b s' => Seg (model prog w) A R Y n s₀ c ((execs (if b = true then body else orelse) env).wrap K H gd lv) fs s') (fun _ _ => False) s) :
    Seg (model prog w) A R Y n s₀ c ((exec (.If test body orelse pos) env).wrap K H gd lv) fs s := by
  rw [exec_If]
  refine seg_at ?_
  show Seg (model prog w) A R Y n s₀ c ((isTrue test env (eval test env) >>= fun b => if b = true then execs body env else execs orelse env).wrap K H gd lv) fs s
  rw [Sem.bind_eq_wrap', Sem.wrap_wrap]
  refine seg_wrap (wpAny_mono h (fun b s' h' => ?_) fun _ _ h' => h'.elim)
  cases b <;> exact h'

theorem seg_For {target iter : Expr} {body orelse : List Stmt} {pos : Pos}
    (h : wpAny (model prog w) (A.over c fs) (eval iter env) (fun x s₁ => wpAny (model prog w) (A.over c fs) (pyIter x) (fun it s₂ =>
      ∀ p, Seg (model prog w) A R Y n s₀ (.forLoop target it body orelse env) ((model prog w).den (.forLoop target it body orelse env))
        (.ret (fun r => ((match r with | .ok f => (.pure f : Sem Flow) | .error e => .raise e).onRaise fun (x : Value) => do
          if (← field x 1) == Value.none then unsupported "frame.own-activation:exception-without-traceback"
          setFlight x env.frame).wrap K H gd lv) none (gd false) (lv []) c p [] :: fs) s₂) (fun _ _ => False) s₁) (fun _ _ => False) s)
    (hs : ∀ x, foldedSetIterable iter env x = pure x := by intro _; rfl) :
    Seg (model prog w) A R Y n s₀ c ((exec (.For target iter body orelse pos) env).wrap K H gd lv) fs s := by
  rw [exec_For]
  refine seg_at ?_
  show Seg (model prog w) A R Y n s₀ c ((eval iter env >>= fun x => foldedSetIterable iter env x >>= fun x => standAt iter.pos >>= fun _ => holding [x] (pyIter x) >>= fun it => runOwn (.forLoop target it body orelse env) env).wrap K H gd lv) fs s
  rw [Sem.bind_eq_wrap', Sem.wrap_wrap]
  refine seg_wrap (wpAny_mono h (fun x s₁ h₁ => ?_) fun _ _ h' => h'.elim)
  show Seg (model prog w) A R Y n s₀ c ((foldedSetIterable iter env x >>= fun x => standAt iter.pos >>= fun _ => holding [x] (pyIter x) >>= fun it => runOwn (.forLoop target it body orelse env) env).wrap K H gd lv) fs s₁
  rw [Sem.bind_eq_wrap', Sem.wrap_wrap]
  refine seg_wrap (wpAny_of_eq (hs x) ?_)
  refine seg_at ?_
  show Seg (model prog w) A R Y n s₀ c ((holding [x] (pyIter x) >>= fun it => runOwn (.forLoop target it body orelse env) env).wrap K H gd lv) fs s₁
  rw [Sem.bind_eq_wrap', Sem.wrap_wrap]
  refine seg_wrap (wpAny_holding (wpAny_mono h₁ (fun it s₂ h₂ => ?_) fun _ _ h' => h'.elim))
  exact seg_call h₂
end

section
variable {prog : Program} {w : World} {A : Around} {R : GenEnd} {Y : Protocol} {n : Nat} {s₀ : Shared} {fs : List Frame} {s : Shared} {env : Env}

theorem seg_forLoop {target : Expr} {it : Value} {body : List Stmt}
    (h : wpAny (model prog w) (A.over (.forLoop target it body [] env) fs) (pyNext it) (fun r s₁ => match r with
      | none => Seg (model prog w) A R Y n s₀ (.block [] env) (.pure (.done .next)) fs s₁
      | some v => wpAny (model prog w) (A.over (.forLoop target it body [] env) fs) (letOwnedTupleGo target it v) (fun _ s₁' =>
          wpAny (model prog w) (A.over (.forLoop target it body [] env) fs) (assign target env v) (fun _ s₂ =>
            Seg (model prog w) A R Y n s₀ (.forLoop target it body [] env) ((execs body env).wrap (fun f => match f with
              | .next | .cont => .pure (.again (.forLoop target it body [] env))
              | .brk => .pure (.done .next)
              | .ret v => .pure (.done (.ret v))) (fun e => (do noteFrame e env; theTreesLotGoes e : Sem Unit).wrap (fun _ => .raise e) .raise id id) id id) fs s₂)
            (fun _ _ => False) s₁') (fun _ _ => False) s₁) (fun _ _ => False) s) :
    Seg (model prog w) A R Y n s₀ (.forLoop target it body [] env) ((model prog w).den (.forLoop target it body [] env)) fs s := by
  show Seg _ A R Y n s₀ _ ((forTurn target it body [] env).onRaise (fun x => do noteFrame x env; theTreesLotGoes x)) fs s
  unfold forTurn
  rw [Sem.onRaise_eq_wrap]
  refine seg_at ?_
  show Seg _ A R Y n s₀ _ ((((pyNext it).onRaise fun _ => standAt { target.pos with line := 0 }) >>= fun r => _).wrap _ _ _ _) fs s
  rw [Sem.bind_eq_wrap', Sem.wrap_wrap]
  refine seg_wrap (wpAny_onRaise (wpAny_mono h (fun r s₁ h₁ => ?_) fun _ _ h' => h'.elim))
  cases r with
  | none =>
    refine seg_again rfl ?_
    exact h₁
  | some v =>
    show Seg _ A R Y n s₀ _ ((letOwnedTupleGo target it v >>= fun _ => _).wrap _ _ _ _) fs s₁
    rw [Sem.bind_eq_wrap', Sem.wrap_wrap]
    refine seg_wrap (wpAny_mono h₁ (fun _ s₁' h₁' => ?_) fun _ _ h' => h'.elim)
    show Seg _ A R Y n s₀ _ ((assign target env v >>= fun _ => _).wrap _ _ _ _) fs s₁'
    rw [Sem.bind_eq_wrap', Sem.wrap_wrap]
    refine seg_wrap (wpAny_mono h₁' (fun _ s₂ h₂ => ?_) fun _ _ h' => h'.elim)
    show Seg _ A R Y n s₀ _ ((execs body env >>= fun f => _).wrap _ _ _ _) fs s₂
    rw [Sem.bind_eq_wrap', Sem.wrap_wrap]
    rw [Sem.wrap_congr (execs body env) _ _ (K' := fun f => match f with
              | .next | .cont => .pure (.again (.forLoop target it body [] env))
              | .brk => .pure (.done .next)
              | .ret v => .pure (.done (.ret v))) (H' := (fun e => (do noteFrame e env; theTreesLotGoes e : Sem Unit).wrap (fun _ => .raise e) .raise id id))
        (fun f => by cases f <;> rfl)
        (fun e => by first | exact Sem.bind_eq_wrap _ _ | (show (do noteFrame e env; theTreesLotGoes e : Sem Unit).bind (fun _ => .raise e) = _; rw [Sem.bind_eq_wrap]))]
    exact h₂
end
end Mine
end

section
open PySem PySem.W PySem.Calls PyProof.Rows PySem.Spec
set_option maxRecDepth 100000
set_option maxHeartbeats 8000000
namespace Mine

abbrev lstObj (acc : List Value) (c : Nat) : Obj := { cls := .type "list", dict := none, data := .seq acc.toArray c, slots := #[] }

section
variable {prog : Program} {w : World} {A : Around} {n : Nat} {I S : Addr} {Inv : Nat → Shared → Prop} {Fin' : Shared → Prop}

/-- the iterator hands on n items, the list S takes them -/
structure Feeds (prog : Program) (w : World) (A : Around) (I S : Addr) (n : Nat) (Inv : Nat → Shared → Prop) (Fin' : Shared → Prop) : Prop where
  item : ∀ i (s : Shared) (Q : Option Value → Shared → Prop) (E : Value → Shared → Prop), i < n → Inv i s →
    (∀ v s' acc c, s'.heap.get? S = some (lstObj acc c) → acc.length = i → (∀ h'' c'', SubBut S s'.heap h'' → h''.get? S = some (lstObj (acc ++ [v]) c'') → Inv (i + 1) { s' with heap := h'' }) → Q (some v) s') →
    wpAny (model prog w) A (pyNext (.ref I)) Q E s
  done : ∀ (s : Shared) (Q : Option Value → Shared → Prop) (E : Value → Shared → Prop), Inv n s → (∀ s', Fin' s' → Q none s') → wpAny (model prog w) A (pyNext (.ref I)) Q E s

theorem feed_loop (W : Feeds prog w A.in1 I S n Inv Fin') (hn : n ≤ 100000) (res : Value) {R : Result → Shared → Prop} (hR : ∀ s', Fin' s' → R (.ok (.ret res)) s') : ∀ (k i : Nat) (s : Shared), n - i = k → i ≤ n → Inv i s →
    codeAny (model prog w) A (.builtin "list.extend.loop" ⟨[.ref S, .ref I, res], []⟩) R s := by
  intro k
  induction k with
  | zero =>
    intro i s hk hi hI
    have hin : i = n := by omega
    subst hin
    refine codeAny_builtin F.entry_extend_loop ?_
    rw [Around.under_plainId F.plain_extend_loop _]
    show wpAny _ A.in1 (pyNext (.ref I) >>= _) _ _ s
    refine wpAny_bind (W.done s _ _ hI fun s' hf => ?_)
    exact wpAny_pure (hR s' hf)
  | succ k ih =>
    intro i s hk hi hI
    refine codeAny_builtin F.entry_extend_loop ?_
    rw [Around.under_plainId F.plain_extend_loop _]
    show wpAny _ A.in1 (pyNext (.ref I) >>= _) _ _ s
    refine wpAny_bind (W.item i s _ _ (by omega) hI fun v s' acc c hS hl hnext => ?_)
    show wpAny _ A.in1 (updateSeq S (·.push v) >>= _) _ _ _
    have hlen : acc.toArray.size = i := by simpa using hl
    refine wpAny_bind (wpAny_updateSeq hS rfl (wpAny_pure ⟨plainId_quiet F.plain_extend_loop _, ih (i + 1) _ (by omega) (by omega) (hnext _ (c + 1) (fun b o hb e => (Heap.get?_update_other _ _ (Ne.symm hb)).trans e) ?_)⟩) ?_ ?_)
    · rw [Heap.get?_update_self _ hS rfl]
      simp [Obj.mapSeq]
    · rw [hlen, sizeLine_eq]; omega
    · show (acc.toArray.push v).size ≤ sizeLine + 1
      rw [Array.size_push, hlen, sizeLine_eq]; omega

theorem list_feed {s : Shared} {gn : Nat} {Q : Value → Shared → Prop} {E : Value → Shared → Prop} (hg : s.heap.IsGen I gn) (W : Feeds prog w A.in1.in1 I s.heap.objs.size n Inv Fin') (hn : n ≤ 100000)
    (start : ∀ h' c, Sub s.heap h' → h'.get? s.heap.objs.size = some (lstObj [] c) → Inv 0 { s with heap := h' })
    (hQ : ∀ s', Fin' s' → Q (.ref s.heap.objs.size) s') : wpAny (model prog w) A (call (.type "list") [.ref I]) Q E s := by
  have hIlt : I < s.heap.objs.size := by obtain ⟨o, _, _, ho, _⟩ := hg; exact Heap.lt_size ho
  have hSI : s.heap.objs.size ≠ I := Nat.ne_of_gt hIlt
  refine callType_codes (Q₁ := fun obj s₁ => obj = .ref s.heap.objs.size ∧ s₁ = { s with heap := s.heap.push { cls := .type "list", data := .seq #[] } }) F.called_list (F.typeCall_list_1 _) F.entry_list_init
    (code_list_new _ ⟨rfl, rfl⟩) fun obj s₁ h₁ => ?_
  obtain ⟨rfl, rfl⟩ := h₁
  have hS : (s.heap.push { cls := .type "list", data := .seq #[] }).get? s.heap.objs.size = some { cls := .type "list", data := .seq #[] } := Heap.get?_push_size _ rfl
  have hg₁ : (s.heap.push { cls := .type "list", data := .seq #[] }).IsGen I gn := hg.push _
  refine ⟨⟨_, hS, rfl⟩, F.args_list_init_2 _ _, ?_⟩
  show wpAny _ A.in1.in1 (do let old ← Builtin.List.listItems (.ref s.heap.objs.size); Builtin.List.listUpdate (.ref s.heap.objs.size) (fun _ => #[]); letGo old.toList.reverse; Builtin.List.listExtendWith (.ref s.heap.objs.size) (.ref I) .none) _ _ _
  refine wpAny_bind ?_
  unfold Builtin.List.listItems
  refine wpAny_bind (wpAny_seqItems hS rfl (wpAny_pure ?_))
  show wpAny _ A.in1.in1 (updateSeq s.heap.objs.size (fun _ => #[]) >>= fun _ => letGo (#[] : Array Value).toList.reverse >>= fun _ => Builtin.List.listExtendWith (.ref s.heap.objs.size) (.ref I) .none) _ _ _
  refine wpAny_bind (wpAny_updateSeq hS rfl ?_)
  have hS₂ := Heap.get?_update_self (Obj.mapSeq (fun _ => (#[] : Array Value))) hS rfl
  refine wpAny_bind (wpAny_letGo ?_)
  have o1 : ∀ b, b ≠ s.heap.objs.size → ((s.heap.push { cls := .type "list", data := .seq #[] }).update s.heap.objs.size (Obj.mapSeq (fun _ => (#[] : Array Value)))).get? b = (s.heap.push { cls := .type "list", data := .seq #[] }).get? b :=
    fun b hb => Heap.get?_update_other _ _ (Ne.symm hb)
  have hg₂ : ((s.heap.push { cls := .type "list", data := .seq #[] }).update s.heap.objs.size (Obj.mapSeq (fun _ => (#[] : Array Value)))).IsGen I gn := by
    obtain ⟨o, nm, qn, ho, r⟩ := hg₁
    exact ⟨o, nm, qn, (o1 I (Ne.symm hSI)).trans ho, r⟩
  unfold Builtin.List.listExtendWith
  refine wpAny_bind (wpAny_typeOf hg₂.typeIs ?_)
  have h1 : Builtin.List.listSameRef (.ref s.heap.objs.size) (.ref I) = false := by simp [Builtin.List.listSameRef, hSI]
  have h2 : (Value.type "generator" == Value.type "list") = false := by decide
  have h3 : (Value.type "generator" == Value.type "tuple") = false := by decide
  simp only [h1, h2, h3, Bool.or_false, Bool.false_eq_true, if_false]
  refine wpAny_bind (wpAny_pyIter_gen hg₂ ?_)
  refine wpAny_bind (wpAny_holding ?_)
  unfold Builtin.List.listLengthHint
  refine wpAny_bind (wpAny_specialOf hg₂.typeIs F.gen_no_len ?_)
  show wpAny _ A.in1.in1 (specialOf (Value.ref I) (Str.ofString "__length_hint__") >>= _) _ _ _
  refine wpAny_bind (wpAny_specialOf hg₂.typeIs F.gen_no_hint ?_)
  refine wpAny_pure ?_
  show wpAny _ A.in1.in1 (rule "list.extend.makes-room" >>= fun _ => Builtin.List.listTouch (.ref s.heap.objs.size) >>= fun _ =>
    again (.builtin "list.extend.loop" ⟨[.ref s.heap.objs.size, .ref I, .none], []⟩)) _ _ _
  refine wpAny_bind (wpAny_rule ?_)
  refine wpAny_bind ?_
  show wpAny _ A.in1.in1 (updateSeq s.heap.objs.size (·.push .none) >>= fun _ => updateSeq s.heap.objs.size (·.pop)) _ _ _
  refine wpAny_bind (wpAny_updateSeq hS₂ rfl ?_)
  have hS₃ := Heap.get?_update_self (Obj.mapSeq (·.push Value.none)) hS₂ rfl
  refine wpAny_updateSeq hS₃ rfl ?_
  have hS₄ := Heap.get?_update_self (Obj.mapSeq (·.pop)) hS₃ rfl
  refine wpAny_pure ⟨plainId_quiet F.plain_extend_loop _, feed_loop W hn _ (fun s' hf => ?_) n 0 _ rfl (Nat.zero_le _) (start _ _ (fun b o e => ?_) hS₄)⟩
  · exact ⟨rfl, hQ s' hf⟩
  · have hb : b ≠ s.heap.objs.size := Nat.ne_of_lt (Heap.lt_size e)
    rw [Heap.get?_update_other _ _ (Ne.symm hb), Heap.get?_update_other _ _ (Ne.symm hb), o1 b hb]
    exact Heap.get?_push_of_some _ e
end
end Mine
end

section
open PySem PySem.W PySem.Calls PyProof.Rows PySem.Spec
set_option maxRecDepth 100000
set_option maxHeartbeats 8000000
namespace Mine
/-- the statements of the text's n-th def -/
def defBody (n : Nat) : List Stmt := match PySem.Challenge.pw_co0044_01.main.body[n]? with
  | some (.FunctionDef _ _ b _ _ _ _ _ _ _) => b
  | _ => []
def defScope (n : Nat) : Scope := match PySem.Challenge.pw_co0044_01.main.body[n]? with
  | some (.FunctionDef _ _ _ _ _ _ sc _ _ _) => sc
  | _ => { kind := .function, names := [], isGenerator := false, isCoroutine := false, more := [] }
def forBody : Option Stmt → List Stmt
  | some (.For _ _ b _ _) => b
  | _ => []
def defName (n : Nat) : Str := match PySem.Challenge.pw_co0044_01.main.body[n]? with
  | some (.FunctionDef n .. ) => n
  | _ => ""
def mwIdx : Nat := 13
end Mine
open Mine
end

section
open PySem PySem.W PySem.Calls PyProof.Rows PySem.Spec
set_option maxRecDepth 100000
set_option maxHeartbeats 8000000
namespace Mine

def ifT : Option Stmt → Expr
  | some (.If t _ _ _) => t
  | _ => .Name "" default
def ifB : Option Stmt → List Stmt
  | some (.If _ b _ _) => b
  | _ => []
def ifE : Option Stmt → List Stmt
  | some (.If _ _ b _) => b
  | _ => []
def mwSt (i : Nat) : Option Stmt := (forBody (defBody 13)[5]?)[i]?
abbrev envM (L : Addr) : Env := envOf (Str.ofString "missing_whitespace") (defScope 13) L 85 (.ref 84)

/-- the values of the turn's names -/
structure Vl where
  k : Value
  x : Value
  p : Value
  q : Value
  ln : Value
  need : Value
  pt : Value
  px : Value
  pe : Value
  ot : Value
  br : Value
structure Vs (m : Str → Option Value) (v : Vl) : Prop where
  k : m (Str.ofString "token_type") = some v.k
  x : m (Str.ofString "text") = some v.x
  p : m (Str.ofString "start") = some v.p
  q : m (Str.ofString "end") = some v.q
  ln : m (Str.ofString "line") = some v.ln
  need : m (Str.ofString "need_space") = some v.need
  pt : m (Str.ofString "prev_type") = some v.pt
  px : m (Str.ofString "prev_text") = some v.px
  pe : m (Str.ofString "prev_end") = some v.pe
  ot : m (Str.ofString "operator_types") = some v.ot
  br : m (Str.ofString "brace_stack") = some v.br

theorem Vs.eq {m : Str → Option Value} {v : Vl} (V : Vs m v) : (fun y =>
    if y = Str.ofString "token_type" then some v.k else if y = Str.ofString "text" then some v.x else if y = Str.ofString "start" then some v.p else if y = Str.ofString "end" then some v.q
    else if y = Str.ofString "line" then some v.ln else if y = Str.ofString "need_space" then some v.need else if y = Str.ofString "prev_type" then some v.pt else if y = Str.ofString "prev_text" then some v.px
    else if y = Str.ofString "prev_end" then some v.pe else if y = Str.ofString "operator_types" then some v.ot else if y = Str.ofString "brace_stack" then some v.br else m y) = m := by
  funext y
  by_cases h1 : y = Str.ofString "token_type"
  · rw [if_pos h1, h1, V.k]
  rw [if_neg h1]
  by_cases h1 : y = Str.ofString "text"
  · rw [if_pos h1, h1, V.x]
  rw [if_neg h1]
  by_cases h1 : y = Str.ofString "start"
  · rw [if_pos h1, h1, V.p]
  rw [if_neg h1]
  by_cases h1 : y = Str.ofString "end"
  · rw [if_pos h1, h1, V.q]
  rw [if_neg h1]
  by_cases h1 : y = Str.ofString "line"
  · rw [if_pos h1, h1, V.ln]
  rw [if_neg h1]
  by_cases h1 : y = Str.ofString "need_space"
  · rw [if_pos h1, h1, V.need]
  rw [if_neg h1]
  by_cases h1 : y = Str.ofString "prev_type"
  · rw [if_pos h1, h1, V.pt]
  rw [if_neg h1]
  by_cases h1 : y = Str.ofString "prev_text"
  · rw [if_pos h1, h1, V.px]
  rw [if_neg h1]
  by_cases h1 : y = Str.ofString "prev_end"
  · rw [if_pos h1, h1, V.pe]
  rw [if_neg h1]
  by_cases h1 : y = Str.ofString "operator_types"
  · rw [if_pos h1, h1, V.ot]
  rw [if_neg h1]
  by_cases h1 : y = Str.ofString "brace_stack"
  · rw [if_pos h1, h1, V.br]
  rw [if_neg h1]
theorem Vs.fr {g h : Heap} {L : Addr} {m : Str → Option Value} {v : Vl} (V : Vs m v) (F : Fr g L h m) : Fr g L h (fun y =>
    if y = Str.ofString "token_type" then some v.k else if y = Str.ofString "text" then some v.x else if y = Str.ofString "start" then some v.p else if y = Str.ofString "end" then some v.q
    else if y = Str.ofString "line" then some v.ln else if y = Str.ofString "need_space" then some v.need else if y = Str.ofString "prev_type" then some v.pt else if y = Str.ofString "prev_text" then some v.px
    else if y = Str.ofString "prev_end" then some v.pe else if y = Str.ofString "operator_types" then some v.ot else if y = Str.ofString "brace_stack" then some v.br else m y) := by rw [V.eq]; exact F
theorem Vs.back {g h : Heap} {L : Addr} {m : Str → Option Value} {v : Vl} (V : Vs m v) (F : Fr g L h (fun y =>
    if y = Str.ofString "token_type" then some v.k else if y = Str.ofString "text" then some v.x else if y = Str.ofString "start" then some v.p else if y = Str.ofString "end" then some v.q
    else if y = Str.ofString "line" then some v.ln else if y = Str.ofString "need_space" then some v.need else if y = Str.ofString "prev_type" then some v.pt else if y = Str.ofString "prev_text" then some v.px
    else if y = Str.ofString "prev_end" then some v.pe else if y = Str.ofString "operator_types" then some v.ot else if y = Str.ofString "brace_stack" then some v.br else m y)) : Fr g L h m := by rw [V.eq] at F; exact F

def brace (st : List Str) (k : Int) (x : Str) : List Str :=
  if k = 54 ∧ (x = "[" ∨ x = "(" ∨ x = "{") then st ++ [x] else if k = 54 ∧ (x = "]" ∨ x = ")" ∨ x = "}") then st.dropLast else st

/-- comparing two positions -/
theorem ne_pos {prog : Program} {w : World} {A : Around} {s : Shared} {g : Heap} {L p q : Addr} {m : Str → Option Value} {b e : Nat} {t1 t2 t3 t4 : Tok} {Q : Value → Shared → Prop} {E : Value → Shared → Prop}
    (F : Fr g L s.heap m) (hp : IsTup g p #[.int 1 t1, .int b t2]) (hq : IsTup g q #[.int 1 t3, .int e t4]) (hu : A.units + 64 < cLine) (h : Q (.bool (decide (b ≠ e))) s) :
    wpAny (model prog w) A (compareOp .NotEq (.ref p) (.ref q)) Q E s := by
  obtain ⟨o, ho, hc, n, hd⟩ := hp
  obtain ⟨o', ho', hc', n', hd'⟩ := hq
  have rp : Reads s.heap (.ref p) (.tuple [.int 1, .int b]) [] := .tuple (F.keep _ _ ho) hc hd (.cons (.int _ _) (.cons (.int _ _) .nil))
  have rq : Reads s.heap (.ref q) (.tuple [.int 1, .int e]) [] := .tuple (F.keep _ _ ho') hc' hd' (.cons (.int _ _) (.cons (.int _ _) .nil))
  refine ne_dataH rp rq rfl rfl hu ?_
  have e1 : PyData.eqv (.tuple [.int 1, .int b]) (.tuple [.int 1, .int e]) = decide (b = e) := by
    simp only [PyData.eqv, PyData.eqvAll]
    by_cases r : b = e
    · simp [r]
    · have r' : ¬ (b : Int) = (e : Int) := by omega
      simp [r, r']
  rw [e1]
  by_cases q : b = e <;> simpa [q] using h
theorem eq_pos {prog : Program} {w : World} {A : Around} {s : Shared} {g : Heap} {L p q : Addr} {m : Str → Option Value} {b e : Nat} {t1 t2 t3 t4 : Tok} {Q : Value → Shared → Prop} {E : Value → Shared → Prop}
    (F : Fr g L s.heap m) (hp : IsTup g p #[.int 1 t1, .int b t2]) (hq : IsTup g q #[.int 1 t3, .int e t4]) (hu : A.units + 64 < cLine) (h : Q (.bool (decide (b = e))) s) :
    wpAny (model prog w) A (compareOp .Eq (.ref p) (.ref q)) Q E s := by
  obtain ⟨o, ho, hc, n, hd⟩ := hp
  obtain ⟨o', ho', hc', n', hd'⟩ := hq
  have rp : Reads s.heap (.ref p) (.tuple [.int 1, .int b]) [] := .tuple (F.keep _ _ ho) hc hd (.cons (.int _ _) (.cons (.int _ _) .nil))
  have rq : Reads s.heap (.ref q) (.tuple [.int 1, .int e]) [] := .tuple (F.keep _ _ ho') hc' hd' (.cons (.int _ _) (.cons (.int _ _) .nil))
  refine eq_dataH rp rq rfl rfl hu ?_
  have e1 : PyData.eqv (.tuple [.int 1, .int b]) (.tuple [.int 1, .int e]) = decide (b = e) := by
    simp only [PyData.eqv, PyData.eqvAll]
    by_cases r : b = e
    · simp [r]
    · have r' : ¬ (b : Int) = (e : Int) := by omega
      simp [r, r']
  rw [e1]
  exact h

theorem reads_strs {h : Heap} : ∀ {vs : List Value} {ss : List Str}, StrsAre vs ss → ReadsAll h vs (ss.map .str) []
  | _, _, .nil => .nil
  | _, _, .cons y t r => .cons (as := []) (.str _ _) (reads_strs r)
theorem eqv_strs : ∀ (a b : List Str), PyData.eqv (.list (a.map .str)) (.list (b.map .str)) = decide (a = b) := by
  intro a
  induction a with
  | nil => intro b; cases b <;> simp [PyData.eqv, PyData.eqvAll]
  | cons x a ih =>
    intro b
    cases b with
    | nil => simp [PyData.eqv, PyData.eqvAll]
    | cons y b =>
      have := ih b
      simp only [PyData.eqv] at this ⊢
      simp only [List.map_cons, PyData.eqvAll, PyData.eqv, this]
      by_cases q : x = y <;> by_cases r : a = b <;> simp [q, r]
theorem can_strs : ∀ a : List Str, (∀ x ∈ a, PyData.strOk x = true) → PyData.canLayAll0 (a.map .str) = true
  | [], _ => rfl
  | x :: r, h => by simp [PyData.canLayAll0, PyData.canLay0, can_strs r (fun y m => h y (.tail _ m)), h x (.head _)]
theorem depth_strs : ∀ a : List Str, PyData.depthAll (a.map .str) = 0
  | [] => rfl
  | _ :: r => by simp [PyData.depthAll, PyData.depth, depth_strs r]
theorem shaped_strs (a : List Str) (h : ∀ x ∈ a, PyData.strOk x = true) : SeqAt.shaped (.list (a.map .str)) = true := by
  simp [SeqAt.shaped, PyData.canLay0, PyData.depth, can_strs a h, depth_strs]
/-- comparing two lists of texts in the ledger -/
theorem eq_strs {prog : Program} {w : World} {A : Around} {s : Shared} {g : Heap} {L a b : Addr} {news : List (Addr × Obj)} {va vb : Array Value} {na nb : Nat} {xs ys : List Str} {Q : Value → Shared → Prop} {E : Value → Shared → Prop}
    (N : News g L s.heap news) (ma : (a, W.listOf va na) ∈ news) (mb : (b, W.listOf vb nb) ∈ news) (ha : StrsAre va.toList xs) (hb : StrsAre vb.toList ys) (ka : ∀ x ∈ xs, PyData.strOk x = true) (kb : ∀ x ∈ ys, PyData.strOk x = true) (hu : A.units + 64 < cLine) (h : Q (.bool (decide (xs = ys))) s) :
    wpAny (model prog w) A (compareOp .Eq (.ref a) (.ref b)) Q E s := by
  refine eq_dataH (.list (N _ ma).1 rfl rfl (reads_strs ha)) (.list (N _ mb).1 rfl rfl (reads_strs hb)) (shaped_strs _ ka) (shaped_strs _ kb) hu ?_
  rw [eqv_strs]; exact h
theorem truthy_K {prog : Program} {w : World} {A : Around} {s : Shared} {g : Heap} {L l : Addr} {news : List (Addr × Obj)} {va : Array Value} {n : Nat} {Q : Bool → Shared → Prop} {E : Value → Shared → Prop}
    (N : News g L s.heap news) (ml : (l, W.listOf va n) ∈ news) (hz : va.size ≤ 100000) (h : Q (!va.isEmpty) { s with toks := s.toks + 1 + 1 }) : wpAny (model prog w) A (truthy (.ref l)) Q E s :=
  wpAny_truthy_list ⟨_, (N _ ml).1, rfl, n, rfl⟩ (by omega) h
theorem notin_top {w : World} {prog : Program} {A : Around} {s : Shared} {g : Heap} {L t : Addr} {m : Str → Option Value} {x : Str} {u : Tok} {items : Array Value} {n : Nat} {dd : Option Addr} {sl : Array (Option Value)} {ys : List Str} {Q : Value → Shared → Prop} {E : Value → Shared → Prop}
    (X : (hd.heap_39 w.params).In g) (F : Fr g L s.heap m) (e : (hd.heap_39 w.params).lookup t = some ⟨.type "tuple", dd, .seq items n, sl⟩) (hi : StrsAre items.toList ys) (h : Q (.bool (!(ys.any (· == x)))) s) :
    wpAny (model prog w) A (compareOp .NotIn (.str x u) (.ref t)) Q E s :=
  notin_tuple_strs ⟨_, F.keep _ _ (X _ _ e), rfl, n, rfl⟩ hi h

theorem in_top {w : World} {prog : Program} {A : Around} {s : Shared} {g : Heap} {L t : Addr} {m : Str → Option Value} {x : Str} {u : Tok} {items : Array Value} {n : Nat} {dd : Option Addr} {sl : Array (Option Value)} {ys : List Str} {Q : Value → Shared → Prop} {E : Value → Shared → Prop}
    (X : (hd.heap_39 w.params).In g) (F : Fr g L s.heap m) (e : (hd.heap_39 w.params).lookup t = some ⟨.type "tuple", dd, .seq items n, sl⟩) (hi : StrsAre items.toList ys) (h : Q (.bool (ys.any (· == x))) s) :
    wpAny (model prog w) A (compareOp .In (.str x u) (.ref t)) Q E s :=
  in_tuple_strs ⟨_, F.keep _ _ (X _ _ e), rfl, n, rfl⟩ hi h
theorem in_top_int {w : World} {prog : Program} {A : Around} {s : Shared} {g : Heap} {L t : Addr} {m : Str → Option Value} {x : Int} {u : Tok} {items : Array Value} {n : Nat} {dd : Option Addr} {sl : Array (Option Value)} {ys : List Int} {Q : Value → Shared → Prop} {E : Value → Shared → Prop}
    (X : (hd.heap_39 w.params).In g) (F : Fr g L s.heap m) (e : (hd.heap_39 w.params).lookup t = some ⟨.type "tuple", dd, .seq items n, sl⟩) (hi : IntsAre items.toList ys) (h : Q (.bool (ys.any (· == x))) s) :
    wpAny (model prog w) A (compareOp .In (.int x u) (.ref t)) Q E s :=
  in_tuple_ints ⟨_, F.keep _ _ (X _ _ e), rfl, n, rfl⟩ hi h
theorem reads_need {g : Heap} {s : Shared} {L np nd : Addr} {m : Str → Option Value} {news : List (Addr × Obj)} {bl : Bool} {c : Nat} {t1 t2 : Tok} (F : Fr g L s.heap m) (N : News g L s.heap news) (h : (nd, tupOf [.ref np, .bool bl]) ∈ news) (hp : IsTup g np #[.int 1 t1, .int c t2]) :
    Reads s.heap (.ref nd) (.tuple [.tuple [.int 1, .int c], .bool bl]) [] := by
  obtain ⟨o, ho, hc, n, hd⟩ := hp
  exact .tuple (N _ h).1 rfl rfl (.cons (as := []) (.tuple (F.keep _ _ ho) hc hd (.cons (as := []) (.int _ _) (.cons (as := []) (.int _ _) .nil))) (.cons (as := []) (.bool _) .nil))
theorem ne_refbool {prog : Program} {w : World} {A : Around} {s : Shared} {g : Heap} {L np nd : Addr} {m : Str → Option Value} {news : List (Addr × Obj)} {bl b : Bool} {c : Nat} {t1 t2 : Tok} {Q : Value → Shared → Prop} {E : Value → Shared → Prop}
    (F : Fr g L s.heap m) (N : News g L s.heap news) (h : (nd, tupOf [.ref np, .bool bl]) ∈ news) (hp : IsTup g np #[.int 1 t1, .int c t2]) (hu : A.units + 64 < cLine) (hq : Q (.bool true) s) :
    wpAny (model prog w) A (compareOp .NotEq (.ref nd) (.bool b)) Q E s :=
  ne_dataH (reads_need F N h hp) (.bool b) (by simp [SeqAt.shaped, PyData.canLay0, PyData.canLayAll0, PyData.depth, PyData.depthAll]) (by simp [SeqAt.shaped, PyData.canLay0, PyData.depth]) hu (by simpa [PyData.eqv] using hq)
theorem eq_refbool {prog : Program} {w : World} {A : Around} {s : Shared} {g : Heap} {L np nd : Addr} {m : Str → Option Value} {news : List (Addr × Obj)} {bl b : Bool} {c : Nat} {t1 t2 : Tok} {Q : Value → Shared → Prop} {E : Value → Shared → Prop}
    (F : Fr g L s.heap m) (N : News g L s.heap news) (h : (nd, tupOf [.ref np, .bool bl]) ∈ news) (hp : IsTup g np #[.int 1 t1, .int c t2]) (hu : A.units + 64 < cLine) (hq : Q (.bool false) s) :
    wpAny (model prog w) A (compareOp .Eq (.ref nd) (.bool b)) Q E s :=
  eq_dataH (reads_need F N h hp) (.bool b) (by simp [SeqAt.shaped, PyData.canLay0, PyData.canLayAll0, PyData.depth, PyData.depthAll]) (by simp [SeqAt.shaped, PyData.canLay0, PyData.depth]) hu (by simpa [PyData.eqv] using hq)
def Has (a b : Str) : Bool := !(Builtin.Str.occurrences b a 0 b.length 1).isEmpty

structure Tk where
  kind : Int
  word : Str
  b : Nat
  e : Nat
inductive Need
  | no | must
  | opt (p : Nat) (bef : Bool)
structure MS where
  need : Need
  ptype : Int
  prev : Option (Str × Nat)
  st : List Str
structure Out where
  at_ : Nat
  msg : Str
def nextOf (line : Str) (e : Nat) : Str := Txt.slice line (some (e : Int)) (some ((e : Int) + 1))
end Mine
end

section
open PySem PySem.W PySem.Calls PyProof.Rows PySem.Spec
set_option maxRecDepth 100000
set_option maxHeartbeats 8000000
namespace Mine
local macro_rules | `(tactic| k_all) => `(tactic| assumption)
local macro_rules | `(tactic| walk_at "ite") => `(tactic| (k_closed; first | ((with_reducible refine' ite_pos ?hc ?_); (case hc => k_dflt decide)) | ((with_reducible refine' ite_neg ?hc ?_); (case hc => k_dflt decide))))
local macro_rules | `(tactic| walk_at "truthy ref") => `(tactic| (k_here; (with_reducible show wpAny _ _ (truthy (Value.ref _)) _ _ _); k_dflt (refine' truthy_K ?N ?l ?z ?_; (case N => k_asm); (case l => k_mem); (case z => first | assumption | (simp only [List.size_toArray, List.length_cons, List.length_nil]; omega)))))
local macro_rules | `(tactic| walk_at "compareOp NotEq ref ref") => `(tactic| (k_here; (with_reducible show wpAny _ _ (compareOp CmpOp.NotEq (Value.ref _) (Value.ref _)) _ _ _); k_dflt (refine' ne_pos ?F ?p ?q ?u ?_; (case F => k_asm); (case p => assumption); (case q => assumption); (case u => assumption))))
local macro_rules | `(tactic| walk_at "compareOp Eq ref ref") => `(tactic| (k_here; (with_reducible show wpAny _ _ (compareOp CmpOp.Eq (Value.ref _) (Value.ref _)) _ _ _); k_dflt (first
  | (refine' eq_pos ?F ?p ?q ?u ?_; (case F => k_asm); (case p => assumption); (case q => assumption); (case u => assumption))
  | (refine' eq_strs ?N ?a ?b ?i ?j ?ka ?kb ?u ?_; (case N => k_asm); (case a => k_mem); (case b => k_mem); (case i => (repeat' constructor)); (case j => (repeat' constructor)); (case ka => decide +kernel); (case kb => decide +kernel); (case u => assumption)))))
local macro_rules | `(tactic| walk_at "compareOp NotIn str ref") => `(tactic| (k_here; (with_reducible show wpAny _ _ (compareOp CmpOp.NotIn (Value.str _ _) (Value.ref _)) _ _ _); k_dflt (refine' notin_top ?X ?F ?e ?i ?_; (case X => assumption); (case F => k_asm); (case e => k_is); (case i => (repeat' constructor)))))

local macro_rules | `(tactic| walk_at "compareOp In str ref") => `(tactic| (k_here; (with_reducible show wpAny _ _ (compareOp CmpOp.In (Value.str _ _) (Value.ref _)) _ _ _); k_dflt (refine' in_top ?X ?F ?e ?i ?_; (case X => assumption); (case F => k_asm); (case e => k_is); (case i => (repeat' constructor)))))
local macro_rules | `(tactic| walk_at "compareOp In int ref") => `(tactic| (k_here; (with_reducible show wpAny _ _ (compareOp CmpOp.In (Value.int _ _) (Value.ref _)) _ _ _); k_dflt (refine' in_top_int ?X ?F ?e ?i ?_; (case X => assumption); (case F => k_asm); (case e => k_is); (case i => (repeat' constructor)))))
local macro_rules | `(tactic| walk_at "compareOp NotEq ref bool") => `(tactic| (k_here; (with_reducible show wpAny _ _ (compareOp CmpOp.NotEq (Value.ref _) (Value.bool _)) _ _ _); k_dflt (refine' ne_refbool ?F ?N ?h ?p ?u ?_; (case F => k_asm); (case N => k_asm); (case h => k_mem); (case p => assumption); (case u => assumption))))
local macro_rules | `(tactic| walk_at "compareOp Eq ref bool") => `(tactic| (k_here; (with_reducible show wpAny _ _ (compareOp CmpOp.Eq (Value.ref _) (Value.bool _)) _ _ _); k_dflt (refine' eq_refbool ?F ?N ?h ?p ?u ?_; (case F => k_asm); (case N => k_asm); (case h => k_mem); (case p => assumption); (case u => assumption))))

def okB (x : Str) : Prop := x = "(" ∨ x = "[" ∨ x = "{"
theorem okB.ok {x : Str} (h : okB x) : PyData.strOk x = true := by rcases h with rfl | rfl | rfl <;> decide +kernel
theorem stk_shape {bv : Array Value} {st : List Str} (h : StrsAre bv.toList st) (hl : st.length ≤ 2) : (bv = #[] ∧ st = []) ∨ (∃ a ta, bv = #[.str a ta] ∧ st = [a]) ∨ (∃ a ta b tb, bv = #[.str a ta, .str b tb] ∧ st = [a, b]) := by
  obtain ⟨bv⟩ := bv
  dsimp only at h
  cases h with
  | nil => exact .inl ⟨rfl, rfl⟩
  | cons y t h =>
    cases h with
    | nil => exact .inr (.inl ⟨_, _, rfl, rfl⟩)
    | cons y' t' h =>
      cases h with
      | nil => exact .inr (.inr ⟨_, _, _, _, rfl, rfl⟩)
      | cons _ _ h => simp at hl
theorem newsPick {g h : Heap} {L aB : Addr} {o : Obj} {led T : List (Addr × Obj)} (N : News g L h led) (m : (aB, o) ∈ led) (k : ∀ p ∈ T, p ∈ led) : News g L h ((aB, o) :: T) := fun p hp => by
  rcases List.mem_cons.mp hp with rfl | hp
  · exact N _ m
  · exact N _ (k p hp)
theorem snoc_strs {vs : List Value} {ss : List Str} (h : StrsAre vs ss) (x : Str) (t : Tok) : StrsAre (vs ++ [.str x t]) (ss ++ [x]) := by
  induction h with
  | nil => exact .cons _ _ .nil
  | cons y t _ ih => exact .cons _ _ ih
theorem castQ {Q : Bool → Shared → Prop} {b c : Bool} {s : Shared} (e : c = b) (h : Q c s) : Q b s := e ▸ h
theorem okB.nl {x : Str} (h : okB x) : (x == Str.ofString "l") = false := by rcases h with rfl | rfl | rfl <;> decide +kernel
def ins (ws : List Str) (x : Str) : Bool := ws.any (· == x)
theorem newsDrop1 {g h : Heap} {L : Addr} {a} {T : List (Addr × Obj)} (N : News g L h (a :: T)) : News g L h T := fun p hp => N p (.tail _ hp)
theorem newsDrop2 {g h : Heap} {L : Addr} {a b} {T : List (Addr × Obj)} (N : News g L h (a :: b :: T)) : News g L h T := newsDrop1 (newsDrop1 N)
theorem newsDrop3 {g h : Heap} {L : Addr} {a b c} {T : List (Addr × Obj)} (N : News g L h (a :: b :: c :: T)) : News g L h T := newsDrop1 (newsDrop2 N)
theorem newsDrop4 {g h : Heap} {L : Addr} {a b c d} {T : List (Addr × Obj)} (N : News g L h (a :: b :: c :: d :: T)) : News g L h T := newsDrop1 (newsDrop3 N)
theorem newsDrop5 {g h : Heap} {L : Addr} {a b c d e} {T : List (Addr × Obj)} (N : News g L h (a :: b :: c :: d :: e :: T)) : News g L h T := newsDrop1 (newsDrop4 N)
theorem newsDrop6 {g h : Heap} {L : Addr} {a b c d e f} {T : List (Addr × Obj)} (N : News g L h (a :: b :: c :: d :: e :: f :: T)) : News g L h T := newsDrop1 (newsDrop5 N)
theorem newsDrop7 {g h : Heap} {L : Addr} {a b c d e f i} {T : List (Addr × Obj)} (N : News g L h (a :: b :: c :: d :: e :: f :: i :: T)) : News g L h T := newsDrop1 (newsDrop6 N)
theorem newsDrop8 {g h : Heap} {L : Addr} {a b c d e f i j} {T : List (Addr × Obj)} (N : News g L h (a :: b :: c :: d :: e :: f :: i :: j :: T)) : News g L h T := newsDrop1 (newsDrop7 N)
def needed : List Str := [Str.ofString "**=", Str.ofString "*=", Str.ofString "/=", Str.ofString "//=", Str.ofString "+=", Str.ofString "-=", Str.ofString "!=", Str.ofString "<", Str.ofString ">", Str.ofString "%=", Str.ofString "^=", Str.ofString "&=", Str.ofString "|=", Str.ofString "==", Str.ofString "<=", Str.ofString ">=", Str.ofString "<<=", Str.ofString ">>=", Str.ofString "=", Str.ofString "and", Str.ofString "in", Str.ofString "is", Str.ofString "or", Str.ofString "->", Str.ofString ":="]
def unary : List Str := [Str.ofString ">>", Str.ofString "**", Str.ofString "*", Str.ofString "+", Str.ofString "-"]
def optional : List Str := [Str.ofString "**", Str.ofString "*", Str.ofString "/", Str.ofString "//", Str.ofString "+", Str.ofString "-", Str.ofString "@", Str.ofString "^", Str.ofString "&", Str.ofString "|", Str.ofString "<<", Str.ofString ">>", Str.ofString "%"]
def soft : List Str := [Str.ofString "_", Str.ofString "case", Str.ofString "match", Str.ofString "type"]
def keywords : List Str := [Str.ofString "and", Str.ofString "as", Str.ofString "assert", Str.ofString "async", Str.ofString "await", Str.ofString "break", Str.ofString "class", Str.ofString "continue", Str.ofString "def", Str.ofString "del", Str.ofString "elif", Str.ofString "else", Str.ofString "except", Str.ofString "finally", Str.ofString "for", Str.ofString "from", Str.ofString "global", Str.ofString "if", Str.ofString "\x69mport", Str.ofString "in", Str.ofString "is", Str.ofString "lambda", Str.ofString "nonlocal", Str.ofString "not", Str.ofString "or", Str.ofString "pass", Str.ofString "raise", Str.ofString "return", Str.ofString "try", Str.ofString "while", Str.ofString "with", Str.ofString "yield", Str.ofString "print"]
theorem unknow {g h : Heap} {L : Addr} {m : Str → Option Value} {x : Str} {v : Value} (e : m x = some v) (F : Fr g L h (fun y => if y = x then some v else m y)) : Fr g L h m := by
  have e' : (fun y => if y = x then some v else m y) = m := by
    funext y
    by_cases q : y = x
    · rw [if_pos q, q, e]
    · rw [if_neg q]
  rw [e'] at F; exact F
theorem Vs.know {m : Str → Option Value} {v : Vl} {x : Str} {u : Value} (V : Vs m v) (e : m x = some u) : Vs (fun y => if y = x then some u else m y) v := by
  have e' : (fun y => if y = x then some u else m y) = m := by
    funext y
    by_cases q : y = x
    · rw [if_pos q, q, e]
    · rw [if_neg q]
  rw [e']; exact V
theorem t0a {w : World} {loose : List Str} {mean : ExcName → Option Value} {mg mb : Str → Option Value} {A : Around} {s : Shared} {g : Heap} {L : Addr} {led : List (Addr × Obj)} {m : Str → Option Value} {v : Vl} {Q : Bool → Shared → Prop} {k : Int} {tk : Tok} {x : Str} {tx : Tok} 
    (G : Gnd w loose mean mg mb g) (V : Vs m v) (F : Fr g L s.heap m) (N : News g L s.heap led) (vk : v.k = .int k tk) (vx : v.x = .str x tx) 
    (hQ : ∀ h' tk', Fr g L h' m → News g L h' led → Q (decide (k = 54) && (false || decide (x = Str.ofString "[") || decide (x = Str.ofString "(") || decide (x = Str.ofString "{"))) { s with heap := h', toks := tk' }) :
    wpAny (model PySem.Challenge.rw_co0044_01.row.toRowW.prog w) A (isTrue (ifT (mwSt 0)) (envM L) (eval (ifT (mwSt 0)) (envM L))) Q (fun _ _ => False) s := by
  have X' := G.X
  have T' := G.T
  revert X'
  k_fill
  intro X'
  have F0 := V.fr F
  clear F
  obtain ⟨vk', vx', vp', vq', vln', vneed', vpt', vpx', vpe', vot', vbr'⟩ := v
  dsimp only at vk vx F0
  subst vk vx
  simp only [envM]
  conv in (occs := *) (ifT _) => all_goals whnf
  conv in (defScope 13) => whnf
  all_goals (k_unmd; repeat' walk1)
  all_goals (try dsimp only)
  all_goals (first | (exfalso; (contradiction); done) | skip)
  all_goals (
    rename Fr g L _ _ => FE
    refine castQ ?_ (hQ _ _ (V.back FE) (by first | assumption | exact newsDrop1 (by assumption) | exact newsDrop2 (by assumption) | exact newsDrop3 (by assumption) | exact newsDrop4 (by assumption) | exact newsDrop5 (by assumption) | exact newsDrop6 (by assumption) | exact newsDrop7 (by assumption) | exact newsDrop8 (by assumption)))
    first | (rw [decide_eq_true (by assumption : k = 54), Bool.true_and]; assumption) | (rw [decide_eq_false (by assumption : k ≠ 54)]; rfl))
theorem t0b {w : World} {loose : List Str} {mean : ExcName → Option Value} {mg mb : Str → Option Value} {A : Around} {s : Shared} {g : Heap} {L : Addr} {led : List (Addr × Obj)} {m : Str → Option Value} {v : Vl} {Q : Bool → Shared → Prop} {k : Int} {tk : Tok} 
    (G : Gnd w loose mean mg mb g) (V : Vs m v) (F : Fr g L s.heap m) (N : News g L s.heap led) (vk : v.k = .int k tk) (hk : 0 < k)
    (hQ : ∀ h' tk', Fr g L h' m → News g L h' led → Q (false) { s with heap := h', toks := tk' }) :
    wpAny (model PySem.Challenge.rw_co0044_01.row.toRowW.prog w) A (isTrue (ifT (ifE (mwSt 0))[0]?) (envM L) (eval (ifT (ifE (mwSt 0))[0]?) (envM L))) Q (fun _ _ => False) s := by
  have X' := G.X
  have T' := G.T
  revert X'
  k_fill
  intro X'
  have F0 := V.fr F
  clear F
  obtain ⟨vk', vx', vp', vq', vln', vneed', vpt', vpx', vpe', vot', vbr'⟩ := v
  dsimp only at vk F0
  subst vk
  simp only [envM]
  conv in (occs := *) (ifT _) => all_goals whnf
  conv in (defScope 13) => whnf
  all_goals (k_unmd; repeat' walk1)
  all_goals (try dsimp only)
  all_goals (first | (exfalso; (omega); done) | skip)
  all_goals (
    rename Fr g L _ _ => FE
    refine castQ ?_ (hQ _ _ (V.back FE) (by first | assumption | exact newsDrop1 (by assumption) | exact newsDrop2 (by assumption) | exact newsDrop3 (by assumption) | exact newsDrop4 (by assumption) | exact newsDrop5 (by assumption) | exact newsDrop6 (by assumption) | exact newsDrop7 (by assumption) | exact newsDrop8 (by assumption)))
    first | rfl | exact (decide_eq_false (by omega)).symm)
theorem t0c {w : World} {loose : List Str} {mean : ExcName → Option Value} {mg mb : Str → Option Value} {A : Around} {s : Shared} {g : Heap} {L : Addr} {led : List (Addr × Obj)} {m : Str → Option Value} {v : Vl} {Q : Bool → Shared → Prop} {k : Int} {tk : Tok} 
    (G : Gnd w loose mean mg mb g) (V : Vs m v) (F : Fr g L s.heap m) (N : News g L s.heap led) (vk : v.k = .int k tk) (hk : 0 < k)
    (hQ : ∀ h' tk', Fr g L h' m → News g L h' led → Q (false) { s with heap := h', toks := tk' }) :
    wpAny (model PySem.Challenge.rw_co0044_01.row.toRowW.prog w) A (isTrue (ifT (ifE ((ifE (mwSt 0))[0]?))[0]?) (envM L) (eval (ifT (ifE ((ifE (mwSt 0))[0]?))[0]?) (envM L))) Q (fun _ _ => False) s := by
  have X' := G.X
  have T' := G.T
  revert X'
  k_fill
  intro X'
  have F0 := V.fr F
  clear F
  obtain ⟨vk', vx', vp', vq', vln', vneed', vpt', vpx', vpe', vot', vbr'⟩ := v
  dsimp only at vk F0
  subst vk
  simp only [envM]
  conv in (occs := *) (ifT _) => all_goals whnf
  conv in (defScope 13) => whnf
  all_goals (k_unmd; repeat' walk1)
  all_goals (try dsimp only)
  all_goals (first | (exfalso; (omega); done) | skip)
  all_goals (
    rename Fr g L _ _ => FE
    refine castQ ?_ (hQ _ _ (V.back FE) (by first | assumption | exact newsDrop1 (by assumption) | exact newsDrop2 (by assumption) | exact newsDrop3 (by assumption) | exact newsDrop4 (by assumption) | exact newsDrop5 (by assumption) | exact newsDrop6 (by assumption) | exact newsDrop7 (by assumption) | exact newsDrop8 (by assumption)))
    first | rfl | exact (decide_eq_false (by omega)).symm)
theorem t0d {w : World} {loose : List Str} {mean : ExcName → Option Value} {mg mb : Str → Option Value} {A : Around} {s : Shared} {g : Heap} {L : Addr} {led : List (Addr × Obj)} {m : Str → Option Value} {v : Vl} {Q : Bool → Shared → Prop} {k : Int} {tk : Tok} {x : Str} {tx : Tok} 
    (G : Gnd w loose mean mg mb g) (V : Vs m v) (F : Fr g L s.heap m) (N : News g L s.heap led) (vk : v.k = .int k tk) (vx : v.x = .str x tx) (hk : 0 < k) (hx : k = 1 → x ≠ Str.ofString "lambda")
    (hQ : ∀ h' tk', Fr g L h' m → News g L h' led → Q (false) { s with heap := h', toks := tk' }) :
    wpAny (model PySem.Challenge.rw_co0044_01.row.toRowW.prog w) A (isTrue (ifT (ifE ((ifE ((ifE (mwSt 0))[0]?))[0]?))[0]?) (envM L) (eval (ifT (ifE ((ifE ((ifE (mwSt 0))[0]?))[0]?))[0]?) (envM L))) Q (fun _ _ => False) s := by
  have X' := G.X
  have T' := G.T
  revert X'
  k_fill
  intro X'
  have F0 := V.fr F
  clear F
  obtain ⟨vk', vx', vp', vq', vln', vneed', vpt', vpx', vpe', vot', vbr'⟩ := v
  dsimp only at vk vx F0
  subst vk vx
  simp only [envM]
  conv in (occs := *) (ifT _) => all_goals whnf
  conv in (defScope 13) => whnf
  all_goals (k_unmd; repeat' walk1)
  all_goals (try dsimp only)
  all_goals (first | (exfalso; (exact hx (by assumption) (eq_of_beq (by assumption))); done) | skip)
  all_goals (
    rename Fr g L _ _ => FE
    refine castQ ?_ (hQ _ _ (V.back FE) (by first | assumption | exact newsDrop1 (by assumption) | exact newsDrop2 (by assumption) | exact newsDrop3 (by assumption) | exact newsDrop4 (by assumption) | exact newsDrop5 (by assumption) | exact newsDrop6 (by assumption) | exact newsDrop7 (by assumption) | exact newsDrop8 (by assumption)))
    first | rfl | assumption | (simp only [*]; done) | (simp only [*]; rfl) | (simp only [ins, needed, unary, optional, soft, keywords, Has, *]; done) | (simp only [ins, needed, unary, optional, soft, keywords, Has, *]; rfl) | (simp only [*]; simp; done))
theorem t0e {w : World} {loose : List Str} {mean : ExcName → Option Value} {mg mb : Str → Option Value} {A : Around} {s : Shared} {g : Heap} {L : Addr} {led : List (Addr × Obj)} {m : Str → Option Value} {v : Vl} {Q : Bool → Shared → Prop} {aB : Addr} {nb : Nat} {bv : Array Value}
    (G : Gnd w loose mean mg mb g) (V : Vs m v) (F : Fr g L s.heap m) (N : News g L s.heap ((aB, W.listOf bv nb) :: led)) (vb : v.br = .ref aB) (hz : bv.size ≤ 100000)
    (hQ : ∀ h' tk', Fr g L h' m → News g L h' ((aB, W.listOf bv nb) :: led) → Q (!bv.isEmpty) { s with heap := h', toks := tk' }) :
    wpAny (model PySem.Challenge.rw_co0044_01.row.toRowW.prog w) A (isTrue (ifT (ifE ((ifE ((ifE ((ifE (mwSt 0))[0]?))[0]?))[0]?))[0]?) (envM L) (eval (ifT (ifE ((ifE ((ifE ((ifE (mwSt 0))[0]?))[0]?))[0]?))[0]?) (envM L))) Q (fun _ _ => False) s := by
  have X' := G.X
  have T' := G.T
  revert X'
  k_fill
  intro X'
  have F0 := V.fr F
  clear F
  obtain ⟨vk', vx', vp', vq', vln', vneed', vpt', vpx', vpe', vot', vbr'⟩ := v
  dsimp only at vb F0
  subst vb
  simp only [envM]
  conv in (occs := *) (ifT _) => all_goals whnf
  conv in (defScope 13) => whnf
  all_goals (k_unmd; repeat' walk1)
  all_goals (try dsimp only)
  all_goals (first | (exfalso; (contradiction); done) | skip)
  all_goals (
    rename Fr g L _ _ => FE
    refine castQ ?_ (hQ _ _ (V.back FE) (by first | assumption | exact newsDrop1 (by assumption) | exact newsDrop2 (by assumption) | exact newsDrop3 (by assumption) | exact newsDrop4 (by assumption) | exact newsDrop5 (by assumption) | exact newsDrop6 (by assumption) | exact newsDrop7 (by assumption) | exact newsDrop8 (by assumption)))
    first | rfl | assumption | (simp only [*]; done) | (simp only [*]; rfl) | (simp only [ins, needed, unary, optional, soft, keywords, Has, *]; done) | (simp only [ins, needed, unary, optional, soft, keywords, Has, *]; rfl) | (simp only [*]; simp; done))
theorem t0f {w : World} {loose : List Str} {mean : ExcName → Option Value} {mg mb : Str → Option Value} {A : Around} {s : Shared} {g : Heap} {L : Addr} {led : List (Addr × Obj)} {m : Str → Option Value} {v : Vl} {Q : Bool → Shared → Prop} {k : Int} {tk : Tok} {x : Str} {tx : Tok} 
    (G : Gnd w loose mean mg mb g) (V : Vs m v) (F : Fr g L s.heap m) (N : News g L s.heap led) (vk : v.k = .int k tk) (vx : v.x = .str x tx) 
    (hQ : ∀ h' tk', Fr g L h' m → News g L h' led → Q (decide (k = 54) && (false || decide (x = Str.ofString "]") || decide (x = Str.ofString ")") || decide (x = Str.ofString "}"))) { s with heap := h', toks := tk' }) :
    wpAny (model PySem.Challenge.rw_co0044_01.row.toRowW.prog w) A (isTrue (ifT (ifB ((ifE ((ifE ((ifE ((ifE (mwSt 0))[0]?))[0]?))[0]?))[0]?))[0]?) (envM L) (eval (ifT (ifB ((ifE ((ifE ((ifE ((ifE (mwSt 0))[0]?))[0]?))[0]?))[0]?))[0]?) (envM L))) Q (fun _ _ => False) s := by
  have X' := G.X
  have T' := G.T
  revert X'
  k_fill
  intro X'
  have F0 := V.fr F
  clear F
  obtain ⟨vk', vx', vp', vq', vln', vneed', vpt', vpx', vpe', vot', vbr'⟩ := v
  dsimp only at vk vx F0
  subst vk vx
  simp only [envM]
  conv in (occs := *) (ifT _) => all_goals whnf
  conv in (defScope 13) => whnf
  all_goals (k_unmd; repeat' walk1)
  all_goals (try dsimp only)
  all_goals (first | (exfalso; (contradiction); done) | skip)
  all_goals (
    rename Fr g L _ _ => FE
    refine castQ ?_ (hQ _ _ (V.back FE) (by first | assumption | exact newsDrop1 (by assumption) | exact newsDrop2 (by assumption) | exact newsDrop3 (by assumption) | exact newsDrop4 (by assumption) | exact newsDrop5 (by assumption) | exact newsDrop6 (by assumption) | exact newsDrop7 (by assumption) | exact newsDrop8 (by assumption)))
    first | (rw [decide_eq_true (by assumption : k = 54), Bool.true_and]; assumption) | (rw [decide_eq_false (by assumption : k ≠ 54)]; rfl))
theorem t0g {w : World} {loose : List Str} {mean : ExcName → Option Value} {mg mb : Str → Option Value} {A : Around} {s : Shared} {g : Heap} {L : Addr} {led : List (Addr × Obj)} {m : Str → Option Value} {v : Vl} {Q : Bool → Shared → Prop} {k : Int} {tk : Tok} 
    (G : Gnd w loose mean mg mb g) (V : Vs m v) (F : Fr g L s.heap m) (N : News g L s.heap led) (vk : v.k = .int k tk) (hk : 0 < k)
    (hQ : ∀ h' tk', Fr g L h' m → News g L h' led → Q (false) { s with heap := h', toks := tk' }) :
    wpAny (model PySem.Challenge.rw_co0044_01.row.toRowW.prog w) A (isTrue (ifT (ifE ((ifB ((ifE ((ifE ((ifE ((ifE (mwSt 0))[0]?))[0]?))[0]?))[0]?))[0]?))[0]?) (envM L) (eval (ifT (ifE ((ifB ((ifE ((ifE ((ifE ((ifE (mwSt 0))[0]?))[0]?))[0]?))[0]?))[0]?))[0]?) (envM L))) Q (fun _ _ => False) s := by
  have X' := G.X
  have T' := G.T
  revert X'
  k_fill
  intro X'
  have F0 := V.fr F
  clear F
  obtain ⟨vk', vx', vp', vq', vln', vneed', vpt', vpx', vpe', vot', vbr'⟩ := v
  dsimp only at vk F0
  subst vk
  simp only [envM]
  conv in (occs := *) (ifT _) => all_goals whnf
  conv in (defScope 13) => whnf
  all_goals (k_unmd; repeat' walk1)
  all_goals (try dsimp only)
  all_goals (first | (exfalso; (omega); done) | skip)
  all_goals (
    rename Fr g L _ _ => FE
    refine castQ ?_ (hQ _ _ (V.back FE) (by first | assumption | exact newsDrop1 (by assumption) | exact newsDrop2 (by assumption) | exact newsDrop3 (by assumption) | exact newsDrop4 (by assumption) | exact newsDrop5 (by assumption) | exact newsDrop6 (by assumption) | exact newsDrop7 (by assumption) | exact newsDrop8 (by assumption)))
    first | rfl | exact (decide_eq_false (by omega)).symm)
theorem t0h {w : World} {loose : List Str} {mean : ExcName → Option Value} {mg mb : Str → Option Value} {A : Around} {s : Shared} {g : Heap} {L : Addr} {led : List (Addr × Obj)} {m : Str → Option Value} {v : Vl} {Q : Bool → Shared → Prop} {k : Int} {tk : Tok} 
    (G : Gnd w loose mean mg mb g) (V : Vs m v) (F : Fr g L s.heap m) (N : News g L s.heap led) (vk : v.k = .int k tk) (hk : 0 < k)
    (hQ : ∀ h' tk', Fr g L h' m → News g L h' led → Q (false) { s with heap := h', toks := tk' }) :
    wpAny (model PySem.Challenge.rw_co0044_01.row.toRowW.prog w) A (isTrue (ifT (ifE ((ifE ((ifB ((ifE ((ifE ((ifE ((ifE (mwSt 0))[0]?))[0]?))[0]?))[0]?))[0]?))[0]?))[0]?) (envM L) (eval (ifT (ifE ((ifE ((ifB ((ifE ((ifE ((ifE ((ifE (mwSt 0))[0]?))[0]?))[0]?))[0]?))[0]?))[0]?))[0]?) (envM L))) Q (fun _ _ => False) s := by
  have X' := G.X
  have T' := G.T
  revert X'
  k_fill
  intro X'
  have F0 := V.fr F
  clear F
  obtain ⟨vk', vx', vp', vq', vln', vneed', vpt', vpx', vpe', vot', vbr'⟩ := v
  dsimp only at vk F0
  subst vk
  simp only [envM]
  conv in (occs := *) (ifT _) => all_goals whnf
  conv in (defScope 13) => whnf
  all_goals (k_unmd; repeat' walk1)
  all_goals (try dsimp only)
  all_goals (first | (exfalso; (omega); done) | skip)
  all_goals (
    rename Fr g L _ _ => FE
    refine castQ ?_ (hQ _ _ (V.back FE) (by first | assumption | exact newsDrop1 (by assumption) | exact newsDrop2 (by assumption) | exact newsDrop3 (by assumption) | exact newsDrop4 (by assumption) | exact newsDrop5 (by assumption) | exact newsDrop6 (by assumption) | exact newsDrop7 (by assumption) | exact newsDrop8 (by assumption)))
    first | rfl | exact (decide_eq_false (by omega)).symm)
theorem t0i {w : World} {loose : List Str} {mean : ExcName → Option Value} {mg mb : Str → Option Value} {A : Around} {s : Shared} {g : Heap} {L : Addr} {led : List (Addr × Obj)} {m : Str → Option Value} {v : Vl} {Q : Bool → Shared → Prop} {k : Int} {tk : Tok} {x : Str} {tx : Tok} {aB : Addr} {nb : Nat} {bv : Array Value} {st : List Str}
    (G : Gnd w loose mean mg mb g) (V : Vs m v) (F : Fr g L s.heap m) (N : News g L s.heap ((aB, W.listOf bv nb) :: led)) (vk : v.k = .int k tk) (vx : v.x = .str x tx) (vb : v.br = .ref aB) (hst : StrsAre bv.toList st) (hl : st.length ≤ 2) (hn : st ≠ []) (hok : ∀ a ∈ st, okB a)
    (hQ : ∀ h' tk', Fr g L h' m → News g L h' ((aB, W.listOf bv nb) :: led) → Q (false) { s with heap := h', toks := tk' }) :
    wpAny (model PySem.Challenge.rw_co0044_01.row.toRowW.prog w) A (isTrue (ifT (ifE ((ifE ((ifE ((ifB ((ifE ((ifE ((ifE ((ifE (mwSt 0))[0]?))[0]?))[0]?))[0]?))[0]?))[0]?))[0]?))[0]?) (envM L) (eval (ifT (ifE ((ifE ((ifE ((ifB ((ifE ((ifE ((ifE ((ifE (mwSt 0))[0]?))[0]?))[0]?))[0]?))[0]?))[0]?))[0]?))[0]?) (envM L))) Q (fun _ _ => False) s := by
  have X' := G.X
  have T' := G.T
  revert X'
  k_fill
  intro X'
  have F0 := V.fr F
  clear F
  obtain ⟨vk', vx', vp', vq', vln', vneed', vpt', vpx', vpe', vot', vbr'⟩ := v
  dsimp only at vk vx vb F0
  subst vk vx vb
  simp only [envM]
  conv in (occs := *) (ifT _) => all_goals whnf
  conv in (defScope 13) => whnf
  rcases stk_shape hst hl with ⟨rfl, rfl⟩ | ⟨a, ta, rfl, rfl⟩ | ⟨a', ta, a, tb, rfl, rfl⟩
  · exact absurd rfl hn
  all_goals (have hoa : okB a := hok a (by simp))
  all_goals (k_unmd; repeat' walk1)
  all_goals (try dsimp only)
  all_goals (first | (exfalso; (have z := okB.nl hoa; rename (_ == Str.ofString "l") = true => hl1; rw [z] at hl1; cases hl1); done) | skip)
  all_goals (
    rename Fr g L _ _ => FE
    refine castQ ?_ (hQ _ _ (V.back FE) (by first | assumption | exact newsDrop1 (by assumption) | exact newsDrop2 (by assumption) | exact newsDrop3 (by assumption) | exact newsDrop4 (by assumption) | exact newsDrop5 (by assumption) | exact newsDrop6 (by assumption) | exact newsDrop7 (by assumption) | exact newsDrop8 (by assumption)))
    first | rfl | assumption | (simp only [*]; done) | (simp only [*]; rfl) | (simp only [ins, needed, unary, optional, soft, keywords, Has, *]; done) | (simp only [ins, needed, unary, optional, soft, keywords, Has, *]; rfl) | (simp only [*]; simp; done))
end Mine
end

section
open PySem PySem.W PySem.Calls PyProof.Rows PySem.Spec
set_option maxRecDepth 100000
set_option maxHeartbeats 8000000
namespace Mine
local macro_rules | `(tactic| k_all) => `(tactic| assumption)
local macro_rules | `(tactic| walk_at "ite") => `(tactic| (k_closed; first | ((with_reducible refine' ite_pos ?hc ?_); (case hc => k_dflt decide)) | ((with_reducible refine' ite_neg ?hc ?_); (case hc => k_dflt decide))))

local macro_rules | `(tactic| walk_at "compareOp In str ref") => `(tactic| (k_here; (with_reducible show wpAny _ _ (compareOp CmpOp.In (Value.str _ _) (Value.ref _)) _ _ _); k_dflt (refine' in_top ?X ?F ?e ?i ?_; (case X => assumption); (case F => k_asm); (case e => k_is); (case i => (repeat' constructor)))))

theorem soft_code {w : World} {loose : List Str} {mean : ExcName → Option Value} {mg mb : Str → Option Value} {A : Around} {s : Shared} {h₀ : Heap} {R : Result → Shared → Prop} {y : Str} {ty : Tok}
    (G : Gnd w loose mean mg mb h₀) (k : Sub h₀ s.heap) (hroom : A.depth < 595)
    (h : ∀ h' tk, Sub s.heap h' → R (.ok (.ret (.bool (ins soft y)))) { s with heap := h', toks := tk }) :
    codeAny (model PySem.Challenge.rw_co0044_01.row.toRowW.prog w) A (.call (.ref 61) ⟨[.str y ty], []⟩) R s := by
  have XG := G.X
  revert XG
  k_fill
  intro XG
  refine' enter (news := []) (binds := [(Str.ofString "text", .str y ty)]) G k ?N ?k6 ?k7 ?k8 ?k9 ?kB ?_ ?c2 ?c3 ?c4 ?c5
  case N => intro p hp; cases hp
  case k6 => k_is
  case k7 => k_is
  case k8 => exact Nat.lt_of_le_of_lt (show A.depth ≤ 595 by omega) (by decide)
  case k9 => exact BindsTo.of_eq rfl
  case c5 => decide
  case kB => exact locs rfl
  case c2 => exact rfl
  case c3 => exact rfl
  case c4 => exact rfl
  intro g L' h₁ _ kg kg' kg'' F' N' X' T'
  (try dsimp only)
  k_unmd
  k_fold
  repeat' walk1
  (try k_unmd)
  (try k_unfold)
  dsimp only
  rename Fr g L' _ _ => FE
  have kk : Sub s.heap g := fun b o e => kg'' b o (by simp) e
  exact h _ _ (fun b o e => FE.keep _ _ (kk _ _ e))

theorem soft_K {w : World} {loose : List Str} {mean : ExcName → Option Value} {mg mb : Str → Option Value} {A : Around} {s : Shared} {g : Heap} {L : Addr} {m : Str → Option Value} {news : List (Addr × Obj)} {y : Str} {ty : Tok} {Q : Value → Shared → Prop} {E : Value → Shared → Prop}
    (G : Gnd w loose mean mg mb g) (F : Fr g L s.heap m) (N : News g L s.heap news) (hroom : A.depth < 595)
    (h : ∀ h' tk, Fr g L h' m → News g L h' news → Q (.bool (ins soft y)) { s with heap := h', toks := tk }) :
    wpAny (model PySem.Challenge.rw_co0044_01.row.toRowW.prog w) A (call (.ref 61) [.str y ty]) Q E s :=
  wpAny_call (soft_code G F.keep hroom fun h' tk k => h h' tk (frSub F k) (newsSub N k))
end Mine
end

section
open PySem PySem.W PySem.Calls PyProof.Rows PySem.Spec
set_option maxRecDepth 100000
set_option maxHeartbeats 8000000
namespace Mine
local macro_rules | `(tactic| k_all) => `(tactic| assumption)
local macro_rules | `(tactic| walk_at "ite") => `(tactic| (k_closed; first | ((with_reducible refine' ite_pos ?hc ?_); (case hc => k_dflt decide)) | ((with_reducible refine' ite_neg ?hc ?_); (case hc => k_dflt decide))))
local macro_rules | `(tactic| walk_at "truthy ref") => `(tactic| (k_here; (with_reducible show wpAny _ _ (truthy (Value.ref _)) _ _ _); k_dflt (refine' truthy_K ?N ?l ?z ?_; (case N => k_asm); (case l => k_mem); (case z => first | assumption | (simp only [List.size_toArray, List.length_cons, List.length_nil]; omega)))))
local macro_rules | `(tactic| walk_at "compareOp NotEq ref ref") => `(tactic| (k_here; (with_reducible show wpAny _ _ (compareOp CmpOp.NotEq (Value.ref _) (Value.ref _)) _ _ _); k_dflt (refine' ne_pos ?F ?p ?q ?u ?_; (case F => k_asm); (case p => assumption); (case q => assumption); (case u => assumption))))
local macro_rules | `(tactic| walk_at "compareOp Eq ref ref") => `(tactic| (k_here; (with_reducible show wpAny _ _ (compareOp CmpOp.Eq (Value.ref _) (Value.ref _)) _ _ _); k_dflt (first
  | (refine' eq_pos ?F ?p ?q ?u ?_; (case F => k_asm); (case p => assumption); (case q => assumption); (case u => assumption))
  | (refine' eq_strs ?N ?a ?b ?i ?j ?ka ?kb ?u ?_; (case N => k_asm); (case a => k_mem); (case b => k_mem); (case i => (repeat' constructor)); (case j => (repeat' constructor)); (case ka => decide +kernel); (case kb => decide +kernel); (case u => assumption)))))
local macro_rules | `(tactic| walk_at "compareOp NotIn str ref") => `(tactic| (k_here; (with_reducible show wpAny _ _ (compareOp CmpOp.NotIn (Value.str _ _) (Value.ref _)) _ _ _); k_dflt (refine' notin_top ?X ?F ?e ?i ?_; (case X => assumption); (case F => k_asm); (case e => k_is); (case i => (repeat' constructor)))))

local macro_rules | `(tactic| walk_at "compareOp In str ref") => `(tactic| (k_here; (with_reducible show wpAny _ _ (compareOp CmpOp.In (Value.str _ _) (Value.ref _)) _ _ _); k_dflt (refine' in_top ?X ?F ?e ?i ?_; (case X => assumption); (case F => k_asm); (case e => k_is); (case i => (repeat' constructor)))))
local macro_rules | `(tactic| walk_at "compareOp In int ref") => `(tactic| (k_here; (with_reducible show wpAny _ _ (compareOp CmpOp.In (Value.int _ _) (Value.ref _)) _ _ _); k_dflt (refine' in_top_int ?X ?F ?e ?i ?_; (case X => assumption); (case F => k_asm); (case e => k_is); (case i => (repeat' constructor)))))
local macro_rules | `(tactic| walk_at "compareOp NotEq ref bool") => `(tactic| (k_here; (with_reducible show wpAny _ _ (compareOp CmpOp.NotEq (Value.ref _) (Value.bool _)) _ _ _); k_dflt (refine' ne_refbool ?F ?N ?h ?p ?u ?_; (case F => k_asm); (case N => k_asm); (case h => k_mem); (case p => assumption); (case u => assumption))))
local macro_rules | `(tactic| walk_at "compareOp Eq ref bool") => `(tactic| (k_here; (with_reducible show wpAny _ _ (compareOp CmpOp.Eq (Value.ref _) (Value.bool _)) _ _ _); k_dflt (refine' eq_refbool ?F ?N ?h ?p ?u ?_; (case F => k_asm); (case N => k_asm); (case h => k_mem); (case p => assumption); (case u => assumption))))

theorem t1f {w : World} {loose : List Str} {mean : ExcName → Option Value} {mg mb : Str → Option Value} {A : Around} {s : Shared} {g : Heap} {L : Addr} {led : List (Addr × Obj)} {m : Str → Option Value} {v : Vl} {Q : Bool → Shared → Prop} {k : Int} {tk : Tok} 
    (G : Gnd w loose mean mg mb g) (V : Vs m v) (F : Fr g L s.heap m) (N : News g L s.heap led) (vk : v.k = .int k tk) (hk : k = 1 ∨ k = 2 ∨ k = 3 ∨ k = 54)
    (hQ : ∀ h' tk', Fr g L h' m → News g L h' led → Q (false) { s with heap := h', toks := tk' }) :
    wpAny (model PySem.Challenge.rw_co0044_01.row.toRowW.prog w) A (isTrue (ifT (mwSt 1)) (envM L) (eval (ifT (mwSt 1)) (envM L))) Q (fun _ _ => False) s := by
  have X' := G.X
  have T' := G.T
  revert X'
  k_fill
  intro X'
  have F0 := V.fr F
  clear F
  obtain ⟨vk', vx', vp', vq', vln', vneed', vpt', vpx', vpe', vot', vbr'⟩ := v
  dsimp only at vk F0
  subst vk
  simp only [envM]
  conv in (occs := *) (ifT _) => all_goals whnf
  conv in (defScope 13) => whnf
  rcases hk with rfl | rfl | rfl | rfl
  all_goals (k_unmd; repeat' walk1)
  all_goals (try dsimp only)
  all_goals (first | (exfalso; (contradiction); done) | skip)
  all_goals (
    rename Fr g L _ _ => FE
    refine castQ ?_ (hQ _ _ (V.back FE) (by first | assumption | exact newsDrop1 (by assumption) | exact newsDrop2 (by assumption) | exact newsDrop3 (by assumption) | exact newsDrop4 (by assumption) | exact newsDrop5 (by assumption) | exact newsDrop6 (by assumption) | exact newsDrop7 (by assumption) | exact newsDrop8 (by assumption)))
    first | rfl | assumption | (simp only [*]; done) | (simp only [*]; rfl) | (simp only [ins, needed, unary, optional, soft, keywords, Has, *]; done) | (simp only [ins, needed, unary, optional, soft, keywords, Has, *]; rfl) | (simp only [*]; simp; done))
theorem t1t {w : World} {loose : List Str} {mean : ExcName → Option Value} {mg mb : Str → Option Value} {A : Around} {s : Shared} {g : Heap} {L : Addr} {led : List (Addr × Obj)} {m : Str → Option Value} {v : Vl} {Q : Bool → Shared → Prop} {k : Int} {tk : Tok} 
    (G : Gnd w loose mean mg mb g) (V : Vs m v) (F : Fr g L s.heap m) (N : News g L s.heap led) (vk : v.k = .int k tk) (hk : k = 4)
    (hQ : ∀ h' tk', Fr g L h' m → News g L h' led → Q (true) { s with heap := h', toks := tk' }) :
    wpAny (model PySem.Challenge.rw_co0044_01.row.toRowW.prog w) A (isTrue (ifT (mwSt 1)) (envM L) (eval (ifT (mwSt 1)) (envM L))) Q (fun _ _ => False) s := by
  have X' := G.X
  have T' := G.T
  revert X'
  k_fill
  intro X'
  have F0 := V.fr F
  clear F
  obtain ⟨vk', vx', vp', vq', vln', vneed', vpt', vpx', vpe', vot', vbr'⟩ := v
  dsimp only at vk F0
  subst vk
  simp only [envM]
  conv in (occs := *) (ifT _) => all_goals whnf
  conv in (defScope 13) => whnf
  subst hk
  all_goals (k_unmd; repeat' walk1)
  all_goals (try dsimp only)
  all_goals (first | (exfalso; (contradiction); done) | skip)
  all_goals (
    rename Fr g L _ _ => FE
    refine castQ ?_ (hQ _ _ (V.back FE) (by first | assumption | exact newsDrop1 (by assumption) | exact newsDrop2 (by assumption) | exact newsDrop3 (by assumption) | exact newsDrop4 (by assumption) | exact newsDrop5 (by assumption) | exact newsDrop6 (by assumption) | exact newsDrop7 (by assumption) | exact newsDrop8 (by assumption)))
    first | rfl | assumption | (simp only [*]; done) | (simp only [*]; rfl) | (simp only [ins, needed, unary, optional, soft, keywords, Has, *]; done) | (simp only [ins, needed, unary, optional, soft, keywords, Has, *]; rfl) | (simp only [*]; simp; done))
theorem t2a {w : World} {loose : List Str} {mean : ExcName → Option Value} {mg mb : Str → Option Value} {A : Around} {s : Shared} {g : Heap} {L : Addr} {led : List (Addr × Obj)} {m : Str → Option Value} {v : Vl} {Q : Bool → Shared → Prop} {k : Int} {tk : Tok} {x : Str} {tx : Tok} 
    (G : Gnd w loose mean mg mb g) (V : Vs m v) (F : Fr g L s.heap m) (N : News g L s.heap led) (vk : v.k = .int k tk) (vx : v.x = .str x tx) 
    (hQ : ∀ h' tk', Fr g L h' m → News g L h' led → Q (decide (k = 54) && (false || decide (x = Str.ofString ",") || decide (x = Str.ofString ";") || decide (x = Str.ofString ":"))) { s with heap := h', toks := tk' }) :
    wpAny (model PySem.Challenge.rw_co0044_01.row.toRowW.prog w) A (isTrue (ifT (mwSt 2)) (envM L) (eval (ifT (mwSt 2)) (envM L))) Q (fun _ _ => False) s := by
  have X' := G.X
  have T' := G.T
  revert X'
  k_fill
  intro X'
  have F0 := V.fr F
  clear F
  obtain ⟨vk', vx', vp', vq', vln', vneed', vpt', vpx', vpe', vot', vbr'⟩ := v
  dsimp only at vk vx F0
  subst vk vx
  simp only [envM]
  conv in (occs := *) (ifT _) => all_goals whnf
  conv in (defScope 13) => whnf
  all_goals (k_unmd; repeat' walk1)
  all_goals (try dsimp only)
  all_goals (first | (exfalso; (contradiction); done) | skip)
  all_goals (
    rename Fr g L _ _ => FE
    refine castQ ?_ (hQ _ _ (V.back FE) (by first | assumption | exact newsDrop1 (by assumption) | exact newsDrop2 (by assumption) | exact newsDrop3 (by assumption) | exact newsDrop4 (by assumption) | exact newsDrop5 (by assumption) | exact newsDrop6 (by assumption) | exact newsDrop7 (by assumption) | exact newsDrop8 (by assumption)))
    first | (rw [decide_eq_true (by assumption : k = 54), Bool.true_and]; assumption) | (rw [decide_eq_false (by assumption : k ≠ 54)]; rfl))
theorem t2b {w : World} {loose : List Str} {mean : ExcName → Option Value} {mg mb : Str → Option Value} {A : Around} {s : Shared} {g : Heap} {L : Addr} {led : List (Addr × Obj)} {m : Str → Option Value} {v : Vl} {Q : Bool → Shared → Prop} {nc : Str} {tn : Tok}  
    (G : Gnd w loose mean mg mb g) (V : Vs m v) (F : Fr g L s.heap m) (N : News g L s.heap led)  
    (hnc : m (Str.ofString "next_char") = some (.str nc tn)) (hQ : ∀ h' tk', Fr g L h' m → News g L h' led → Q ((!(ins [" ", "\t", "\xa0"] nc)) && !(Has nc "\r\n")) { s with heap := h', toks := tk' }) :
    wpAny (model PySem.Challenge.rw_co0044_01.row.toRowW.prog w) A (isTrue (ifT (ifB (mwSt 2))[1]?) (envM L) (eval (ifT (ifB (mwSt 2))[1]?) (envM L))) Q (fun _ _ => False) s := by
  have X' := G.X
  have T' := G.T
  revert X'
  k_fill
  intro X'
  have V1 := V.know hnc
  have F0 := V1.fr (Fr.know F hnc)
  clear F
  obtain ⟨vk', vx', vp', vq', vln', vneed', vpt', vpx', vpe', vot', vbr'⟩ := v
  simp only [envM]
  conv in (occs := *) (ifT _) => all_goals whnf
  conv in (defScope 13) => whnf
  all_goals (k_unmd; repeat' walk1)
  all_goals (try dsimp only)
  all_goals (first | (exfalso; (contradiction); done) | skip)
  all_goals (
    rename Fr g L _ _ => FE
    refine castQ ?_ (hQ _ _ (unknow hnc (V1.back FE)) (by first | assumption | exact newsDrop1 (by assumption) | exact newsDrop2 (by assumption) | exact newsDrop3 (by assumption) | exact newsDrop4 (by assumption) | exact newsDrop5 (by assumption) | exact newsDrop6 (by assumption) | exact newsDrop7 (by assumption) | exact newsDrop8 (by assumption)))
    first | rfl | assumption | (simp only [*]; done) | (simp only [*]; rfl) | (simp only [ins, needed, unary, optional, soft, keywords, Has, *]; done) | (simp only [ins, needed, unary, optional, soft, keywords, Has, *]; rfl) | (simp only [*]; simp; done))
theorem t2c {w : World} {loose : List Str} {mean : ExcName → Option Value} {mg mb : Str → Option Value} {A : Around} {s : Shared} {g : Heap} {L : Addr} {led : List (Addr × Obj)} {m : Str → Option Value} {v : Vl} {Q : Bool → Shared → Prop} {x : Str} {tx : Tok} {aB : Addr} {nb : Nat} {bv : Array Value} {st : List Str}
    (G : Gnd w loose mean mg mb g) (V : Vs m v) (F : Fr g L s.heap m) (N : News g L s.heap ((aB, W.listOf bv nb) :: led)) (vx : v.x = .str x tx) (vb : v.br = .ref aB) (hu : A.units + 64 < cLine) (hst : StrsAre bv.toList st) (hl : st.length ≤ 2) (hok : ∀ a ∈ st, okB a)
    (hQ : ∀ h' tk', Fr g L h' m → News g L h' ((aB, W.listOf bv nb) :: led) → Q ((x == Str.ofString ":") && decide (st.drop (st.length - 1) = [Str.ofString "["])) { s with heap := h', toks := tk' }) :
    wpAny (model PySem.Challenge.rw_co0044_01.row.toRowW.prog w) A (isTrue (ifT (ifB ((ifB (mwSt 2))[1]?))[0]?) (envM L) (eval (ifT (ifB ((ifB (mwSt 2))[1]?))[0]?) (envM L))) Q (fun _ _ => False) s := by
  have X' := G.X
  have T' := G.T
  revert X'
  k_fill
  intro X'
  have F0 := V.fr F
  clear F
  obtain ⟨vk', vx', vp', vq', vln', vneed', vpt', vpx', vpe', vot', vbr'⟩ := v
  dsimp only at vx vb F0
  subst vx vb
  simp only [envM]
  conv in (occs := *) (ifT _) => all_goals whnf
  conv in (defScope 13) => whnf
  have sh : (bv = #[] ∧ st = []) ∨ (∃ a ta, okB a ∧ bv = #[.str a ta] ∧ st = [a]) ∨ (∃ a ta b tb, okB a ∧ okB b ∧ bv = #[.str a ta, .str b tb] ∧ st = [a, b]) := by
    rcases stk_shape hst hl with ⟨rfl, rfl⟩ | ⟨a, ta, rfl, rfl⟩ | ⟨a', ta, a, tb, rfl, rfl⟩
    · exact .inl ⟨rfl, rfl⟩
    · exact .inr (.inl ⟨_, _, hok a (by simp), rfl, rfl⟩)
    · exact .inr (.inr ⟨_, _, _, _, hok a' (by simp), hok a (by simp), rfl, rfl⟩)
  clear hst hl hok
  rcases sh with ⟨rfl, rfl⟩ | ⟨_, ta, rfl | rfl | rfl, rfl, rfl⟩ | ⟨_, ta, _, tb, rfl | rfl | rfl, rfl | rfl | rfl, rfl, rfl⟩
  all_goals (k_unmd; repeat' walk1)
  all_goals (try dsimp only)
  all_goals (first | (exfalso; (contradiction); done) | skip)
  all_goals (
    rename Fr g L _ _ => FE
    refine castQ ?_ (hQ _ _ (V.back FE) (by first | assumption | exact newsDrop1 (by assumption) | exact newsDrop2 (by assumption) | exact newsDrop3 (by assumption) | exact newsDrop4 (by assumption) | exact newsDrop5 (by assumption) | exact newsDrop6 (by assumption) | exact newsDrop7 (by assumption) | exact newsDrop8 (by assumption)))
    first | rfl | assumption | (simp only [*]; done) | (simp only [*]; rfl) | (simp only [ins, needed, unary, optional, soft, keywords, Has, *]; done) | (simp only [ins, needed, unary, optional, soft, keywords, Has, *]; rfl) | (simp only [*]; simp; done))
theorem t2d {w : World} {loose : List Str} {mean : ExcName → Option Value} {mg mb : Str → Option Value} {A : Around} {s : Shared} {g : Heap} {L : Addr} {led : List (Addr × Obj)} {m : Str → Option Value} {v : Vl} {Q : Bool → Shared → Prop} {x : Str} {tx : Tok} {aB : Addr} {nb : Nat} {bv : Array Value} {st : List Str}
    (G : Gnd w loose mean mg mb g) (V : Vs m v) (F : Fr g L s.heap m) (N : News g L s.heap ((aB, W.listOf bv nb) :: led)) (vx : v.x = .str x tx) (vb : v.br = .ref aB) (hu : A.units + 64 < cLine) (hst : StrsAre bv.toList st) (hl : st.length ≤ 2) (hok : ∀ a ∈ st, okB a)
    (hQ : ∀ h' tk', Fr g L h' m → News g L h' ((aB, W.listOf bv nb) :: led) → Q (false) { s with heap := h', toks := tk' }) :
    wpAny (model PySem.Challenge.rw_co0044_01.row.toRowW.prog w) A (isTrue (ifT (ifE ((ifB ((ifB (mwSt 2))[1]?))[0]?))[0]?) (envM L) (eval (ifT (ifE ((ifB ((ifB (mwSt 2))[1]?))[0]?))[0]?) (envM L))) Q (fun _ _ => False) s := by
  have X' := G.X
  have T' := G.T
  revert X'
  k_fill
  intro X'
  have F0 := V.fr F
  clear F
  obtain ⟨vk', vx', vp', vq', vln', vneed', vpt', vpx', vpe', vot', vbr'⟩ := v
  dsimp only at vx vb F0
  subst vx vb
  simp only [envM]
  conv in (occs := *) (ifT _) => all_goals whnf
  conv in (defScope 13) => whnf
  have sh : (bv = #[] ∧ st = []) ∨ (∃ a ta, okB a ∧ bv = #[.str a ta] ∧ st = [a]) ∨ (∃ a ta b tb, okB a ∧ okB b ∧ bv = #[.str a ta, .str b tb] ∧ st = [a, b]) := by
    rcases stk_shape hst hl with ⟨rfl, rfl⟩ | ⟨a, ta, rfl, rfl⟩ | ⟨a', ta, a, tb, rfl, rfl⟩
    · exact .inl ⟨rfl, rfl⟩
    · exact .inr (.inl ⟨_, _, hok a (by simp), rfl, rfl⟩)
    · exact .inr (.inr ⟨_, _, _, _, hok a' (by simp), hok a (by simp), rfl, rfl⟩)
  clear hst hl hok
  rcases sh with ⟨rfl, rfl⟩ | ⟨_, ta, rfl | rfl | rfl, rfl, rfl⟩ | ⟨_, ta, _, tb, rfl | rfl | rfl, rfl | rfl | rfl, rfl, rfl⟩
  all_goals (k_unmd; repeat' walk1)
  all_goals (try dsimp only)
  all_goals (first | (exfalso; (contradiction); done) | skip)
  all_goals (
    rename Fr g L _ _ => FE
    refine castQ ?_ (hQ _ _ (V.back FE) (by first | assumption | exact newsDrop1 (by assumption) | exact newsDrop2 (by assumption) | exact newsDrop3 (by assumption) | exact newsDrop4 (by assumption) | exact newsDrop5 (by assumption) | exact newsDrop6 (by assumption) | exact newsDrop7 (by assumption) | exact newsDrop8 (by assumption)))
    first | rfl | assumption | (simp only [*]; done) | (simp only [*]; rfl) | (simp only [ins, needed, unary, optional, soft, keywords, Has, *]; done) | (simp only [ins, needed, unary, optional, soft, keywords, Has, *]; rfl) | (simp only [*]; simp; done))
theorem t2e {w : World} {loose : List Str} {mean : ExcName → Option Value} {mg mb : Str → Option Value} {A : Around} {s : Shared} {g : Heap} {L : Addr} {led : List (Addr × Obj)} {m : Str → Option Value} {v : Vl} {Q : Bool → Shared → Prop} {x : Str} {tx : Tok} {aB : Addr} {nb : Nat} {bv : Array Value} {st : List Str}
    (G : Gnd w loose mean mg mb g) (V : Vs m v) (F : Fr g L s.heap m) (N : News g L s.heap ((aB, W.listOf bv nb) :: led)) (vx : v.x = .str x tx) (vb : v.br = .ref aB) (hu : A.units + 64 < cLine) (hst : StrsAre bv.toList st) (hl : st.length ≤ 2) (hok : ∀ a ∈ st, okB a)
    (hQ : ∀ h' tk', Fr g L h' m → News g L h' ((aB, W.listOf bv nb) :: led) → Q (false) { s with heap := h', toks := tk' }) :
    wpAny (model PySem.Challenge.rw_co0044_01.row.toRowW.prog w) A (isTrue (ifT (ifE ((ifE ((ifB ((ifB (mwSt 2))[1]?))[0]?))[0]?))[0]?) (envM L) (eval (ifT (ifE ((ifE ((ifB ((ifB (mwSt 2))[1]?))[0]?))[0]?))[0]?) (envM L))) Q (fun _ _ => False) s := by
  have X' := G.X
  have T' := G.T
  revert X'
  k_fill
  intro X'
  have F0 := V.fr F
  clear F
  obtain ⟨vk', vx', vp', vq', vln', vneed', vpt', vpx', vpe', vot', vbr'⟩ := v
  dsimp only at vx vb F0
  subst vx vb
  simp only [envM]
  conv in (occs := *) (ifT _) => all_goals whnf
  conv in (defScope 13) => whnf
  have sh : (bv = #[] ∧ st = []) ∨ (∃ a ta, okB a ∧ bv = #[.str a ta] ∧ st = [a]) ∨ (∃ a ta b tb, okB a ∧ okB b ∧ bv = #[.str a ta, .str b tb] ∧ st = [a, b]) := by
    rcases stk_shape hst hl with ⟨rfl, rfl⟩ | ⟨a, ta, rfl, rfl⟩ | ⟨a', ta, a, tb, rfl, rfl⟩
    · exact .inl ⟨rfl, rfl⟩
    · exact .inr (.inl ⟨_, _, hok a (by simp), rfl, rfl⟩)
    · exact .inr (.inr ⟨_, _, _, _, hok a' (by simp), hok a (by simp), rfl, rfl⟩)
  clear hst hl hok
  rcases sh with ⟨rfl, rfl⟩ | ⟨_, ta, rfl | rfl | rfl, rfl, rfl⟩ | ⟨_, ta, _, tb, rfl | rfl | rfl, rfl | rfl | rfl, rfl, rfl⟩
  all_goals (k_unmd; repeat' walk1)
  all_goals (try dsimp only)
  all_goals (first | (exfalso; (contradiction); done) | skip)
  all_goals (
    rename Fr g L _ _ => FE
    refine castQ ?_ (hQ _ _ (V.back FE) (by first | assumption | exact newsDrop1 (by assumption) | exact newsDrop2 (by assumption) | exact newsDrop3 (by assumption) | exact newsDrop4 (by assumption) | exact newsDrop5 (by assumption) | exact newsDrop6 (by assumption) | exact newsDrop7 (by assumption) | exact newsDrop8 (by assumption)))
    first | rfl | assumption | (simp only [*]; done) | (simp only [*]; rfl) | (simp only [ins, needed, unary, optional, soft, keywords, Has, *]; done) | (simp only [ins, needed, unary, optional, soft, keywords, Has, *]; rfl) | (simp only [*]; simp; done))
theorem t2f {w : World} {loose : List Str} {mean : ExcName → Option Value} {mg mb : Str → Option Value} {A : Around} {s : Shared} {g : Heap} {L : Addr} {led : List (Addr × Obj)} {m : Str → Option Value} {v : Vl} {Q : Bool → Shared → Prop} {nc : Str} {tn : Tok} {x : Str} {tx : Tok} 
    (G : Gnd w loose mean mg mb g) (V : Vs m v) (F : Fr g L s.heap m) (N : News g L s.heap led) (vx : v.x = .str x tx) 
    (hnc : m (Str.ofString "next_char") = some (.str nc tn)) (hQ : ∀ h' tk', Fr g L h' m → News g L h' led → Q ((x == Str.ofString ",") && (Has nc ")]")) { s with heap := h', toks := tk' }) :
    wpAny (model PySem.Challenge.rw_co0044_01.row.toRowW.prog w) A (isTrue (ifT (ifE ((ifE ((ifE ((ifB ((ifB (mwSt 2))[1]?))[0]?))[0]?))[0]?))[0]?) (envM L) (eval (ifT (ifE ((ifE ((ifE ((ifB ((ifB (mwSt 2))[1]?))[0]?))[0]?))[0]?))[0]?) (envM L))) Q (fun _ _ => False) s := by
  have X' := G.X
  have T' := G.T
  revert X'
  k_fill
  intro X'
  have V1 := V.know hnc
  have F0 := V1.fr (Fr.know F hnc)
  clear F
  obtain ⟨vk', vx', vp', vq', vln', vneed', vpt', vpx', vpe', vot', vbr'⟩ := v
  dsimp only at vx F0
  subst vx
  simp only [envM]
  conv in (occs := *) (ifT _) => all_goals whnf
  conv in (defScope 13) => whnf
  all_goals (k_unmd; repeat' walk1)
  all_goals (try dsimp only)
  all_goals (first | (exfalso; (contradiction); done) | skip)
  all_goals (
    rename Fr g L _ _ => FE
    refine castQ ?_ (hQ _ _ (unknow hnc (V1.back FE)) (by first | assumption | exact newsDrop1 (by assumption) | exact newsDrop2 (by assumption) | exact newsDrop3 (by assumption) | exact newsDrop4 (by assumption) | exact newsDrop5 (by assumption) | exact newsDrop6 (by assumption) | exact newsDrop7 (by assumption) | exact newsDrop8 (by assumption)))
    first | rfl | assumption | (simp only [*]; done) | (simp only [*]; rfl) | (simp only [ins, needed, unary, optional, soft, keywords, Has, *]; done) | (simp only [ins, needed, unary, optional, soft, keywords, Has, *]; rfl) | (simp only [*]; simp; done))
end Mine
end

section
open PySem PySem.W PySem.Calls PyProof.Rows PySem.Spec
set_option maxRecDepth 100000
set_option maxHeartbeats 8000000
namespace Mine
local macro_rules | `(tactic| k_all) => `(tactic| assumption)
local macro_rules | `(tactic| walk_at "ite") => `(tactic| (k_closed; first | ((with_reducible refine' ite_pos ?hc ?_); (case hc => k_dflt decide)) | ((with_reducible refine' ite_neg ?hc ?_); (case hc => k_dflt decide))))
local macro_rules | `(tactic| walk_at "truthy ref") => `(tactic| (k_here; (with_reducible show wpAny _ _ (truthy (Value.ref _)) _ _ _); k_dflt (refine' truthy_K ?N ?l ?z ?_; (case N => k_asm); (case l => k_mem); (case z => first | assumption | (simp only [List.size_toArray, List.length_cons, List.length_nil]; omega)))))
local macro_rules | `(tactic| walk_at "compareOp NotEq ref ref") => `(tactic| (k_here; (with_reducible show wpAny _ _ (compareOp CmpOp.NotEq (Value.ref _) (Value.ref _)) _ _ _); k_dflt (refine' ne_pos ?F ?p ?q ?u ?_; (case F => k_asm); (case p => assumption); (case q => assumption); (case u => assumption))))
local macro_rules | `(tactic| walk_at "compareOp Eq ref ref") => `(tactic| (k_here; (with_reducible show wpAny _ _ (compareOp CmpOp.Eq (Value.ref _) (Value.ref _)) _ _ _); k_dflt (first
  | (refine' eq_pos ?F ?p ?q ?u ?_; (case F => k_asm); (case p => assumption); (case q => assumption); (case u => assumption))
  | (refine' eq_strs ?N ?a ?b ?i ?j ?ka ?kb ?u ?_; (case N => k_asm); (case a => k_mem); (case b => k_mem); (case i => (repeat' constructor)); (case j => (repeat' constructor)); (case ka => decide +kernel); (case kb => decide +kernel); (case u => assumption)))))
local macro_rules | `(tactic| walk_at "compareOp NotIn str ref") => `(tactic| (k_here; (with_reducible show wpAny _ _ (compareOp CmpOp.NotIn (Value.str _ _) (Value.ref _)) _ _ _); k_dflt (refine' notin_top ?X ?F ?e ?i ?_; (case X => assumption); (case F => k_asm); (case e => k_is); (case i => (repeat' constructor)))))

local macro_rules | `(tactic| walk_at "compareOp In str ref") => `(tactic| (k_here; (with_reducible show wpAny _ _ (compareOp CmpOp.In (Value.str _ _) (Value.ref _)) _ _ _); k_dflt (refine' in_top ?X ?F ?e ?i ?_; (case X => assumption); (case F => k_asm); (case e => k_is); (case i => (repeat' constructor)))))
local macro_rules | `(tactic| walk_at "compareOp In int ref") => `(tactic| (k_here; (with_reducible show wpAny _ _ (compareOp CmpOp.In (Value.int _ _) (Value.ref _)) _ _ _); k_dflt (refine' in_top_int ?X ?F ?e ?i ?_; (case X => assumption); (case F => k_asm); (case e => k_is); (case i => (repeat' constructor)))))
local macro_rules | `(tactic| walk_at "compareOp NotEq ref bool") => `(tactic| (k_here; (with_reducible show wpAny _ _ (compareOp CmpOp.NotEq (Value.ref _) (Value.bool _)) _ _ _); k_dflt (refine' ne_refbool ?F ?N ?h ?p ?u ?_; (case F => k_asm); (case N => k_asm); (case h => k_mem); (case p => assumption); (case u => assumption))))
local macro_rules | `(tactic| walk_at "compareOp Eq ref bool") => `(tactic| (k_here; (with_reducible show wpAny _ _ (compareOp CmpOp.Eq (Value.ref _) (Value.bool _)) _ _ _); k_dflt (refine' eq_refbool ?F ?N ?h ?p ?u ?_; (case F => k_asm); (case N => k_asm); (case h => k_mem); (case p => assumption); (case u => assumption))))

local macro_rules | `(tactic| walk_at "call ref") => `(tactic| (k_here; (with_reducible show wpAny _ _ (call (Value.ref 61) _) _ _ _); k_dflt (refine' soft_K ?G ?F ?N ?r ?_; (case G => assumption); (case F => k_asm); (case N => k_asm); (case r => assumption)); intro h' tk' F' N'))
theorem t3a_no {w : World} {loose : List Str} {mean : ExcName → Option Value} {mg mb : Str → Option Value} {A : Around} {s : Shared} {g : Heap} {L : Addr} {led : List (Addr × Obj)} {m : Str → Option Value} {v : Vl} {Q : Bool → Shared → Prop}  
    (G : Gnd w loose mean mg mb g) (V : Vs m v) (F : Fr g L s.heap m) (N : News g L s.heap led) (vn : v.need = .bool false) 
    (hQ : ∀ h' tk', Fr g L h' m → News g L h' led → Q (false) { s with heap := h', toks := tk' }) :
    wpAny (model PySem.Challenge.rw_co0044_01.row.toRowW.prog w) A (isTrue (ifT (mwSt 3)) (envM L) (eval (ifT (mwSt 3)) (envM L))) Q (fun _ _ => False) s := by
  have X' := G.X
  have T' := G.T
  revert X'
  k_fill
  intro X'
  have F0 := V.fr F
  clear F
  obtain ⟨vk', vx', vp', vq', vln', vneed', vpt', vpx', vpe', vot', vbr'⟩ := v
  dsimp only at vn F0
  subst vn
  simp only [envM]
  conv in (occs := *) (ifT _) => all_goals whnf
  conv in (defScope 13) => whnf
  all_goals (k_unmd; repeat' walk1)
  all_goals (try dsimp only)
  all_goals (first | (exfalso; (contradiction); done) | skip)
  all_goals (
    rename Fr g L _ _ => FE
    refine castQ ?_ (hQ _ _ (V.back FE) (by first | assumption | exact newsDrop1 (by assumption) | exact newsDrop2 (by assumption) | exact newsDrop3 (by assumption) | exact newsDrop4 (by assumption) | exact newsDrop5 (by assumption) | exact newsDrop6 (by assumption) | exact newsDrop7 (by assumption) | exact newsDrop8 (by assumption)))
    first | rfl | assumption | (simp only [*]; done) | (simp only [*]; rfl) | (simp only [ins, needed, unary, optional, soft, keywords, Has, *]; done) | (simp only [ins, needed, unary, optional, soft, keywords, Has, *]; rfl) | (simp only [*]; simp; done))
theorem t3a_must {w : World} {loose : List Str} {mean : ExcName → Option Value} {mg mb : Str → Option Value} {A : Around} {s : Shared} {g : Heap} {L : Addr} {led : List (Addr × Obj)} {m : Str → Option Value} {v : Vl} {Q : Bool → Shared → Prop}  
    (G : Gnd w loose mean mg mb g) (V : Vs m v) (F : Fr g L s.heap m) (N : News g L s.heap led) (vn : v.need = .bool true) 
    (hQ : ∀ h' tk', Fr g L h' m → News g L h' led → Q (true) { s with heap := h', toks := tk' }) :
    wpAny (model PySem.Challenge.rw_co0044_01.row.toRowW.prog w) A (isTrue (ifT (mwSt 3)) (envM L) (eval (ifT (mwSt 3)) (envM L))) Q (fun _ _ => False) s := by
  have X' := G.X
  have T' := G.T
  revert X'
  k_fill
  intro X'
  have F0 := V.fr F
  clear F
  obtain ⟨vk', vx', vp', vq', vln', vneed', vpt', vpx', vpe', vot', vbr'⟩ := v
  dsimp only at vn F0
  subst vn
  simp only [envM]
  conv in (occs := *) (ifT _) => all_goals whnf
  conv in (defScope 13) => whnf
  all_goals (k_unmd; repeat' walk1)
  all_goals (try dsimp only)
  all_goals (first | (exfalso; (contradiction); done) | skip)
  all_goals (
    rename Fr g L _ _ => FE
    refine castQ ?_ (hQ _ _ (V.back FE) (by first | assumption | exact newsDrop1 (by assumption) | exact newsDrop2 (by assumption) | exact newsDrop3 (by assumption) | exact newsDrop4 (by assumption) | exact newsDrop5 (by assumption) | exact newsDrop6 (by assumption) | exact newsDrop7 (by assumption) | exact newsDrop8 (by assumption)))
    first | rfl | assumption | (simp only [*]; done) | (simp only [*]; rfl) | (simp only [ins, needed, unary, optional, soft, keywords, Has, *]; done) | (simp only [ins, needed, unary, optional, soft, keywords, Has, *]; rfl) | (simp only [*]; simp; done))
theorem t3a_opt {w : World} {loose : List Str} {mean : ExcName → Option Value} {mg mb : Str → Option Value} {A : Around} {s : Shared} {g : Heap} {L : Addr} {led : List (Addr × Obj)} {m : Str → Option Value} {v : Vl} {Q : Bool → Shared → Prop} {nd : Addr} {np : Addr} {bl : Bool} {nc' : Nat} {t1 t2 : Tok}
    (G : Gnd w loose mean mg mb g) (V : Vs m v) (F : Fr g L s.heap m) (N : News g L s.heap ((nd, tupOf [.ref np, .bool bl]) :: led)) (vn : v.need = .ref nd) (hnp : IsTup g np #[.int 1 t1, .int nc' t2]) (hu : A.units + 64 < cLine)
    (hQ : ∀ h' tk', Fr g L h' m → News g L h' ((nd, tupOf [.ref np, .bool bl]) :: led) → Q (true) { s with heap := h', toks := tk' }) :
    wpAny (model PySem.Challenge.rw_co0044_01.row.toRowW.prog w) A (isTrue (ifT (mwSt 3)) (envM L) (eval (ifT (mwSt 3)) (envM L))) Q (fun _ _ => False) s := by
  have X' := G.X
  have T' := G.T
  revert X'
  k_fill
  intro X'
  have F0 := V.fr F
  clear F
  obtain ⟨vk', vx', vp', vq', vln', vneed', vpt', vpx', vpe', vot', vbr'⟩ := v
  dsimp only at vn F0
  subst vn
  simp only [envM]
  conv in (occs := *) (ifT _) => all_goals whnf
  conv in (defScope 13) => whnf
  all_goals (k_unmd; repeat' walk1)
  all_goals (try dsimp only)
  all_goals (first | (exfalso; (contradiction); done) | skip)
  all_goals (
    rename Fr g L _ _ => FE
    refine castQ ?_ (hQ _ _ (V.back FE) (by first | assumption | exact newsDrop1 (by assumption) | exact newsDrop2 (by assumption) | exact newsDrop3 (by assumption) | exact newsDrop4 (by assumption) | exact newsDrop5 (by assumption) | exact newsDrop6 (by assumption) | exact newsDrop7 (by assumption) | exact newsDrop8 (by assumption)))
    first | rfl | assumption | (simp only [*]; done) | (simp only [*]; rfl) | (simp only [ins, needed, unary, optional, soft, keywords, Has, *]; done) | (simp only [ins, needed, unary, optional, soft, keywords, Has, *]; rfl) | (simp only [*]; simp; done))
theorem t3b {w : World} {loose : List Str} {mean : ExcName → Option Value} {mg mb : Str → Option Value} {A : Around} {s : Shared} {g : Heap} {L : Addr} {led : List (Addr × Obj)} {m : Str → Option Value} {v : Vl} {Q : Bool → Shared → Prop} {p : Addr} {r : Addr} {bp ep : Nat} {t1 t2 t3 t4 : Tok}
    (G : Gnd w loose mean mg mb g) (V : Vs m v) (F : Fr g L s.heap m) (N : News g L s.heap led) (vp : v.p = .ref p) (ve : v.pe = .ref r) (hp : IsTup g p #[.int 1 t1, .int bp t2]) (hr : IsTup g r #[.int 1 t3, .int ep t4]) (hu : A.units + 64 < cLine)
    (hQ : ∀ h' tk', Fr g L h' m → News g L h' led → Q (decide (bp ≠ ep)) { s with heap := h', toks := tk' }) :
    wpAny (model PySem.Challenge.rw_co0044_01.row.toRowW.prog w) A (isTrue (ifT (ifB ((mwSt 3)))[0]?) (envM L) (eval (ifT (ifB ((mwSt 3)))[0]?) (envM L))) Q (fun _ _ => False) s := by
  have X' := G.X
  have T' := G.T
  revert X'
  k_fill
  intro X'
  have F0 := V.fr F
  clear F
  obtain ⟨vk', vx', vp', vq', vln', vneed', vpt', vpx', vpe', vot', vbr'⟩ := v
  dsimp only at vp ve F0
  subst vp ve
  simp only [envM]
  conv in (occs := *) (ifT _) => all_goals whnf
  conv in (defScope 13) => whnf
  all_goals (k_unmd; repeat' walk1)
  all_goals (try dsimp only)
  all_goals (first | (exfalso; (contradiction); done) | skip)
  all_goals (
    rename Fr g L _ _ => FE
    refine castQ ?_ (hQ _ _ (V.back FE) (by first | assumption | exact newsDrop1 (by assumption) | exact newsDrop2 (by assumption) | exact newsDrop3 (by assumption) | exact newsDrop4 (by assumption) | exact newsDrop5 (by assumption) | exact newsDrop6 (by assumption) | exact newsDrop7 (by assumption) | exact newsDrop8 (by assumption)))
    first | rfl | assumption | (simp only [*]; done) | (simp only [*]; rfl) | (simp only [ins, needed, unary, optional, soft, keywords, Has, *]; done) | (simp only [ins, needed, unary, optional, soft, keywords, Has, *]; rfl) | (simp only [*]; simp; done))
theorem t3c_must {w : World} {loose : List Str} {mean : ExcName → Option Value} {mg mb : Str → Option Value} {A : Around} {s : Shared} {g : Heap} {L : Addr} {led : List (Addr × Obj)} {m : Str → Option Value} {v : Vl} {Q : Bool → Shared → Prop}  
    (G : Gnd w loose mean mg mb g) (V : Vs m v) (F : Fr g L s.heap m) (N : News g L s.heap led) (vn : v.need = .bool true) 
    (hQ : ∀ h' tk', Fr g L h' m → News g L h' led → Q (false) { s with heap := h', toks := tk' }) :
    wpAny (model PySem.Challenge.rw_co0044_01.row.toRowW.prog w) A (isTrue (ifT (ifB ((ifB ((mwSt 3)))[0]?))[0]?) (envM L) (eval (ifT (ifB ((ifB ((mwSt 3)))[0]?))[0]?) (envM L))) Q (fun _ _ => False) s := by
  have X' := G.X
  have T' := G.T
  revert X'
  k_fill
  intro X'
  have F0 := V.fr F
  clear F
  obtain ⟨vk', vx', vp', vq', vln', vneed', vpt', vpx', vpe', vot', vbr'⟩ := v
  dsimp only at vn F0
  subst vn
  simp only [envM]
  conv in (occs := *) (ifT _) => all_goals whnf
  conv in (defScope 13) => whnf
  all_goals (k_unmd; repeat' walk1)
  all_goals (try dsimp only)
  all_goals (first | (exfalso; (contradiction); done) | skip)
  all_goals (
    rename Fr g L _ _ => FE
    refine castQ ?_ (hQ _ _ (V.back FE) (by first | assumption | exact newsDrop1 (by assumption) | exact newsDrop2 (by assumption) | exact newsDrop3 (by assumption) | exact newsDrop4 (by assumption) | exact newsDrop5 (by assumption) | exact newsDrop6 (by assumption) | exact newsDrop7 (by assumption) | exact newsDrop8 (by assumption)))
    first | rfl | assumption | (simp only [*]; done) | (simp only [*]; rfl) | (simp only [ins, needed, unary, optional, soft, keywords, Has, *]; done) | (simp only [ins, needed, unary, optional, soft, keywords, Has, *]; rfl) | (simp only [*]; simp; done))
theorem t3c_opt {w : World} {loose : List Str} {mean : ExcName → Option Value} {mg mb : Str → Option Value} {A : Around} {s : Shared} {g : Heap} {L : Addr} {led : List (Addr × Obj)} {m : Str → Option Value} {v : Vl} {Q : Bool → Shared → Prop} {nd : Addr} {np : Addr} {bl : Bool} {nc' : Nat} {t1 t2 : Tok}
    (G : Gnd w loose mean mg mb g) (V : Vs m v) (F : Fr g L s.heap m) (N : News g L s.heap ((nd, tupOf [.ref np, .bool bl]) :: led)) (vn : v.need = .ref nd) (hnp : IsTup g np #[.int 1 t1, .int nc' t2]) (hu : A.units + 64 < cLine)
    (hQ : ∀ h' tk', Fr g L h' m → News g L h' ((nd, tupOf [.ref np, .bool bl]) :: led) → Q (!bl) { s with heap := h', toks := tk' }) :
    wpAny (model PySem.Challenge.rw_co0044_01.row.toRowW.prog w) A (isTrue (ifT (ifB ((ifB ((mwSt 3)))[0]?))[0]?) (envM L) (eval (ifT (ifB ((ifB ((mwSt 3)))[0]?))[0]?) (envM L))) Q (fun _ _ => False) s := by
  have X' := G.X
  have T' := G.T
  revert X'
  k_fill
  intro X'
  have F0 := V.fr F
  clear F
  obtain ⟨vk', vx', vp', vq', vln', vneed', vpt', vpx', vpe', vot', vbr'⟩ := v
  dsimp only at vn F0
  subst vn
  simp only [envM]
  conv in (occs := *) (ifT _) => all_goals whnf
  conv in (defScope 13) => whnf
  all_goals (k_unmd; repeat' walk1)
  all_goals (try dsimp only)
  all_goals (first | (exfalso; (contradiction); done) | skip)
  all_goals (
    rename Fr g L _ _ => FE
    refine castQ ?_ (hQ _ _ (V.back FE) (by first | assumption | exact newsDrop1 (by assumption) | exact newsDrop2 (by assumption) | exact newsDrop3 (by assumption) | exact newsDrop4 (by assumption) | exact newsDrop5 (by assumption) | exact newsDrop6 (by assumption) | exact newsDrop7 (by assumption) | exact newsDrop8 (by assumption)))
    first | rfl | assumption | (simp only [*]; done) | (simp only [*]; rfl) | (simp only [ins, needed, unary, optional, soft, keywords, Has, *]; done) | (simp only [ins, needed, unary, optional, soft, keywords, Has, *]; rfl) | (simp only [*]; simp; done))
theorem t3d {w : World} {loose : List Str} {mean : ExcName → Option Value} {mg mb : Str → Option Value} {A : Around} {s : Shared} {g : Heap} {L : Addr} {led : List (Addr × Obj)} {m : Str → Option Value} {v : Vl} {Q : Bool → Shared → Prop} {x : Str} {tx : Tok} {y : Str} {ty : Tok} 
    (G : Gnd w loose mean mg mb g) (V : Vs m v) (F : Fr g L s.heap m) (N : News g L s.heap led) (vx : v.x = .str x tx) (vpx : v.px = .str y ty) 
    (hQ : ∀ h' tk', Fr g L h' m → News g L h' led → Q (((y == Str.ofString "/") && (false || decide (x = Str.ofString ",") || decide (x = Str.ofString ")") || decide (x = Str.ofString ":"))) || ((y == Str.ofString ")") && (x == Str.ofString ":"))) { s with heap := h', toks := tk' }) :
    wpAny (model PySem.Challenge.rw_co0044_01.row.toRowW.prog w) A (isTrue (ifT (ifE ((ifB ((mwSt 3)))[0]?))[0]?) (envM L) (eval (ifT (ifE ((ifB ((mwSt 3)))[0]?))[0]?) (envM L))) Q (fun _ _ => False) s := by
  have X' := G.X
  have T' := G.T
  revert X'
  k_fill
  intro X'
  have F0 := V.fr F
  clear F
  obtain ⟨vk', vx', vp', vq', vln', vneed', vpt', vpx', vpe', vot', vbr'⟩ := v
  dsimp only at vx vpx F0
  subst vx vpx
  simp only [envM]
  conv in (occs := *) (ifT _) => all_goals whnf
  conv in (defScope 13) => whnf
  all_goals (k_unmd; repeat' walk1)
  all_goals (try dsimp only)
  all_goals (first | (exfalso; (contradiction); done) | skip)
  all_goals (
    rename Fr g L _ _ => FE
    refine castQ ?_ (hQ _ _ (V.back FE) (by first | assumption | exact newsDrop1 (by assumption) | exact newsDrop2 (by assumption) | exact newsDrop3 (by assumption) | exact newsDrop4 (by assumption) | exact newsDrop5 (by assumption) | exact newsDrop6 (by assumption) | exact newsDrop7 (by assumption) | exact newsDrop8 (by assumption)))
    first | rfl | assumption | (simp only [*]; done) | (simp only [*]; rfl) | (simp only [ins, needed, unary, optional, soft, keywords, Has, *]; done) | (simp only [ins, needed, unary, optional, soft, keywords, Has, *]; rfl) | (simp only [*]; simp; done))
theorem t3e_must {w : World} {loose : List Str} {mean : ExcName → Option Value} {mg mb : Str → Option Value} {A : Around} {s : Shared} {g : Heap} {L : Addr} {led : List (Addr × Obj)} {m : Str → Option Value} {v : Vl} {Q : Bool → Shared → Prop}  
    (G : Gnd w loose mean mg mb g) (V : Vs m v) (F : Fr g L s.heap m) (N : News g L s.heap led) (vn : v.need = .bool true) 
    (hQ : ∀ h' tk', Fr g L h' m → News g L h' led → Q (true) { s with heap := h', toks := tk' }) :
    wpAny (model PySem.Challenge.rw_co0044_01.row.toRowW.prog w) A (isTrue (ifT (ifE ((ifE ((ifB ((mwSt 3)))[0]?))[0]?))[0]?) (envM L) (eval (ifT (ifE ((ifE ((ifB ((mwSt 3)))[0]?))[0]?))[0]?) (envM L))) Q (fun _ _ => False) s := by
  have X' := G.X
  have T' := G.T
  revert X'
  k_fill
  intro X'
  have F0 := V.fr F
  clear F
  obtain ⟨vk', vx', vp', vq', vln', vneed', vpt', vpx', vpe', vot', vbr'⟩ := v
  dsimp only at vn F0
  subst vn
  simp only [envM]
  conv in (occs := *) (ifT _) => all_goals whnf
  conv in (defScope 13) => whnf
  all_goals (k_unmd; repeat' walk1)
  all_goals (try dsimp only)
  all_goals (first | (exfalso; (contradiction); done) | skip)
  all_goals (
    rename Fr g L _ _ => FE
    refine castQ ?_ (hQ _ _ (V.back FE) (by first | assumption | exact newsDrop1 (by assumption) | exact newsDrop2 (by assumption) | exact newsDrop3 (by assumption) | exact newsDrop4 (by assumption) | exact newsDrop5 (by assumption) | exact newsDrop6 (by assumption) | exact newsDrop7 (by assumption) | exact newsDrop8 (by assumption)))
    first | rfl | assumption | (simp only [*]; done) | (simp only [*]; rfl) | (simp only [ins, needed, unary, optional, soft, keywords, Has, *]; done) | (simp only [ins, needed, unary, optional, soft, keywords, Has, *]; rfl) | (simp only [*]; simp; done))
theorem t3e_opt {w : World} {loose : List Str} {mean : ExcName → Option Value} {mg mb : Str → Option Value} {A : Around} {s : Shared} {g : Heap} {L : Addr} {led : List (Addr × Obj)} {m : Str → Option Value} {v : Vl} {Q : Bool → Shared → Prop} {nd : Addr} {np : Addr} {bl : Bool} {nc' : Nat} {t1 t2 : Tok}
    (G : Gnd w loose mean mg mb g) (V : Vs m v) (F : Fr g L s.heap m) (N : News g L s.heap ((nd, tupOf [.ref np, .bool bl]) :: led)) (vn : v.need = .ref nd) (hnp : IsTup g np #[.int 1 t1, .int nc' t2]) (hu : A.units + 64 < cLine)
    (hQ : ∀ h' tk', Fr g L h' m → News g L h' ((nd, tupOf [.ref np, .bool bl]) :: led) → Q (bl) { s with heap := h', toks := tk' }) :
    wpAny (model PySem.Challenge.rw_co0044_01.row.toRowW.prog w) A (isTrue (ifT (ifE ((ifE ((ifB ((mwSt 3)))[0]?))[0]?))[0]?) (envM L) (eval (ifT (ifE ((ifE ((ifB ((mwSt 3)))[0]?))[0]?))[0]?) (envM L))) Q (fun _ _ => False) s := by
  have X' := G.X
  have T' := G.T
  revert X'
  k_fill
  intro X'
  have F0 := V.fr F
  clear F
  obtain ⟨vk', vx', vp', vq', vln', vneed', vpt', vpx', vpe', vot', vbr'⟩ := v
  dsimp only at vn F0
  subst vn
  simp only [envM]
  conv in (occs := *) (ifT _) => all_goals whnf
  conv in (defScope 13) => whnf
  all_goals (k_unmd; repeat' walk1)
  all_goals (try dsimp only)
  all_goals (first | (exfalso; (contradiction); done) | skip)
  all_goals (
    rename Fr g L _ _ => FE
    refine castQ ?_ (hQ _ _ (V.back FE) (by first | assumption | exact newsDrop1 (by assumption) | exact newsDrop2 (by assumption) | exact newsDrop3 (by assumption) | exact newsDrop4 (by assumption) | exact newsDrop5 (by assumption) | exact newsDrop6 (by assumption) | exact newsDrop7 (by assumption) | exact newsDrop8 (by assumption)))
    first | rfl | assumption | (simp only [*]; done) | (simp only [*]; rfl) | (simp only [ins, needed, unary, optional, soft, keywords, Has, *]; done) | (simp only [ins, needed, unary, optional, soft, keywords, Has, *]; rfl) | (simp only [*]; simp; done))
theorem t3f {w : World} {loose : List Str} {mean : ExcName → Option Value} {mg mb : Str → Option Value} {A : Around} {s : Shared} {g : Heap} {L : Addr} {led : List (Addr × Obj)} {m : Str → Option Value} {v : Vl} {Q : Bool → Shared → Prop} {y : Str} {ty : Tok} 
    (G : Gnd w loose mean mg mb g) (V : Vs m v) (F : Fr g L s.heap m) (N : News g L s.heap led) (vpx : v.px = .str y ty) 
    (hQ : ∀ h' tk', Fr g L h' m → News g L h' led → Q (!(y == Str.ofString "**")) { s with heap := h', toks := tk' }) :
    wpAny (model PySem.Challenge.rw_co0044_01.row.toRowW.prog w) A (isTrue (ifT (ifE ((ifE ((ifE ((ifB ((mwSt 3)))[0]?))[0]?))[0]?))[0]?) (envM L) (eval (ifT (ifE ((ifE ((ifE ((ifB ((mwSt 3)))[0]?))[0]?))[0]?))[0]?) (envM L))) Q (fun _ _ => False) s := by
  have X' := G.X
  have T' := G.T
  revert X'
  k_fill
  intro X'
  have F0 := V.fr F
  clear F
  obtain ⟨vk', vx', vp', vq', vln', vneed', vpt', vpx', vpe', vot', vbr'⟩ := v
  dsimp only at vpx F0
  subst vpx
  simp only [envM]
  conv in (occs := *) (ifT _) => all_goals whnf
  conv in (defScope 13) => whnf
  all_goals (k_unmd; repeat' walk1)
  all_goals (try dsimp only)
  all_goals (first | (exfalso; (contradiction); done) | skip)
  all_goals (
    rename Fr g L _ _ => FE
    refine castQ ?_ (hQ _ _ (V.back FE) (by first | assumption | exact newsDrop1 (by assumption) | exact newsDrop2 (by assumption) | exact newsDrop3 (by assumption) | exact newsDrop4 (by assumption) | exact newsDrop5 (by assumption) | exact newsDrop6 (by assumption) | exact newsDrop7 (by assumption) | exact newsDrop8 (by assumption)))
    first | rfl | assumption | (simp only [*]; done) | (simp only [*]; rfl) | (simp only [ins, needed, unary, optional, soft, keywords, Has, *]; done) | (simp only [ins, needed, unary, optional, soft, keywords, Has, *]; rfl) | (simp only [*]; simp; done))
theorem t3g {w : World} {loose : List Str} {mean : ExcName → Option Value} {mg mb : Str → Option Value} {A : Around} {s : Shared} {g : Heap} {L : Addr} {led : List (Addr × Obj)} {m : Str → Option Value} {v : Vl} {Q : Bool → Shared → Prop} {y : Str} {ty : Tok} 
    (G : Gnd w loose mean mg mb g) (V : Vs m v) (F : Fr g L s.heap m) (N : News g L s.heap led) (vpx : v.px = .str y ty) 
    (hQ : ∀ h' tk', Fr g L h' m → News g L h' led → Q ((y == Str.ofString "%")) { s with heap := h', toks := tk' }) :
    wpAny (model PySem.Challenge.rw_co0044_01.row.toRowW.prog w) A (isTrue (ifT (ifB ((ifE ((ifE ((ifE ((ifB ((mwSt 3)))[0]?))[0]?))[0]?))[0]?))[1]?) (envM L) (eval (ifT (ifB ((ifE ((ifE ((ifE ((ifB ((mwSt 3)))[0]?))[0]?))[0]?))[0]?))[1]?) (envM L))) Q (fun _ _ => False) s := by
  have X' := G.X
  have T' := G.T
  revert X'
  k_fill
  intro X'
  have F0 := V.fr F
  clear F
  obtain ⟨vk', vx', vp', vq', vln', vneed', vpt', vpx', vpe', vot', vbr'⟩ := v
  dsimp only at vpx F0
  subst vpx
  simp only [envM]
  conv in (occs := *) (ifT _) => all_goals whnf
  conv in (defScope 13) => whnf
  all_goals (k_unmd; repeat' walk1)
  all_goals (try dsimp only)
  all_goals (first | (exfalso; (contradiction); done) | skip)
  all_goals (
    rename Fr g L _ _ => FE
    refine castQ ?_ (hQ _ _ (V.back FE) (by first | assumption | exact newsDrop1 (by assumption) | exact newsDrop2 (by assumption) | exact newsDrop3 (by assumption) | exact newsDrop4 (by assumption) | exact newsDrop5 (by assumption) | exact newsDrop6 (by assumption) | exact newsDrop7 (by assumption) | exact newsDrop8 (by assumption)))
    first | rfl | assumption | (simp only [*]; done) | (simp only [*]; rfl) | (simp only [ins, needed, unary, optional, soft, keywords, Has, *]; done) | (simp only [ins, needed, unary, optional, soft, keywords, Has, *]; rfl) | (simp only [*]; simp; done))
theorem t3h {w : World} {loose : List Str} {mean : ExcName → Option Value} {mg mb : Str → Option Value} {A : Around} {s : Shared} {g : Heap} {L : Addr} {led : List (Addr × Obj)} {m : Str → Option Value} {v : Vl} {Q : Bool → Shared → Prop} {y : Str} {ty : Tok} 
    (G : Gnd w loose mean mg mb g) (V : Vs m v) (F : Fr g L s.heap m) (N : News g L s.heap led) (vpx : v.px = .str y ty) 
    (hQ : ∀ h' tk', Fr g L h' m → News g L h' led → Q (!(ins ["**", "*", "/", "//", "+", "-", "@"] y)) { s with heap := h', toks := tk' }) :
    wpAny (model PySem.Challenge.rw_co0044_01.row.toRowW.prog w) A (isTrue (ifT (ifE ((ifB ((ifE ((ifE ((ifE ((ifB ((mwSt 3)))[0]?))[0]?))[0]?))[0]?))[1]?))[0]?) (envM L) (eval (ifT (ifE ((ifB ((ifE ((ifE ((ifE ((ifB ((mwSt 3)))[0]?))[0]?))[0]?))[0]?))[1]?))[0]?) (envM L))) Q (fun _ _ => False) s := by
  have X' := G.X
  have T' := G.T
  revert X'
  k_fill
  intro X'
  have F0 := V.fr F
  clear F
  obtain ⟨vk', vx', vp', vq', vln', vneed', vpt', vpx', vpe', vot', vbr'⟩ := v
  dsimp only at vpx F0
  subst vpx
  simp only [envM]
  conv in (occs := *) (ifT _) => all_goals whnf
  conv in (defScope 13) => whnf
  all_goals (k_unmd; repeat' walk1)
  all_goals (try dsimp only)
  all_goals (first | (exfalso; (contradiction); done) | skip)
  all_goals (
    rename Fr g L _ _ => FE
    refine castQ ?_ (hQ _ _ (V.back FE) (by first | assumption | exact newsDrop1 (by assumption) | exact newsDrop2 (by assumption) | exact newsDrop3 (by assumption) | exact newsDrop4 (by assumption) | exact newsDrop5 (by assumption) | exact newsDrop6 (by assumption) | exact newsDrop7 (by assumption) | exact newsDrop8 (by assumption)))
    first | rfl | assumption | (simp only [*]; done) | (simp only [*]; rfl) | (simp only [ins, needed, unary, optional, soft, keywords, Has, *]; done) | (simp only [ins, needed, unary, optional, soft, keywords, Has, *]; rfl) | (simp only [*]; simp; done))
theorem t3i_some {w : World} {loose : List Str} {mean : ExcName → Option Value} {mg mb : Str → Option Value} {A : Around} {s : Shared} {g : Heap} {L : Addr} {led : List (Addr × Obj)} {m : Str → Option Value} {v : Vl} {Q : Bool → Shared → Prop} {k : Int} {tk : Tok} {ot : Addr} {r : Addr} {t5 t6 : Tok}
    (G : Gnd w loose mean mg mb g) (V : Vs m v) (F : Fr g L s.heap m) (N : News g L s.heap ((ot, tupOf [.int 54 t5, .int 1 t6]) :: led)) (vk : v.k = .int k tk) (vo : v.ot = .ref ot) (ve : v.pe = .ref r) 
    (hQ : ∀ h' tk', Fr g L h' m → News g L h' ((ot, tupOf [.int 54 t5, .int 1 t6]) :: led) → Q (([54, 1] : List Int).any (· == k)) { s with heap := h', toks := tk' }) :
    wpAny (model PySem.Challenge.rw_co0044_01.row.toRowW.prog w) A (isTrue (ifT (ifE ((mwSt 3)))[0]?) (envM L) (eval (ifT (ifE ((mwSt 3)))[0]?) (envM L))) Q (fun _ _ => False) s := by
  have X' := G.X
  have T' := G.T
  revert X'
  k_fill
  intro X'
  have F0 := V.fr F
  clear F
  obtain ⟨vk', vx', vp', vq', vln', vneed', vpt', vpx', vpe', vot', vbr'⟩ := v
  dsimp only at vk vo ve F0
  subst vk vo ve
  simp only [envM]
  conv in (occs := *) (ifT _) => all_goals whnf
  conv in (defScope 13) => whnf
  all_goals (k_unmd; repeat' walk1)
  all_goals (try dsimp only)
  all_goals (first | (exfalso; (contradiction); done) | skip)
  all_goals (
    rename Fr g L _ _ => FE
    refine castQ ?_ (hQ _ _ (V.back FE) (by first | assumption | exact newsDrop1 (by assumption) | exact newsDrop2 (by assumption) | exact newsDrop3 (by assumption) | exact newsDrop4 (by assumption) | exact newsDrop5 (by assumption) | exact newsDrop6 (by assumption) | exact newsDrop7 (by assumption) | exact newsDrop8 (by assumption)))
    first | rfl | assumption | (simp only [*]; done) | (simp only [*]; rfl) | (simp only [ins, needed, unary, optional, soft, keywords, Has, *]; done) | (simp only [ins, needed, unary, optional, soft, keywords, Has, *]; rfl) | (simp only [*]; simp; done))
theorem t3i_none {w : World} {loose : List Str} {mean : ExcName → Option Value} {mg mb : Str → Option Value} {A : Around} {s : Shared} {g : Heap} {L : Addr} {led : List (Addr × Obj)} {m : Str → Option Value} {v : Vl} {Q : Bool → Shared → Prop} {k : Int} {tk : Tok} {ot : Addr}  {t5 t6 : Tok}
    (G : Gnd w loose mean mg mb g) (V : Vs m v) (F : Fr g L s.heap m) (N : News g L s.heap ((ot, tupOf [.int 54 t5, .int 1 t6]) :: led)) (vk : v.k = .int k tk) (vo : v.ot = .ref ot) (ve : v.pe = .none) 
    (hQ : ∀ h' tk', Fr g L h' m → News g L h' ((ot, tupOf [.int 54 t5, .int 1 t6]) :: led) → Q (false) { s with heap := h', toks := tk' }) :
    wpAny (model PySem.Challenge.rw_co0044_01.row.toRowW.prog w) A (isTrue (ifT (ifE ((mwSt 3)))[0]?) (envM L) (eval (ifT (ifE ((mwSt 3)))[0]?) (envM L))) Q (fun _ _ => False) s := by
  have X' := G.X
  have T' := G.T
  revert X'
  k_fill
  intro X'
  have F0 := V.fr F
  clear F
  obtain ⟨vk', vx', vp', vq', vln', vneed', vpt', vpx', vpe', vot', vbr'⟩ := v
  dsimp only at vk vo ve F0
  subst vk vo ve
  simp only [envM]
  conv in (occs := *) (ifT _) => all_goals whnf
  conv in (defScope 13) => whnf
  all_goals (k_unmd; repeat' walk1)
  all_goals (try dsimp only)
  all_goals (first | (exfalso; (contradiction); done) | skip)
  all_goals (
    rename Fr g L _ _ => FE
    refine castQ ?_ (hQ _ _ (V.back FE) (by first | assumption | exact newsDrop1 (by assumption) | exact newsDrop2 (by assumption) | exact newsDrop3 (by assumption) | exact newsDrop4 (by assumption) | exact newsDrop5 (by assumption) | exact newsDrop6 (by assumption) | exact newsDrop7 (by assumption) | exact newsDrop8 (by assumption)))
    first | rfl | assumption | (simp only [*]; done) | (simp only [*]; rfl) | (simp only [ins, needed, unary, optional, soft, keywords, Has, *]; done) | (simp only [ins, needed, unary, optional, soft, keywords, Has, *]; rfl) | (simp only [*]; simp; done))
theorem t3j {w : World} {loose : List Str} {mean : ExcName → Option Value} {mg mb : Str → Option Value} {A : Around} {s : Shared} {g : Heap} {L : Addr} {led : List (Addr × Obj)} {m : Str → Option Value} {v : Vl} {Q : Bool → Shared → Prop} {x : Str} {tx : Tok} {aB : Addr} {nb : Nat} {bv : Array Value} {st : List Str}
    (G : Gnd w loose mean mg mb g) (V : Vs m v) (F : Fr g L s.heap m) (N : News g L s.heap ((aB, W.listOf bv nb) :: led)) (vx : v.x = .str x tx) (vb : v.br = .ref aB) (hu : A.units + 64 < cLine) (hst : StrsAre bv.toList st) (hl : st.length ≤ 2) (hok : ∀ a ∈ st, okB a)
    (hQ : ∀ h' tk', Fr g L h' m → News g L h' ((aB, W.listOf bv nb) :: led) → Q ((x == Str.ofString "=") && decide (st.drop (st.length - 1) = [Str.ofString "("])) { s with heap := h', toks := tk' }) :
    wpAny (model PySem.Challenge.rw_co0044_01.row.toRowW.prog w) A (isTrue (ifT (ifB ((ifE ((mwSt 3)))[0]?))[0]?) (envM L) (eval (ifT (ifB ((ifE ((mwSt 3)))[0]?))[0]?) (envM L))) Q (fun _ _ => False) s := by
  have X' := G.X
  have T' := G.T
  revert X'
  k_fill
  intro X'
  have F0 := V.fr F
  clear F
  obtain ⟨vk', vx', vp', vq', vln', vneed', vpt', vpx', vpe', vot', vbr'⟩ := v
  dsimp only at vx vb F0
  subst vx vb
  simp only [envM]
  conv in (occs := *) (ifT _) => all_goals whnf
  conv in (defScope 13) => whnf
  have sh : (bv = #[] ∧ st = []) ∨ (∃ a ta, okB a ∧ bv = #[.str a ta] ∧ st = [a]) ∨ (∃ a ta b tb, okB a ∧ okB b ∧ bv = #[.str a ta, .str b tb] ∧ st = [a, b]) := by
    rcases stk_shape hst hl with ⟨rfl, rfl⟩ | ⟨a, ta, rfl, rfl⟩ | ⟨a', ta, a, tb, rfl, rfl⟩
    · exact .inl ⟨rfl, rfl⟩
    · exact .inr (.inl ⟨_, _, hok a (by simp), rfl, rfl⟩)
    · exact .inr (.inr ⟨_, _, _, _, hok a' (by simp), hok a (by simp), rfl, rfl⟩)
  clear hst hl hok
  rcases sh with ⟨rfl, rfl⟩ | ⟨_, ta, rfl | rfl | rfl, rfl, rfl⟩ | ⟨_, ta, _, tb, rfl | rfl | rfl, rfl | rfl | rfl, rfl, rfl⟩
  all_goals (k_unmd; repeat' walk1)
  all_goals (try dsimp only)
  all_goals (first | (exfalso; (contradiction); done) | skip)
  all_goals (
    rename Fr g L _ _ => FE
    refine castQ ?_ (hQ _ _ (V.back FE) (by first | assumption | exact newsDrop1 (by assumption) | exact newsDrop2 (by assumption) | exact newsDrop3 (by assumption) | exact newsDrop4 (by assumption) | exact newsDrop5 (by assumption) | exact newsDrop6 (by assumption) | exact newsDrop7 (by assumption) | exact newsDrop8 (by assumption)))
    first | rfl | assumption | (simp only [*]; done) | (simp only [*]; rfl) | (simp only [ins, needed, unary, optional, soft, keywords, Has, *]; done) | (simp only [ins, needed, unary, optional, soft, keywords, Has, *]; rfl) | (simp only [*]; simp; done))
theorem t3k {w : World} {loose : List Str} {mean : ExcName → Option Value} {mg mb : Str → Option Value} {A : Around} {s : Shared} {g : Heap} {L : Addr} {led : List (Addr × Obj)} {m : Str → Option Value} {v : Vl} {Q : Bool → Shared → Prop} {x : Str} {tx : Tok} 
    (G : Gnd w loose mean mg mb g) (V : Vs m v) (F : Fr g L s.heap m) (N : News g L s.heap led) (vx : v.x = .str x tx) 
    (hQ : ∀ h' tk', Fr g L h' m → News g L h' led → Q (ins needed x) { s with heap := h', toks := tk' }) :
    wpAny (model PySem.Challenge.rw_co0044_01.row.toRowW.prog w) A (isTrue (ifT (ifE ((ifB ((ifE ((mwSt 3)))[0]?))[0]?))[0]?) (envM L) (eval (ifT (ifE ((ifB ((ifE ((mwSt 3)))[0]?))[0]?))[0]?) (envM L))) Q (fun _ _ => False) s := by
  have X' := G.X
  have T' := G.T
  revert X'
  k_fill
  intro X'
  have F0 := V.fr F
  clear F
  obtain ⟨vk', vx', vp', vq', vln', vneed', vpt', vpx', vpe', vot', vbr'⟩ := v
  dsimp only at vx F0
  subst vx
  simp only [envM]
  conv in (occs := *) (ifT _) => all_goals whnf
  conv in (defScope 13) => whnf
  all_goals (k_unmd; repeat' walk1)
  all_goals (try dsimp only)
  all_goals (first | (exfalso; (contradiction); done) | skip)
  all_goals (
    rename Fr g L _ _ => FE
    refine castQ ?_ (hQ _ _ (V.back FE) (by first | assumption | exact newsDrop1 (by assumption) | exact newsDrop2 (by assumption) | exact newsDrop3 (by assumption) | exact newsDrop4 (by assumption) | exact newsDrop5 (by assumption) | exact newsDrop6 (by assumption) | exact newsDrop7 (by assumption) | exact newsDrop8 (by assumption)))
    first | rfl | assumption | (simp only [*]; done) | (simp only [*]; rfl) | (simp only [ins, needed, unary, optional, soft, keywords, Has, *]; done) | (simp only [ins, needed, unary, optional, soft, keywords, Has, *]; rfl) | (simp only [*]; simp; done))
theorem t3l {w : World} {loose : List Str} {mean : ExcName → Option Value} {mg mb : Str → Option Value} {A : Around} {s : Shared} {g : Heap} {L : Addr} {led : List (Addr × Obj)} {m : Str → Option Value} {v : Vl} {Q : Bool → Shared → Prop} {x : Str} {tx : Tok} 
    (G : Gnd w loose mean mg mb g) (V : Vs m v) (F : Fr g L s.heap m) (N : News g L s.heap led) (vx : v.x = .str x tx) 
    (hQ : ∀ h' tk', Fr g L h' m → News g L h' led → Q (ins unary x) { s with heap := h', toks := tk' }) :
    wpAny (model PySem.Challenge.rw_co0044_01.row.toRowW.prog w) A (isTrue (ifT (ifE ((ifE ((ifB ((ifE ((mwSt 3)))[0]?))[0]?))[0]?))[0]?) (envM L) (eval (ifT (ifE ((ifE ((ifB ((ifE ((mwSt 3)))[0]?))[0]?))[0]?))[0]?) (envM L))) Q (fun _ _ => False) s := by
  have X' := G.X
  have T' := G.T
  revert X'
  k_fill
  intro X'
  have F0 := V.fr F
  clear F
  obtain ⟨vk', vx', vp', vq', vln', vneed', vpt', vpx', vpe', vot', vbr'⟩ := v
  dsimp only at vx F0
  subst vx
  simp only [envM]
  conv in (occs := *) (ifT _) => all_goals whnf
  conv in (defScope 13) => whnf
  all_goals (k_unmd; repeat' walk1)
  all_goals (try dsimp only)
  all_goals (first | (exfalso; (contradiction); done) | skip)
  all_goals (
    rename Fr g L _ _ => FE
    refine castQ ?_ (hQ _ _ (V.back FE) (by first | assumption | exact newsDrop1 (by assumption) | exact newsDrop2 (by assumption) | exact newsDrop3 (by assumption) | exact newsDrop4 (by assumption) | exact newsDrop5 (by assumption) | exact newsDrop6 (by assumption) | exact newsDrop7 (by assumption) | exact newsDrop8 (by assumption)))
    first | rfl | assumption | (simp only [*]; done) | (simp only [*]; rfl) | (simp only [ins, needed, unary, optional, soft, keywords, Has, *]; done) | (simp only [ins, needed, unary, optional, soft, keywords, Has, *]; rfl) | (simp only [*]; simp; done))
theorem t3m {w : World} {loose : List Str} {mean : ExcName → Option Value} {mg mb : Str → Option Value} {A : Around} {s : Shared} {g : Heap} {L : Addr} {led : List (Addr × Obj)} {m : Str → Option Value} {v : Vl} {Q : Bool → Shared → Prop} {y : Str} {ty : Tok} {pt : Int} {tp : Tok} 
    (G : Gnd w loose mean mg mb g) (V : Vs m v) (F : Fr g L s.heap m) (N : News g L s.heap led) (vpx : v.px = .str y ty) (vpt : v.pt = .int pt tp) (hroom : A.depth < 595)
    (hQ : ∀ h' tk', Fr g L h' m → News g L h' led → Q ((decide (pt = 54) && Has y "}])") || (!(decide (pt = 54)) && !(ins keywords y) && !(ins soft y))) { s with heap := h', toks := tk' }) :
    wpAny (model PySem.Challenge.rw_co0044_01.row.toRowW.prog w) A (isTrue (ifT (ifB ((ifE ((ifE ((ifB ((ifE ((mwSt 3)))[0]?))[0]?))[0]?))[0]?))[0]?) (envM L) (eval (ifT (ifB ((ifE ((ifE ((ifB ((ifE ((mwSt 3)))[0]?))[0]?))[0]?))[0]?))[0]?) (envM L))) Q (fun _ _ => False) s := by
  have X' := G.X
  have T' := G.T
  revert X'
  k_fill
  intro X'
  have F0 := V.fr F
  clear F
  obtain ⟨vk', vx', vp', vq', vln', vneed', vpt', vpx', vpe', vot', vbr'⟩ := v
  dsimp only at vpx vpt F0
  subst vpx vpt
  simp only [envM]
  conv in (occs := *) (ifT _) => all_goals whnf
  conv in (defScope 13) => whnf
  all_goals (k_unmd; repeat' walk1)
  all_goals (try dsimp only)
  all_goals (first | (exfalso; (contradiction); done) | skip)
  all_goals (
    rename Fr g L _ _ => FE
    refine castQ ?_ (hQ _ _ (V.back FE) (by first | assumption | exact newsDrop1 (by assumption) | exact newsDrop2 (by assumption) | exact newsDrop3 (by assumption) | exact newsDrop4 (by assumption) | exact newsDrop5 (by assumption) | exact newsDrop6 (by assumption) | exact newsDrop7 (by assumption) | exact newsDrop8 (by assumption)))
    first | rfl | assumption | (simp only [*]; done) | (simp only [*]; rfl) | (simp only [ins, keywords, Has, *]; done) | (simp only [ins, keywords, Has, *]; rfl) | (have e : ins keywords y = false := (by assumption); simp only [*]; rfl) | (have e : ins keywords y = false := (by assumption); simp only [*]; simp; done) | (simp only [*]; simp; done))
theorem t3n {w : World} {loose : List Str} {mean : ExcName → Option Value} {mg mb : Str → Option Value} {A : Around} {s : Shared} {g : Heap} {L : Addr} {led : List (Addr × Obj)} {m : Str → Option Value} {v : Vl} {Q : Bool → Shared → Prop} {x : Str} {tx : Tok} 
    (G : Gnd w loose mean mg mb g) (V : Vs m v) (F : Fr g L s.heap m) (N : News g L s.heap led) (vx : v.x = .str x tx) 
    (hQ : ∀ h' tk', Fr g L h' m → News g L h' led → Q (ins optional x) { s with heap := h', toks := tk' }) :
    wpAny (model PySem.Challenge.rw_co0044_01.row.toRowW.prog w) A (isTrue (ifT (ifE ((ifE ((ifE ((ifB ((ifE ((mwSt 3)))[0]?))[0]?))[0]?))[0]?))[0]?) (envM L) (eval (ifT (ifE ((ifE ((ifE ((ifB ((ifE ((mwSt 3)))[0]?))[0]?))[0]?))[0]?))[0]?) (envM L))) Q (fun _ _ => False) s := by
  have X' := G.X
  have T' := G.T
  revert X'
  k_fill
  intro X'
  have F0 := V.fr F
  clear F
  obtain ⟨vk', vx', vp', vq', vln', vneed', vpt', vpx', vpe', vot', vbr'⟩ := v
  dsimp only at vx F0
  subst vx
  simp only [envM]
  conv in (occs := *) (ifT _) => all_goals whnf
  conv in (defScope 13) => whnf
  all_goals (k_unmd; repeat' walk1)
  all_goals (try dsimp only)
  all_goals (first | (exfalso; (contradiction); done) | skip)
  all_goals (
    rename Fr g L _ _ => FE
    refine castQ ?_ (hQ _ _ (V.back FE) (by first | assumption | exact newsDrop1 (by assumption) | exact newsDrop2 (by assumption) | exact newsDrop3 (by assumption) | exact newsDrop4 (by assumption) | exact newsDrop5 (by assumption) | exact newsDrop6 (by assumption) | exact newsDrop7 (by assumption) | exact newsDrop8 (by assumption)))
    first | rfl | assumption | (simp only [*]; done) | (simp only [*]; rfl) | (simp only [ins, needed, unary, optional, soft, keywords, Has, *]; done) | (simp only [ins, needed, unary, optional, soft, keywords, Has, *]; rfl) | (simp only [*]; simp; done))
theorem t3o_no {w : World} {loose : List Str} {mean : ExcName → Option Value} {mg mb : Str → Option Value} {A : Around} {s : Shared} {g : Heap} {L : Addr} {led : List (Addr × Obj)} {m : Str → Option Value} {v : Vl} {Q : Bool → Shared → Prop}  
    (G : Gnd w loose mean mg mb g) (V : Vs m v) (F : Fr g L s.heap m) (N : News g L s.heap led) (vn : v.need = .bool false) 
    (hQ : ∀ h' tk', Fr g L h' m → News g L h' led → Q (false) { s with heap := h', toks := tk' }) :
    wpAny (model PySem.Challenge.rw_co0044_01.row.toRowW.prog w) A (isTrue (ifT (ifB ((ifE ((mwSt 3)))[0]?))[1]?) (envM L) (eval (ifT (ifB ((ifE ((mwSt 3)))[0]?))[1]?) (envM L))) Q (fun _ _ => False) s := by
  have X' := G.X
  have T' := G.T
  revert X'
  k_fill
  intro X'
  have F0 := V.fr F
  clear F
  obtain ⟨vk', vx', vp', vq', vln', vneed', vpt', vpx', vpe', vot', vbr'⟩ := v
  dsimp only at vn F0
  subst vn
  simp only [envM]
  conv in (occs := *) (ifT _) => all_goals whnf
  conv in (defScope 13) => whnf
  all_goals (k_unmd; repeat' walk1)
  all_goals (try dsimp only)
  all_goals (first | (exfalso; (contradiction); done) | skip)
  all_goals (
    rename Fr g L _ _ => FE
    refine castQ ?_ (hQ _ _ (V.back FE) (by first | assumption | exact newsDrop1 (by assumption) | exact newsDrop2 (by assumption) | exact newsDrop3 (by assumption) | exact newsDrop4 (by assumption) | exact newsDrop5 (by assumption) | exact newsDrop6 (by assumption) | exact newsDrop7 (by assumption) | exact newsDrop8 (by assumption)))
    first | rfl | assumption | (simp only [*]; done) | (simp only [*]; rfl) | (simp only [ins, needed, unary, optional, soft, keywords, Has, *]; done) | (simp only [ins, needed, unary, optional, soft, keywords, Has, *]; rfl) | (simp only [*]; simp; done))
theorem t3o_must {w : World} {loose : List Str} {mean : ExcName → Option Value} {mg mb : Str → Option Value} {A : Around} {s : Shared} {g : Heap} {L : Addr} {led : List (Addr × Obj)} {m : Str → Option Value} {v : Vl} {Q : Bool → Shared → Prop}  
    (G : Gnd w loose mean mg mb g) (V : Vs m v) (F : Fr g L s.heap m) (N : News g L s.heap led) (vn : v.need = .bool true) 
    (hQ : ∀ h' tk', Fr g L h' m → News g L h' led → Q (false) { s with heap := h', toks := tk' }) :
    wpAny (model PySem.Challenge.rw_co0044_01.row.toRowW.prog w) A (isTrue (ifT (ifB ((ifE ((mwSt 3)))[0]?))[1]?) (envM L) (eval (ifT (ifB ((ifE ((mwSt 3)))[0]?))[1]?) (envM L))) Q (fun _ _ => False) s := by
  have X' := G.X
  have T' := G.T
  revert X'
  k_fill
  intro X'
  have F0 := V.fr F
  clear F
  obtain ⟨vk', vx', vp', vq', vln', vneed', vpt', vpx', vpe', vot', vbr'⟩ := v
  dsimp only at vn F0
  subst vn
  simp only [envM]
  conv in (occs := *) (ifT _) => all_goals whnf
  conv in (defScope 13) => whnf
  all_goals (k_unmd; repeat' walk1)
  all_goals (try dsimp only)
  all_goals (first | (exfalso; (contradiction); done) | skip)
  all_goals (
    rename Fr g L _ _ => FE
    refine castQ ?_ (hQ _ _ (V.back FE) (by first | assumption | exact newsDrop1 (by assumption) | exact newsDrop2 (by assumption) | exact newsDrop3 (by assumption) | exact newsDrop4 (by assumption) | exact newsDrop5 (by assumption) | exact newsDrop6 (by assumption) | exact newsDrop7 (by assumption) | exact newsDrop8 (by assumption)))
    first | rfl | assumption | (simp only [*]; done) | (simp only [*]; rfl) | (simp only [ins, needed, unary, optional, soft, keywords, Has, *]; done) | (simp only [ins, needed, unary, optional, soft, keywords, Has, *]; rfl) | (simp only [*]; simp; done))
theorem t3o_opt {w : World} {loose : List Str} {mean : ExcName → Option Value} {mg mb : Str → Option Value} {A : Around} {s : Shared} {g : Heap} {L : Addr} {led : List (Addr × Obj)} {m : Str → Option Value} {v : Vl} {Q : Bool → Shared → Prop}  
    (G : Gnd w loose mean mg mb g) (V : Vs m v) (F : Fr g L s.heap m) (N : News g L s.heap led) (vn : v.need = .none) 
    (hQ : ∀ h' tk', Fr g L h' m → News g L h' led → Q (true) { s with heap := h', toks := tk' }) :
    wpAny (model PySem.Challenge.rw_co0044_01.row.toRowW.prog w) A (isTrue (ifT (ifB ((ifE ((mwSt 3)))[0]?))[1]?) (envM L) (eval (ifT (ifB ((ifE ((mwSt 3)))[0]?))[1]?) (envM L))) Q (fun _ _ => False) s := by
  have X' := G.X
  have T' := G.T
  revert X'
  k_fill
  intro X'
  have F0 := V.fr F
  clear F
  obtain ⟨vk', vx', vp', vq', vln', vneed', vpt', vpx', vpe', vot', vbr'⟩ := v
  dsimp only at vn F0
  subst vn
  simp only [envM]
  conv in (occs := *) (ifT _) => all_goals whnf
  conv in (defScope 13) => whnf
  all_goals (k_unmd; repeat' walk1)
  all_goals (try dsimp only)
  all_goals (first | (exfalso; (contradiction); done) | skip)
  all_goals (
    rename Fr g L _ _ => FE
    refine castQ ?_ (hQ _ _ (V.back FE) (by first | assumption | exact newsDrop1 (by assumption) | exact newsDrop2 (by assumption) | exact newsDrop3 (by assumption) | exact newsDrop4 (by assumption) | exact newsDrop5 (by assumption) | exact newsDrop6 (by assumption) | exact newsDrop7 (by assumption) | exact newsDrop8 (by assumption)))
    first | rfl | assumption | (simp only [*]; done) | (simp only [*]; rfl) | (simp only [ins, needed, unary, optional, soft, keywords, Has, *]; done) | (simp only [ins, needed, unary, optional, soft, keywords, Has, *]; rfl) | (simp only [*]; simp; done))
theorem t3p_no {w : World} {loose : List Str} {mean : ExcName → Option Value} {mg mb : Str → Option Value} {A : Around} {s : Shared} {g : Heap} {L : Addr} {led : List (Addr × Obj)} {m : Str → Option Value} {v : Vl} {Q : Bool → Shared → Prop}  
    (G : Gnd w loose mean mg mb g) (V : Vs m v) (F : Fr g L s.heap m) (N : News g L s.heap led) (vn : v.need = .bool false) 
    (hQ : ∀ h' tk', Fr g L h' m → News g L h' led → Q (false) { s with heap := h', toks := tk' }) :
    wpAny (model PySem.Challenge.rw_co0044_01.row.toRowW.prog w) A (isTrue (ifT (ifE ((ifB ((ifE ((mwSt 3)))[0]?))[1]?))[0]?) (envM L) (eval (ifT (ifE ((ifB ((ifE ((mwSt 3)))[0]?))[1]?))[0]?) (envM L))) Q (fun _ _ => False) s := by
  have X' := G.X
  have T' := G.T
  revert X'
  k_fill
  intro X'
  have F0 := V.fr F
  clear F
  obtain ⟨vk', vx', vp', vq', vln', vneed', vpt', vpx', vpe', vot', vbr'⟩ := v
  dsimp only at vn F0
  subst vn
  simp only [envM]
  conv in (occs := *) (ifT _) => all_goals whnf
  conv in (defScope 13) => whnf
  all_goals (k_unmd; repeat' walk1)
  all_goals (try dsimp only)
  all_goals (first | (exfalso; (contradiction); done) | skip)
  all_goals (
    rename Fr g L _ _ => FE
    refine castQ ?_ (hQ _ _ (V.back FE) (by first | assumption | exact newsDrop1 (by assumption) | exact newsDrop2 (by assumption) | exact newsDrop3 (by assumption) | exact newsDrop4 (by assumption) | exact newsDrop5 (by assumption) | exact newsDrop6 (by assumption) | exact newsDrop7 (by assumption) | exact newsDrop8 (by assumption)))
    first | rfl | assumption | (simp only [*]; done) | (simp only [*]; rfl) | (simp only [ins, needed, unary, optional, soft, keywords, Has, *]; done) | (simp only [ins, needed, unary, optional, soft, keywords, Has, *]; rfl) | (simp only [*]; simp; done))
theorem t3p_must {w : World} {loose : List Str} {mean : ExcName → Option Value} {mg mb : Str → Option Value} {A : Around} {s : Shared} {g : Heap} {L : Addr} {led : List (Addr × Obj)} {m : Str → Option Value} {v : Vl} {Q : Bool → Shared → Prop}  {p : Addr} {r : Addr} {bp ep : Nat} {t1 t2 t3 t4 : Tok}
    (G : Gnd w loose mean mg mb g) (V : Vs m v) (F : Fr g L s.heap m) (N : News g L s.heap led) (vn : v.need = .bool true) (vp : v.p = .ref p) (ve : v.pe = .ref r) (hp : IsTup g p #[.int 1 t1, .int bp t2]) (hr : IsTup g r #[.int 1 t3, .int ep t4]) (hu : A.units + 64 < cLine)
    (hQ : ∀ h' tk', Fr g L h' m → News g L h' led → Q (decide (bp = ep)) { s with heap := h', toks := tk' }) :
    wpAny (model PySem.Challenge.rw_co0044_01.row.toRowW.prog w) A (isTrue (ifT (ifE ((ifB ((ifE ((mwSt 3)))[0]?))[1]?))[0]?) (envM L) (eval (ifT (ifE ((ifB ((ifE ((mwSt 3)))[0]?))[1]?))[0]?) (envM L))) Q (fun _ _ => False) s := by
  have X' := G.X
  have T' := G.T
  revert X'
  k_fill
  intro X'
  have F0 := V.fr F
  clear F
  obtain ⟨vk', vx', vp', vq', vln', vneed', vpt', vpx', vpe', vot', vbr'⟩ := v
  dsimp only at vn vp ve F0
  subst vn vp ve
  simp only [envM]
  conv in (occs := *) (ifT _) => all_goals whnf
  conv in (defScope 13) => whnf
  all_goals (k_unmd; repeat' walk1)
  all_goals (try dsimp only)
  all_goals (first | (exfalso; (contradiction); done) | skip)
  all_goals (
    rename Fr g L _ _ => FE
    refine castQ ?_ (hQ _ _ (V.back FE) (by first | assumption | exact newsDrop1 (by assumption) | exact newsDrop2 (by assumption) | exact newsDrop3 (by assumption) | exact newsDrop4 (by assumption) | exact newsDrop5 (by assumption) | exact newsDrop6 (by assumption) | exact newsDrop7 (by assumption) | exact newsDrop8 (by assumption)))
    first | rfl | assumption | (simp only [*]; done) | (simp only [*]; rfl) | (simp only [ins, needed, unary, optional, soft, keywords, Has, *]; done) | (simp only [ins, needed, unary, optional, soft, keywords, Has, *]; rfl) | (simp only [*]; simp; done))
end Mine
end

section
open PySem PySem.W PySem.Calls PyProof.Rows PySem.Spec
set_option maxRecDepth 100000
set_option maxHeartbeats 8000000
namespace Mine
local macro_rules | `(tactic| k_all) => `(tactic| assumption)
local macro_rules | `(tactic| walk_at "ite") => `(tactic| (k_closed; first | ((with_reducible refine' ite_pos ?hc ?_); (case hc => k_dflt decide)) | ((with_reducible refine' ite_neg ?hc ?_); (case hc => k_dflt decide))))
local macro_rules | `(tactic| walk_at "truthy ref") => `(tactic| (k_here; (with_reducible show wpAny _ _ (truthy (Value.ref _)) _ _ _); k_dflt (refine' truthy_K ?N ?l ?z ?_; (case N => k_asm); (case l => k_mem); (case z => first | assumption | (simp only [List.size_toArray, List.length_cons, List.length_nil]; omega)))))
local macro_rules | `(tactic| walk_at "compareOp NotEq ref ref") => `(tactic| (k_here; (with_reducible show wpAny _ _ (compareOp CmpOp.NotEq (Value.ref _) (Value.ref _)) _ _ _); k_dflt (refine' ne_pos ?F ?p ?q ?u ?_; (case F => k_asm); (case p => assumption); (case q => assumption); (case u => assumption))))
local macro_rules | `(tactic| walk_at "compareOp Eq ref ref") => `(tactic| (k_here; (with_reducible show wpAny _ _ (compareOp CmpOp.Eq (Value.ref _) (Value.ref _)) _ _ _); k_dflt (first
  | (refine' eq_pos ?F ?p ?q ?u ?_; (case F => k_asm); (case p => assumption); (case q => assumption); (case u => assumption))
  | (refine' eq_strs ?N ?a ?b ?i ?j ?ka ?kb ?u ?_; (case N => k_asm); (case a => k_mem); (case b => k_mem); (case i => (repeat' constructor)); (case j => (repeat' constructor)); (case ka => decide +kernel); (case kb => decide +kernel); (case u => assumption)))))
local macro_rules | `(tactic| walk_at "compareOp NotIn str ref") => `(tactic| (k_here; (with_reducible show wpAny _ _ (compareOp CmpOp.NotIn (Value.str _ _) (Value.ref _)) _ _ _); k_dflt (refine' notin_top ?X ?F ?e ?i ?_; (case X => assumption); (case F => k_asm); (case e => k_is); (case i => (repeat' constructor)))))

local macro_rules | `(tactic| walk_at "compareOp In str ref") => `(tactic| (k_here; (with_reducible show wpAny _ _ (compareOp CmpOp.In (Value.str _ _) (Value.ref _)) _ _ _); k_dflt (refine' in_top ?X ?F ?e ?i ?_; (case X => assumption); (case F => k_asm); (case e => k_is); (case i => (repeat' constructor)))))
local macro_rules | `(tactic| walk_at "compareOp In int ref") => `(tactic| (k_here; (with_reducible show wpAny _ _ (compareOp CmpOp.In (Value.int _ _) (Value.ref _)) _ _ _); k_dflt (refine' in_top_int ?X ?F ?e ?i ?_; (case X => assumption); (case F => k_asm); (case e => k_is); (case i => (repeat' constructor)))))
local macro_rules | `(tactic| walk_at "compareOp NotEq ref bool") => `(tactic| (k_here; (with_reducible show wpAny _ _ (compareOp CmpOp.NotEq (Value.ref _) (Value.bool _)) _ _ _); k_dflt (refine' ne_refbool ?F ?N ?h ?p ?u ?_; (case F => k_asm); (case N => k_asm); (case h => k_mem); (case p => assumption); (case u => assumption))))
local macro_rules | `(tactic| walk_at "compareOp Eq ref bool") => `(tactic| (k_here; (with_reducible show wpAny _ _ (compareOp CmpOp.Eq (Value.ref _) (Value.bool _)) _ _ _); k_dflt (refine' eq_refbool ?F ?N ?h ?p ?u ?_; (case F => k_asm); (case N => k_asm); (case h => k_mem); (case p => assumption); (case u => assumption))))

local macro_rules | `(tactic| walk_at "assign Tuple") => `(tactic| (k_here; (with_reducible show wpAny _ _ (assign (Expr.Tuple _ _ _) _ (Value.ref _)) _ _ _); k_dflt (refine' unpackN_ ?k1 ?k2 ?k3 ?k4 ?k5 ?k6 ?_; (case k1 => k_asm); (case k2 => k_asm); (case k3 => kun_tup); (case k4 => assumption); (case k5 => exact rfl); (case k6 => exact rfl)); intro h' F' N'; (try k_sweep)))
local macro_rules | `(tactic| walk_at "pyReprObj str") => `(tactic| (refine pyReprObj_str ?_ (hx := ?hx); (case hx => (rw [sizeLine_eq]; omega))))
local macro_rules | `(tactic| walk_at "formatField str") => `(tactic| (refine wpAny_formatField_str ?_ ?_ (hx := ?hx); (case hx => (rw [sizeLine_eq]; omega))))
local macro_rules | `(tactic| walk_at "call ref") => `(tactic| (k_here; (with_reducible show wpAny _ _ (call (Value.ref 61) _) _ _ _); k_dflt (refine' soft_K ?G ?F ?N ?r ?_; (case G => assumption); (case F => k_asm); (case N => k_asm); (case r => assumption)); intro h' tk' F' N'))
def yE : Option Stmt → Expr
  | some (.Expr (.Yield (some e) _) _) => e
  | _ => .Name "" default
theorem know_eq {m : Str → Option Value} {x : Str} {u : Value} (e : m x = some u) : (fun y => if y = x then some u else m y) = m := by
  funext y
  by_cases q : y = x
  · rw [if_pos q, q, e]
  · rw [if_neg q]
theorem s_app {w : World} {loose : List Str} {mean : ExcName → Option Value} {mg mb : Str → Option Value} {A : Around} {s : Shared} {g : Heap} {L : Addr} {led : List (Addr × Obj)} {m : Str → Option Value} {v : Vl} {Q : Flow → Shared → Prop} {x : Str} {tx : Tok} {aB : Addr} {nb : Nat} {bv : Array Value}
    (G : Gnd w loose mean mg mb g) (V : Vs m v) (F : Fr g L s.heap m) (N : News g L s.heap ((aB, W.listOf bv nb) :: led)) (vx : v.x = .str x tx) (vb : v.br = .ref aB) (hz : bv.toList.length ≤ 1000) (hT : ∀ p ∈ led, p.1 ≠ aB)
    (hQ : ∀ h' tk' nb', Fr g L h' m → News g L h' ((aB, W.listOf (bv.push (.str x tx)) nb') :: led) → Q .next { s with heap := h', toks := tk' }) :
    wpAny (model PySem.Challenge.rw_co0044_01.row.toRowW.prog w) A (execs (ifB (mwSt 0)) (envM L)) Q (fun _ _ => False) s := by
  have X' := G.X
  have T' := G.T
  revert X'
  k_fill
  intro X'
  have F0 := V.fr F
  clear F
  obtain ⟨vk', vx', vp', vq', vln', vneed', vpt', vpx', vpe', vot', vbr'⟩ := v
  dsimp only at vx vb F0
  subst vx vb
  simp only [envM]
  conv in (occs := *) (ifB _) => all_goals whnf
  conv in (defScope 13) => whnf
  all_goals (k_unmd; repeat' walk1)
  all_goals (
    rename Fr g L _ _ => FE
    rename News g L _ _ => NE
    exact hQ _ _ _ (V.back FE) (newsPick NE (by k_mem) (fun p hp => by simp only [List.mem_cons]; simp [hp])))
theorem s_pop {w : World} {loose : List Str} {mean : ExcName → Option Value} {mg mb : Str → Option Value} {A : Around} {s : Shared} {g : Heap} {L : Addr} {led : List (Addr × Obj)} {m : Str → Option Value} {v : Vl} {Q : Flow → Shared → Prop} {aB : Addr} {nb : Nat} {bv : Array Value} {st : List Str}
    (G : Gnd w loose mean mg mb g) (V : Vs m v) (F : Fr g L s.heap m) (N : News g L s.heap ((aB, W.listOf bv nb) :: led)) (vb : v.br = .ref aB) (hT : ∀ p ∈ led, p.1 ≠ aB) (hst : StrsAre bv.toList st) (hl : st.length ≤ 2) (hn : st ≠ [])
    (hQ : ∀ h' tk' bv' nb', Fr g L h' m → News g L h' ((aB, W.listOf bv' nb') :: led) → StrsAre bv'.toList st.dropLast → Q .next { s with heap := h', toks := tk' }) :
    wpAny (model PySem.Challenge.rw_co0044_01.row.toRowW.prog w) A (execs (ifB ((ifB ((ifE ((ifE ((ifE ((ifE (mwSt 0))[0]?))[0]?))[0]?))[0]?))[0]?)) (envM L)) Q (fun _ _ => False) s := by
  have X' := G.X
  have T' := G.T
  revert X'
  k_fill
  intro X'
  have F0 := V.fr F
  clear F
  obtain ⟨vk', vx', vp', vq', vln', vneed', vpt', vpx', vpe', vot', vbr'⟩ := v
  dsimp only at vb F0
  subst vb
  simp only [envM]
  conv in (occs := *) (ifB _) => all_goals whnf
  conv in (defScope 13) => whnf
  rcases stk_shape hst hl with ⟨rfl, rfl⟩ | ⟨a, ta, rfl, rfl⟩ | ⟨a', ta, a, tb, rfl, rfl⟩
  · exact absurd rfl hn
  all_goals (k_unmd; repeat' walk1)
  all_goals (
    rename Fr g L _ _ => FE
    rename News g L _ _ => NE
    exact hQ _ _ _ _ (V.back FE) (newsPick NE (by k_mem) (fun p hp => by simp only [List.mem_cons]; simp [hp])) (by repeat' constructor))
theorem s_cont {w : World} {loose : List Str} {mean : ExcName → Option Value} {mg mb : Str → Option Value} {A : Around} {s : Shared} {g : Heap} {L : Addr} {led : List (Addr × Obj)} {m : Str → Option Value} {v : Vl} {Q : Flow → Shared → Prop}  
    (G : Gnd w loose mean mg mb g) (V : Vs m v) (F : Fr g L s.heap m) (N : News g L s.heap led)  
    (hQ : ∀ h' tk', Fr g L h' m → News g L h' led → Q .cont { s with heap := h', toks := tk' }) :
    wpAny (model PySem.Challenge.rw_co0044_01.row.toRowW.prog w) A (execs (ifB (mwSt 1)) (envM L)) Q (fun _ _ => False) s := by
  have X' := G.X
  have T' := G.T
  revert X'
  k_fill
  intro X'
  have F0 := V.fr F
  clear F
  obtain ⟨vk', vx', vp', vq', vln', vneed', vpt', vpx', vpe', vot', vbr'⟩ := v
  simp only [envM]
  conv in (occs := *) (ifB _) => all_goals whnf
  conv in (defScope 13) => whnf
  all_goals (k_unmd; repeat' walk1)
  all_goals (
    rename Fr g L _ _ => FE
    exact hQ _ _ (V.back FE) (by first | assumption | exact newsDrop1 (by assumption) | exact newsDrop2 (by assumption) | exact newsDrop3 (by assumption) | exact newsDrop4 (by assumption) | exact newsDrop5 (by assumption)))
theorem s_nc {w : World} {loose : List Str} {mean : ExcName → Option Value} {mg mb : Str → Option Value} {A : Around} {s : Shared} {g : Heap} {L : Addr} {led : List (Addr × Obj)} {m : Str → Option Value} {v : Vl} {Q : Flow → Shared → Prop} {q : Addr} {line : Str} {tl : Tok} {ep : Nat} {t1 t2 : Tok}
    (G : Gnd w loose mean mg mb g) (V : Vs m v) (F : Fr g L s.heap m) (N : News g L s.heap led) (vq : v.q = .ref q) (vl : v.ln = .str line tl) (hq : IsTup g q #[.int 1 t1, .int ep t2]) (he : ep ≤ line.length) (hll : line.length ≤ 1000000)
    (hQ : ∀ h' tk' m' tn, Fr g L h' m' → News g L h' led → Vs m' v → m' (Str.ofString "next_char") = some (.str (nextOf line ep) tn) → Q .next { s with heap := h', toks := tk' }) :
    wpAny (model PySem.Challenge.rw_co0044_01.row.toRowW.prog w) A (exec (Option.getD (ifB (mwSt 2))[0]? default) (envM L)) Q (fun _ _ => False) s := by
  have X' := G.X
  have T' := G.T
  revert X'
  k_fill
  intro X'
  have F0 := V.fr F
  clear F
  obtain ⟨vk', vx', vp', vq', vln', vneed', vpt', vpx', vpe', vot', vbr'⟩ := v
  dsimp only at vq vl F0
  subst vq vl
  simp only [envM]
  conv in (occs := *) (Option.getD (ifB (mwSt 2))[0]? _) => all_goals whnf
  conv in (defScope 13) => whnf
  all_goals (k_unmd; repeat' walk1)
  all_goals (
    rename Fr g L _ _ => FE
    exact hQ _ _ _ _ FE (by first | assumption | exact newsDrop1 (by assumption) | exact newsDrop2 (by assumption) | exact newsDrop3 (by assumption) | exact newsDrop4 (by assumption) | exact newsDrop5 (by assumption)) ⟨rfl, rfl, rfl, rfl, rfl, rfl, rfl, rfl, rfl, rfl, rfl⟩ rfl)
theorem s_pass1 {w : World} {loose : List Str} {mean : ExcName → Option Value} {mg mb : Str → Option Value} {A : Around} {s : Shared} {g : Heap} {L : Addr} {led : List (Addr × Obj)} {m : Str → Option Value} {v : Vl} {Q : Flow → Shared → Prop}  
    (G : Gnd w loose mean mg mb g) (V : Vs m v) (F : Fr g L s.heap m) (N : News g L s.heap led)  
    (hQ : ∀ h' tk', Fr g L h' m → News g L h' led → Q .next { s with heap := h', toks := tk' }) :
    wpAny (model PySem.Challenge.rw_co0044_01.row.toRowW.prog w) A (execs (ifB ((ifB ((ifB (mwSt 2))[1]?))[0]?)) (envM L)) Q (fun _ _ => False) s := by
  have X' := G.X
  have T' := G.T
  revert X'
  k_fill
  intro X'
  have F0 := V.fr F
  clear F
  obtain ⟨vk', vx', vp', vq', vln', vneed', vpt', vpx', vpe', vot', vbr'⟩ := v
  simp only [envM]
  conv in (occs := *) (ifB _) => all_goals whnf
  conv in (defScope 13) => whnf
  all_goals (k_unmd; repeat' walk1)
  all_goals (
    rename Fr g L _ _ => FE
    exact hQ _ _ (V.back FE) (by first | assumption | exact newsDrop1 (by assumption) | exact newsDrop2 (by assumption) | exact newsDrop3 (by assumption) | exact newsDrop4 (by assumption) | exact newsDrop5 (by assumption)))
theorem s_pass2 {w : World} {loose : List Str} {mean : ExcName → Option Value} {mg mb : Str → Option Value} {A : Around} {s : Shared} {g : Heap} {L : Addr} {led : List (Addr × Obj)} {m : Str → Option Value} {v : Vl} {Q : Flow → Shared → Prop}  
    (G : Gnd w loose mean mg mb g) (V : Vs m v) (F : Fr g L s.heap m) (N : News g L s.heap led)  
    (hQ : ∀ h' tk', Fr g L h' m → News g L h' led → Q .next { s with heap := h', toks := tk' }) :
    wpAny (model PySem.Challenge.rw_co0044_01.row.toRowW.prog w) A (execs (ifB ((ifE ((ifE ((ifE ((ifB ((ifB (mwSt 2))[1]?))[0]?))[0]?))[0]?))[0]?)) (envM L)) Q (fun _ _ => False) s := by
  have X' := G.X
  have T' := G.T
  revert X'
  k_fill
  intro X'
  have F0 := V.fr F
  clear F
  obtain ⟨vk', vx', vp', vq', vln', vneed', vpt', vpx', vpe', vot', vbr'⟩ := v
  simp only [envM]
  conv in (occs := *) (ifB _) => all_goals whnf
  conv in (defScope 13) => whnf
  all_goals (k_unmd; repeat' walk1)
  all_goals (
    rename Fr g L _ _ => FE
    exact hQ _ _ (V.back FE) (by first | assumption | exact newsDrop1 (by assumption) | exact newsDrop2 (by assumption) | exact newsDrop3 (by assumption) | exact newsDrop4 (by assumption) | exact newsDrop5 (by assumption)))
theorem s_pass3 {w : World} {loose : List Str} {mean : ExcName → Option Value} {mg mb : Str → Option Value} {A : Around} {s : Shared} {g : Heap} {L : Addr} {led : List (Addr × Obj)} {m : Str → Option Value} {v : Vl} {Q : Flow → Shared → Prop}  
    (G : Gnd w loose mean mg mb g) (V : Vs m v) (F : Fr g L s.heap m) (N : News g L s.heap led)  
    (hQ : ∀ h' tk', Fr g L h' m → News g L h' led → Q .next { s with heap := h', toks := tk' }) :
    wpAny (model PySem.Challenge.rw_co0044_01.row.toRowW.prog w) A (execs (ifB ((ifE ((ifB ((mwSt 3)))[0]?))[0]?)) (envM L)) Q (fun _ _ => False) s := by
  have X' := G.X
  have T' := G.T
  revert X'
  k_fill
  intro X'
  have F0 := V.fr F
  clear F
  obtain ⟨vk', vx', vp', vq', vln', vneed', vpt', vpx', vpe', vot', vbr'⟩ := v
  simp only [envM]
  conv in (occs := *) (ifB _) => all_goals whnf
  conv in (defScope 13) => whnf
  all_goals (k_unmd; repeat' walk1)
  all_goals (
    rename Fr g L _ _ => FE
    exact hQ _ _ (V.back FE) (by first | assumption | exact newsDrop1 (by assumption) | exact newsDrop2 (by assumption) | exact newsDrop3 (by assumption) | exact newsDrop4 (by assumption) | exact newsDrop5 (by assumption)))
theorem s_pass4 {w : World} {loose : List Str} {mean : ExcName → Option Value} {mg mb : Str → Option Value} {A : Around} {s : Shared} {g : Heap} {L : Addr} {led : List (Addr × Obj)} {m : Str → Option Value} {v : Vl} {Q : Flow → Shared → Prop}  
    (G : Gnd w loose mean mg mb g) (V : Vs m v) (F : Fr g L s.heap m) (N : News g L s.heap led)  
    (hQ : ∀ h' tk', Fr g L h' m → News g L h' led → Q .next { s with heap := h', toks := tk' }) :
    wpAny (model PySem.Challenge.rw_co0044_01.row.toRowW.prog w) A (execs (ifB ((ifB ((ifE ((mwSt 3)))[0]?))[0]?)) (envM L)) Q (fun _ _ => False) s := by
  have X' := G.X
  have T' := G.T
  revert X'
  k_fill
  intro X'
  have F0 := V.fr F
  clear F
  obtain ⟨vk', vx', vp', vq', vln', vneed', vpt', vpx', vpe', vot', vbr'⟩ := v
  simp only [envM]
  conv in (occs := *) (ifB _) => all_goals whnf
  conv in (defScope 13) => whnf
  all_goals (k_unmd; repeat' walk1)
  all_goals (
    rename Fr g L _ _ => FE
    exact hQ _ _ (V.back FE) (by first | assumption | exact newsDrop1 (by assumption) | exact newsDrop2 (by assumption) | exact newsDrop3 (by assumption) | exact newsDrop4 (by assumption) | exact newsDrop5 (by assumption)))
theorem s_f1 {w : World} {loose : List Str} {mean : ExcName → Option Value} {mg mb : Str → Option Value} {A : Around} {s : Shared} {g : Heap} {L : Addr} {led : List (Addr × Obj)} {m : Str → Option Value} {v : Vl} {Q : Flow → Shared → Prop}  
    (G : Gnd w loose mean mg mb g) (V : Vs m v) (F : Fr g L s.heap m) (N : News g L s.heap led)  
    (hQ : ∀ h' tk' m', Fr g L h' m' → News g L h' led → Vs m' { v with need := .bool false } → Q .next { s with heap := h', toks := tk' }) :
    wpAny (model PySem.Challenge.rw_co0044_01.row.toRowW.prog w) A (exec (Option.getD (ifB ((ifB ((mwSt 3)))[0]?))[1]? default) (envM L)) Q (fun _ _ => False) s := by
  have X' := G.X
  have T' := G.T
  revert X'
  k_fill
  intro X'
  have F0 := V.fr F
  clear F
  obtain ⟨vk', vx', vp', vq', vln', vneed', vpt', vpx', vpe', vot', vbr'⟩ := v
  simp only [envM]
  conv in (occs := *) (Option.getD (ifB ((ifB ((mwSt 3)))[0]?))[1]? _) => all_goals whnf
  conv in (defScope 13) => whnf
  all_goals (k_unmd; repeat' walk1)
  all_goals (
    rename Fr g L _ _ => FE
    exact hQ _ _ _ FE (by first | assumption | exact newsDrop1 (by assumption) | exact newsDrop2 (by assumption) | exact newsDrop3 (by assumption) | exact newsDrop4 (by assumption) | exact newsDrop5 (by assumption)) ⟨rfl, rfl, rfl, rfl, rfl, rfl, rfl, rfl, rfl, rfl, rfl⟩)
theorem s_f2 {w : World} {loose : List Str} {mean : ExcName → Option Value} {mg mb : Str → Option Value} {A : Around} {s : Shared} {g : Heap} {L : Addr} {led : List (Addr × Obj)} {m : Str → Option Value} {v : Vl} {Q : Flow → Shared → Prop}  
    (G : Gnd w loose mean mg mb g) (V : Vs m v) (F : Fr g L s.heap m) (N : News g L s.heap led)  
    (hQ : ∀ h' tk' m', Fr g L h' m' → News g L h' led → Vs m' { v with need := .bool false } → Q .next { s with heap := h', toks := tk' }) :
    wpAny (model PySem.Challenge.rw_co0044_01.row.toRowW.prog w) A (exec (Option.getD (ifE ((ifE ((ifB ((mwSt 3)))[0]?))[0]?))[1]? default) (envM L)) Q (fun _ _ => False) s := by
  have X' := G.X
  have T' := G.T
  revert X'
  k_fill
  intro X'
  have F0 := V.fr F
  clear F
  obtain ⟨vk', vx', vp', vq', vln', vneed', vpt', vpx', vpe', vot', vbr'⟩ := v
  simp only [envM]
  conv in (occs := *) (Option.getD (ifE ((ifE ((ifB ((mwSt 3)))[0]?))[0]?))[1]? _) => all_goals whnf
  conv in (defScope 13) => whnf
  all_goals (k_unmd; repeat' walk1)
  all_goals (
    rename Fr g L _ _ => FE
    exact hQ _ _ _ FE (by first | assumption | exact newsDrop1 (by assumption) | exact newsDrop2 (by assumption) | exact newsDrop3 (by assumption) | exact newsDrop4 (by assumption) | exact newsDrop5 (by assumption)) ⟨rfl, rfl, rfl, rfl, rfl, rfl, rfl, rfl, rfl, rfl, rfl⟩)
theorem s_f3 {w : World} {loose : List Str} {mean : ExcName → Option Value} {mg mb : Str → Option Value} {A : Around} {s : Shared} {g : Heap} {L : Addr} {led : List (Addr × Obj)} {m : Str → Option Value} {v : Vl} {Q : Flow → Shared → Prop}  
    (G : Gnd w loose mean mg mb g) (V : Vs m v) (F : Fr g L s.heap m) (N : News g L s.heap led)  
    (hQ : ∀ h' tk' m', Fr g L h' m' → News g L h' led → Vs m' { v with need := .bool false } → Q .next { s with heap := h', toks := tk' }) :
    wpAny (model PySem.Challenge.rw_co0044_01.row.toRowW.prog w) A (exec (Option.getD (ifB ((ifE ((ifB ((ifE ((mwSt 3)))[0]?))[1]?))[0]?))[1]? default) (envM L)) Q (fun _ _ => False) s := by
  have X' := G.X
  have T' := G.T
  revert X'
  k_fill
  intro X'
  have F0 := V.fr F
  clear F
  obtain ⟨vk', vx', vp', vq', vln', vneed', vpt', vpx', vpe', vot', vbr'⟩ := v
  simp only [envM]
  conv in (occs := *) (Option.getD (ifB ((ifE ((ifB ((ifE ((mwSt 3)))[0]?))[1]?))[0]?))[1]? _) => all_goals whnf
  conv in (defScope 13) => whnf
  all_goals (k_unmd; repeat' walk1)
  all_goals (
    rename Fr g L _ _ => FE
    exact hQ _ _ _ FE (by first | assumption | exact newsDrop1 (by assumption) | exact newsDrop2 (by assumption) | exact newsDrop3 (by assumption) | exact newsDrop4 (by assumption) | exact newsDrop5 (by assumption)) ⟨rfl, rfl, rfl, rfl, rfl, rfl, rfl, rfl, rfl, rfl, rfl⟩)
theorem s_t {w : World} {loose : List Str} {mean : ExcName → Option Value} {mg mb : Str → Option Value} {A : Around} {s : Shared} {g : Heap} {L : Addr} {led : List (Addr × Obj)} {m : Str → Option Value} {v : Vl} {Q : Flow → Shared → Prop}  
    (G : Gnd w loose mean mg mb g) (V : Vs m v) (F : Fr g L s.heap m) (N : News g L s.heap led)  
    (hQ : ∀ h' tk' m', Fr g L h' m' → News g L h' led → Vs m' { v with need := .bool true } → Q .next { s with heap := h', toks := tk' }) :
    wpAny (model PySem.Challenge.rw_co0044_01.row.toRowW.prog w) A (execs (ifB ((ifE ((ifB ((ifE ((mwSt 3)))[0]?))[0]?))[0]?)) (envM L)) Q (fun _ _ => False) s := by
  have X' := G.X
  have T' := G.T
  revert X'
  k_fill
  intro X'
  have F0 := V.fr F
  clear F
  obtain ⟨vk', vx', vp', vq', vln', vneed', vpt', vpx', vpe', vot', vbr'⟩ := v
  simp only [envM]
  conv in (occs := *) (ifB _) => all_goals whnf
  conv in (defScope 13) => whnf
  all_goals (k_unmd; repeat' walk1)
  all_goals (
    rename Fr g L _ _ => FE
    exact hQ _ _ _ FE (by first | assumption | exact newsDrop1 (by assumption) | exact newsDrop2 (by assumption) | exact newsDrop3 (by assumption) | exact newsDrop4 (by assumption) | exact newsDrop5 (by assumption)) ⟨rfl, rfl, rfl, rfl, rfl, rfl, rfl, rfl, rfl, rfl, rfl⟩)
theorem s_n1 {w : World} {loose : List Str} {mean : ExcName → Option Value} {mg mb : Str → Option Value} {A : Around} {s : Shared} {g : Heap} {L : Addr} {led : List (Addr × Obj)} {m : Str → Option Value} {v : Vl} {Q : Flow → Shared → Prop}  
    (G : Gnd w loose mean mg mb g) (V : Vs m v) (F : Fr g L s.heap m) (N : News g L s.heap led)  
    (hQ : ∀ h' tk' m', Fr g L h' m' → News g L h' led → Vs m' { v with need := .none } → Q .next { s with heap := h', toks := tk' }) :
    wpAny (model PySem.Challenge.rw_co0044_01.row.toRowW.prog w) A (execs (ifB ((ifB ((ifE ((ifE ((ifB ((ifE ((mwSt 3)))[0]?))[0]?))[0]?))[0]?))[0]?)) (envM L)) Q (fun _ _ => False) s := by
  have X' := G.X
  have T' := G.T
  revert X'
  k_fill
  intro X'
  have F0 := V.fr F
  clear F
  obtain ⟨vk', vx', vp', vq', vln', vneed', vpt', vpx', vpe', vot', vbr'⟩ := v
  simp only [envM]
  conv in (occs := *) (ifB _) => all_goals whnf
  conv in (defScope 13) => whnf
  all_goals (k_unmd; repeat' walk1)
  all_goals (
    rename Fr g L _ _ => FE
    exact hQ _ _ _ FE (by first | assumption | exact newsDrop1 (by assumption) | exact newsDrop2 (by assumption) | exact newsDrop3 (by assumption) | exact newsDrop4 (by assumption) | exact newsDrop5 (by assumption)) ⟨rfl, rfl, rfl, rfl, rfl, rfl, rfl, rfl, rfl, rfl, rfl⟩)
theorem s_n2 {w : World} {loose : List Str} {mean : ExcName → Option Value} {mg mb : Str → Option Value} {A : Around} {s : Shared} {g : Heap} {L : Addr} {led : List (Addr × Obj)} {m : Str → Option Value} {v : Vl} {Q : Flow → Shared → Prop}  
    (G : Gnd w loose mean mg mb g) (V : Vs m v) (F : Fr g L s.heap m) (N : News g L s.heap led)  
    (hQ : ∀ h' tk' m', Fr g L h' m' → News g L h' led → Vs m' { v with need := .none } → Q .next { s with heap := h', toks := tk' }) :
    wpAny (model PySem.Challenge.rw_co0044_01.row.toRowW.prog w) A (execs (ifB ((ifE ((ifE ((ifE ((ifB ((ifE ((mwSt 3)))[0]?))[0]?))[0]?))[0]?))[0]?)) (envM L)) Q (fun _ _ => False) s := by
  have X' := G.X
  have T' := G.T
  revert X'
  k_fill
  intro X'
  have F0 := V.fr F
  clear F
  obtain ⟨vk', vx', vp', vq', vln', vneed', vpt', vpx', vpe', vot', vbr'⟩ := v
  simp only [envM]
  conv in (occs := *) (ifB _) => all_goals whnf
  conv in (defScope 13) => whnf
  all_goals (k_unmd; repeat' walk1)
  all_goals (
    rename Fr g L _ _ => FE
    exact hQ _ _ _ FE (by first | assumption | exact newsDrop1 (by assumption) | exact newsDrop2 (by assumption) | exact newsDrop3 (by assumption) | exact newsDrop4 (by assumption) | exact newsDrop5 (by assumption)) ⟨rfl, rfl, rfl, rfl, rfl, rfl, rfl, rfl, rfl, rfl, rfl⟩)
theorem s_tup {w : World} {loose : List Str} {mean : ExcName → Option Value} {mg mb : Str → Option Value} {A : Around} {s : Shared} {g : Heap} {L : Addr} {led : List (Addr × Obj)} {m : Str → Option Value} {v : Vl} {Q : Flow → Shared → Prop} {p : Addr} {r : Addr} {bp ep : Nat} {t1 t2 t3 t4 : Tok}
    (G : Gnd w loose mean mg mb g) (V : Vs m v) (F : Fr g L s.heap m) (N : News g L s.heap led) (vp : v.p = .ref p) (ve : v.pe = .ref r) (hp : IsTup g p #[.int 1 t1, .int bp t2]) (hr : IsTup g r #[.int 1 t3, .int ep t4]) (hu : A.units + 64 < cLine)
    (hQ : ∀ h' tk' m' nd, Fr g L h' m' → News g L h' ((nd, tupOf [.ref r, .bool (decide (bp ≠ ep))]) :: led) → Vs m' { v with need := .ref nd } → Q .next { s with heap := h', toks := tk' }) :
    wpAny (model PySem.Challenge.rw_co0044_01.row.toRowW.prog w) A (execs (ifB ((ifB ((ifE ((mwSt 3)))[0]?))[1]?)) (envM L)) Q (fun _ _ => False) s := by
  have X' := G.X
  have T' := G.T
  revert X'
  k_fill
  intro X'
  have F0 := V.fr F
  clear F
  obtain ⟨vk', vx', vp', vq', vln', vneed', vpt', vpx', vpe', vot', vbr'⟩ := v
  dsimp only at vp ve F0
  subst vp ve
  simp only [envM]
  conv in (occs := *) (ifB _) => all_goals whnf
  conv in (defScope 13) => whnf
  all_goals (k_unmd; repeat' walk1)
  all_goals (
    rename Fr g L _ _ => FE
    exact hQ _ _ _ _ FE (by first | assumption | exact newsDrop1 (by assumption) | exact newsDrop2 (by assumption) | exact newsDrop3 (by assumption) | exact newsDrop4 (by assumption) | exact newsDrop5 (by assumption)) ⟨rfl, rfl, rfl, rfl, rfl, rfl, rfl, rfl, rfl, rfl, rfl⟩)
theorem s_c26 {w : World} {loose : List Str} {mean : ExcName → Option Value} {mg mb : Str → Option Value} {A : Around} {s : Shared} {g : Heap} {L : Addr} {led : List (Addr × Obj)} {m : Str → Option Value} {v : Vl} {Q : Flow → Shared → Prop}  
    (G : Gnd w loose mean mg mb g) (V : Vs m v) (F : Fr g L s.heap m) (N : News g L s.heap led)  (hh : A.handled = none)
    (hQ : ∀ h' tk' m' tc to, Fr g L h' m' → News g L h' led → Vs m' v → m' (Str.ofString "code") = some (.str (Str.ofString "E226") tc) → m' (Str.ofString "optype") = some (.str (Str.ofString "arithmetic") to) → Q .next { s with heap := h', toks := tk' }) :
    wpAny (model PySem.Challenge.rw_co0044_01.row.toRowW.prog w) A (exec (Option.getD (ifB ((ifE ((ifE ((ifE ((ifB ((mwSt 3)))[0]?))[0]?))[0]?))[0]?))[0]? default) (envM L)) Q (fun _ _ => False) s := by
  have X' := G.X
  have T' := G.T
  revert X'
  k_fill
  intro X'
  have F0 := V.fr F
  clear F
  obtain ⟨vk', vx', vp', vq', vln', vneed', vpt', vpx', vpe', vot', vbr'⟩ := v
  simp only [envM]
  conv in (occs := *) (Option.getD (ifB ((ifE ((ifE ((ifE ((ifB ((mwSt 3)))[0]?))[0]?))[0]?))[0]?))[0]? _) => all_goals whnf
  conv in (defScope 13) => whnf
  all_goals (k_unmd; repeat' walk1)
  all_goals (
    rename Fr g L _ _ => FE
    exact hQ _ _ _ _ _ FE (by first | assumption | exact newsDrop1 (by assumption) | exact newsDrop2 (by assumption) | exact newsDrop3 (by assumption) | exact newsDrop4 (by assumption) | exact newsDrop5 (by assumption)) ⟨rfl, rfl, rfl, rfl, rfl, rfl, rfl, rfl, rfl, rfl, rfl⟩ rfl rfl)
theorem s_c28 {w : World} {loose : List Str} {mean : ExcName → Option Value} {mg mb : Str → Option Value} {A : Around} {s : Shared} {g : Heap} {L : Addr} {led : List (Addr × Obj)} {m : Str → Option Value} {v : Vl} {Q : Flow → Shared → Prop}  
    (G : Gnd w loose mean mg mb g) (V : Vs m v) (F : Fr g L s.heap m) (N : News g L s.heap led)  (hh : A.handled = none)
    (hQ : ∀ h' tk' m' tc to, Fr g L h' m' → News g L h' led → Vs m' v → m' (Str.ofString "code") = some (.str (Str.ofString "E228") tc) → m' (Str.ofString "optype") = some (.str (Str.ofString "modulo") to) → Q .next { s with heap := h', toks := tk' }) :
    wpAny (model PySem.Challenge.rw_co0044_01.row.toRowW.prog w) A (execs (ifB ((ifB ((ifE ((ifE ((ifE ((ifB ((mwSt 3)))[0]?))[0]?))[0]?))[0]?))[1]?)) (envM L)) Q (fun _ _ => False) s := by
  have X' := G.X
  have T' := G.T
  revert X'
  k_fill
  intro X'
  have F0 := V.fr F
  clear F
  obtain ⟨vk', vx', vp', vq', vln', vneed', vpt', vpx', vpe', vot', vbr'⟩ := v
  simp only [envM]
  conv in (occs := *) (ifB _) => all_goals whnf
  conv in (defScope 13) => whnf
  all_goals (k_unmd; repeat' walk1)
  all_goals (
    rename Fr g L _ _ => FE
    exact hQ _ _ _ _ _ FE (by first | assumption | exact newsDrop1 (by assumption) | exact newsDrop2 (by assumption) | exact newsDrop3 (by assumption) | exact newsDrop4 (by assumption) | exact newsDrop5 (by assumption)) ⟨rfl, rfl, rfl, rfl, rfl, rfl, rfl, rfl, rfl, rfl, rfl⟩ rfl rfl)
theorem s_c27 {w : World} {loose : List Str} {mean : ExcName → Option Value} {mg mb : Str → Option Value} {A : Around} {s : Shared} {g : Heap} {L : Addr} {led : List (Addr × Obj)} {m : Str → Option Value} {v : Vl} {Q : Flow → Shared → Prop}  
    (G : Gnd w loose mean mg mb g) (V : Vs m v) (F : Fr g L s.heap m) (N : News g L s.heap led)  (hh : A.handled = none)
    (hQ : ∀ h' tk' m' tc to, Fr g L h' m' → News g L h' led → Vs m' v → m' (Str.ofString "code") = some (.str (Str.ofString "E227") tc) → m' (Str.ofString "optype") = some (.str (Str.ofString "bitwise or shift") to) → Q .next { s with heap := h', toks := tk' }) :
    wpAny (model PySem.Challenge.rw_co0044_01.row.toRowW.prog w) A (execs (ifB ((ifE ((ifB ((ifE ((ifE ((ifE ((ifB ((mwSt 3)))[0]?))[0]?))[0]?))[0]?))[1]?))[0]?)) (envM L)) Q (fun _ _ => False) s := by
  have X' := G.X
  have T' := G.T
  revert X'
  k_fill
  intro X'
  have F0 := V.fr F
  clear F
  obtain ⟨vk', vx', vp', vq', vln', vneed', vpt', vpx', vpe', vot', vbr'⟩ := v
  simp only [envM]
  conv in (occs := *) (ifB _) => all_goals whnf
  conv in (defScope 13) => whnf
  all_goals (k_unmd; repeat' walk1)
  all_goals (
    rename Fr g L _ _ => FE
    exact hQ _ _ _ _ _ FE (by first | assumption | exact newsDrop1 (by assumption) | exact newsDrop2 (by assumption) | exact newsDrop3 (by assumption) | exact newsDrop4 (by assumption) | exact newsDrop5 (by assumption)) ⟨rfl, rfl, rfl, rfl, rfl, rfl, rfl, rfl, rfl, rfl, rfl⟩ rfl rfl)
theorem s_pt {w : World} {loose : List Str} {mean : ExcName → Option Value} {mg mb : Str → Option Value} {A : Around} {s : Shared} {g : Heap} {L : Addr} {led : List (Addr × Obj)} {m : Str → Option Value} {v : Vl} {Q : Flow → Shared → Prop}  
    (G : Gnd w loose mean mg mb g) (V : Vs m v) (F : Fr g L s.heap m) (N : News g L s.heap led)  
    (hQ : ∀ h' tk' m', Fr g L h' m' → News g L h' led → Vs m' { v with pt := v.k } → Q .next { s with heap := h', toks := tk' }) :
    wpAny (model PySem.Challenge.rw_co0044_01.row.toRowW.prog w) A (exec (Option.getD (mwSt 4) default) (envM L)) Q (fun _ _ => False) s := by
  have X' := G.X
  have T' := G.T
  revert X'
  k_fill
  intro X'
  have F0 := V.fr F
  clear F
  obtain ⟨vk', vx', vp', vq', vln', vneed', vpt', vpx', vpe', vot', vbr'⟩ := v
  simp only [envM]
  conv in (occs := *) (Option.getD (mwSt 4) _) => all_goals whnf
  conv in (defScope 13) => whnf
  all_goals (k_unmd; repeat' walk1)
  all_goals (
    rename Fr g L _ _ => FE
    exact hQ _ _ _ FE (by first | assumption | exact newsDrop1 (by assumption) | exact newsDrop2 (by assumption) | exact newsDrop3 (by assumption) | exact newsDrop4 (by assumption) | exact newsDrop5 (by assumption)) ⟨rfl, rfl, rfl, rfl, rfl, rfl, rfl, rfl, rfl, rfl, rfl⟩)
theorem s_px {w : World} {loose : List Str} {mean : ExcName → Option Value} {mg mb : Str → Option Value} {A : Around} {s : Shared} {g : Heap} {L : Addr} {led : List (Addr × Obj)} {m : Str → Option Value} {v : Vl} {Q : Flow → Shared → Prop}  
    (G : Gnd w loose mean mg mb g) (V : Vs m v) (F : Fr g L s.heap m) (N : News g L s.heap led)  
    (hQ : ∀ h' tk' m', Fr g L h' m' → News g L h' led → Vs m' { v with px := v.x } → Q .next { s with heap := h', toks := tk' }) :
    wpAny (model PySem.Challenge.rw_co0044_01.row.toRowW.prog w) A (exec (Option.getD (mwSt 5) default) (envM L)) Q (fun _ _ => False) s := by
  have X' := G.X
  have T' := G.T
  revert X'
  k_fill
  intro X'
  have F0 := V.fr F
  clear F
  obtain ⟨vk', vx', vp', vq', vln', vneed', vpt', vpx', vpe', vot', vbr'⟩ := v
  simp only [envM]
  conv in (occs := *) (Option.getD (mwSt 5) _) => all_goals whnf
  conv in (defScope 13) => whnf
  all_goals (k_unmd; repeat' walk1)
  all_goals (
    rename Fr g L _ _ => FE
    exact hQ _ _ _ FE (by first | assumption | exact newsDrop1 (by assumption) | exact newsDrop2 (by assumption) | exact newsDrop3 (by assumption) | exact newsDrop4 (by assumption) | exact newsDrop5 (by assumption)) ⟨rfl, rfl, rfl, rfl, rfl, rfl, rfl, rfl, rfl, rfl, rfl⟩)
theorem s_pe {w : World} {loose : List Str} {mean : ExcName → Option Value} {mg mb : Str → Option Value} {A : Around} {s : Shared} {g : Heap} {L : Addr} {led : List (Addr × Obj)} {m : Str → Option Value} {v : Vl} {Q : Flow → Shared → Prop}  
    (G : Gnd w loose mean mg mb g) (V : Vs m v) (F : Fr g L s.heap m) (N : News g L s.heap led)  
    (hQ : ∀ h' tk' m', Fr g L h' m' → News g L h' led → Vs m' { v with pe := v.q } → Q .next { s with heap := h', toks := tk' }) :
    wpAny (model PySem.Challenge.rw_co0044_01.row.toRowW.prog w) A (exec (Option.getD (mwSt 6) default) (envM L)) Q (fun _ _ => False) s := by
  have X' := G.X
  have T' := G.T
  revert X'
  k_fill
  intro X'
  have F0 := V.fr F
  clear F
  obtain ⟨vk', vx', vp', vq', vln', vneed', vpt', vpx', vpe', vot', vbr'⟩ := v
  simp only [envM]
  conv in (occs := *) (Option.getD (mwSt 6) _) => all_goals whnf
  conv in (defScope 13) => whnf
  all_goals (k_unmd; repeat' walk1)
  all_goals (
    rename Fr g L _ _ => FE
    exact hQ _ _ _ FE (by first | assumption | exact newsDrop1 (by assumption) | exact newsDrop2 (by assumption) | exact newsDrop3 (by assumption) | exact newsDrop4 (by assumption) | exact newsDrop5 (by assumption)) ⟨rfl, rfl, rfl, rfl, rfl, rfl, rfl, rfl, rfl, rfl, rfl⟩)
end Mine
end

section
open PySem PySem.W PySem.Calls PyProof.Rows PySem.Spec
set_option maxRecDepth 100000
set_option maxHeartbeats 8000000
namespace Mine
local macro_rules | `(tactic| k_all) => `(tactic| assumption)
local macro_rules | `(tactic| walk_at "ite") => `(tactic| (k_closed; first | ((with_reducible refine' ite_pos ?hc ?_); (case hc => k_dflt decide)) | ((with_reducible refine' ite_neg ?hc ?_); (case hc => k_dflt decide))))
local macro_rules | `(tactic| walk_at "truthy ref") => `(tactic| (k_here; (with_reducible show wpAny _ _ (truthy (Value.ref _)) _ _ _); k_dflt (refine' truthy_K ?N ?l ?z ?_; (case N => k_asm); (case l => k_mem); (case z => first | assumption | (simp only [List.size_toArray, List.length_cons, List.length_nil]; omega)))))
local macro_rules | `(tactic| walk_at "compareOp NotEq ref ref") => `(tactic| (k_here; (with_reducible show wpAny _ _ (compareOp CmpOp.NotEq (Value.ref _) (Value.ref _)) _ _ _); k_dflt (refine' ne_pos ?F ?p ?q ?u ?_; (case F => k_asm); (case p => assumption); (case q => assumption); (case u => assumption))))
local macro_rules | `(tactic| walk_at "compareOp Eq ref ref") => `(tactic| (k_here; (with_reducible show wpAny _ _ (compareOp CmpOp.Eq (Value.ref _) (Value.ref _)) _ _ _); k_dflt (first
  | (refine' eq_pos ?F ?p ?q ?u ?_; (case F => k_asm); (case p => assumption); (case q => assumption); (case u => assumption))
  | (refine' eq_strs ?N ?a ?b ?i ?j ?ka ?kb ?u ?_; (case N => k_asm); (case a => k_mem); (case b => k_mem); (case i => (repeat' constructor)); (case j => (repeat' constructor)); (case ka => decide +kernel); (case kb => decide +kernel); (case u => assumption)))))
local macro_rules | `(tactic| walk_at "compareOp NotIn str ref") => `(tactic| (k_here; (with_reducible show wpAny _ _ (compareOp CmpOp.NotIn (Value.str _ _) (Value.ref _)) _ _ _); k_dflt (refine' notin_top ?X ?F ?e ?i ?_; (case X => assumption); (case F => k_asm); (case e => k_is); (case i => (repeat' constructor)))))

local macro_rules | `(tactic| walk_at "compareOp In str ref") => `(tactic| (k_here; (with_reducible show wpAny _ _ (compareOp CmpOp.In (Value.str _ _) (Value.ref _)) _ _ _); k_dflt (refine' in_top ?X ?F ?e ?i ?_; (case X => assumption); (case F => k_asm); (case e => k_is); (case i => (repeat' constructor)))))
local macro_rules | `(tactic| walk_at "compareOp In int ref") => `(tactic| (k_here; (with_reducible show wpAny _ _ (compareOp CmpOp.In (Value.int _ _) (Value.ref _)) _ _ _); k_dflt (refine' in_top_int ?X ?F ?e ?i ?_; (case X => assumption); (case F => k_asm); (case e => k_is); (case i => (repeat' constructor)))))
local macro_rules | `(tactic| walk_at "compareOp NotEq ref bool") => `(tactic| (k_here; (with_reducible show wpAny _ _ (compareOp CmpOp.NotEq (Value.ref _) (Value.bool _)) _ _ _); k_dflt (refine' ne_refbool ?F ?N ?h ?p ?u ?_; (case F => k_asm); (case N => k_asm); (case h => k_mem); (case p => assumption); (case u => assumption))))
local macro_rules | `(tactic| walk_at "compareOp Eq ref bool") => `(tactic| (k_here; (with_reducible show wpAny _ _ (compareOp CmpOp.Eq (Value.ref _) (Value.bool _)) _ _ _); k_dflt (refine' eq_refbool ?F ?N ?h ?p ?u ?_; (case F => k_asm); (case N => k_asm); (case h => k_mem); (case p => assumption); (case u => assumption))))

local macro_rules | `(tactic| walk_at "assign Tuple") => `(tactic| (k_here; (with_reducible show wpAny _ _ (assign (Expr.Tuple _ _ _) _ (Value.ref _)) _ _ _); k_dflt (refine' unpackN_ ?k1 ?k2 ?k3 ?k4 ?k5 ?k6 ?_; (case k1 => k_asm); (case k2 => k_asm); (case k3 => kun_tup); (case k4 => assumption); (case k5 => exact rfl); (case k6 => exact rfl)); intro h' F' N'; (try k_sweep)))
local macro_rules | `(tactic| walk_at "pyReprObj str") => `(tactic| (refine pyReprObj_str ?_ (hx := ?hx); (case hx => (rw [sizeLine_eq]; omega))))
local macro_rules | `(tactic| walk_at "formatField str") => `(tactic| (refine wpAny_formatField_str ?_ ?_ (hx := ?hx); (case hx => (rw [sizeLine_eq]; omega))))
theorem y31 {w : World} {loose : List Str} {mean : ExcName → Option Value} {mg mb : Str → Option Value} {A : Around} {s : Shared} {g : Heap} {L : Addr} {led : List (Addr × Obj)} {m : Str → Option Value} {v : Vl} {Q : Value → Shared → Prop} {p : Addr} {x : Str} {tx : Tok} 
    (G : Gnd w loose mean mg mb g) (V : Vs m v) (F : Fr g L s.heap m) (N : News g L s.heap led) (vp : v.p = .ref p) (vx : v.x = .str x tx) (hr : (reprText x).length ≤ 1000)
    (hQ : ∀ h' tk' t tt, Fr g L h' m → News g L h' ((t, tupOf [.ref p, .str (Str.empty ++ Str.ofString "E231 missing whitespace after " ++ reprText x) tt]) :: led) → Q (.ref t) { s with heap := h', toks := tk' }) :
    wpAny (model PySem.Challenge.rw_co0044_01.row.toRowW.prog w) A (eval (yE (ifE ((ifE ((ifE ((ifE ((ifB ((ifB (mwSt 2))[1]?))[0]?))[0]?))[0]?))[0]?))[0]?) (envM L)) Q (fun _ _ => False) s := by
  have X' := G.X
  have T' := G.T
  revert X'
  k_fill
  intro X'
  have F0 := V.fr F
  clear F
  obtain ⟨vk', vx', vp', vq', vln', vneed', vpt', vpx', vpe', vot', vbr'⟩ := v
  dsimp only at vp vx F0
  subst vp vx
  simp only [envM]
  conv in (occs := *) (yE _) => all_goals whnf
  conv in (defScope 13) => whnf
  all_goals (k_unmd; repeat' walk1)
  all_goals (
    rename Fr g L _ _ => FE
    rename News g L _ _ => NE
    exact hQ _ _ _ _ (V.back FE) NE)
theorem y25a {w : World} {loose : List Str} {mean : ExcName → Option Value} {mg mb : Str → Option Value} {A : Around} {s : Shared} {g : Heap} {L : Addr} {led : List (Addr × Obj)} {m : Str → Option Value} {v : Vl} {Q : Value → Shared → Prop} {nd : Addr} {np : Addr} {bl : Bool}
    (G : Gnd w loose mean mg mb g) (V : Vs m v) (F : Fr g L s.heap m) (N : News g L s.heap ((nd, tupOf [.ref np, .bool bl]) :: led)) (vn : v.need = .ref nd) 
    (hQ : ∀ h' tk' t tt, Fr g L h' m → News g L h' ((t, tupOf [.ref np, .str (Str.ofString "E225 missing whitespace around operator") tt]) :: ((nd, tupOf [.ref np, .bool bl]) :: led)) → Q (.ref t) { s with heap := h', toks := tk' }) :
    wpAny (model PySem.Challenge.rw_co0044_01.row.toRowW.prog w) A (eval (yE (ifB ((ifB ((ifB ((mwSt 3)))[0]?))[0]?))[0]?) (envM L)) Q (fun _ _ => False) s := by
  have X' := G.X
  have T' := G.T
  revert X'
  k_fill
  intro X'
  have F0 := V.fr F
  clear F
  obtain ⟨vk', vx', vp', vq', vln', vneed', vpt', vpx', vpe', vot', vbr'⟩ := v
  dsimp only at vn F0
  subst vn
  simp only [envM]
  conv in (occs := *) (yE _) => all_goals whnf
  conv in (defScope 13) => whnf
  all_goals (k_unmd; repeat' walk1)
  all_goals (
    rename Fr g L _ _ => FE
    rename News g L _ _ => NE
    exact hQ _ _ _ _ (V.back FE) NE)
theorem y25b {w : World} {loose : List Str} {mean : ExcName → Option Value} {mg mb : Str → Option Value} {A : Around} {s : Shared} {g : Heap} {L : Addr} {led : List (Addr × Obj)} {m : Str → Option Value} {v : Vl} {Q : Value → Shared → Prop} {r : Addr} 
    (G : Gnd w loose mean mg mb g) (V : Vs m v) (F : Fr g L s.heap m) (N : News g L s.heap led) (ve : v.pe = .ref r) 
    (hQ : ∀ h' tk' t tt, Fr g L h' m → News g L h' ((t, tupOf [.ref r, .str (Str.ofString "E225 missing whitespace around operator") tt]) :: led) → Q (.ref t) { s with heap := h', toks := tk' }) :
    wpAny (model PySem.Challenge.rw_co0044_01.row.toRowW.prog w) A (eval (yE (ifB ((ifE ((ifE ((ifB ((mwSt 3)))[0]?))[0]?))[0]?))[0]?) (envM L)) Q (fun _ _ => False) s := by
  have X' := G.X
  have T' := G.T
  revert X'
  k_fill
  intro X'
  have F0 := V.fr F
  clear F
  obtain ⟨vk', vx', vp', vq', vln', vneed', vpt', vpx', vpe', vot', vbr'⟩ := v
  dsimp only at ve F0
  subst ve
  simp only [envM]
  conv in (occs := *) (yE _) => all_goals whnf
  conv in (defScope 13) => whnf
  all_goals (k_unmd; repeat' walk1)
  all_goals (
    rename Fr g L _ _ => FE
    rename News g L _ _ => NE
    exact hQ _ _ _ _ (V.back FE) NE)
theorem y25c {w : World} {loose : List Str} {mean : ExcName → Option Value} {mg mb : Str → Option Value} {A : Around} {s : Shared} {g : Heap} {L : Addr} {led : List (Addr × Obj)} {m : Str → Option Value} {v : Vl} {Q : Value → Shared → Prop} {r : Addr} 
    (G : Gnd w loose mean mg mb g) (V : Vs m v) (F : Fr g L s.heap m) (N : News g L s.heap led) (ve : v.pe = .ref r) 
    (hQ : ∀ h' tk' t tt, Fr g L h' m → News g L h' ((t, tupOf [.ref r, .str (Str.ofString "E225 missing whitespace around operator") tt]) :: led) → Q (.ref t) { s with heap := h', toks := tk' }) :
    wpAny (model PySem.Challenge.rw_co0044_01.row.toRowW.prog w) A (eval (yE (ifB ((ifE ((ifB ((ifE ((mwSt 3)))[0]?))[1]?))[0]?))[0]?) (envM L)) Q (fun _ _ => False) s := by
  have X' := G.X
  have T' := G.T
  revert X'
  k_fill
  intro X'
  have F0 := V.fr F
  clear F
  obtain ⟨vk', vx', vp', vq', vln', vneed', vpt', vpx', vpe', vot', vbr'⟩ := v
  dsimp only at ve F0
  subst ve
  simp only [envM]
  conv in (occs := *) (yE _) => all_goals whnf
  conv in (defScope 13) => whnf
  all_goals (k_unmd; repeat' walk1)
  all_goals (
    rename Fr g L _ _ => FE
    rename News g L _ _ => NE
    exact hQ _ _ _ _ (V.back FE) NE)
theorem y26 {w : World} {loose : List Str} {mean : ExcName → Option Value} {mg mb : Str → Option Value} {A : Around} {s : Shared} {g : Heap} {L : Addr} {led : List (Addr × Obj)} {m : Str → Option Value} {v : Vl} {Q : Value → Shared → Prop} {nd : Addr} {np : Addr} {bl : Bool} {tc to : Tok}
    (G : Gnd w loose mean mg mb g) (V : Vs m v) (F : Fr g L s.heap m) (N : News g L s.heap ((nd, tupOf [.ref np, .bool bl]) :: led)) (vn : v.need = .ref nd) (hco : m (Str.ofString "code") = some (.str (Str.ofString "E226") tc)) (hop : m (Str.ofString "optype") = some (.str (Str.ofString "arithmetic") to))
    (hQ : ∀ h' tk' t tt, Fr g L h' m → News g L h' ((t, tupOf [.ref np, .str (Str.ofString "E226 missing whitespace around arithmetic operator") tt]) :: ((nd, tupOf [.ref np, .bool bl]) :: led)) → Q (.ref t) { s with heap := h', toks := tk' }) :
    wpAny (model PySem.Challenge.rw_co0044_01.row.toRowW.prog w) A (eval (yE (ifB ((ifE ((ifE ((ifE ((ifB ((mwSt 3)))[0]?))[0]?))[0]?))[0]?))[2]?) (envM L)) Q (fun _ _ => False) s := by
  have X' := G.X
  have T' := G.T
  revert X'
  k_fill
  intro X'
  have V1 := (V.know hco).know ((know_eq hco).symm ▸ hop)
  have F0 := V1.fr (Fr.know (Fr.know F hco) ((know_eq hco).symm ▸ hop))
  clear F
  obtain ⟨vk', vx', vp', vq', vln', vneed', vpt', vpx', vpe', vot', vbr'⟩ := v
  dsimp only at vn F0
  subst vn
  simp only [envM]
  conv in (occs := *) (yE _) => all_goals whnf
  conv in (defScope 13) => whnf
  all_goals (k_unmd; repeat' walk1)
  all_goals (
    rename Fr g L _ _ => FE
    rename News g L _ _ => NE
    exact hQ _ _ _ _ (unknow hco (unknow ((know_eq hco).symm ▸ hop) (V1.back FE))) NE)
theorem y27 {w : World} {loose : List Str} {mean : ExcName → Option Value} {mg mb : Str → Option Value} {A : Around} {s : Shared} {g : Heap} {L : Addr} {led : List (Addr × Obj)} {m : Str → Option Value} {v : Vl} {Q : Value → Shared → Prop} {nd : Addr} {np : Addr} {bl : Bool} {tc to : Tok}
    (G : Gnd w loose mean mg mb g) (V : Vs m v) (F : Fr g L s.heap m) (N : News g L s.heap ((nd, tupOf [.ref np, .bool bl]) :: led)) (vn : v.need = .ref nd) (hco : m (Str.ofString "code") = some (.str (Str.ofString "E227") tc)) (hop : m (Str.ofString "optype") = some (.str (Str.ofString "bitwise or shift") to))
    (hQ : ∀ h' tk' t tt, Fr g L h' m → News g L h' ((t, tupOf [.ref np, .str (Str.ofString "E227 missing whitespace around bitwise or shift operator") tt]) :: ((nd, tupOf [.ref np, .bool bl]) :: led)) → Q (.ref t) { s with heap := h', toks := tk' }) :
    wpAny (model PySem.Challenge.rw_co0044_01.row.toRowW.prog w) A (eval (yE (ifB ((ifE ((ifE ((ifE ((ifB ((mwSt 3)))[0]?))[0]?))[0]?))[0]?))[2]?) (envM L)) Q (fun _ _ => False) s := by
  have X' := G.X
  have T' := G.T
  revert X'
  k_fill
  intro X'
  have V1 := (V.know hco).know ((know_eq hco).symm ▸ hop)
  have F0 := V1.fr (Fr.know (Fr.know F hco) ((know_eq hco).symm ▸ hop))
  clear F
  obtain ⟨vk', vx', vp', vq', vln', vneed', vpt', vpx', vpe', vot', vbr'⟩ := v
  dsimp only at vn F0
  subst vn
  simp only [envM]
  conv in (occs := *) (yE _) => all_goals whnf
  conv in (defScope 13) => whnf
  all_goals (k_unmd; repeat' walk1)
  all_goals (
    rename Fr g L _ _ => FE
    rename News g L _ _ => NE
    exact hQ _ _ _ _ (unknow hco (unknow ((know_eq hco).symm ▸ hop) (V1.back FE))) NE)
theorem y28 {w : World} {loose : List Str} {mean : ExcName → Option Value} {mg mb : Str → Option Value} {A : Around} {s : Shared} {g : Heap} {L : Addr} {led : List (Addr × Obj)} {m : Str → Option Value} {v : Vl} {Q : Value → Shared → Prop} {nd : Addr} {np : Addr} {bl : Bool} {tc to : Tok}
    (G : Gnd w loose mean mg mb g) (V : Vs m v) (F : Fr g L s.heap m) (N : News g L s.heap ((nd, tupOf [.ref np, .bool bl]) :: led)) (vn : v.need = .ref nd) (hco : m (Str.ofString "code") = some (.str (Str.ofString "E228") tc)) (hop : m (Str.ofString "optype") = some (.str (Str.ofString "modulo") to))
    (hQ : ∀ h' tk' t tt, Fr g L h' m → News g L h' ((t, tupOf [.ref np, .str (Str.ofString "E228 missing whitespace around modulo operator") tt]) :: ((nd, tupOf [.ref np, .bool bl]) :: led)) → Q (.ref t) { s with heap := h', toks := tk' }) :
    wpAny (model PySem.Challenge.rw_co0044_01.row.toRowW.prog w) A (eval (yE (ifB ((ifE ((ifE ((ifE ((ifB ((mwSt 3)))[0]?))[0]?))[0]?))[0]?))[2]?) (envM L)) Q (fun _ _ => False) s := by
  have X' := G.X
  have T' := G.T
  revert X'
  k_fill
  intro X'
  have V1 := (V.know hco).know ((know_eq hco).symm ▸ hop)
  have F0 := V1.fr (Fr.know (Fr.know F hco) ((know_eq hco).symm ▸ hop))
  clear F
  obtain ⟨vk', vx', vp', vq', vln', vneed', vpt', vpx', vpe', vot', vbr'⟩ := v
  dsimp only at vn F0
  subst vn
  simp only [envM]
  conv in (occs := *) (yE _) => all_goals whnf
  conv in (defScope 13) => whnf
  all_goals (k_unmd; repeat' walk1)
  all_goals (
    rename Fr g L _ _ => FE
    rename News g L _ _ => NE
    exact hQ _ _ _ _ (unknow hco (unknow ((know_eq hco).symm ▸ hop) (V1.back FE))) NE)
end Mine
end

section
open PySem PySem.W PySem.Calls PyProof.Rows PySem.Spec
set_option maxRecDepth 100000
set_option maxHeartbeats 8000000
namespace Mine

def ifP : Option Stmt → Pos
  | some (.If _ _ _ p) => p
  | _ => default
def IsIf (o : Option Stmt) : Prop := o = some (.If (ifT o) (ifB o) (ifE o) (ifP o))

section
variable {M : Model} {A : Around} {env : Env} {Q : Flow → Shared → Prop} {E : Value → Shared → Prop} {s : Shared}
theorem wpIf {o : Option Stmt} (ho : IsIf o) (h : wpAny M A (isTrue (ifT o) env (eval (ifT o) env)) (fun b s' => wpAny M A (execs (if b = true then ifB o else ifE o) env) Q E s') E s) :
    wpAny M A (exec (o.getD default) env) Q E s := by
  have e : o.getD default = .If (ifT o) (ifB o) (ifE o) (ifP o) := by unfold IsIf at ho; rw [ho]; rfl
  rw [e]
  refine wpAny_If (wpAny_mono h (fun b s' h' => ?_) fun _ _ x => x)
  cases b <;> exact h'
theorem wpOne {st : Stmt} {l : List Stmt} (hl : l = [st]) (h : wpAny M A (exec st env) Q E s) : wpAny M A (execs l env) Q E s := by
  rw [hl, execs_cons]
  refine wpAny_bind (wpAny_mono h (fun f s' hf => ?_) fun _ _ x => x)
  cases f <;> exact wpAny_pure hf
theorem wpCons {st : Stmt} {l r : List Stmt} (hl : l = st :: r) (h : wpAny M A (exec st env) (fun f s' => match f with | .next => wpAny M A (execs r env) Q E s' | f => Q f s') E s) : wpAny M A (execs l env) Q E s := by
  rw [hl, execs_cons]
  refine wpAny_bind (wpAny_mono h (fun f s' hf => ?_) fun _ _ x => x)
  cases f <;> first | exact hf | exact wpAny_pure hf
theorem wpOneIf {o : Option Stmt} {l : List Stmt} (hl : l = [o.getD default]) (ho : IsIf o) (h : wpAny M A (isTrue (ifT o) env (eval (ifT o) env)) (fun b s' => wpAny M A (execs (if b = true then ifB o else ifE o) env) Q E s') E s) :
    wpAny M A (execs l env) Q E s := wpOne hl (wpIf ho h)
theorem wpNil {l : List Stmt} (hl : l = []) (h : Q .next s) : wpAny M A (execs l env) Q E s := by rw [hl]; exact wpAny_pure h
end

theorem newsAdd {g h : Heap} {L : Addr} {x : Addr × Obj} {led : List (Addr × Obj)} (N : News g L h led) (m : x ∈ led) : News g L h (x :: led) := fun p hp => by
  rcases List.mem_cons.mp hp with rfl | hp
  · exact N _ m
  · exact N _ hp

section
variable {w : World} {loose : List Str} {mean : ExcName → Option Value} {mg mb : Str → Option Value} {A : Around} {s : Shared} {g : Heap} {L aB : Addr} {nb : Nat} {led : List (Addr × Obj)} {k : Int} {x : Str} {tk tx : Tok} {m : Str → Option Value} {v : Vl} {bv : Array Value} {st : List Str}

theorem brace_open (h : (decide (k = 54) && (false || decide (x = Str.ofString "[") || decide (x = Str.ofString "(") || decide (x = Str.ofString "{"))) = true) : brace st k x = st ++ [x] := by
  simp only [Bool.and_eq_true, Bool.or_eq_true, decide_eq_true_eq, Bool.false_eq_true, false_or, or_assoc] at h
  rw [brace, if_pos h]
theorem brace_close (h : (decide (k = 54) && (false || decide (x = Str.ofString "]") || decide (x = Str.ofString ")") || decide (x = Str.ofString "}"))) = true)
    (h0 : (decide (k = 54) && (false || decide (x = Str.ofString "[") || decide (x = Str.ofString "(") || decide (x = Str.ofString "{"))) = false) : brace st k x = st.dropLast := by
  simp only [Bool.and_eq_true, Bool.or_eq_true, decide_eq_true_eq, Bool.false_eq_true, false_or, or_assoc] at h
  rw [brace, if_neg, if_pos h]
  intro q
  have : (decide (k = 54) && (false || decide (x = Str.ofString "[") || decide (x = Str.ofString "(") || decide (x = Str.ofString "{"))) = true := by
    simp only [Bool.and_eq_true, Bool.or_eq_true, decide_eq_true_eq, Bool.false_eq_true, false_or, or_assoc]; exact q
  rw [h0] at this; cases this
theorem brace_same (h : (decide (k = 54) && (false || decide (x = Str.ofString "]") || decide (x = Str.ofString ")") || decide (x = Str.ofString "}"))) = false)
    (h0 : (decide (k = 54) && (false || decide (x = Str.ofString "[") || decide (x = Str.ofString "(") || decide (x = Str.ofString "{"))) = false) : brace st k x = st := by
  rw [brace, if_neg, if_neg]
  · intro q
    have : (decide (k = 54) && (false || decide (x = Str.ofString "]") || decide (x = Str.ofString ")") || decide (x = Str.ofString "}"))) = true := by
      simp only [Bool.and_eq_true, Bool.or_eq_true, decide_eq_true_eq, Bool.false_eq_true, false_or, or_assoc]; exact q
    rw [h] at this; cases this
  · intro q
    have : (decide (k = 54) && (false || decide (x = Str.ofString "[") || decide (x = Str.ofString "(") || decide (x = Str.ofString "{"))) = true := by
      simp only [Bool.and_eq_true, Bool.or_eq_true, decide_eq_true_eq, Bool.false_eq_true, false_or, or_assoc]; exact q
    rw [h0] at this; cases this
theorem brace_nil (h0 : (decide (k = 54) && (false || decide (x = Str.ofString "[") || decide (x = Str.ofString "(") || decide (x = Str.ofString "{"))) = false) : brace [] k x = [] := by
  cases h : (decide (k = 54) && (false || decide (x = Str.ofString "]") || decide (x = Str.ofString ")") || decide (x = Str.ofString "}"))) with
  | true => rw [brace_close h h0]; rfl
  | false => rw [brace_same h h0]

theorem st0 {Q : Flow → Shared → Prop}
    (G : Gnd w loose mean mg mb g) (V : Vs m v) (F : Fr g L s.heap m) (N : News g L s.heap ((aB, W.listOf bv nb) :: led)) (hT : ∀ p ∈ led, p.1 ≠ aB) (hb : StrsAre bv.toList st) (hok : ∀ a ∈ st, okB a) (hlen : st.length ≤ 2)
    (vk : v.k = .int k tk) (vx : v.x = .str x tx) (vb : v.br = .ref aB) (hk : 0 < k) (hx : k = 1 → x ≠ Str.ofString "lambda")
    (hQ : ∀ h' tk' bv' nb', Fr g L h' m → News g L h' ((aB, W.listOf bv' nb') :: led) → StrsAre bv'.toList (brace st k x) → Q .next { s with heap := h', toks := tk' }) :
    wpAny (model PySem.Challenge.rw_co0044_01.row.toRowW.prog w) A (exec ((mwSt 0).getD default) (envM L)) Q (fun _ _ => False) s := by
  have hbl := hb.length
  refine wpIf rfl (t0a G V F N vk vx fun h1 k1 F1 N1 => ?_)
  cases hc : (decide (k = 54) && (false || decide (x = Str.ofString "[") || decide (x = Str.ofString "(") || decide (x = Str.ofString "{"))) with
  | true =>
    rw [if_pos rfl]
    refine s_app G V F1 N1 vx vb (by omega) hT fun h2 k2 nb2 F2 N2 => ?_
    refine hQ _ _ _ _ F2 N2 ?_
    rw [brace_open hc]
    simpa using snoc_strs hb x tx
  | false =>
    rw [if_neg (by decide)]
    refine wpOneIf (by exact rfl) (by exact rfl) (t0b G V F1 N1 vk hk fun h1 k1 F1 N1 => ?_)
    rw [if_neg (by decide)]
    refine wpOneIf (by exact rfl) (by exact rfl) (t0c G V F1 N1 vk hk fun h1 k1 F1 N1 => ?_)
    rw [if_neg (by decide)]
    refine wpOneIf (by exact rfl) (by exact rfl) (t0d G V F1 N1 vk vx hk hx fun h1 k1 F1 N1 => ?_)
    rw [if_neg (by decide)]
    refine wpOneIf (by exact rfl) (by exact rfl) (t0e G V F1 N1 vb (by have := Array.length_toList (xs := bv); omega) fun h1 k1 F1 N1 => ?_)
    by_cases hn : st = []
    · have hbe : bv.isEmpty = true := by
        subst hn; cases hb' : bv.toList with
        | nil => rw [Array.isEmpty_iff]; exact Array.toList_inj.mp hb'
        | cons _ _ => rw [hb'] at hb; cases hb
      rw [hbe, if_neg (by decide)]
      refine wpNil rfl (hQ _ _ _ _ F1 N1 ?_)
      subst hn
      rw [brace_nil hc]; exact hb
    · have hbe : bv.isEmpty = false := by
        cases e : bv.isEmpty with
        | false => rfl
        | true =>
          rw [Array.isEmpty_iff] at e
          subst e
          simp at hbl
          exact absurd (List.length_eq_zero_iff.mp hbl.symm) hn
      rw [hbe, if_pos (by decide)]
      refine wpOneIf (by exact rfl) (by exact rfl) (t0f G V F1 N1 vk vx fun h1 k1 F1 N1 => ?_)
      cases hc2 : (decide (k = 54) && (false || decide (x = Str.ofString "]") || decide (x = Str.ofString ")") || decide (x = Str.ofString "}"))) with
      | true =>
        rw [if_pos rfl]
        refine s_pop G V F1 N1 vb hT hb hlen hn fun h2 k2 bv2 nb2 F2 N2 hb2 => ?_
        exact hQ _ _ _ _ F2 N2 (by rw [brace_close hc2 hc]; exact hb2)
      | false =>
        rw [if_neg (by decide)]
        refine wpOneIf (by exact rfl) (by exact rfl) (t0g G V F1 N1 vk hk fun h1 k1 F1 N1 => ?_)
        rw [if_neg (by decide)]
        refine wpOneIf (by exact rfl) (by exact rfl) (t0h G V F1 N1 vk hk fun h1 k1 F1 N1 => ?_)
        rw [if_neg (by decide)]
        refine wpOneIf (by exact rfl) (by exact rfl) (t0i G V F1 N1 vk vx vb hb hlen hn hok fun h1 k1 F1 N1 => ?_)
        rw [if_neg (by decide)]
        exact wpNil rfl (hQ _ _ _ _ F1 N1 (by rw [brace_same hc2 hc]; exact hb))
end
end Mine
end

section
open PySem PySem.W PySem.Calls PyProof.Rows PySem.Spec
set_option maxRecDepth 100000
set_option maxHeartbeats 8000000
namespace Mine

/-! the machine: one token -/
def c31 (k : Int) (x : Str) : Bool := decide (k = 54) && (false || decide (x = Str.ofString ",") || decide (x = Str.ofString ";") || decide (x = Str.ofString ":"))
def b31 (nc : Str) : Bool := (!(ins [" ", "\t", "\xa0"] nc)) && !(Has nc "\r\n")
def s31 (st : List Str) (x : Str) : Bool := (x == Str.ofString ":") && decide (st.drop (st.length - 1) = [Str.ofString "["])
def d31 (x nc : Str) : Bool := (x == Str.ofString ",") && Has nc ")]"
def msg31 (x : Str) : Str := Str.empty ++ Str.ofString "E231 missing whitespace after " ++ reprText x
def m225 : Str := Str.ofString "E225 missing whitespace around operator"
def m226 : Str := Str.ofString "E226 missing whitespace around arithmetic operator"
def m227 : Str := Str.ofString "E227 missing whitespace around bitwise or shift operator"
def m228 : Str := Str.ofString "E228 missing whitespace around modulo operator"
def out31 (st : List Str) (k : Int) (x : Str) (b : Nat) (nc : Str) : List Out :=
  if c31 k x = true then (if b31 nc = true then (if s31 st x = true then [] else if d31 x nc = true then [] else [⟨b, msg31 x⟩]) else []) else []
def arith : List Str := ["**", "*", "/", "//", "+", "-", "@"]
def optMsg (y : Str) : Str := if (y == Str.ofString "%") = true then m228 else if (!(ins arith y)) = true then m227 else m226
def slash (x y : Str) : Bool := ((y == Str.ofString "/") && (false || decide (x = Str.ofString ",") || decide (x = Str.ofString ")") || decide (x = Str.ofString ":"))) || ((y == Str.ofString ")") && (x == Str.ofString ":"))
def kwEq (st : List Str) (x : Str) : Bool := (x == Str.ofString "=") && decide (st.drop (st.length - 1) = [Str.ofString "("])
def binOp (pt : Int) (y : Str) : Bool := (decide (pt = 54) && Has y "}])") || (!(decide (pt = 54)) && !(ins keywords y) && !(ins soft y))
/-- what the operator asks for -/
def fresh (st : List Str) (pt : Int) (y x : Str) (pe b : Nat) : Need × List Out :=
  if kwEq st x = true then (.no, [])
  else if ins needed x = true then (if b = pe then (.no, [⟨pe, m225⟩]) else (.must, []))
  else if ins unary x = true then (if binOp pt y = true then (.opt pe (decide (b ≠ pe)), []) else (.no, []))
  else if ins optional x = true then (.opt pe (decide (b ≠ pe)), []) else (.no, [])
def needStep (σ : MS) (k : Int) (x : Str) (b : Nat) : Need × List Out :=
  match σ.need, σ.prev with
  | .no, none => (.no, [])
  | .no, some (y, pe) => if ([54, 1] : List Int).any (· == k) = true then fresh σ.st σ.ptype y x pe b else (.no, [])
  | .must, none => (.no, [])
  | .must, some (y, pe) => if b ≠ pe then (.no, []) else if slash x y = true then (.must, []) else (.no, [⟨pe, m225⟩])
  | .opt _ _, none => (.no, [])
  | .opt p bl, some (y, pe) => if b ≠ pe then (.no, if bl = true then [] else [⟨p, m225⟩]) else if slash x y = true then (.opt p bl, [])
      else (.no, if bl = true then [⟨pe, m225⟩] else if (!(y == Str.ofString "**")) = true then [⟨p, optMsg y⟩] else [])
def step (line : Str) (σ : MS) (t : Tk) : MS × List Out :=
  let st := brace σ.st t.kind t.word
  if t.kind = 4 then ({ σ with st := st }, [])
  else
    let n := needStep { σ with st := st } t.kind t.word t.b
    ({ need := n.1, ptype := t.kind, prev := some (t.word, t.e), st := st }, out31 st t.kind t.word t.b (nextOf line t.e) ++ n.2)
def mw (line : Str) : MS → List Tk → List Out
  | _, [] => []
  | σ, t :: ts => (step line σ t).2 ++ mw line (step line σ t).1 ts

/-! the state -/
structure Cfg where
  g : Heap
  L : Addr
  aB : Addr
  S : Addr
  It : Addr
  ot : Addr
  I : Addr
  go : Obj
  os : OsState
def NeedIs (g : Heap) (T : List (Addr × Obj)) : Need → Value → Prop
  | .no, v => v = .bool false
  | .must, v => v = .bool true
  | .opt p bl, v => ∃ nd np t1 t2, v = .ref nd ∧ (nd, tupOf [.ref np, .bool bl]) ∈ T ∧ IsTup g np #[.int 1 t1, .int p t2]
def PrevIs (g : Heap) : Option (Str × Nat) → Value → Value → Prop
  | none, x, e => x = .none ∧ e = .none
  | some (y, pe), x, e => ∃ ty r t1 t2, x = .str y ty ∧ e = .ref r ∧ IsTup g r #[.int 1 t1, .int pe t2]
def ErrIn (g : Heap) (T : List (Addr × Obj)) (v : Value) (o : Out) : Prop := ∃ t p tt t1 t2, v = .ref t ∧ (t, tupOf [.ref p, .str o.msg tt]) ∈ T ∧ IsTup g p #[.int 1 t1, .int o.at_ t2]
inductive ErrsIn (g : Heap) (T : List (Addr × Obj)) : List Value → List Out → Prop
  | nil : ErrsIn g T [] []
  | cons {v o vs os} : ErrIn g T v o → ErrsIn g T vs os → ErrsIn g T (v :: vs) (o :: os)
theorem ErrIn.mono {g T T' v o} (h : ErrIn g T v o) (k : ∀ p ∈ T, p ∈ T') : ErrIn g T' v o := let ⟨t, p, a, b, c, e, m, i⟩ := h; ⟨t, p, a, b, c, e, k _ m, i⟩
theorem ErrsIn.mono {g T T' vs os} (h : ErrsIn g T vs os) (k : ∀ p ∈ T, p ∈ T') : ErrsIn g T' vs os := by
  induction h with
  | nil => exact .nil
  | cons a _ ih => exact .cons (a.mono k) ih
theorem ErrsIn.snoc {g T vs os v o} (h : ErrsIn g T vs os) (e : ErrIn g T v o) : ErrsIn g T (vs ++ [v]) (os ++ [o]) := by
  induction h with
  | nil => exact .cons e .nil
  | cons a _ ih => exact .cons a ih
theorem ErrsIn.length {g T vs os} (h : ErrsIn g T vs os) : vs.length = os.length := by
  induction h with
  | nil => rfl
  | cons _ _ ih => simp [ih]

/-- what stands at any point of the loop; the names' facts apart -/
structure GS (C : Cfg) (need : Need) (st : List Str) (es : List Out) (h : Heap) (m : Str → Option Value) (v : Vl) (bv : Array Value) (nb c : Nat) (io : Obj) (T : List (Addr × Obj)) (acc : List Value) : Prop where
  F : Fr C.g C.L h m
  N : News C.g C.L h ((C.aB, W.listOf bv nb) :: (C.S, lstObj acc c) :: (C.It, io) :: T)
  need : NeedIs C.g T need v.need
  ot : v.ot = .ref C.ot
  otm : ∃ t5 t6, (C.ot, tupOf [.int 54 t5, .int 1 t6]) ∈ T
  br : v.br = .ref C.aB
  stk : StrsAre bv.toList st
  tup : ∀ p ∈ T, p.2.cls = .type "tuple" ∨ p.2.cls = .type "generator"
  gen : (C.I, C.go) ∈ T
  n1 : C.S ≠ C.aB
  n2 : C.It ≠ C.aB
  n3 : C.It ≠ C.S
  err : ErrsIn C.g T acc es
theorem NeedIs.mono {g T T' n v} (h : NeedIs g T n v) (k : ∀ p ∈ T, p ∈ T') : NeedIs g T' n v := by
  cases n with
  | no => exact h
  | must => exact h
  | opt p bl => obtain ⟨nd, np, t1, t2, e, mm, i⟩ := h; exact ⟨nd, np, t1, t2, e, k _ mm, i⟩

section
variable {C : Cfg} {need : Need} {st : List Str} {es : List Out} {h : Heap} {m : Str → Option Value} {v : Vl} {bv : Array Value} {nb c : Nat} {io : Obj} {T : List (Addr × Obj)} {acc : List Value}
theorem GS.to (X : GS C need st es h m v bv nb c io T acc) {h' : Heap} (F : Fr C.g C.L h' m) (N : News C.g C.L h' ((C.aB, W.listOf bv nb) :: (C.S, lstObj acc c) :: (C.It, io) :: T)) : GS C need st es h' m v bv nb c io T acc :=
  { X with F := F, N := N }
theorem GS.tne (X : GS C need st es h m v bv nb c io T acc) : (∀ p ∈ T, p.1 ≠ C.aB) ∧ (∀ p ∈ T, p.1 ≠ C.S) := by
  constructor <;> intro p hp q
  · have z := (X.N p (.tail _ (.tail _ (.tail _ hp)))).1
    rw [q, (X.N _ (.head _)).1] at z
    have e := (Option.some.inj z).symm
    rcases X.tup p hp with k | k <;> (rw [e] at k; exact absurd (Value.type.inj k) (by decide))
  · have z := (X.N p (.tail _ (.tail _ (.tail _ hp)))).1
    rw [q, (X.N _ (.tail _ (.head _))).1] at z
    have e := (Option.some.inj z).symm
    rcases X.tup p hp with k | k <;> (rw [e] at k; exact absurd (Value.type.inj k) (by decide))
theorem GS.ledNe (X : GS C need st es h m v bv nb c io T acc) : ∀ p ∈ (C.S, lstObj acc c) :: (C.It, io) :: T, p.1 ≠ C.aB := by
  intro p hp
  rcases List.mem_cons.mp hp with rfl | hp
  · exact X.n1
  rcases List.mem_cons.mp hp with rfl | hp
  · exact X.n2
  · exact X.tne.1 p hp
/-- a tuple more in the ledger -/
theorem GS.more (X : GS C need st es h m v bv nb c io T acc) {h' : Heap} {t : Addr} {vs : List Value} (F : Fr C.g C.L h' m) (N : News C.g C.L h' ((t, tupOf vs) :: (C.aB, W.listOf bv nb) :: (C.S, lstObj acc c) :: (C.It, io) :: T)) :
    GS C need st es h' m v bv nb c io ((t, tupOf vs) :: T) acc :=
  { X with
    F := F
    N := fun p hp => by
      rcases List.mem_cons.mp hp with rfl | hp
      · exact N _ (.tail _ (.head _))
      rcases List.mem_cons.mp hp with rfl | hp
      · exact N _ (.tail _ (.tail _ (.head _)))
      rcases List.mem_cons.mp hp with rfl | hp
      · exact N _ (.tail _ (.tail _ (.tail _ (.head _))))
      rcases List.mem_cons.mp hp with rfl | hp
      · exact N _ (.head _)
      · exact N _ (.tail _ (.tail _ (.tail _ (.tail _ hp))))
    need := X.need.mono fun p hp => .tail _ hp
    otm := let ⟨a, b, mm⟩ := X.otm; ⟨a, b, .tail _ mm⟩
    tup := fun p hp => by
      rcases List.mem_cons.mp hp with rfl | hp
      · exact .inl rfl
      · exact X.tup p hp
    gen := .tail _ X.gen
    err := X.err.mono fun p hp => .tail _ hp }
/-- the list takes a value -/
theorem GS.push (X : GS C need st es h m v bv nb c io T acc) {h'' : Heap} {c'' : Nat} {u : Value} {o : Out} (hs : SubBut C.S h h'') (hg : h''.get? C.S = some (lstObj (acc ++ [u]) c'')) (he : ErrIn C.g T u o) :
    GS C need st (es ++ [o]) h'' m v bv nb c'' io T (acc ++ [u]) := by
  have P := X.N (C.S, lstObj acc c) (.tail _ (.head _))
  have tne := X.tne
  exact { X with
    F := frAfter X.F hs P.2.2 P.2.1
    N := fun p hp => by
      rcases List.mem_cons.mp hp with rfl | hp
      · have q := X.N _ (.head _); exact ⟨hs _ _ (Ne.symm X.n1) q.1, q.2⟩
      rcases List.mem_cons.mp hp with rfl | hp
      · exact ⟨hg, P.2⟩
      rcases List.mem_cons.mp hp with rfl | hp
      · have q := X.N _ (.tail _ (.tail _ (.head _))); exact ⟨hs _ _ X.n3 q.1, q.2⟩
      · have q := X.N p (.tail _ (.tail _ (.tail _ hp))); exact ⟨hs _ _ (tne.2 p hp) q.1, q.2⟩
    err := X.err.snoc he }
end

/-- the protocol: each value goes to the list at S -/
def YP (C : Cfg) (total : Nat) : Protocol := fun n _ v s₁ κ => s₁.gens = #[GenState.running] ∧ s₁.os = C.os ∧ (∀ b o, C.g.get? b = some o → s₁.heap.get? b = some o) ∧ s₁.heap.get? C.I = some C.go ∧ C.I ≠ C.S ∧ ∃ acc c, s₁.heap.get? C.S = some (lstObj acc c) ∧ acc.length + 1 + n = total ∧
  ∀ h'' c'', SubBut C.S s₁.heap h'' → h''.get? C.S = some (lstObj (acc ++ [v]) c'') → κ (.send .none) { s₁ with heap := h'' }

def yP : Option Stmt → Pos × Pos
  | some (.Expr (.Yield _ p) q) => (p, q)
  | _ => (default, default)
def IsY (o : Option Stmt) : Prop := o = some (.Expr (.Yield (some (yE o)) (yP o).1) (yP o).2)

section
variable {prog : Program} {w : World} {A : Around} {R : GenEnd} {Y : Protocol} {n : Nat} {s₀ : Shared} {c : Code} {fs : List Frame} {s : Shared} {env : Env}
  {K : Flow → Sem Fin} {H : Value → Sem Fin} {gd : Bool → Bool} {lv : List Value → List Value} {o : Option Stmt} {l r : List Stmt}
theorem segIf (ho : IsIf o) (h : wpAny (model prog w) (A.over c fs) (isTrue (ifT o) env (eval (ifT o) env)) (fun b s' => Seg (model prog w) A R Y n s₀ c ((execs (if b = true then ifB o else ifE o) env).wrap K H gd lv) fs s') (fun _ _ => False) s) :
    Seg (model prog w) A R Y n s₀ c ((exec (o.getD default) env).wrap K H gd lv) fs s := by
  have e : o.getD default = .If (ifT o) (ifB o) (ifE o) (ifP o) := by unfold IsIf at ho; rw [ho]; rfl
  rw [e]
  exact seg_If h
theorem segStmt {st : Stmt} (h : wpAny (model prog w) (A.over c fs) (exec st env) (fun f s' => Seg (model prog w) A R Y n s₀ c (K f) fs s') (fun _ _ => False) s) :
    Seg (model prog w) A R Y n s₀ c ((exec st env).wrap K H gd lv) fs s :=
  seg_wrap (wpAny_mono h (fun _ _ h' => h') fun _ _ h' => h'.elim)
theorem segExecs (h : wpAny (model prog w) (A.over c fs) (execs l env) (fun f s' => Seg (model prog w) A R Y n s₀ c (K f) fs s') (fun _ _ => False) s) :
    Seg (model prog w) A R Y n s₀ c ((execs l env).wrap K H gd lv) fs s :=
  seg_wrap (wpAny_mono h (fun _ _ h' => h') fun _ _ h' => h'.elim)
theorem segCons {st : Stmt} (hl : l = st :: r) (h : Seg (model prog w) A R Y n s₀ c ((exec st env).wrap (fun f => match f with | .next => (execs r env).wrap K H gd lv | f => K f) H gd lv) fs s) :
    Seg (model prog w) A R Y n s₀ c ((execs l env).wrap K H gd lv) fs s := by rw [hl]; exact seg_execs_cons h
theorem segNil (hl : l = []) (h : Seg (model prog w) A R Y n s₀ c (K .next) fs s) : Seg (model prog w) A R Y n s₀ c ((execs l env).wrap K H gd lv) fs s := by rw [hl]; exact h
theorem segYield (ho : IsY o) (hfs : splitAtGen fs = none) (hgd : gd false = false) (hfg : fs.any Frame.guarded = false) (hco : env.scope.isCoroutine = false) (hi : interactive env = false)
    (h : wpAny (model prog w) (A.over c fs) (eval (yE o) env) (fun v s' => ∀ kap : Resume → Shared → Prop,
        (∀ s'', Seg (model prog w) A R Y n s'' c (K .next) fs s'' → kap (.send .none) s'') → Y n s₀ v s' kap) (fun _ _ => False) s) :
    Seg (model prog w) A R Y (n + 1) s₀ c ((exec (o.getD default) env).wrap K H gd lv) fs s := by
  have e : o.getD default = .Expr (.Yield (some (yE o)) (yP o).1) (yP o).2 := by unfold IsY at ho; rw [ho]; rfl
  rw [e]
  exact seg_Expr_Yield hfs hgd hfg (wpAny_mono h (fun v s' h' kap hk => h' kap fun s'' hs => hk .none s'' hs) fun _ _ x => x.elim) hco hi
end
end Mine
end

section
open PySem PySem.W PySem.Calls PyProof.Rows PySem.Spec
set_option maxRecDepth 100000
set_option maxHeartbeats 8000000
namespace Mine

section
variable {prog : Program} {w : World} {A : Around} {R : GenEnd} {Y : Protocol} {n : Nat} {s₀ : Shared} {cd : Code} {fs : List Frame} {s : Shared} {env : Env}
  {K : Flow → Sem Fin} {H : Value → Sem Fin} {gd : Bool → Bool} {lv : List Value → List Value} {o : Option Stmt} {l r : List Stmt}
theorem segOne {st : Stmt} (hl : l = [st]) (h : Seg (model prog w) A R Y n s₀ cd ((exec st env).wrap K H gd lv) fs s) : Seg (model prog w) A R Y n s₀ cd ((execs l env).wrap K H gd lv) fs s := by
  have e : (execs l env).wrap K H gd lv = (exec st env).wrap K H gd lv := by
    rw [hl]
    exact (execs_cons_wrap st []).trans (Sem.wrap_congr _ _ _ (fun f => by cases f <;> rfl) (fun _ => rfl))
  rw [e]; exact h
theorem segOneIf (hl : l = [o.getD default]) (ho : IsIf o) (h : wpAny (model prog w) (A.over cd fs) (isTrue (ifT o) env (eval (ifT o) env)) (fun b s' => Seg (model prog w) A R Y n s₀ cd ((execs (if b = true then ifB o else ifE o) env).wrap K H gd lv) fs s') (fun _ _ => False) s) :
    Seg (model prog w) A R Y n s₀ cd ((execs l env).wrap K H gd lv) fs s := segOne hl (segIf ho h)
end

theorem yp_out {C : Cfg} {need : Need} {st : List Str} {es : List Out} {m : Str → Option Value} {v : Vl} {bv : Array Value} {nb c n total : Nat} {io : Obj} {T : List (Addr × Obj)} {acc : List Value} {s₀ s₁ : Shared} {u : Value} {o : Out} {kap : Resume → Shared → Prop}
    (X : GS C need st es s₁.heap m v bv nb c io T acc) (he : ErrIn C.g T u o) (hg : s₁.gens = #[GenState.running]) (ho : s₁.os = C.os) (hlen : es.length + 1 + n = total)
    (hk : ∀ h'' c'', GS C need st (es ++ [o]) h'' m v bv nb c'' io T (acc ++ [u]) → kap (.send .none) { s₁ with heap := h'' }) : YP C total n s₀ u s₁ kap :=
  ⟨hg, ho, X.F.keep, (X.N _ (.tail _ (.tail _ (.tail _ X.gen)))).1, X.tne.2 _ X.gen, acc, c, (X.N _ (.tail _ (.head _))).1, by rw [X.err.length]; exact hlen, fun h'' c'' hs hgt => hk h'' c'' (X.push hs hgt he)⟩

section
variable {w : World} {loose : List Str} {mean : ExcName → Option Value} {mg mb : Str → Option Value} {A : Around} {R : GenEnd} {C : Cfg} {total : Nat} {need : Need} {st : List Str} {es : List Out} {m : Str → Option Value} {v : Vl} {bv : Array Value} {nb c : Nat} {io : Obj} {T : List (Addr × Obj)} {acc : List Value}
  {s₀ s : Shared} {cd : Code} {fs : List Frame} {K : Flow → Sem Fin} {H : Value → Sem Fin} {gd : Bool → Bool} {lv : List Value → List Value}
  {k : Int} {x : Str} {tk tx : Tok} {p q : Addr} {b e n' : Nat} {t1 t2 t3 t4 tl : Tok} {line : Str}

theorem seg2 (G : Gnd w loose mean mg mb C.g) (V : Vs m v) (X : GS C need st es s.heap m v bv nb c io T acc) (hg : s.gens = #[GenState.running]) (ho : s.os = C.os)
    (vk : v.k = .int k tk) (vx : v.x = .str x tx) (vp : v.p = .ref p) (hp : IsTup C.g p #[.int 1 t1, .int b t2]) (vq : v.q = .ref q) (hq : IsTup C.g q #[.int 1 t3, .int e t4]) (vl : v.ln = .str line tl)
    (he : e ≤ line.length) (hll : line.length ≤ 1000000) (hr : (reprText x).length ≤ 1000) (hok : ∀ a ∈ st, okB a) (hl2 : st.length ≤ 2) (hu : (A.over cd fs).units + 64 < cLine)
    (hfs : splitAtGen fs = none) (hgd : gd false = false) (hfg : fs.any Frame.guarded = false)
    (hlen : es.length + (out31 st k x b (nextOf line e)).length + n' = total)
    (cont : ∀ s₀' s' m' c' T' acc', Vs m' v → GS C need st (es ++ out31 st k x b (nextOf line e)) s'.heap m' v bv nb c' io T' acc' → s'.gens = #[GenState.running] → s'.os = C.os →
      Seg (model PySem.Challenge.rw_co0044_01.row.toRowW.prog w) A R (YP C total) n' s₀' cd (K .next) fs s') :
    Seg (model PySem.Challenge.rw_co0044_01.row.toRowW.prog w) A R (YP C total) ((out31 st k x b (nextOf line e)).length + n') s₀ cd ((exec ((mwSt 2).getD default) (envM C.L)).wrap K H gd lv) fs s := by
  refine segIf (by exact rfl) (t2a G V X.F X.N vk vx fun h1 k1 F1 N1 => ?_)
  change Seg _ _ _ _ _ _ _ ((execs (if c31 k x = true then _ else _) _).wrap _ _ _ _) _ _
  have e31 : out31 st k x b (nextOf line e) = if c31 k x = true then (if b31 (nextOf line e) = true then (if s31 st x = true then [] else if d31 x (nextOf line e) = true then [] else [⟨b, msg31 x⟩]) else []) else [] := rfl
  cases hc : c31 k x with
  | false =>
    rw [hc, if_neg (by decide)] at e31
    rw [e31] at hlen cont ⊢
    rw [if_neg (by decide)]
    simp only [List.length_nil, Nat.zero_add]
    refine segNil (by exact rfl) (cont _ _ m c T acc V (by rw [List.append_nil]; exact X.to F1 N1) hg ho)
  | true =>
    rw [hc, if_pos rfl] at e31
    rw [if_pos rfl]
    refine segCons (r := [((ifB (mwSt 2))[1]?).getD default]) (by exact rfl) (segStmt (s_nc G V F1 N1 vq vl hq he hll fun h2 k2 m2 tn F2 N2 V2 hnc => ?_))
    show Seg _ _ _ _ _ _ _ ((execs [((ifB (mwSt 2))[1]?).getD default] _).wrap _ _ _ _) _ _
    refine segOneIf (by exact rfl) (by exact rfl) (t2b G V2 F2 N2 hnc fun h3 k3 F3 N3 => ?_)
    change Seg _ _ _ _ _ _ _ ((execs (if b31 (nextOf line e) = true then _ else _) _).wrap _ _ _ _) _ _
    cases hb : b31 (nextOf line e) with
    | false =>
      rw [hb, if_neg (by decide)] at e31
      rw [e31] at hlen cont ⊢
      rw [if_neg (by decide)]
      simp only [List.length_nil, Nat.zero_add]
      refine segNil (by exact rfl) (cont _ _ m2 c T acc V2 (by rw [List.append_nil]; exact { X with F := F3, N := N3 }) hg ho)
    | true =>
      rw [hb, if_pos rfl] at e31
      rw [if_pos rfl]
      refine segOneIf (by exact rfl) (by exact rfl) (t2c G V2 F3 N3 vx X.br hu X.stk hl2 hok fun h4 k4 F4 N4 => ?_)
      change Seg _ _ _ _ _ _ _ ((execs (if s31 st x = true then _ else _) _).wrap _ _ _ _) _ _
      cases hs : s31 st x with
      | true =>
        rw [hs, if_pos rfl] at e31
        rw [e31] at hlen cont ⊢
        rw [if_pos rfl]
        simp only [List.length_nil, Nat.zero_add]
        refine segExecs (s_pass1 G V2 F4 N4 fun h5 k5 F5 N5 => cont _ _ m2 c T acc V2 (by rw [List.append_nil]; exact { X with F := F5, N := N5 }) hg ho)
      | false =>
        rw [hs, if_neg (by decide)] at e31
        rw [if_neg (by decide)]
        refine segOneIf (by exact rfl) (by exact rfl) (t2d G V2 F4 N4 vx X.br hu X.stk hl2 hok fun h5 k5 F5 N5 => ?_)
        rw [if_neg (by decide)]
        refine segOneIf (by exact rfl) (by exact rfl) (t2e G V2 F5 N5 vx X.br hu X.stk hl2 hok fun h6 k6 F6 N6 => ?_)
        rw [if_neg (by decide)]
        refine segOneIf (by exact rfl) (by exact rfl) (t2f G V2 F6 N6 vx hnc fun h7 k7 F7 N7 => ?_)
        change Seg _ _ _ _ _ _ _ ((execs (if d31 x (nextOf line e) = true then _ else _) _).wrap _ _ _ _) _ _
        cases hd : d31 x (nextOf line e) with
        | true =>
          rw [hd, if_pos rfl] at e31
          rw [e31] at hlen cont ⊢
          rw [if_pos rfl]
          simp only [List.length_nil, Nat.zero_add]
          refine segExecs (s_pass2 G V2 F7 N7 fun h8 k8 F8 N8 => cont _ _ m2 c T acc V2 (by rw [List.append_nil]; exact { X with F := F8, N := N8 }) hg ho)
        | false =>
          rw [hd, if_neg (by decide)] at e31
          rw [e31] at hlen cont ⊢
          rw [if_neg (by decide)]
          simp only [List.length_cons, List.length_nil, Nat.zero_add] at hlen ⊢
          rw [Nat.add_comm 1 n']
          refine segOne (st := (((ifE ((ifE ((ifE ((ifE ((ifB ((ifB (mwSt 2))[1]?))[0]?))[0]?))[0]?))[0]?))[0]?).getD default)) (by exact rfl) (segYield (by exact rfl) hfs hgd hfg (by exact rfl) (by exact rfl) (y31 G V2 F7 N7 vp vx hr fun h8 k8 t tt F8 N8 => ?_))
          intro kap hk
          have X8 : GS C need st es h8 m2 v bv nb c io ((t, tupOf [.ref p, .str (msg31 x) tt]) :: T) acc := GS.more { X with F := F7, N := N7 } F8 N8
          exact yp_out X8 ⟨t, p, tt, t1, t2, rfl, .head _, hp⟩ hg ho (by omega) fun h'' c'' X9 => hk _ (cont _ _ _ _ _ _ V2 X9 hg ho)
end
end Mine
end

section
open PySem PySem.W PySem.Calls PyProof.Rows PySem.Spec
set_option maxRecDepth 100000
set_option maxHeartbeats 8000000
namespace Mine

theorem Vl.same {v : Vl} {u : Value} (h : v.need = u) : { v with need := u } = v := by subst h; rfl

section
variable {w : World} {loose : List Str} {mean : ExcName → Option Value} {mg mb : Str → Option Value} {A : Around} {g : Heap} {L aB : Addr} {nb : Nat} {led : List (Addr × Obj)} {s : Shared} {m : Str → Option Value} {v : Vl} {bv : Array Value} {st : List Str} {x y : Str} {tx ty tp : Tok} {pt : Int} {Q : Flow → Shared → Prop}
def pre9 (st : List Str) (pt : Int) (y x : Str) : Value :=
  if kwEq st x = true then .bool false else if ins needed x = true then .bool true else if ins unary x = true then (if binOp pt y = true then .none else .bool false) else if ins optional x = true then .none else .bool false
theorem st9 (G : Gnd w loose mean mg mb g) (V : Vs m v) (F : Fr g L s.heap m) (N : News g L s.heap ((aB, W.listOf bv nb) :: led)) (vx : v.x = .str x tx) (vb : v.br = .ref aB) (vpx : v.px = .str y ty) (vpt : v.pt = .int pt tp) (vn : v.need = .bool false)
    (hu : A.units + 64 < cLine) (hst : StrsAre bv.toList st) (hl : st.length ≤ 2) (hok : ∀ a ∈ st, okB a) (hroom : A.depth < 595)
    (hQ : ∀ h' tk' m', Fr g L h' m' → News g L h' ((aB, W.listOf bv nb) :: led) → Vs m' { v with need := pre9 st pt y x } → Q .next { s with heap := h', toks := tk' }) :
    wpAny (model PySem.Challenge.rw_co0044_01.row.toRowW.prog w) A (exec (((ifB ((ifE (mwSt 3))[0]?))[0]?).getD default) (envM L)) Q (fun _ _ => False) s := by
  refine wpIf (by exact rfl) (t3j G V F N vx vb hu hst hl hok fun h1 k1 F1 N1 => ?_)
  change wpAny _ _ (execs (if kwEq st x = true then _ else _) _) _ _ _
  cases q1 : kwEq st x with
  | true =>
    have e : pre9 st pt y x = .bool false := by rw [pre9, if_pos q1]
    rw [e, Vl.same vn] at hQ
    rw [if_pos rfl]
    exact s_pass4 G V F1 N1 fun h2 k2 F2 N2 => hQ _ _ _ F2 N2 V
  | false =>
    rw [if_neg (by decide)]
    refine wpOneIf (by exact rfl) (by exact rfl) (t3k G V F1 N1 vx fun h1 k1 F1 N1 => ?_)
    cases q2 : ins needed x with
    | true =>
      have e : pre9 st pt y x = .bool true := by rw [pre9, if_neg (by rw [q1]; decide), if_pos q2]
      rw [e] at hQ
      rw [if_pos rfl]
      exact s_t G V F1 N1 fun h2 k2 m2 F2 N2 V2 => hQ _ _ _ F2 N2 V2
    | false =>
      rw [if_neg (by decide)]
      refine wpOneIf (by exact rfl) (by exact rfl) (t3l G V F1 N1 vx fun h1 k1 F1 N1 => ?_)
      cases q3 : ins unary x with
      | true =>
        rw [if_pos rfl]
        refine wpOneIf (by exact rfl) (by exact rfl) (t3m G V F1 N1 vpx vpt hroom fun h1 k1 F1 N1 => ?_)
        change wpAny _ _ (execs (if binOp pt y = true then _ else _) _) _ _ _
        cases q4 : binOp pt y with
        | true =>
          have e : pre9 st pt y x = .none := by rw [pre9, if_neg (by rw [q1]; decide), if_neg (by rw [q2]; decide), if_pos q3, if_pos q4]
          rw [e] at hQ
          rw [if_pos rfl]
          exact s_n1 G V F1 N1 fun h2 k2 m2 F2 N2 V2 => hQ _ _ _ F2 N2 V2
        | false =>
          have e : pre9 st pt y x = .bool false := by rw [pre9, if_neg (by rw [q1]; decide), if_neg (by rw [q2]; decide), if_pos q3, if_neg (by rw [q4]; decide)]
          rw [e, Vl.same vn] at hQ
          rw [if_neg (by decide)]
          exact wpNil (by exact rfl) (hQ _ _ _ F1 N1 V)
      | false =>
        rw [if_neg (by decide)]
        refine wpOneIf (by exact rfl) (by exact rfl) (t3n G V F1 N1 vx fun h1 k1 F1 N1 => ?_)
        cases q4 : ins optional x with
        | true =>
          have e : pre9 st pt y x = .none := by rw [pre9, if_neg (by rw [q1]; decide), if_neg (by rw [q2]; decide), if_neg (by rw [q3]; decide), if_pos q4]
          rw [e] at hQ
          rw [if_pos rfl]
          exact s_n2 G V F1 N1 fun h2 k2 m2 F2 N2 V2 => hQ _ _ _ F2 N2 V2
        | false =>
          have e : pre9 st pt y x = .bool false := by rw [pre9, if_neg (by rw [q1]; decide), if_neg (by rw [q2]; decide), if_neg (by rw [q3]; decide), if_neg (by rw [q4]; decide)]
          rw [e, Vl.same vn] at hQ
          rw [if_neg (by decide)]
          exact wpNil (by exact rfl) (hQ _ _ _ F1 N1 V)
end

section
variable {w : World} {loose : List Str} {mean : ExcName → Option Value} {mg mb : Str → Option Value} {A : Around} {R : GenEnd} {C : Cfg} {total : Nat} {st : List Str} {es : List Out} {m : Str → Option Value} {v : Vl} {bv : Array Value} {nb c : Nat} {io : Obj} {T : List (Addr × Obj)} {acc : List Value}
  {s₀ s : Shared} {cd : Code} {fs : List Frame} {K : Flow → Sem Fin} {H : Value → Sem Fin} {gd : Bool → Bool} {lv : List Value → List Value}
  {k pt : Int} {x y : Str} {tk tx ty tp : Tok} {p r : Addr} {b pe n' : Nat} {t1 t2 t3 t4 : Tok}

/-- the continuation: the need and what is told -/
abbrev Cont3 (w : World) (A : Around) (R : GenEnd) (C : Cfg) (total : Nat) (st : List Str) (es : List Out) (v : Vl) (bv : Array Value) (nb : Nat) (io : Obj) (cd : Code) (fs : List Frame) (K : Flow → Sem Fin) (n' : Nat) (res : Need × List Out) : Prop :=
  ∀ s₀' s' m' u c' T' acc', Vs m' { v with need := u } → GS C res.1 st (es ++ res.2) s'.heap m' { v with need := u } bv nb c' io T' acc' → s'.gens = #[GenState.running] → s'.os = C.os →
      Seg (model PySem.Challenge.rw_co0044_01.row.toRowW.prog w) A R (YP C total) n' s₀' cd (K .next) fs s'

theorem seg3no (G : Gnd w loose mean mg mb C.g) (V : Vs m v) (X : GS C .no st es s.heap m v bv nb c io T acc) (hg : s.gens = #[GenState.running]) (ho : s.os = C.os)
    (vk : v.k = .int k tk) (vx : v.x = .str x tx) (vp : v.p = .ref p) (hp : IsTup C.g p #[.int 1 t1, .int b t2]) (vpt : v.pt = .int pt tp) (vpx : v.px = .str y ty) (vpe : v.pe = .ref r) (hr : IsTup C.g r #[.int 1 t3, .int pe t4])
    (hok : ∀ a ∈ st, okB a) (hl2 : st.length ≤ 2) (hu : (A.over cd fs).units + 64 < cLine) (hroom : (A.over cd fs).depth < 595)
    (hfs : splitAtGen fs = none) (hgd : gd false = false) (hfg : fs.any Frame.guarded = false) (res : Need × List Out) (hres : res = needStep ⟨.no, pt, some (y, pe), st⟩ k x b)
    (hlen : es.length + res.2.length + n' = total) (cont : Cont3 w A R C total st es v bv nb io cd fs K n' res) :
    Seg (model PySem.Challenge.rw_co0044_01.row.toRowW.prog w) A R (YP C total) (res.2.length + n') s₀ cd ((exec ((mwSt 3).getD default) (envM C.L)).wrap K H gd lv) fs s := by
  have vn : v.need = .bool false := X.need
  have hres' : res = if ([54, 1] : List Int).any (· == k) = true then fresh st pt y x pe b else (.no, []) := hres
  refine segIf (by exact rfl) (t3a_no G V X.F X.N vn fun h1 k1 F1 N1 => ?_)
  rw [if_neg (by decide)]
  obtain ⟨t5, t6, mot⟩ := X.otm
  refine segOneIf (by exact rfl) (by exact rfl) (t3i_some G V F1 (newsAdd N1 (.tail _ (.tail _ (.tail _ mot)))) vk X.ot vpe fun h2 k2 F2 N2 => ?_)
  replace N2 := newsDrop1 N2
  cases hc : ([54, 1] : List Int).any (· == k) with
  | false =>
    rw [hc, if_neg (by decide)] at hres'
    subst hres'
    rw [if_neg (by decide)]
    simp only [List.length_nil, Nat.zero_add]
    exact segNil (by exact rfl) (cont s₀ _ m v.need c T acc V (by rw [List.append_nil]; exact X.to F2 N2) hg ho)
  | true =>
    rw [hc, if_pos rfl] at hres'
    rw [if_pos rfl]
    refine segCons (r := [((ifB ((ifE (mwSt 3))[0]?))[1]?).getD default]) (by exact rfl) (segStmt (st9 G V F2 N2 vx X.br vpx vpt vn hu X.stk hl2 hok hroom fun h3 k3 m3 F3 N3 V3 => ?_))
    show Seg _ _ _ _ _ _ _ ((execs [((ifB ((ifE (mwSt 3))[0]?))[1]?).getD default] _).wrap _ _ _ _) _ _
    have ef : fresh st pt y x pe b = match pre9 st pt y x with | .none => (.opt pe (decide (b ≠ pe)), []) | .bool true => if b = pe then (.no, [⟨pe, m225⟩]) else (.must, []) | _ => (.no, []) := by
      unfold fresh pre9
      repeat' split
      all_goals first | rfl | (exfalso; simp_all; done) | simp_all
    rw [ef] at hres'
    have h3 : pre9 st pt y x = .none ∨ pre9 st pt y x = .bool true ∨ pre9 st pt y x = .bool false := by
      unfold pre9
      repeat' split
      all_goals simp
    rcases h3 with h3 | h3 | h3
    · rw [h3] at hres' V3
      dsimp only at hres'
      subst hres'
      refine segOneIf (by exact rfl) (by exact rfl) (t3o_opt G V3 F3 N3 rfl fun h4 k4 F4 N4 => ?_)
      rw [if_pos rfl]
      simp only [List.length_nil, Nat.zero_add]
      refine segExecs (s_tup G V3 F4 N4 vp vpe hp hr hu fun h5 k5 m5 nd F5 N5 V5 => ?_)
      have X5 : GS C (.opt pe (decide (b ≠ pe))) st es h5 m5 { v with need := .ref nd } bv nb c io ((nd, tupOf [.ref r, .bool (decide (b ≠ pe))]) :: T) acc :=
        have X4 : GS C .no st es h5 m5 v bv nb c io ((nd, tupOf [.ref r, .bool (decide (b ≠ pe))]) :: T) acc := GS.more (h := h5) (m := m5) { X with F := ⟨F5.ns, F5.keep, F5.above⟩, N := newsDrop1 N5 } F5 N5
        { X4 with F := F5, need := ⟨nd, r, t3, t4, rfl, .head _, hr⟩ }
      exact cont s₀ _ m5 (.ref nd) c _ acc V5 (by rw [List.append_nil]; exact X5) hg ho
    · rw [h3] at hres' V3
      dsimp only at hres'
      refine segOneIf (by exact rfl) (by exact rfl) (t3o_must G V3 F3 N3 rfl fun h4 k4 F4 N4 => ?_)
      rw [if_neg (by decide)]
      refine segOneIf (by exact rfl) (by exact rfl) (t3p_must G V3 F4 N4 rfl vp vpe hp hr hu fun h5 k5 F5 N5 => ?_)
      by_cases hb : b = pe
      · rw [if_pos hb] at hres'
        rw [decide_eq_true hb, if_pos rfl]
        subst hres'
        simp only [List.length_cons, List.length_nil, Nat.zero_add] at hlen ⊢
        rw [Nat.add_comm 1 n']
        refine segCons (r := [((ifB ((ifE ((ifB ((ifE (mwSt 3))[0]?))[1]?))[0]?))[1]?).getD default]) (by exact rfl) (segYield (by exact rfl) hfs hgd hfg (by exact rfl) (by exact rfl) (y25c G V3 F5 N5 vpe fun h6 k6 t tt F6 N6 => ?_))
        intro kap hk
        have X6 : GS C .must st es h6 m3 { v with need := .bool true } bv nb c io ((t, tupOf [.ref r, .str m225 tt]) :: T) acc := 
          have X5 : GS C .must st es h5 m3 { v with need := .bool true } bv nb c io T acc := { X with F := F5, N := N5, need := rfl }
          GS.more X5 F6 N6
        refine yp_out (o := ⟨pe, m225⟩) X6 ⟨t, r, tt, t3, t4, rfl, .head _, hr⟩ hg ho (by omega) fun h'' c'' X7 => hk _ ?_
        show Seg _ _ _ _ _ _ _ ((execs [((ifB ((ifE ((ifB ((ifE (mwSt 3))[0]?))[1]?))[0]?))[1]?).getD default] _).wrap _ _ _ _) _ _
        refine segOne (by exact rfl) (segStmt (s_f3 G V3 X7.F X7.N fun h8 k8 m8 F8 N8 V8 => ?_))
        exact cont _ _ m8 (.bool false) c'' _ _ V8 { X7 with F := F8, N := N8, need := rfl } hg ho
      · rw [if_neg hb] at hres'
        rw [decide_eq_false hb, if_neg (by decide)]
        subst hres'
        simp only [List.length_nil, Nat.zero_add]
        exact segNil (by exact rfl) (cont s₀ _ m3 (.bool true) c T acc V3 (by rw [List.append_nil]; exact { X with F := F5, N := N5, need := rfl }) hg ho)
    · rw [h3] at hres' V3
      dsimp only at hres'
      subst hres'
      refine segOneIf (by exact rfl) (by exact rfl) (t3o_no G V3 F3 N3 rfl fun h4 k4 F4 N4 => ?_)
      rw [if_neg (by decide)]
      refine segOneIf (by exact rfl) (by exact rfl) (t3p_no G V3 F4 N4 rfl fun h5 k5 F5 N5 => ?_)
      rw [if_neg (by decide)]
      simp only [List.length_nil, Nat.zero_add]
      exact segNil (by exact rfl) (cont s₀ _ m3 (.bool false) c T acc V3 (by rw [List.append_nil]; exact { X with F := F5, N := N5, need := rfl }) hg ho)

theorem seg3none (G : Gnd w loose mean mg mb C.g) (V : Vs m v) (X : GS C .no st es s.heap m v bv nb c io T acc) (hg : s.gens = #[GenState.running]) (ho : s.os = C.os)
    (vk : v.k = .int k tk) (vpe : v.pe = .none) (cont : Cont3 w A R C total st es v bv nb io cd fs K n' (.no, [])) :
    Seg (model PySem.Challenge.rw_co0044_01.row.toRowW.prog w) A R (YP C total) n' s₀ cd ((exec ((mwSt 3).getD default) (envM C.L)).wrap K H gd lv) fs s := by
  have vn : v.need = .bool false := X.need
  refine segIf (by exact rfl) (t3a_no G V X.F X.N vn fun h1 k1 F1 N1 => ?_)
  rw [if_neg (by decide)]
  obtain ⟨t5, t6, mot⟩ := X.otm
  refine segOneIf (by exact rfl) (by exact rfl) (t3i_none G V F1 (newsAdd N1 (.tail _ (.tail _ (.tail _ mot)))) vk X.ot vpe fun h2 k2 F2 N2 => ?_)
  rw [if_neg (by decide)]
  exact segNil (by exact rfl) (cont s₀ _ m v.need c T acc V (by rw [List.append_nil]; exact X.to F2 (newsDrop1 N2)) hg ho)

theorem seg3must (G : Gnd w loose mean mg mb C.g) (V : Vs m v) (X : GS C .must st es s.heap m v bv nb c io T acc) (hg : s.gens = #[GenState.running]) (ho : s.os = C.os)
    (vx : v.x = .str x tx) (vp : v.p = .ref p) (hp : IsTup C.g p #[.int 1 t1, .int b t2]) (vpx : v.px = .str y ty) (vpe : v.pe = .ref r) (hr : IsTup C.g r #[.int 1 t3, .int pe t4])
    (hu : (A.over cd fs).units + 64 < cLine)
    (hfs : splitAtGen fs = none) (hgd : gd false = false) (hfg : fs.any Frame.guarded = false) (res : Need × List Out) (hres : res = needStep ⟨.must, pt, some (y, pe), st⟩ k x b)
    (hlen : es.length + res.2.length + n' = total) (cont : Cont3 w A R C total st es v bv nb io cd fs K n' res) :
    Seg (model PySem.Challenge.rw_co0044_01.row.toRowW.prog w) A R (YP C total) (res.2.length + n') s₀ cd ((exec ((mwSt 3).getD default) (envM C.L)).wrap K H gd lv) fs s := by
  have vn : v.need = .bool true := X.need
  have hres' : res = if b ≠ pe then (.no, []) else if slash x y = true then (.must, []) else (.no, [⟨pe, m225⟩]) := hres
  refine segIf (by exact rfl) (t3a_must G V X.F X.N vn fun h1 k1 F1 N1 => ?_)
  rw [if_pos rfl]
  refine segOneIf (by exact rfl) (by exact rfl) (t3b G V F1 N1 vp vpe hp hr hu fun h2 k2 F2 N2 => ?_)
  by_cases hb : b ≠ pe
  · rw [if_pos hb] at hres'
    rw [decide_eq_true hb, if_pos rfl]
    subst hres'
    simp only [List.length_nil, Nat.zero_add]
    refine segCons (r := [((ifB ((ifB (mwSt 3))[0]?))[1]?).getD default]) (by exact rfl) (segIf (by exact rfl) (t3c_must G V F2 N2 vn fun h3 k3 F3 N3 => ?_))
    rw [if_neg (by decide)]
    refine segNil (by exact rfl) ?_
    show Seg _ _ _ _ _ _ _ ((execs [((ifB ((ifB (mwSt 3))[0]?))[1]?).getD default] _).wrap _ _ _ _) _ _
    refine segOne (by exact rfl) (segStmt (s_f1 G V F3 N3 fun h8 k8 m8 F8 N8 V8 => ?_))
    exact cont s₀ _ m8 (.bool false) c T acc V8 (by rw [List.append_nil]; exact { X with F := F8, N := N8, need := rfl }) hg ho
  · rw [if_neg hb] at hres'
    rw [decide_eq_false hb, if_neg (by decide)]
    refine segOneIf (by exact rfl) (by exact rfl) (t3d G V F2 N2 vx vpx fun h3 k3 F3 N3 => ?_)
    change Seg _ _ _ _ _ _ _ ((execs (if slash x y = true then _ else _) _).wrap _ _ _ _) _ _
    cases hs : slash x y with
    | true =>
      rw [hs, if_pos rfl] at hres'
      subst hres'
      rw [if_pos rfl]
      simp only [List.length_nil, Nat.zero_add]
      exact segExecs (s_pass3 G V F3 N3 fun h5 k5 F5 N5 => cont s₀ _ m v.need c T acc V (by rw [List.append_nil]; exact X.to F5 N5) hg ho)
    | false =>
      rw [hs, if_neg (by decide)] at hres'
      subst hres'
      rw [if_neg (by decide)]
      simp only [List.length_cons, List.length_nil, Nat.zero_add] at hlen ⊢
      rw [Nat.add_comm 1 n']
      refine segCons (r := [((ifE ((ifE ((ifB (mwSt 3))[0]?))[0]?))[1]?).getD default]) (by exact rfl) (segIf (by exact rfl) (t3e_must G V F3 N3 vn fun h4 k4 F4 N4 => ?_))
      rw [if_pos rfl]
      refine segOne (st := ((ifB ((ifE ((ifE ((ifB (mwSt 3))[0]?))[0]?))[0]?))[0]?).getD default) (by exact rfl) (segYield (by exact rfl) hfs hgd hfg (by exact rfl) (by exact rfl) (y25b G V F4 N4 vpe fun h6 k6 t tt F6 N6 => ?_))
      intro kap hk
      have X6 : GS C .must st es h6 m v bv nb c io ((t, tupOf [.ref r, .str m225 tt]) :: T) acc := GS.more (X.to F4 N4) F6 N6
      refine yp_out (o := ⟨pe, m225⟩) X6 ⟨t, r, tt, t3, t4, rfl, .head _, hr⟩ hg ho (by omega) fun h'' c'' X7 => hk _ ?_
      show Seg _ _ _ _ _ _ _ ((execs [((ifE ((ifE ((ifB (mwSt 3))[0]?))[0]?))[1]?).getD default] _).wrap _ _ _ _) _ _
      refine segOne (by exact rfl) (segStmt (s_f2 G V X7.F X7.N fun h8 k8 m8 F8 N8 V8 => ?_))
      exact cont _ _ m8 (.bool false) c'' _ _ V8 { X7 with F := F8, N := N8, need := rfl } hg ho
end
end Mine
end

section
open PySem PySem.W PySem.Calls PyProof.Rows PySem.Spec
set_option maxRecDepth 100000
set_option maxHeartbeats 8000000
namespace Mine
section
variable {w : World} {loose : List Str} {mean : ExcName → Option Value} {mg mb : Str → Option Value} {A : Around} {R : GenEnd} {C : Cfg} {total : Nat} {st : List Str} {es : List Out} {m : Str → Option Value} {v : Vl} {bv : Array Value} {nb c : Nat} {io : Obj} {T : List (Addr × Obj)} {acc : List Value}
  {s₀ s : Shared} {cd : Code} {fs : List Frame} {K : Flow → Sem Fin} {H : Value → Sem Fin} {gd : Bool → Bool} {lv : List Value → List Value}
  {k pt : Int} {x y : Str} {tk tx ty tp : Tok} {p r : Addr} {b pe n' : Nat} {t1 t2 t3 t4 : Tok}

theorem seg3opt {po : Nat} {bl : Bool} (G : Gnd w loose mean mg mb C.g) (V : Vs m v) (X : GS C (.opt po bl) st es s.heap m v bv nb c io T acc) (hg : s.gens = #[GenState.running]) (ho : s.os = C.os)
    (vx : v.x = .str x tx) (vp : v.p = .ref p) (hp : IsTup C.g p #[.int 1 t1, .int b t2]) (vpx : v.px = .str y ty) (vpe : v.pe = .ref r) (hr : IsTup C.g r #[.int 1 t3, .int pe t4])
    (hu : (A.over cd fs).units + 64 < cLine) (hh : (A.over cd fs).handled = none)
    (hfs : splitAtGen fs = none) (hgd : gd false = false) (hfg : fs.any Frame.guarded = false) (res : Need × List Out) (hres : res = needStep ⟨.opt po bl, pt, some (y, pe), st⟩ k x b)
    (hlen : es.length + res.2.length + n' = total) (cont : Cont3 w A R C total st es v bv nb io cd fs K n' res) :
    Seg (model PySem.Challenge.rw_co0044_01.row.toRowW.prog w) A R (YP C total) (res.2.length + n') s₀ cd ((exec ((mwSt 3).getD default) (envM C.L)).wrap K H gd lv) fs s := by
  obtain ⟨nd, np, u1, u2, vn, mnd, hnp⟩ := X.need
  have mnd' : (nd, tupOf [.ref np, .bool bl]) ∈ (C.aB, W.listOf bv nb) :: (C.S, lstObj acc c) :: (C.It, io) :: T := .tail _ (.tail _ (.tail _ mnd))
  have hres' : res = if b ≠ pe then (.no, if bl = true then [] else [⟨po, m225⟩]) else if slash x y = true then (.opt po bl, [])
      else (.no, if bl = true then [⟨pe, m225⟩] else if (!(y == Str.ofString "**")) = true then [⟨po, optMsg y⟩] else []) := hres
  refine segIf (by exact rfl) (t3a_opt G V X.F (newsAdd X.N mnd') vn hnp hu fun h1 k1 F1 N1 => ?_)
  rw [if_pos rfl]
  replace N1 := newsDrop1 N1
  refine segOneIf (by exact rfl) (by exact rfl) (t3b G V F1 N1 vp vpe hp hr hu fun h2 k2 F2 N2 => ?_)
  by_cases hb : b ≠ pe
  · rw [if_pos hb] at hres'
    rw [decide_eq_true hb, if_pos rfl]
    refine segCons (r := [((ifB ((ifB (mwSt 3))[0]?))[1]?).getD default]) (by exact rfl) (segIf (by exact rfl) (t3c_opt G V F2 (newsAdd N2 mnd') vn hnp hu fun h3 k3 F3 N3 => ?_))
    cases bl with
    | true =>
      rw [if_pos rfl] at hres'
      subst hres'
      simp only [List.length_nil, Nat.zero_add]
      rw [if_neg (by decide)]
      refine segNil (by exact rfl) ?_
      show Seg _ _ _ _ _ _ _ ((execs [((ifB ((ifB (mwSt 3))[0]?))[1]?).getD default] _).wrap _ _ _ _) _ _
      refine segOne (by exact rfl) (segStmt (s_f1 G V F3 (newsDrop1 N3) fun h8 k8 m8 F8 N8 V8 => ?_))
      exact cont s₀ _ m8 (.bool false) c T acc V8 (by rw [List.append_nil]; exact { X with F := F8, N := N8, need := rfl }) hg ho
    | false =>
      rw [if_neg (by decide)] at hres'
      subst hres'
      simp only [List.length_cons, List.length_nil, Nat.zero_add] at hlen ⊢
      rw [Nat.add_comm 1 n', if_pos (by decide)]
      refine segOne (st := ((ifB ((ifB ((ifB (mwSt 3))[0]?))[0]?))[0]?).getD default) (by exact rfl) (segYield (by exact rfl) hfs hgd hfg (by exact rfl) (by exact rfl) (y25a G V F3 N3 vn fun h6 k6 t tt F6 N6 => ?_))
      intro kap hk
      have X6 : GS C (.opt po false) st es h6 m v bv nb c io ((t, tupOf [.ref np, .str m225 tt]) :: T) acc :=
        GS.more (X.to F3 (newsDrop1 N3)) F6 (newsPick N6 (.head _) fun p hp => .tail _ (.tail _ hp))
      refine yp_out (o := ⟨po, m225⟩) X6 ⟨t, np, tt, u1, u2, rfl, .head _, hnp⟩ hg ho (by omega) fun h'' c'' X7 => hk _ ?_
      show Seg _ _ _ _ _ _ _ ((execs [((ifB ((ifB (mwSt 3))[0]?))[1]?).getD default] _).wrap _ _ _ _) _ _
      refine segOne (by exact rfl) (segStmt (s_f1 G V X7.F X7.N fun h8 k8 m8 F8 N8 V8 => ?_))
      exact cont _ _ m8 (.bool false) c'' _ _ V8 { X7 with F := F8, N := N8, need := rfl } hg ho
  · rw [if_neg hb] at hres'
    rw [decide_eq_false hb, if_neg (by decide)]
    refine segOneIf (by exact rfl) (by exact rfl) (t3d G V F2 N2 vx vpx fun h3 k3 F3 N3 => ?_)
    change Seg _ _ _ _ _ _ _ ((execs (if slash x y = true then _ else _) _).wrap _ _ _ _) _ _
    cases hs : slash x y with
    | true =>
      rw [hs, if_pos rfl] at hres'
      subst hres'
      rw [if_pos rfl]
      simp only [List.length_nil, Nat.zero_add]
      exact segExecs (s_pass3 G V F3 N3 fun h5 k5 F5 N5 => cont s₀ _ m v.need c T acc V (by rw [List.append_nil]; exact X.to F5 N5) hg ho)
    | false =>
      rw [hs, if_neg (by decide)] at hres'
      rw [if_neg (by decide)]
      refine segCons (r := [((ifE ((ifE ((ifB (mwSt 3))[0]?))[0]?))[1]?).getD default]) (by exact rfl) (segIf (by exact rfl) (t3e_opt G V F3 (newsAdd N3 mnd') vn hnp hu fun h4 k4 F4 N4 => ?_))
      cases bl with
      | true =>
        rw [if_pos rfl] at hres'
        subst hres'
        rw [if_pos rfl]
        simp only [List.length_cons, List.length_nil, Nat.zero_add] at hlen ⊢
        rw [Nat.add_comm 1 n']
        refine segOne (st := ((ifB ((ifE ((ifE ((ifB (mwSt 3))[0]?))[0]?))[0]?))[0]?).getD default) (by exact rfl) (segYield (by exact rfl) hfs hgd hfg (by exact rfl) (by exact rfl) (y25b G V F4 (newsDrop1 N4) vpe fun h6 k6 t tt F6 N6 => ?_))
        intro kap hk
        have X6 : GS C (.opt po true) st es h6 m v bv nb c io ((t, tupOf [.ref r, .str m225 tt]) :: T) acc := GS.more (X.to F4 (newsDrop1 N4)) F6 N6
        refine yp_out (o := ⟨pe, m225⟩) X6 ⟨t, r, tt, t3, t4, rfl, .head _, hr⟩ hg ho (by omega) fun h'' c'' X7 => hk _ ?_
        show Seg _ _ _ _ _ _ _ ((execs [((ifE ((ifE ((ifB (mwSt 3))[0]?))[0]?))[1]?).getD default] _).wrap _ _ _ _) _ _
        refine segOne (by exact rfl) (segStmt (s_f2 G V X7.F X7.N fun h8 k8 m8 F8 N8 V8 => ?_))
        exact cont _ _ m8 (.bool false) c'' _ _ V8 { X7 with F := F8, N := N8, need := rfl } hg ho
      | false =>
        rw [if_neg (by decide)] at hres'
        rw [if_neg (by decide)]
        refine segOneIf (by exact rfl) (by exact rfl) (t3f G V F4 (newsDrop1 N4) vpx fun h5 k5 F5 N5 => ?_)
        cases hst : (!(y == Str.ofString "**")) with
        | false =>
          rw [hst, if_neg (by decide)] at hres'
          subst hres'
          rw [if_neg (by decide)]
          simp only [List.length_nil, Nat.zero_add]
          refine segNil (by exact rfl) ?_
          show Seg _ _ _ _ _ _ _ ((execs [((ifE ((ifE ((ifB (mwSt 3))[0]?))[0]?))[1]?).getD default] _).wrap _ _ _ _) _ _
          refine segOne (by exact rfl) (segStmt (s_f2 G V F5 N5 fun h8 k8 m8 F8 N8 V8 => ?_))
          exact cont s₀ _ m8 (.bool false) c T acc V8 (by rw [List.append_nil]; exact { X with F := F8, N := N8, need := rfl }) hg ho
        | true =>
          rw [hst, if_pos rfl] at hres'
          subst hres'
          rw [if_pos rfl]
          simp only [List.length_cons, List.length_nil, Nat.zero_add] at hlen ⊢
          rw [Nat.add_comm 1 n']
          have fin : ∀ (s₀ : Shared) h6 k6 t tt m6 (V6 : Vs m6 v) (F6 : Fr C.g C.L h6 m6) (N6 : News C.g C.L h6 ((t, tupOf [.ref np, .str (optMsg y) tt]) :: (nd, tupOf [.ref np, .bool false]) :: (C.aB, W.listOf bv nb) :: (C.S, lstObj acc c) :: (C.It, io) :: T)) (kap : Resume → Shared → Prop),
              (∀ s'', Seg (model PySem.Challenge.rw_co0044_01.row.toRowW.prog w) A R (YP C total) n' s'' cd ((execs [((ifE ((ifE ((ifB (mwSt 3))[0]?))[0]?))[1]?).getD default] (envM C.L)).wrap K H gd lv) fs s'' → kap (.send .none) s'') → YP C total n' s₀ (.ref t) { s with heap := h6, toks := k6 } kap := by
            intro s₀ h6 k6 t tt m6 V6 F6 N6 kap hk
            have X6 : GS C (.opt po false) st es h6 m6 v bv nb c io ((t, tupOf [.ref np, .str (optMsg y) tt]) :: T) acc :=
              have X0 : GS C (.opt po false) st es h6 m6 v bv nb c io T acc := { X with F := F6, N := newsDrop2 N6 }
              GS.more X0 F6 (newsPick N6 (.head _) fun p hp => .tail _ (.tail _ hp))
            refine yp_out (o := ⟨po, optMsg y⟩) X6 ⟨t, np, tt, u1, u2, rfl, .head _, hnp⟩ hg ho (by omega) fun h'' c'' X7 => hk _ ?_
            refine segOne (by exact rfl) (segStmt (s_f2 G V6 X7.F X7.N fun h8 k8 m8 F8 N8 V8 => ?_))
            exact cont _ _ m8 (.bool false) c'' _ _ V8 { X7 with F := F8, N := N8, need := rfl } hg ho
          refine segCons (r := [((ifB ((ifE ((ifE ((ifE ((ifB (mwSt 3))[0]?))[0]?))[0]?))[0]?))[1]?).getD default, ((ifB ((ifE ((ifE ((ifE ((ifB (mwSt 3))[0]?))[0]?))[0]?))[0]?))[2]?).getD default]) (by exact rfl) (segStmt (s_c26 G V F5 N5 hh fun h6 k6 m6 tc to F6 N6 V6 hco hop => ?_))
          show Seg _ _ _ _ _ _ _ ((execs [((ifB ((ifE ((ifE ((ifE ((ifB (mwSt 3))[0]?))[0]?))[0]?))[0]?))[1]?).getD default, ((ifB ((ifE ((ifE ((ifE ((ifB (mwSt 3))[0]?))[0]?))[0]?))[0]?))[2]?).getD default] _).wrap _ _ _ _) _ _
          refine segCons (r := [((ifB ((ifE ((ifE ((ifE ((ifB (mwSt 3))[0]?))[0]?))[0]?))[0]?))[2]?).getD default]) (by exact rfl) (segIf (by exact rfl) (t3g G V6 F6 N6 vpx fun h7 k7 F7 N7 => ?_))
          cases hpc : (y == Str.ofString "%") with
          | true =>
            have em : optMsg y = m228 := by rw [optMsg, if_pos hpc]
            rw [em] at fin
            rw [if_pos rfl]
            refine segExecs (s_c28 G V6 F7 N7 hh fun h8 k8 m8 tc to F8 N8 V8 hco hop => ?_)
            show Seg _ _ _ _ _ _ _ ((execs [((ifB ((ifE ((ifE ((ifE ((ifB (mwSt 3))[0]?))[0]?))[0]?))[0]?))[2]?).getD default] _).wrap _ _ _ _) _ _
            refine segOne (by exact rfl) (segYield (by exact rfl) hfs hgd hfg (by exact rfl) (by exact rfl) (y28 G V8 F8 (newsAdd N8 mnd') vn hco hop fun h9 k9 t tt F9 N9 => ?_))
            exact fin _ _ _ _ _ _ V8 F9 N9
          | false =>
            rw [if_neg (by decide)]
            refine segOneIf (by exact rfl) (by exact rfl) (t3h G V6 F7 N7 vpx fun h8 k8 F8 N8 => ?_)
            change Seg _ _ _ _ _ _ _ ((execs (if (!(ins arith y)) = true then _ else _) _).wrap _ _ _ _) _ _
            cases har : (!(ins arith y)) with
            | true =>
              have em : optMsg y = m227 := by rw [optMsg, if_neg (by rw [hpc]; decide), if_pos har]
              rw [em] at fin
              rw [if_pos rfl]
              refine segExecs (s_c27 G V6 F8 N8 hh fun h8 k8 m8 tc to F8 N8 V8 hco hop => ?_)
              show Seg _ _ _ _ _ _ _ ((execs [((ifB ((ifE ((ifE ((ifE ((ifB (mwSt 3))[0]?))[0]?))[0]?))[0]?))[2]?).getD default] _).wrap _ _ _ _) _ _
              refine segOne (by exact rfl) (segYield (by exact rfl) hfs hgd hfg (by exact rfl) (by exact rfl) (y27 G V8 F8 (newsAdd N8 mnd') vn hco hop fun h9 k9 t tt F9 N9 => ?_))
              exact fin _ _ _ _ _ _ V8 F9 N9
            | false =>
              have em : optMsg y = m226 := by rw [optMsg, if_neg (by rw [hpc]; decide), if_neg (by rw [har]; decide)]
              rw [em] at fin
              rw [if_neg (by decide)]
              refine segNil (by exact rfl) ?_
              show Seg _ _ _ _ _ _ _ ((execs [((ifB ((ifE ((ifE ((ifE ((ifB (mwSt 3))[0]?))[0]?))[0]?))[0]?))[2]?).getD default] _).wrap _ _ _ _) _ _
              refine segOne (by exact rfl) (segYield (by exact rfl) hfs hgd hfg (by exact rfl) (by exact rfl) (y26 G V6 F8 (newsAdd N8 mnd') vn hco hop fun h9 k9 t tt F9 N9 => ?_))
              exact fin _ _ _ _ _ _ V6 F9 N9
end
end Mine
end

section
open PySem PySem.W PySem.Calls PyProof.Rows PySem.Spec
set_option maxRecDepth 100000
set_option maxHeartbeats 8000000
namespace Mine

section
variable {w : World} {loose : List Str} {mean : ExcName → Option Value} {mg mb : Str → Option Value} {A : Around} {R : GenEnd} {C : Cfg} {total : Nat} {st : List Str} {es : List Out} {m : Str → Option Value} {v : Vl} {bv : Array Value} {nb c : Nat} {io : Obj} {T : List (Addr × Obj)} {acc : List Value}
  {s₀ s : Shared} {cd : Code} {fs : List Frame} {K : Flow → Sem Fin} {H : Value → Sem Fin} {gd : Bool → Bool} {lv : List Value → List Value}
  {k pt : Int} {x : Str} {tk tx ty tp : Tok} {p q : Addr} {b pe n' : Nat} {t1 t2 t3 t4 : Tok}

theorem seg3 {need : Need} {prev : Option (Str × Nat)} (G : Gnd w loose mean mg mb C.g) (V : Vs m v) (X : GS C need st es s.heap m v bv nb c io T acc) (hg : s.gens = #[GenState.running]) (ho : s.os = C.os)
    (vk : v.k = .int k tk) (vx : v.x = .str x tx) (vp : v.p = .ref p) (hp : IsTup C.g p #[.int 1 t1, .int b t2]) (vpt : v.pt = .int pt tp) (hprev : PrevIs C.g prev v.px v.pe) (hpn : prev = none → need = .no)
    (hok : ∀ a ∈ st, okB a) (hl2 : st.length ≤ 2) (hu : (A.over cd fs).units + 64 < cLine) (hroom : (A.over cd fs).depth < 595) (hh : (A.over cd fs).handled = none)
    (hfs : splitAtGen fs = none) (hgd : gd false = false) (hfg : fs.any Frame.guarded = false) (res : Need × List Out) (hres : res = needStep ⟨need, pt, prev, st⟩ k x b)
    (hlen : es.length + res.2.length + n' = total) (cont : Cont3 w A R C total st es v bv nb io cd fs K n' res) :
    Seg (model PySem.Challenge.rw_co0044_01.row.toRowW.prog w) A R (YP C total) (res.2.length + n') s₀ cd ((exec ((mwSt 3).getD default) (envM C.L)).wrap K H gd lv) fs s := by
  cases prev with
  | none =>
    have hn := hpn rfl
    subst hn
    have e : res = (.no, []) := hres
    subst e
    simp only [List.length_nil, Nat.zero_add]
    exact seg3none G V X hg ho vk hprev.2 cont
  | some yp =>
    obtain ⟨y, pe⟩ := yp
    obtain ⟨ty, r, t3, t4, vpx, vpe, hr⟩ := hprev
    cases need with
    | no => exact seg3no G V X hg ho vk vx vp hp vpt vpx vpe hr hok hl2 hu hroom hfs hgd hfg res hres hlen cont
    | must => exact seg3must G V X hg ho vx vp hp vpx vpe hr hu hfs hgd hfg res hres hlen cont
    | opt po bl => exact seg3opt G V X hg ho vx vp hp vpx vpe hr hu hh hfs hgd hfg res hres hlen cont

/-- the loop's head: the names that outlast a turn -/
structure Hd (C : Cfg) (σ : MS) (es : List Out) (h : Heap) (io : Obj) : Prop where
  ex : ∃ m v bv nb c T acc, GS C σ.need σ.st es h m v bv nb c io T acc ∧ (∃ t, v.pt = .int σ.ptype t) ∧ PrevIs C.g σ.prev v.px v.pe ∧
    m (Str.ofString "need_space") = some v.need ∧ m (Str.ofString "prev_type") = some v.pt ∧ m (Str.ofString "prev_text") = some v.px ∧ m (Str.ofString "prev_end") = some v.pe ∧ m (Str.ofString "operator_types") = some v.ot ∧ m (Str.ofString "brace_stack") = some v.br
  pn : σ.prev = none → σ.need = .no

structure TkOk (line : Str) (st : List Str) (t : Tk) : Prop where
  kind : t.kind = 1 ∨ t.kind = 2 ∨ t.kind = 3 ∨ t.kind = 54 ∨ t.kind = 4
  lam : t.kind = 1 → t.word ≠ Str.ofString "lambda"
  rep : (reprText t.word).length ≤ 1000
  e : t.kind ≠ 4 → t.e ≤ line.length
  len : (brace st t.kind t.word).length ≤ 2
  ok : ∀ a ∈ brace st t.kind t.word, okB a

theorem needStep_pn {σ : MS} {k : Int} {x : Str} {b : Nat} : True := trivial

theorem seg_turn {line : Str} {tl : Tok} {σ : MS} {t : Tk} (G : Gnd w loose mean mg mb C.g) (V : Vs m v) (X : GS C σ.need σ.st es s.heap m v bv nb c io T acc) (hg : s.gens = #[GenState.running]) (ho : s.os = C.os)
    (vk : v.k = .int t.kind tk) (vx : v.x = .str t.word tx) (vp : v.p = .ref p) (hp : IsTup C.g p #[.int 1 t1, .int t.b t2]) (vq : v.q = .ref q) (hq : IsTup C.g q #[.int 1 t3, .int t.e t4]) (vl : v.ln = .str line tl)
    (vpt : v.pt = .int σ.ptype tp) (hprev : PrevIs C.g σ.prev v.px v.pe) (hpn : σ.prev = none → σ.need = .no)
    (hok : ∀ a ∈ σ.st, okB a) (hl2 : σ.st.length ≤ 2) (ht : TkOk line σ.st t) (hll : line.length ≤ 1000000)
    (hu : (A.over cd fs).units + 64 < cLine) (hroom : (A.over cd fs).depth < 595) (hh : (A.over cd fs).handled = none)
    (hfs : splitAtGen fs = none) (hgd : gd false = false) (hfg : fs.any Frame.guarded = false) (hK : K .cont = K .next) (hTp : True)
    (hlen : es.length + (step line σ t).2.length + n' = total)
    (cont : ∀ s₀' s', Hd C (step line σ t).1 (es ++ (step line σ t).2) s'.heap io → s'.gens = #[GenState.running] → s'.os = C.os →
      Seg (model PySem.Challenge.rw_co0044_01.row.toRowW.prog w) A R (YP C total) n' s₀' cd (K .next) fs s') :
    Seg (model PySem.Challenge.rw_co0044_01.row.toRowW.prog w) A R (YP C total) ((step line σ t).2.length + n') s₀ cd ((execs (forBody (defBody 13)[5]?) (envM C.L)).wrap K H gd lv) fs s := by
  have hk0 : 0 < t.kind := by rcases ht.kind with h | h | h | h | h <;> omega
  refine segCons (r := [(mwSt 1).getD default, (mwSt 2).getD default, (mwSt 3).getD default, (mwSt 4).getD default, (mwSt 5).getD default, (mwSt 6).getD default]) (by exact rfl)
    (segStmt (st0 G V X.F X.N X.ledNe X.stk hok hl2 vk vx X.br hk0 ht.lam fun h1 k1 bv1 nb1 F1 N1 hb1 => ?_))
  show Seg _ _ _ _ _ _ _ ((execs [(mwSt 1).getD default, (mwSt 2).getD default, (mwSt 3).getD default, (mwSt 4).getD default, (mwSt 5).getD default, (mwSt 6).getD default] _).wrap _ _ _ _) _ _
  have X1 : GS C σ.need (brace σ.st t.kind t.word) es h1 m v bv1 nb1 c io T acc := { X with F := F1, N := N1, stk := hb1 }
  by_cases h4 : t.kind = 4
  · have es4 : step line σ t = ({ σ with st := brace σ.st t.kind t.word }, []) := by rw [step, if_pos h4]
    rw [es4] at cont hlen ⊢
    simp only [List.length_nil, Nat.zero_add]
    refine segCons (r := [(mwSt 2).getD default, (mwSt 3).getD default, (mwSt 4).getD default, (mwSt 5).getD default, (mwSt 6).getD default]) (by exact rfl)
      (segIf (by exact rfl) (t1t G V F1 N1 vk h4 fun h2 k2 F2 N2 => ?_))
    rw [if_pos rfl]
    refine segExecs (s_cont G V F2 N2 fun h3 k3 F3 N3 => ?_)
    show Seg _ _ _ _ _ _ _ (K .cont) _ _
    rw [hK]
    exact cont s₀ _ ⟨⟨m, v, bv1, nb1, c, T, acc, by rw [List.append_nil]; exact X1.to F3 N3, ⟨_, vpt⟩, hprev, V.need, V.pt, V.px, V.pe, V.ot, V.br⟩, hpn⟩ hg ho
  · have es5 : step line σ t = (⟨(needStep { σ with st := brace σ.st t.kind t.word } t.kind t.word t.b).1, t.kind, some (t.word, t.e), brace σ.st t.kind t.word⟩,
        out31 (brace σ.st t.kind t.word) t.kind t.word t.b (nextOf line t.e) ++ (needStep { σ with st := brace σ.st t.kind t.word } t.kind t.word t.b).2) := by rw [step, if_neg h4]
    rw [es5] at cont hlen ⊢
    have hk5 : t.kind = 1 ∨ t.kind = 2 ∨ t.kind = 3 ∨ t.kind = 54 := by rcases ht.kind with h | h | h | h | h <;> omega
    refine segCons (r := [(mwSt 2).getD default, (mwSt 3).getD default, (mwSt 4).getD default, (mwSt 5).getD default, (mwSt 6).getD default]) (by exact rfl)
      (segIf (by exact rfl) (t1f G V F1 N1 vk hk5 fun h2 k2 F2 N2 => ?_))
    rw [if_neg (by decide)]
    refine segNil (by exact rfl) ?_
    show Seg _ _ _ _ _ _ _ ((execs [(mwSt 2).getD default, (mwSt 3).getD default, (mwSt 4).getD default, (mwSt 5).getD default, (mwSt 6).getD default] _).wrap _ _ _ _) _ _
    have X2 := X1.to F2 N2
    simp only [List.length_append] at hlen ⊢
    rw [Nat.add_assoc]
    refine segCons (r := [(mwSt 3).getD default, (mwSt 4).getD default, (mwSt 5).getD default, (mwSt 6).getD default]) (by exact rfl)
      (seg2 (n' := (needStep { σ with st := brace σ.st t.kind t.word } t.kind t.word t.b).2.length + n') G V X2 hg ho vk vx vp hp vq hq vl (ht.e h4) hll ht.rep ht.ok ht.len hu hfs hgd hfg (by omega)
        fun s₀3 s3 m3 c3 T3 acc3 V3 X3 hg3 ho3 => ?_)
    show Seg _ _ _ _ _ _ _ ((execs [(mwSt 3).getD default, (mwSt 4).getD default, (mwSt 5).getD default, (mwSt 6).getD default] _).wrap _ _ _ _) _ _
    refine segCons (r := [(mwSt 4).getD default, (mwSt 5).getD default, (mwSt 6).getD default]) (by exact rfl)
      (seg3 (prev := σ.prev) (need := σ.need) (pt := σ.ptype) (k := t.kind) G V3 X3 hg3 ho3 vk vx vp hp vpt hprev hpn ht.ok ht.len hu hroom hh hfs hgd hfg _ rfl (by rw [List.length_append]; omega)
        fun s₀4 s4 m4 u c4 T4 acc4 V4 X4 hg4 ho4 => ?_)
    show Seg _ _ _ _ _ _ _ ((execs [(mwSt 4).getD default, (mwSt 5).getD default, (mwSt 6).getD default] _).wrap _ _ _ _) _ _
    refine segCons (r := [(mwSt 5).getD default, (mwSt 6).getD default]) (by exact rfl) (segStmt (s_pt G V4 X4.F X4.N fun h5 k5 m5 F5 N5 V5 => ?_))
    show Seg _ _ _ _ _ _ _ ((execs [(mwSt 5).getD default, (mwSt 6).getD default] _).wrap _ _ _ _) _ _
    refine segCons (r := [(mwSt 6).getD default]) (by exact rfl) (segStmt (s_px G V5 F5 N5 fun h6 k6 m6 F6 N6 V6 => ?_))
    show Seg _ _ _ _ _ _ _ ((execs [(mwSt 6).getD default] _).wrap _ _ _ _) _ _
    refine segOne (by exact rfl) (segStmt (s_pe G V6 F6 N6 fun h7 k7 m7 F7 N7 V7 => ?_))
    refine cont s₀4 _ ⟨⟨m7, _, bv1, nb1, c4, T4, acc4, ?_, ⟨tk, vk⟩, ⟨tx, q, t3, t4, vx, vq, hq⟩, V7.need, V7.pt, V7.px, V7.pe, V7.ot, V7.br⟩, fun e => by cases e⟩ hg4 ho4
    rw [← List.append_assoc]
    exact { X4 with F := F7, N := N7 }
end
end Mine
end

section
open PySem PySem.W PySem.Calls PyProof.Rows PySem.Spec
set_option maxRecDepth 100000
set_option maxHeartbeats 8000000
namespace Mine
local macro_rules | `(tactic| k_all) => `(tactic| assumption)
local macro_rules | `(tactic| walk_at "ite") => `(tactic| (k_closed; first | ((with_reducible refine' ite_pos ?hc ?_); (case hc => k_dflt decide)) | ((with_reducible refine' ite_neg ?hc ?_); (case hc => k_dflt decide))))
local macro_rules | `(tactic| walk_at "assign Tuple") => `(tactic| (k_here; (with_reducible show wpAny _ _ (assign (Expr.Tuple _ _ _) _ (Value.ref _)) _ _ _); k_dflt (refine' unpackN_ ?k1 ?k2 ?k3 ?k4 ?k5 ?k6 ?_; (case k1 => k_asm); (case k2 => k_asm); (case k3 => assumption); (case k4 => assumption); (case k5 => exact rfl); (case k6 => exact rfl)); intro h' F' N'; (try k_sweep)))

def forTgt : Option Stmt → Expr
  | some (.For t _ _ _ _) => t
  | _ => .Name "" default
def forIt : Option Stmt → Expr
  | some (.For _ i _ _ _) => i
  | _ => .Name "" default
def tgtElts : Expr → List Expr
  | .Tuple l _ _ => l
  | _ => []
abbrev mwFor : Option Stmt := (defBody 13)[5]?

theorem s_asg {w : World} {loose : List Str} {mean : ExcName → Option Value} {mg mb : Str → Option Value} {A : Around} {s : Shared} {g : Heap} {L a p q : Addr} {led : List (Addr × Obj)} {m : Str → Option Value} {v : Vl} {Q : Unit → Shared → Prop} {k : Int} {x line : Str} {tk tx tl : Tok}
    (G : Gnd w loose mean mg mb g) (F : Fr g L s.heap m) (N : News g L s.heap led) (ht : IsTup g a #[.int k tk, .str x tx, .ref p, .ref q, .str line tl]) (hh : A.handled = none)
    (m1 : m (Str.ofString "need_space") = some v.need) (m2 : m (Str.ofString "prev_type") = some v.pt) (m3 : m (Str.ofString "prev_text") = some v.px) (m4 : m (Str.ofString "prev_end") = some v.pe) (m5 : m (Str.ofString "operator_types") = some v.ot) (m6 : m (Str.ofString "brace_stack") = some v.br)
    (hQ : ∀ h' tk' m', Fr g L h' m' → News g L h' led → Vs m' { v with k := .int k tk, x := .str x tx, p := .ref p, q := .ref q, ln := .str line tl } → Q () { s with heap := h', toks := tk' }) :
    wpAny (model PySem.Challenge.rw_co0044_01.row.toRowW.prog w) A (assign (forTgt mwFor) (envM L) (.ref a)) Q (fun _ _ => False) s := by
  have X' := G.X
  have T' := G.T
  have ht' : IsTup s.heap a #[.int k tk, .str x tx, .ref p, .ref q, .str line tl] := by obtain ⟨o, h1, h2⟩ := ht; exact ⟨o, F.keep _ _ h1, h2⟩
  revert X'
  k_fill
  intro X'
  simp only [envM]
  conv in (forTgt _) => whnf
  conv in (defScope 13) => whnf
  k_unmd
  repeat' walk1
  rename Fr g L _ _ => FE
  rename News g L _ _ => NE
  exact hQ _ _ _ FE NE ⟨rfl, rfl, rfl, rfl, rfl, m1, m2, m3, m4, m5, m6⟩

/-- a token's tuple -/
def TkIs (g : Heap) (line : Str) (v : Value) (t : Tk) : Prop := ∃ a p q tk tx tl t1 t2 t3 t4, v = .ref a ∧ IsTup g a #[.int t.kind tk, .str t.word tx, .ref p, .ref q, .str line tl] ∧ IsTup g p #[.int 1 t1, .int t.b t2] ∧ IsTup g q #[.int 1 t3, .int t.e t4]
inductive TksAre (g : Heap) (line : Str) : List Value → List Tk → Prop
  | nil : TksAre g line [] []
  | cons {v t vs ts} : TkIs g line v t → TksAre g line vs ts → TksAre g line (v :: vs) (t :: ts)
/-- the tokens are as the turns want them -/
def AllOk (line : Str) : MS → List Tk → Prop
  | _, [] => True
  | σ, t :: ts => TkOk line σ.st t ∧ AllOk line (step line σ t).1 ts

def FinP (C : Cfg) (E : List Out) (s : Shared) : Prop := s.gens = #[GenState.running] ∧ s.os = C.os ∧ ∃ T acc c, (∀ b o, C.g.get? b = some o → s.heap.get? b = some o) ∧ s.heap.get? C.S = some (lstObj acc c) ∧ (∀ p ∈ T, s.heap.get? p.1 = some p.2) ∧ ErrsIn C.g T acc E

section
variable {w : World} {loose : List Str} {mean : ExcName → Option Value} {mg mb : Str → Option Value} {A : Around} {R : GenEnd} {C : Cfg} {E : List Out} {line : Str} {aT : Addr} {vs : List Value} {fs : List Frame}

theorem seg_loop (G : Gnd w loose mean mg mb C.g) (hl : C.g.IsList aT vs.toArray) (hll : line.length ≤ 1000000)
    (hu : (A.over (.forLoop (forTgt mwFor) (.ref C.It) (forBody mwFor) [] (envM C.L)) fs).units + 64 < cLine) (hroom : (A.over (.forLoop (forTgt mwFor) (.ref C.It) (forBody mwFor) [] (envM C.L)) fs).depth < 595)
    (hh : (A.over (.forLoop (forTgt mwFor) (.ref C.It) (forBody mwFor) [] (envM C.L)) fs).handled = none) (hfs : splitAtGen fs = none) (hfg : fs.any Frame.guarded = false)
    (fin : ∀ s₀' s', FinP C E s' → Seg (model PySem.Challenge.rw_co0044_01.row.toRowW.prog w) A R (YP C E.length) 0 s₀' (.block [] (envM C.L)) (.pure (.done .next)) fs s') :
    ∀ (ts : List Tk) (i : Nat) (σ : MS) (es : List Out) (s₀ s : Shared) (io : Obj), Hd C σ es s.heap io → s.gens = #[GenState.running] → s.os = C.os → io.cls = .type "list_iterator" → io.data = .fields #[.ref aT, .int i 0] →
      TksAre C.g line (vs.drop i) ts → AllOk line σ ts → (∀ a ∈ σ.st, okB a) → σ.st.length ≤ 2 → es ++ mw line σ ts = E →
      Seg (model PySem.Challenge.rw_co0044_01.row.toRowW.prog w) A R (YP C E.length) (mw line σ ts).length s₀ (.forLoop (forTgt mwFor) (.ref C.It) (forBody mwFor) [] (envM C.L)) ((model PySem.Challenge.rw_co0044_01.row.toRowW.prog w).den (.forLoop (forTgt mwFor) (.ref C.It) (forBody mwFor) [] (envM C.L))) fs s := by
  intro ts
  induction ts with
  | nil =>
    intro i σ es s₀ s io hd hg ho hic hid hts hok hst hst2 hE
    obtain ⟨⟨m, v, bv, nb, c, T, acc, X, _⟩, _⟩ := hd
    have hx : vs.toArray[i]? = none := by
      generalize hv : vs.drop i = r at hts
      cases hts
      have := List.drop_eq_nil_iff.mp hv
      simp; omega
    have PI := X.N (C.It, io) (.tail _ (.tail _ (.head _)))
    refine seg_forLoop (wpAny_pyNext_list_end hh ⟨io, PI.1, hic, hid⟩ (hl := by obtain ⟨o, h1, h2⟩ := hl; exact ⟨o, X.F.keep _ _ h1, h2⟩) hx fun h' he => ?_)
    refine fin _ _ ⟨hg, ho, T, acc, c, fun b o e => he b o (fun q => by rw [q, PI.2.2] at e; cases e) (X.F.keep _ _ e), he _ _ (Ne.symm X.n3) (X.N _ (.tail _ (.head _))).1, fun p hp => ?_, ?_⟩
    · refine he _ _ (fun q => ?_) (X.N p (.tail _ (.tail _ (.tail _ hp)))).1
      have z := (X.N p (.tail _ (.tail _ (.tail _ hp)))).1
      rw [q, PI.1] at z
      have e := (Option.some.inj z).symm
      rcases X.tup p hp with k | k <;> (rw [e, hic] at k; exact absurd (Value.type.inj k) (by decide))
    · have : es = E := by rw [← hE]; simp [mw]
      rw [← this]; exact X.err
  | cons t ts ih =>
    intro i σ es s₀ s io hd hg ho hic hid hts hok hst hst2 hE
    obtain ⟨⟨m, v, bv, nb, c, T, acc, X, ⟨tp, vpt⟩, hprev, m1, m2, m3, m4, m5, m6⟩, hpn⟩ := hd
    generalize hv : vs.drop i = r at hts
    cases hts with
    | @cons v0 _ vr _ ht hts =>
    obtain ⟨a, p, q, tk, tx, tl, t1, t2, t3, t4, rfl, hta, htp, htq⟩ := ht
    have hx : vs.toArray[i]? = some (.ref a) := by
      have : vs[i]? = (vs.drop i)[0]? := by simp
      rw [hv] at this
      simpa using this
    have hdrop : vs.drop (i + 1) = vr := by
      have : (vs.drop i).drop 1 = vs.drop (i + 1) := by rw [List.drop_drop]
      rw [← this, hv]; rfl
    have PI := X.N (C.It, io) (.tail _ (.tail _ (.head _)))
    refine seg_forLoop (wpAny_pyNext_list_item ⟨io, PI.1, hic, hid⟩ (hl := by obtain ⟨o, h1, h2⟩ := hl; exact ⟨o, X.F.keep _ _ h1, h2⟩) hx fun h' hit hs => ?_)
    obtain ⟨io', hio1, hio2, hio3⟩ := id hit
    have tneI : ∀ p ∈ T, p.1 ≠ C.It := fun p hp q => by
      have z := (X.N p (.tail _ (.tail _ (.tail _ hp)))).1
      rw [q, PI.1] at z
      have e := (Option.some.inj z).symm
      rcases X.tup p hp with k | k <;> (rw [e, hic] at k; exact absurd (Value.type.inj k) (by decide))
    have F1 := frBut X.F hs PI.2.2 PI.2.1
    have N1 : News C.g C.L h' ((C.aB, W.listOf bv nb) :: (C.S, lstObj acc c) :: (C.It, io') :: T) := fun p hp => by
      rcases List.mem_cons.mp hp with rfl | hp
      · have z := X.N _ (.head _); exact ⟨(hs.2 _ (Ne.symm X.n2)).trans z.1, z.2⟩
      rcases List.mem_cons.mp hp with rfl | hp
      · have z := X.N _ (.tail _ (.head _)); exact ⟨(hs.2 _ (Ne.symm X.n3)).trans z.1, z.2⟩
      rcases List.mem_cons.mp hp with rfl | hp
      · exact ⟨hio1, PI.2⟩
      · have z := X.N p (.tail _ (.tail _ (.tail _ hp))); exact ⟨(hs.2 _ (tneI p hp)).trans z.1, z.2⟩
    refine wpAny_letOwnedTupleGo_listiter (elts := tgtElts (forTgt mwFor)) hit ?_
    refine s_asg G F1 N1 hta hh m1 m2 m3 m4 m5 m6 fun h2 k2 m' F2 N2 V2 => ?_
    have X2 : GS C σ.need σ.st es h2 m' { v with k := .int t.kind tk, x := .str t.word tx, p := .ref p, q := .ref q, ln := .str line tl } bv nb c io' T acc := { X with F := F2, N := N2 }
    have hEl : es.length + (step line σ t).2.length + (mw line (step line σ t).1 ts).length = E.length := by rw [← hE]; simp [mw, Nat.add_assoc]
    rw [show (mw line σ (t :: ts)).length = (step line σ t).2.length + (mw line (step line σ t).1 ts).length by simp [mw]]
    refine seg_turn G V2 X2 hg ho rfl rfl rfl htp rfl htq rfl vpt hprev hpn hst hst2 hok.1 hll hu hroom hh hfs rfl hfg rfl trivial hEl fun s₀' s' hd' hg' ho' => ?_
    refine seg_again rfl (ih (i + 1) _ _ s₀' s' io' hd' hg' ho' hio2 hio3 (by rw [hdrop]; exact hts) hok.2 ?_ ?_ (by rw [List.append_assoc]; exact hE))
    · have : (step line σ t).1.st = brace σ.st t.kind t.word := by unfold step; split <;> rfl
      rw [this]; exact hok.1.ok
    · have : (step line σ t).1.st = brace σ.st t.kind t.word := by unfold step; split <;> rfl
      rw [this]; exact hok.1.len
end
end Mine
end

section
open PySem PySem.W PySem.Calls PyProof.Rows PySem.Spec
set_option maxRecDepth 100000
set_option maxHeartbeats 8000000
namespace Mine
local macro_rules | `(tactic| k_all) => `(tactic| assumption)
local macro_rules | `(tactic| walk_at "ite") => `(tactic| (k_closed; first | ((with_reducible refine' ite_pos ?hc ?_); (case hc => k_dflt decide)) | ((with_reducible refine' ite_neg ?hc ?_); (case hc => k_dflt decide))))

abbrev mwP (i : Nat) : Option Stmt := (defBody 13)[i]?
section
variable {w : World} {loose : List Str} {mean : ExcName → Option Value} {mg mb : Str → Option Value} {A : Around} {s : Shared} {g : Heap} {L : Addr} {led : List (Addr × Obj)} {m : Str → Option Value} {Q : Flow → Shared → Prop}

theorem p0 (G : Gnd w loose mean mg mb g) (F : Fr g L s.heap m) (N : News g L s.heap led)
    (hQ : ∀ h' tk', Fr g L h' (fun y => if y = Str.ofString "need_space" then some (.bool false) else m y) → News g L h' led → Q .next { s with heap := h', toks := tk' }) :
    wpAny (model PySem.Challenge.rw_co0044_01.row.toRowW.prog w) A (exec ((mwP 0).getD default) (envM L)) Q (fun _ _ => False) s := by
  have X' := G.X
  have T' := G.T
  revert X'
  k_fill
  intro X'
  simp only [envM]
  conv in (Option.getD _ _) => whnf
  conv in (defScope 13) => whnf
  k_unmd
  repeat' walk1
  rename Fr g L _ _ => FE
  rename News g L _ _ => NE
  exact hQ _ _ FE NE
theorem p1 (G : Gnd w loose mean mg mb g) (F : Fr g L s.heap m) (N : News g L s.heap led)
    (hQ : ∀ h' tk' t, Fr g L h' (fun y => if y = Str.ofString "prev_type" then some (.int 54 t) else m y) → News g L h' led → Q .next { s with heap := h', toks := tk' }) :
    wpAny (model PySem.Challenge.rw_co0044_01.row.toRowW.prog w) A (exec ((mwP 1).getD default) (envM L)) Q (fun _ _ => False) s := by
  have X' := G.X
  have T' := G.T
  revert X'
  k_fill
  intro X'
  simp only [envM]
  conv in (Option.getD _ _) => whnf
  conv in (defScope 13) => whnf
  k_unmd
  repeat' walk1
  rename Fr g L _ _ => FE
  rename News g L _ _ => NE
  exact hQ _ _ _ FE NE
theorem p2 (G : Gnd w loose mean mg mb g) (F : Fr g L s.heap m) (N : News g L s.heap led)
    (hQ : ∀ h' tk' m', Fr g L h' m' → News g L h' led → m' (Str.ofString "prev_text") = some .none → m' (Str.ofString "prev_end") = some .none → (∀ y, y ≠ Str.ofString "prev_text" → y ≠ Str.ofString "prev_end" → m' y = m y) → Q .next { s with heap := h', toks := tk' }) :
    wpAny (model PySem.Challenge.rw_co0044_01.row.toRowW.prog w) A (exec ((mwP 2).getD default) (envM L)) Q (fun _ _ => False) s := by
  have X' := G.X
  have T' := G.T
  revert X'
  k_fill
  intro X'
  simp only [envM]
  conv in (Option.getD _ _) => whnf
  conv in (defScope 13) => whnf
  k_unmd
  repeat' walk1
  rename Fr g L _ _ => FE
  rename News g L _ _ => NE
  exact hQ _ _ _ FE NE rfl rfl fun y h1 h2 => by simp [h1, h2]
theorem p3 (G : Gnd w loose mean mg mb g) (F : Fr g L s.heap m) (N : News g L s.heap led)
    (hQ : ∀ h' tk' ot t5 t6, Fr g L h' (fun y => if y = Str.ofString "operator_types" then some (.ref ot) else m y) → News g L h' ((ot, tupOf [.int 54 t5, .int 1 t6]) :: led) → Q .next { s with heap := h', toks := tk' }) :
    wpAny (model PySem.Challenge.rw_co0044_01.row.toRowW.prog w) A (exec ((mwP 3).getD default) (envM L)) Q (fun _ _ => False) s := by
  have X' := G.X
  have T' := G.T
  revert X'
  k_fill
  intro X'
  simp only [envM]
  conv in (Option.getD _ _) => whnf
  conv in (defScope 13) => whnf
  k_unmd
  repeat' walk1
  rename Fr g L _ _ => FE
  rename News g L _ _ => NE
  exact hQ _ _ _ _ _ FE NE
theorem p4 (G : Gnd w loose mean mg mb g) (F : Fr g L s.heap m) (N : News g L s.heap led)
    (hQ : ∀ h' tk' aB nb, Fr g L h' (fun y => if y = Str.ofString "brace_stack" then some (.ref aB) else m y) → News g L h' ((aB, W.listOf #[] nb) :: led) → (∀ p ∈ led, p.1 ≠ aB) → Q .next { s with heap := h', toks := tk' }) :
    wpAny (model PySem.Challenge.rw_co0044_01.row.toRowW.prog w) A (exec ((mwP 4).getD default) (envM L)) Q (fun _ _ => False) s := by
  have X' := G.X
  have T' := G.T
  revert X'
  k_fill
  intro X'
  simp only [envM]
  conv in (Option.getD _ _) => whnf
  conv in (defScope 13) => whnf
  k_unmd
  repeat' walk1
  rename Fr g L _ _ => FE
  rename News g L _ _ => NE
  rename ∀ p ∈ led, p.1 < _ => ltE
  exact hQ _ _ _ _ FE NE (fun p hp => Nat.ne_of_lt (ltE p hp))
theorem p5 {Q : Value → Shared → Prop} {aT : Addr} (F : Fr g L s.heap m) (hm : m (Str.ofString "tokens") = some (.ref aT)) (hQ : Q (.ref aT) s) :
    wpAny (model PySem.Challenge.rw_co0044_01.row.toRowW.prog w) A (eval (forIt mwFor) (envM L)) Q (fun _ _ => False) s := by
  simp only [envM]
  conv in (forIt _) => whnf
  exact ld F hm hQ

theorem seg_start {aT S I : Addr} {go : Obj} {line : Str} {vs : List Value} {ts : List Tk} {c : Nat} {s₀ : Shared}
    (G : Gnd w loose mean mg mb g) (F : Fr g L s.heap m) (N : News g L s.heap [(S, lstObj [] c), (I, go)]) (hgo : go.cls = .type "generator") (hg : s.gens = #[GenState.running]) (hm : m (Str.ofString "tokens") = some (.ref aT))
    (hl : g.IsList aT vs.toArray) (hll : line.length ≤ 1000000) (hu : A.units < 1000) (hroom : A.depth < 540) (hh : A.handled = none)
    (hts : TksAre g line vs ts) (hok : AllOk line ⟨.no, 54, none, []⟩ ts) :
    Seg (model PySem.Challenge.rw_co0044_01.row.toRowW.prog w) A (fun n _ r s₁ => r = .ok (.ret .none) ∧ n = 0 ∧ FinP ⟨g, L, 0, S, 0, 0, I, go, s.os⟩ (mw line ⟨.no, 54, none, []⟩ ts) s₁) (YP ⟨g, L, 0, S, 0, 0, I, go, s.os⟩ (mw line ⟨.no, 54, none, []⟩ ts).length)
      (mw line ⟨.no, 54, none, []⟩ ts).length s₀ (.func (defBody 13) (envM L)) ((model PySem.Challenge.rw_co0044_01.row.toRowW.prog w).den (.func (defBody 13) (envM L))) [] s := by
  refine seg_func ?_
  refine segCons (r := [(mwP 1).getD default, (mwP 2).getD default, (mwP 3).getD default, (mwP 4).getD default, (mwP 5).getD default]) (by exact rfl) (segStmt (p0 G F N fun h1 k1 F1 N1 => ?_))
  show Seg _ _ _ _ _ _ _ ((execs [(mwP 1).getD default, (mwP 2).getD default, (mwP 3).getD default, (mwP 4).getD default, (mwP 5).getD default] _).wrap _ _ _ _) _ _
  refine segCons (r := [(mwP 2).getD default, (mwP 3).getD default, (mwP 4).getD default, (mwP 5).getD default]) (by exact rfl) (segStmt (p1 G F1 N1 fun h2 k2 tp F2 N2 => ?_))
  show Seg _ _ _ _ _ _ _ ((execs [(mwP 2).getD default, (mwP 3).getD default, (mwP 4).getD default, (mwP 5).getD default] _).wrap _ _ _ _) _ _
  refine segCons (r := [(mwP 3).getD default, (mwP 4).getD default, (mwP 5).getD default]) (by exact rfl) (segStmt (p2 G F2 N2 fun h3 k3 m3 F3 N3 ex ee eo => ?_))
  show Seg _ _ _ _ _ _ _ ((execs [(mwP 3).getD default, (mwP 4).getD default, (mwP 5).getD default] _).wrap _ _ _ _) _ _
  refine segCons (r := [(mwP 4).getD default, (mwP 5).getD default]) (by exact rfl) (segStmt (p3 G F3 N3 fun h4 k4 ot t5 t6 F4 N4 => ?_))
  show Seg _ _ _ _ _ _ _ ((execs [(mwP 4).getD default, (mwP 5).getD default] _).wrap _ _ _ _) _ _
  refine segCons (r := [(mwP 5).getD default]) (by exact rfl) (segStmt (p4 G F4 N4 fun h5 k5 aB nb F5 N5 ne5 => ?_))
  show Seg _ _ _ _ _ _ _ ((execs [(mwP 5).getD default] _).wrap _ _ _ _) _ _
  refine segOne (st := .For (forTgt mwFor) (forIt mwFor) (forBody mwFor) [] ((match mwFor with | some (.For _ _ _ _ p) => p | _ => default))) (by exact rfl) (seg_For ?_ (by exact fun _ => rfl))
  refine p5 F5 (aT := aT) (by
    have : m3 (Str.ofString "tokens") = some (.ref aT) := (eo _ (by decide) (by decide)).trans hm
    exact this) ?_
  refine wpAny_pyIter_list (hl := by obtain ⟨o, e1, e2⟩ := hl; exact ⟨o, F5.keep _ _ e1, e2⟩) fun p => ?_
  have l1 : ∀ q ∈ [(aB, W.listOf #[] nb), (ot, tupOf [.int 54 t5, .int 1 t6]), (S, lstObj [] c), (I, go)], q.1 < h5.objs.size := fun q hq => Heap.lt_size (N5 q hq).1
  have F6 := F5.push { cls := .type "list_iterator", data := .fields #[.ref aT, .int 0 0] }
  have hpush : (h5.push { cls := .type "list_iterator", data := .fields #[.ref aT, .int 0 0] }).get? h5.objs.size = some { cls := .type "list_iterator", data := .fields #[.ref aT, .int 0 0] } := Heap.get?_push_size _ rfl
  have hLlt : L < h5.objs.size := by obtain ⟨o, _, _, ho, _⟩ := F5.ns; exact Heap.lt_size ho
  have hgn : g.get? h5.objs.size = none := by
    cases e : g.get? h5.objs.size with
    | none => rfl
    | some o => exact absurd (Heap.lt_size (F5.keep _ _ e)) (Nat.lt_irrefl _)
  have ltB := l1 _ (.head _)
  have ltS := l1 _ (.tail _ (.tail _ (.head _)))
  dsimp only at ltB ltS
  have H : Hd ⟨g, L, aB, S, h5.objs.size, ot, I, go, s.os⟩ ⟨.no, 54, none, []⟩ [] (h5.push { cls := .type "list_iterator", data := .fields #[.ref aT, .int 0 0] }) { cls := .type "list_iterator", data := .fields #[.ref aT, .int 0 0] } := by
    refine ⟨⟨_, ⟨.none, .none, .none, .none, .none, .bool false, .int 54 tp, .none, .none, .ref ot, .ref aB⟩, #[], nb, c, [(ot, tupOf [.int 54 t5, .int 1 t6]), (I, go)], [], ⟨F6, fun q hq => ?_, rfl, rfl, ⟨t5, t6, .head _⟩, rfl, .nil, fun q hq => ?_, .tail _ (.head _), ?_, ?_, ?_, .nil⟩, ⟨tp, rfl⟩, ⟨rfl, rfl⟩, ?_, ?_, ?_, ?_, ?_, rfl⟩, fun _ => rfl⟩
    · rcases List.mem_cons.mp hq with rfl | hq
      · have z := N5 _ (.head _); exact ⟨Heap.get?_push_of_some _ z.1, z.2⟩
      rcases List.mem_cons.mp hq with rfl | hq
      · have z := N5 _ (.tail _ (.tail _ (.head _))); exact ⟨Heap.get?_push_of_some _ z.1, z.2⟩
      rcases List.mem_cons.mp hq with rfl | hq
      · exact ⟨hpush, Nat.ne_of_gt hLlt, hgn⟩
      rcases List.mem_cons.mp hq with rfl | hq
      · have z := N5 _ (.tail _ (.head _)); exact ⟨Heap.get?_push_of_some _ z.1, z.2⟩
      rcases List.mem_cons.mp hq with rfl | hq
      · have z := N5 _ (.tail _ (.tail _ (.tail _ (.head _)))); exact ⟨Heap.get?_push_of_some _ z.1, z.2⟩
      · cases hq
    · rcases List.mem_cons.mp hq with rfl | hq
      · exact .inl rfl
      rcases List.mem_cons.mp hq with rfl | hq
      · exact .inr hgo
      · cases hq
    · exact ne5 _ (.tail _ (.head _))
    · exact Nat.ne_of_gt ltB
    · exact Nat.ne_of_gt ltS
    · exact (eo _ (by decide) (by decide)).trans rfl
    · exact (eo _ (by decide) (by decide)).trans rfl
    · exact ex
    · exact ee
    · rfl
  refine seg_loop (C := ⟨g, L, aB, S, h5.objs.size, ot, I, go, s.os⟩) G hl hll ?_ ?_ ?_ rfl rfl (fun s₀' s' hf => ?_) ts 0 _ [] _ _ _ H hg rfl rfl rfl (by simpa using hts) hok (fun a ha => by cases ha) (by decide) rfl
  · have e1 : Code.cUnits (.func (defBody 13) (envM L)) = 3 := rfl
    have e2 : Code.cUnits (.forLoop (forTgt mwFor) (.ref h5.objs.size) (forBody mwFor) [] (envM L)) = 0 := rfl
    show A.units + (Code.cUnits (.func (defBody 13) (envM L)) + 0) + Code.cUnits (.forLoop (forTgt mwFor) (.ref h5.objs.size) (forBody mwFor) [] (envM L)) + 64 < cLine
    rw [e1, e2]; unfold cLine; omega
  · have e1 : Code.weight (.func (defBody 13) (envM L)) = 1 := rfl
    have e2 : Code.weight (.forLoop (forTgt mwFor) (.ref h5.objs.size) (forBody mwFor) [] (envM L)) = 0 := rfl
    show A.depth + (Code.weight (.func (defBody 13) (envM L)) + 0) + Code.weight (.forLoop (forTgt mwFor) (.ref h5.objs.size) (forBody mwFor) [] (envM L)) < 595
    rw [e1, e2]; omega
  · exact hh
  · refine seg_leaf (.ok .next) ?_
    refine seg_end (.ok (.ret .none)) ⟨rfl, rfl, hf⟩
end
end Mine
end

section
open PySem PySem.W PySem.Calls PyProof.Rows PySem.Spec
set_option maxRecDepth 100000
set_option maxHeartbeats 8000000
namespace Mine

theorem enterGen {w : World} {loose : List Str} {mean : ExcName → Option Value} {mg mb : Str → Option Value} {A : Around} {s : Shared}
    {R : Result → Shared → Prop} {name qual : Str} {params : Arguments} {body : List Stmt} {scope : Scope} {dV kV doc pm cdv ct oc : Value} {an od : Option Addr} {osl : Array (Option Value)} {f : Addr} {args : Args} {binds : List (Str × Value)}
    (G : Gnd w loose mean mg mb s.heap)
    (ho : (hd.heap_39 w.params).lookup f = some ⟨oc, od, .func (fnOf name qual params body scope dV kV doc pm an cdv ct), osl⟩) (hcd : codeIn (hd.heap_39 w.params) cdv qual = true) (hroom : A.depth < recursionLimit)
    (hbind : BindsTo s (fnOf name qual params body scope dV kV doc pm an cdv ct) args binds) (hloc : ∀ y ∈ binds, scope.names.lookup y.1 = some .local)
    (h : ∀ h₁ tk go, Fr s.heap s.heap.objs.size h₁ (fun y => binds.reverse.lookup y) → go.cls = .type "generator" → (h₁.push go).get? h₁.objs.size = some go → (h₁.push go).IsGen h₁.objs.size s.gens.size →
      R (.ok (.ret (.ref h₁.objs.size))) { s with gens := s.gens.push (.fresh (.func body (envOf qual scope s.heap.objs.size f cdv))), toks := tk, heap := h₁.push go })
    (hco : scope.isCoroutine = false) (hgen : scope.isGenerator = true) (hk : scope.kind = .function)
    (hcell : ∀ x ∈ scope.names, x.2 ≠ .cell) : codeAny (model PySem.Challenge.rw_co0044_01.row.toRowW.prog w) A (.call (.ref f) args) R s := by
  refine codeAny_call_generator (fd := fnOf name qual params body scope dV kV doc pm an cdv ct) (body := body) hroom (G.X _ _ ho) rfl hco hgen rfl (codeRec_of G.X hcd) (hbind _ _ _ _ ?_)
  refine wpAny_newFunctionEnv hcell hloc (fun h₀ hns₀ hsb₀ => ?_) hk
  have kk : Sub s.heap h₀ := fun b o e => hsb₀.extBut b o (Nat.ne_of_lt (Heap.lt_size e)) (Heap.get?_push_of_some _ e)
  refine ⟨G.T.nolimit.keeps kk, ?_⟩
  exact h h₀ _ _ ⟨hns₀, kk, Nat.le_refl _⟩ rfl (Heap.get?_push_size _ rfl) ⟨_, _, _, Heap.get?_push_size _ rfl, rfl, rfl, rfl⟩

theorem gen_call {w : World} {loose : List Str} {mean : ExcName → Option Value} {mg mb : Str → Option Value} {A : Around} {s : Shared} {R : Result → Shared → Prop} {line : Str} {tl : Tok} {aT : Addr}
    (G : Gnd w loose mean mg mb s.heap) (hroom : A.depth < 595)
    (h : ∀ h₁ tk go, Fr s.heap s.heap.objs.size h₁ (fun y => [(Str.ofString "logical_line", Value.str line tl), (Str.ofString "tokens", Value.ref aT)].reverse.lookup y) → go.cls = .type "generator" → (h₁.push go).get? h₁.objs.size = some go → (h₁.push go).IsGen h₁.objs.size s.gens.size →
      R (.ok (.ret (.ref h₁.objs.size))) { s with gens := s.gens.push (.fresh (.func (defBody 13) (envM s.heap.objs.size))), toks := tk, heap := h₁.push go }) :
    codeAny (model PySem.Challenge.rw_co0044_01.row.toRowW.prog w) A (.call (.ref 85) ⟨[.str line tl, .ref aT], []⟩) R s := by
  have XG := G.X
  revert XG
  k_fill
  intro XG
  refine' enterGen (binds := [(Str.ofString "logical_line", Value.str line tl), (Str.ofString "tokens", Value.ref aT)]) G ?k6 ?k7 ?k8 ?k9 ?kB ?main ?c2 ?c3 ?c4 ?c5
  case k6 => k_is
  case k7 => k_is
  case k8 => exact Nat.lt_of_le_of_lt (show A.depth ≤ 595 by omega) (by decide)
  case k9 => exact BindsTo.of_eq rfl
  case kB => exact locs rfl
  case main => exact h
  case c2 => exact rfl
  case c3 => exact rfl
  case c4 => exact rfl
  case c5 => decide
end Mine
end

section
open PySem PySem.W PySem.Calls PyProof.Rows PySem.Spec
set_option maxRecDepth 100000
set_option maxHeartbeats 8000000
namespace Mine

abbrev RP (C : Cfg) (E : List Out) : GenEnd := fun n _ r s₁ => r = .ok (.ret .none) ∧ n = 0 ∧ FinP C E s₁
def GInv (w : World) (A : Around) (C : Cfg) (E : List Out) (i : Nat) (s : Shared) : Prop :=
  s.os = C.os ∧ (∀ b o, C.g.get? b = some o → s.heap.get? b = some o) ∧ s.heap.get? C.I = some C.go ∧ ∃ gs, s.gens = #[gs] ∧
    gs.Goes (model PySem.Challenge.rw_co0044_01.row.toRowW.prog w) A.in1 (RP C E) (YP C E.length) (E.length - i) (.send .none) { s with gens := #[GenState.running] }
def GFin (C : Cfg) (E : List Out) (s : Shared) : Prop := s.gens = #[GenState.finished] ∧ s.os = C.os ∧ ∃ T acc c, (∀ b o, C.g.get? b = some o → s.heap.get? b = some o) ∧ s.heap.get? C.S = some (lstObj acc c) ∧ (∀ p ∈ T, s.heap.get? p.1 = some p.2) ∧ ErrsIn C.g T acc E

theorem gen_feeds {w : World} {loose : List Str} {mean : ExcName → Option Value} {mg mb : Str → Option Value} {A : Around} {C : Cfg} {E : List Out}
    (G : Gnd w loose mean mg mb C.g) (hh : A.handled = none) (hroom : A.depth < 900) (hgo : ∀ h : Heap, h.get? C.I = some C.go → h.IsGen C.I 0) (hIS : C.I ≠ C.S) (hSg : C.g.get? C.S = none) :
    Feeds PySem.Challenge.rw_co0044_01.row.toRowW.prog w A C.I C.S E.length (GInv w A C E) (GFin C E) := by
  constructor
  · intro i s Q Ex hi hI hQ
    obtain ⟨hos, hk, hg, gs, hgs, hgoes⟩ := hI
    obtain ⟨hp, gens, dr, tks, os⟩ := s
    dsimp only at hos hk hg hgs
    subst hgs
    refine wpAny_pyNext_gen (P := fun n _ s₁ => n = 0 ∧ FinP C E s₁) (gs := gs) hh (G.T.nolimit.keeps hk) (Nat.lt_trans hroom (by decide)) (hgo _ hg) (by rfl) hgoes ?_ ?_
    · intro v s₁ gs' hY
      obtain ⟨y1, y2, y3, y4, y5, acc, c, y6, y7, y8⟩ := hY
      obtain ⟨h1, g1, d1, t1, o1⟩ := s₁
      dsimp only at y1 y2 y3 y4 y6 y8
      subst y1
      refine hQ v _ acc c y6 (by omega) fun h'' c'' hs hgt => ?_
      have z := y8 h'' c'' hs hgt
      refine ⟨y2, fun b o e => hs b o (fun q => by rw [q, hSg] at e; cases e) (y3 b o e), hs _ _ y5 y4, gs', rfl, ?_⟩
      obtain ⟨k, hk⟩ : ∃ k, E.length - i = k + 1 := ⟨E.length - i - 1, by omega⟩
      have hk' : E.length - (i + 1) = k := by omega
      rw [hk] at z
      rw [hk']
      exact z
    · rintro s₁ ⟨h0, _⟩
      omega
  · intro s Q Ex hI hQ
    obtain ⟨hos, hk, hg, gs, hgs, hgoes⟩ := hI
    obtain ⟨hp, gens, dr, tks, os⟩ := s
    dsimp only at hos hk hg hgs
    subst hgs
    rw [Nat.sub_self] at hgoes
    refine wpAny_pyNext_gen (P := fun n _ s₁ => n = 0 ∧ FinP C E s₁) (gs := gs) hh (G.T.nolimit.keeps hk) (Nat.lt_trans hroom (by decide)) (hgo _ hg) (by rfl) hgoes ?_ ?_
    · intro v s₁ gs' hY
      obtain ⟨y1, y2, y3, y4, y5, acc, c, y6, y7, y8⟩ := hY
      exfalso
      exact y8 (s₁.heap.update C.S fun _ => lstObj (acc ++ [v]) c) c (fun b o hb e => (Heap.get?_update_other _ _ (Ne.symm hb)).trans e) (Heap.get?_update_self _ y6 rfl)
    · rintro s₁ ⟨_, f1, f2, T, acc, c, f3, f4, f5, f6⟩ h' hk'
      obtain ⟨h1, g1, d1, t1, o1⟩ := s₁
      dsimp only at f1 f2 f3 f4 f5 hk'
      subst f1
      exact hQ _ ⟨rfl, f2, T, acc, c, fun b o e => hk' _ _ (f3 _ _ e), hk' _ _ f4, fun p hp => hk' _ _ (f5 p hp), f6⟩

theorem list_gen {w : World} {loose : List Str} {mean : ExcName → Option Value} {mg mb : Str → Option Value} {A : Around} {g h₁ : Heap} {L aT : Addr} {go : Obj} {s : Shared} {line ll : Str} {tl : Tok} {vs : List Value} {ts : List Tk} {Q : Value → Shared → Prop} {Ex : Value → Shared → Prop}
    (G : Gnd w loose mean mg mb g) (F : Fr g L h₁ (fun y => [(Str.ofString "logical_line", Value.str ll tl), (Str.ofString "tokens", Value.ref aT)].reverse.lookup y)) (hgo : go.cls = .type "generator") (hIg : (h₁.push go).get? h₁.objs.size = some go) (hgi : (h₁.push go).IsGen h₁.objs.size 0)
    (hs : s.heap = h₁.push go) (hsg : s.gens = #[.fresh (.func (defBody 13) (envM L))]) (hl : g.IsList aT vs.toArray) (hll : line.length ≤ 1000000) (hu : A.units < 900) (hroom : A.depth < 530) (hh : A.handled = none)
    (hts : TksAre g line vs ts) (hok : AllOk line ⟨.no, 54, none, []⟩ ts) (hn : (mw line ⟨.no, 54, none, []⟩ ts).length ≤ 100000)
    (hQ : ∀ s' S, g.get? S = none → (∀ b o, s.heap.get? b = some o → b < S) → GFin ⟨g, L, 0, S, 0, 0, h₁.objs.size, go, s.os⟩ (mw line ⟨.no, 54, none, []⟩ ts) s' → Q (.ref S) s') :
    wpAny (model PySem.Challenge.rw_co0044_01.row.toRowW.prog w) A (call (.type "list") [.ref h₁.objs.size]) Q Ex s := by
  obtain ⟨hp, gens, dr, tks, os⟩ := s
  dsimp only at hs hsg
  subst hs hsg
  have kg : Sub g (h₁.push go) := fun b o e => Heap.get?_push_of_some _ (F.keep _ _ e)
  have hSn : g.get? (h₁.push go).objs.size = none := by
    cases e : g.get? (h₁.push go).objs.size with
    | none => rfl
    | some o => exact absurd (Heap.lt_size (kg _ _ e)) (Nat.lt_irrefl _)
  have hIS : h₁.objs.size ≠ (h₁.push go).objs.size := Nat.ne_of_lt (Heap.lt_size hIg)
  have hLS : L < (h₁.push go).objs.size := by
    obtain ⟨o, _, _, ho, _⟩ := F.ns
    exact Heap.lt_size (Heap.get?_push_of_some go ho)
  have hgI : g.get? h₁.objs.size = none := by
    cases e : g.get? h₁.objs.size with
    | none => rfl
    | some o => exact absurd (Heap.lt_size (F.keep _ _ e)) (Nat.lt_irrefl _)
  have hLI : L < h₁.objs.size := by
    obtain ⟨o, _, _, ho, _⟩ := F.ns
    exact Heap.lt_size ho
  refine list_feed (gn := 0) hgi (gen_feeds (A := A.in1.in1) (C := ⟨g, L, 0, (h₁.push go).objs.size, 0, 0, h₁.objs.size, go, os⟩) (E := mw line ⟨.no, 54, none, []⟩ ts) G hh (by show A.depth < 900; omega) ?_ hIS hSn) hn ?_ ?_
  · intro h e
    obtain ⟨o, nm, qn, e1, r⟩ := hgi
    have : o = go := by rw [hIg] at e1; exact (Option.some.inj e1).symm
    subst this
    exact ⟨_, nm, qn, e, r⟩
  · intro h' c hsub hS
    refine ⟨rfl, fun b o e => hsub _ _ (kg _ _ e), hsub _ _ hIg, _, rfl, rfl, ?_⟩
    rw [Nat.sub_zero]
    refine seg_start (A := A.in1.in1.in1) (aT := aT) (c := c) (s := { heap := h', gens := #[GenState.running], drawn := dr, toks := tks, os := os }) G (frSub (frSub F (fun b o e => Heap.get?_push_of_some go e)) hsub) ?_ hgo rfl rfl hl hll (by show A.units + 1 + 1 + 1 < 1000; omega) (by show A.depth < 540; omega) hh hts hok
    intro p hp
    rcases List.mem_cons.mp hp with rfl | hp
    · exact ⟨hS, Nat.ne_of_gt hLS, hSn⟩
    rcases List.mem_cons.mp hp with rfl | hp
    · exact ⟨hsub _ _ hIg, Nat.ne_of_gt hLI, hgI⟩
    · cases hp
  · intro s' hf
    exact hQ s' _ hSn (fun b o e => Heap.lt_size e) hf
end Mine
end

section
open PySem PySem.W PySem.Calls PyProof.Rows PySem.Spec
set_option maxRecDepth 100000
set_option maxHeartbeats 8000000
namespace Mine
local macro_rules | `(tactic| k_all) => `(tactic| assumption)
local macro_rules | `(tactic| walk_at "pyReprObj str") => `(tactic| (refine pyReprObj_str ?_ (hx := ?hx); (case hx => (rw [sizeLine_eq]; omega))))
local macro_rules | `(tactic| walk_at "ite") => `(tactic| (k_closed; first | ((with_reducible refine' ite_pos ?hc ?_); (case hc => k_dflt decide)) | ((with_reducible refine' ite_neg ?hc ?_); (case hc => k_dflt decide))))
local macro_rules | `(tactic| walk_at "assign Tuple") => `(tactic| (k_here; (with_reducible show wpAny _ _ (assign (Expr.Tuple _ _ _) _ (Value.ref _)) _ _ _); k_dflt (refine' unpackN_ ?k1 ?k2 ?k3 ?k4 ?k5 ?k6 ?_; (case k1 => k_asm); (case k2 => k_asm); (case k3 => first | assumption | kun_tup); (case k4 => assumption); (case k5 => exact rfl); (case k6 => exact rfl)); intro h' F' N'; (try k_sweep)))
local macro_rules | `(tactic| walk_at "unpackItems") => `(tactic| (k_here; (with_reducible show wpAny _ _ (unpackItems (Value.ref _) _ _) _ _ _); k_dflt (refine' unpackItemsN_ ?k1 ?k2 ?k3 ?k4 ?k5 ?_; (case k1 => k_asm); (case k2 => k_asm); (case k3 => kun_tup); (case k4 => assumption); (case k5 => exact rfl)); intro h' F' N'; (try k_sweep)))

def dueFor : Option Stmt := (defBody 21)[1]?
def dSt (i : Nat) : Option Stmt := (forBody dueFor)[i]?
abbrev envD (L : Addr) : Env := envOf (Str.ofString "_law_due") (defScope 21) L 122 (.ref 121)

theorem item_G {prog : Program} {w : World} {A : Around} {E : Value → Shared → Prop} {s : Shared} {g : Heap} {L : Addr} {m : Str → Option Value} {value slice : PySem.Expr} {l : Addr} {vs : List Value} {k : Int} {j : Nat} {u : Tok} {v : Value} {Q : Value → Shared → Prop}
    (F : Fr g L s.heap m) (hl : g.IsList l vs.toArray) (hx : vs[j]? = some v) (hj : k = (j : Int)) (hj2 : j < 100000) (h : Q v s)
    (hs : subscripted slice false (.ref l) (.int k u) = operate [.ref l, .int k u] (getItem (.ref l) (.int k u)) := by with_unfolding_all rfl) :
    wpAny (model prog w) A (subscriptTail value slice (.ref l) (.int k u)) Q E s := by
  subst hj
  have hL : s.heap.IsList l vs.toArray := by obtain ⟨o, e1, e2⟩ := hl; exact ⟨o, F.keep _ _ e1, e2⟩
  exact tail_any hL.typeIs slot_list_getitem.lookup (wpAny_getItem_list hL (by omega) (by omega) (by simpa using hx) h) hs
theorem tup_up {g h : Heap} {L a : Addr} {m : Str → Option Value} {items : Array Value} (F : Fr g L h m) (t : IsTup g a items) : IsTup h a items := by obtain ⟨o, e1, e2⟩ := t; exact ⟨o, F.keep _ _ e1, e2⟩
theorem newsCut {g h : Heap} {L : Addr} {x y z} {T : List (Addr × Obj)} (N : News g L h (x :: y :: z :: T)) : News g L h (x :: y :: T) := fun p hp => by
  rcases List.mem_cons.mp hp with rfl | hp
  · exact N _ (.head _)
  rcases List.mem_cons.mp hp with rfl | hp
  · exact N _ (.tail _ (.head _))
  · exact N _ (.tail _ (.tail _ (.tail _ hp)))
theorem dt0 {w : World} {loose : List Str} {mean : ExcName → Option Value} {mg mb : Str → Option Value} {A : Around} {s : Shared} {g : Heap} {L aD aSp a1 a0 : Addr} {nd : Nat} {led : List (Addr × Obj)} {m : Str → Option Value} {Q : Flow → Shared → Prop} {i : Nat} {ti tl x1 x2 x3 x4 y1 y2 y3 y4 : Tok} {line w1 k1 w0 k0 : Str} {b1 e1 b0 e0 : Nat} {svs dv : List Value} {X : Stmt}
    (G : Gnd w loose mean mg mb g) (F : Fr g L s.heap (fun y => if y = Str.ofString "k" then some (.int i ti) else if y = Str.ofString "spans" then some (.ref aSp) else if y = Str.ofString "line" then some (.str line tl) else if y = Str.ofString "due" then some (.ref aD) else m y))
    (N : News g L s.heap ((aD, W.listOf dv.toArray nd) :: led)) (hT : ∀ p ∈ led, p.1 ≠ aD)
    (lS : g.IsList aSp svs.toArray) (h1 : svs[i]? = some (.ref a1)) (h0 : svs[i-1]? = some (.ref a0)) (hi : 0 < i) (hi2 : i < 1000)
    (t1 : IsTup g a1 #[.str w1 x1, .str k1 x2, .int b1 x3, .int e1 x4]) (t0 : IsTup g a0 #[.str w0 y1, .str k0 y2, .int b0 y3, .int e0 y4]) (hb : 0 < b1) (hb2 : b1 ≤ line.length) (he : e1 ≤ line.length) (hll : line.length ≤ 1000000) (hdl : dv.length ≤ 1000) (hh : A.handled = none)
    (hQ : ∀ h' tk' aA aB p1 p2 p3 p4, Fr g L h' (fun y => if y = Str.ofString "ahead" then some (.ref aA) else if y = Str.ofString "behind" then some (.ref aB) else if y = Str.ofString "before" then some (.bool (Txt.item line ((b1 : Int) - 1) == Str.ofString " ")) else if y = Str.ofString "after" then some (.bool (Txt.slice line (some (e1 : Int)) (some ((e1 : Int) + 1)) == Str.ofString " "))
      else if y = Str.ofString "end" then some (.int e1 x4) else if y = Str.ofString "begin" then some (.int b1 x3) else if y = Str.ofString "what" then some (.str k1 x2) else if y = Str.ofString "word" then some (.str w1 x1)
      else if y = Str.ofString "k" then some (.int i ti) else if y = Str.ofString "spans" then some (.ref aSp) else if y = Str.ofString "line" then some (.str line tl) else if y = Str.ofString "due" then some (.ref aD) else m y) →
      News g L h' ((aA, tupOf [.int 1 p1, .int e0 p2]) :: (aB, tupOf [.int 1 p3, .int e1 p4]) :: (aD, W.listOf dv.toArray nd) :: led) → wpAny (model PySem.Challenge.rw_co0044_01.row.toRowW.prog w) A (exec X (envD L)) Q (fun _ _ => False) { s with heap := h', toks := tk' }) :
    wpAny (model PySem.Challenge.rw_co0044_01.row.toRowW.prog w) A (execs ((forBody dueFor).take 4 ++ [X]) (envD L)) Q (fun _ _ => False) s := by
  have X' := G.X
  have T' := G.T
  have t1' := tup_up F t1
  revert X'
  k_fill
  intro X'
  simp only [envD] at hQ ⊢
  conv in (_ ++ _) => whnf
  conv in (defScope 21) => whnf
  k_unmd
  repeat' walk1
  refine item_G (by assumption) lS h1 (by omega) (by omega) ?_
  (try dsimp only)
  repeat' walk1
  refine item_G (j := i - 1) (by assumption) lS h0 (by omega) (by omega) ?_
  (try dsimp only)
  repeat' walk1
  rename Fr g L _ _ => FE
  rename News g L _ _ => NE
  refine wpAny_mono (hQ _ _ _ _ _ _ _ _ FE (newsCut NE)) (fun f s' hf => ?_) fun _ _ x => x
  cases f <;> first | exact hf | exact wpAny_pure hf
end Mine
end

section
open PySem PySem.W PySem.Calls PyProof.Rows PySem.Spec
set_option maxRecDepth 100000
set_option maxHeartbeats 8000000
namespace Mine
local macro_rules | `(tactic| k_all) => `(tactic| assumption)
local macro_rules | `(tactic| walk_at "pyReprObj str") => `(tactic| (refine pyReprObj_str ?_ (hx := ?hx); (case hx => (rw [sizeLine_eq]; omega))))
local macro_rules | `(tactic| walk_at "ite") => `(tactic| (k_closed; first | ((with_reducible refine' ite_pos ?hc ?_); (case hc => k_dflt decide)) | ((with_reducible refine' ite_neg ?hc ?_); (case hc => k_dflt decide))))
local macro_rules | `(tactic| walk_at "assign Tuple") => `(tactic| (k_here; (with_reducible show wpAny _ _ (assign (Expr.Tuple _ _ _) _ (Value.ref _)) _ _ _); k_dflt (refine' unpackN_ ?k1 ?k2 ?k3 ?k4 ?k5 ?k6 ?_; (case k1 => k_asm); (case k2 => k_asm); (case k3 => first | assumption | kun_tup); (case k4 => assumption); (case k5 => exact rfl); (case k6 => exact rfl)); intro h' F' N'; (try k_sweep)))
local macro_rules | `(tactic| walk_at "unpackItems") => `(tactic| (k_here; (with_reducible show wpAny _ _ (unpackItems (Value.ref _) _ _) _ _ _); k_dflt (refine' unpackItemsN_ ?k1 ?k2 ?k3 ?k4 ?k5 ?_; (case k1 => k_asm); (case k2 => k_asm); (case k3 => kun_tup); (case k4 => assumption); (case k5 => exact rfl)); intro h' F' N'; (try k_sweep)))


/-- what is due for one word -/
def dueOne' (w k : Str) (before after : Bool) (nc : Str) (b e e0 : Nat) : List Out :=
  if (ins [Str.ofString "comma", Str.ofString "last"] k && !after && !(ins [Str.ofString "", Str.ofString ")", Str.ofString "]"] nc)) = true then [⟨b, Str.ofString "E231 missing whitespace after " ++ reprText w⟩]
  else if ((k == Str.ofString "both") && !before) = true then [⟨e0, Str.ofString "E225 missing whitespace around operator"⟩]
  else if ((k == Str.ofString "both") && !after) = true then [⟨e, Str.ofString "E225 missing whitespace around operator"⟩]
  else if ((k == Str.ofString "either") && (before != after)) = true then (if before = true then [⟨e, Str.ofString "E225 missing whitespace around operator"⟩] else [⟨e0, Str.ofString "E225 missing whitespace around operator"⟩])
  else if ((k == Str.ofString "either") && !before && (w != Str.ofString "**")) = true then (if (w == Str.ofString "%") = true then [⟨e0, Str.ofString "E228 missing whitespace around modulo operator"⟩] else if ins [Str.ofString "|", Str.ofString ">>", Str.ofString "<<", Str.ofString "^", Str.ofString "&"] w = true then [⟨e0, Str.ofString "E227 missing whitespace around bitwise or shift operator"⟩] else [⟨e0, Str.ofString "E226 missing whitespace around arithmetic operator"⟩])
  else []

theorem dt1 {w : World} {loose : List Str} {mean : ExcName → Option Value} {mg mb : Str → Option Value} {A : Around} {s : Shared} {g : Heap} {L aD aA aB : Addr} {nd : Nat} {led : List (Addr × Obj)} {m : Str → Option Value} {Q : Flow → Shared → Prop} {tl x1 x2 x3 x4 p1 p2 p3 p4 : Tok} {line w1 k1 : Str} {b1 e1 e0 : Nat} {dv : List Value} {before after : Bool}
    (G : Gnd w loose mean mg mb g) (F : Fr g L s.heap (fun y => if y = Str.ofString "ahead" then some (.ref aA) else if y = Str.ofString "behind" then some (.ref aB) else if y = Str.ofString "before" then some (.bool before) else if y = Str.ofString "after" then some (.bool after)
      else if y = Str.ofString "end" then some (.int e1 x4) else if y = Str.ofString "begin" then some (.int b1 x3) else if y = Str.ofString "what" then some (.str k1 x2) else if y = Str.ofString "word" then some (.str w1 x1)
      else if y = Str.ofString "line" then some (.str line tl) else if y = Str.ofString "due" then some (.ref aD) else m y))
    (N : News g L s.heap ((aA, tupOf [.int 1 p1, .int e0 p2]) :: (aB, tupOf [.int 1 p3, .int e1 p4]) :: (aD, W.listOf dv.toArray nd) :: led)) (hT : ∀ p ∈ led, p.1 ≠ aD) (hA : aA ≠ aD) (hB : aB ≠ aD)
    (he : e1 ≤ line.length) (hll : line.length ≤ 1000000) (hdl : dv.length ≤ 1000) (hh : A.handled = none) (hr : (reprText w1).length ≤ 1000)
    (hQ0 : ∀ h' tk' m' led', dueOne' w1 k1 before after (Txt.slice line (some (e1 : Int)) (some ((e1 : Int) + 1))) b1 e1 e0 = [] → Fr g L h' m' → News g L h' led' → (aD, W.listOf dv.toArray nd) ∈ led' → (∀ p ∈ led, p ∈ led') →
      m' (Str.ofString "due") = some (.ref aD) → m' (Str.ofString "line") = some (.str line tl) → m' (Str.ofString "spans") = m (Str.ofString "spans") → Q .next { s with heap := h', toks := tk' })
    (hQ1 : ∀ at_ msg h' tk' m' led' t p tt u1 u2 nd', dueOne' w1 k1 before after (Txt.slice line (some (e1 : Int)) (some ((e1 : Int) + 1))) b1 e1 e0 = [⟨at_, msg⟩] → Fr g L h' m' → News g L h' led' → (aD, W.listOf (dv.toArray.push (.ref t)) nd') ∈ led' →
      (t, tupOf [.ref p, .str msg tt]) ∈ led' → (p, tupOf [.int 1 u1, .int at_ u2]) ∈ led' → (∀ p ∈ led, p ∈ led') →
      m' (Str.ofString "due") = some (.ref aD) → m' (Str.ofString "line") = some (.str line tl) → m' (Str.ofString "spans") = m (Str.ofString "spans") → Q .next { s with heap := h', toks := tk' }) :
    wpAny (model PySem.Challenge.rw_co0044_01.row.toRowW.prog w) A (exec ((dSt 4).getD default) (envD L)) Q (fun _ _ => False) s := by
  have X' := G.X
  have T' := G.T
  revert X'
  k_fill
  intro X'
  simp only [envD]
  conv in (Option.getD _ _) => whnf
  conv in (defScope 21) => whnf
  cases before <;> cases after
  all_goals (k_unmd; repeat' walk1)
  all_goals (
    rename Fr g L _ _ => FE
    rename News g L _ _ => NE
    clear X' T' G
    first
    | exact hQ0 _ _ _ _ (by simp only [dueOne', ins, *]; rfl) FE NE (by k_mem) (fun p hp => by simp only [List.mem_cons]; simp [hp]) rfl rfl rfl
    | exact hQ1 _ _ _ _ _ _ _ _ _ _ _ _ (by simp only [dueOne', ins, *]; rfl) FE NE (by k_mem) (by k_mem) (by k_mem) (fun p hp => by simp only [List.mem_cons]; simp [hp]) rfl rfl rfl)
end Mine
end

section
open PySem PySem.W PySem.Calls PyProof.Rows PySem.Spec
set_option maxRecDepth 100000
set_option maxHeartbeats 8000000
namespace Mine

theorem loopRangeFrom {prog : Program} {w : World} {A : Around} {env : Env} {g : Heap} {L I : Addr} {s : Shared} {m : Str → Option Value} {news : List (Addr × Obj)} {x : Str} {px : Pos} {body : List Stmt} {Q : Flow → Shared → Prop} {E : Value → Shared → Prop} {n i₀ : Nat}
    (hL : env.locals = L) (hh : A.handled = none) (hx : env.kindOf x = some .local) (hp : (env.scope.kind == .class || (env.scope.kind == .module && env.locals != env.globals)) = false) (hi₀ : i₀ ≤ n)
    (F : Fr g L s.heap m) (N : News g L s.heap ((I, rangeIt i₀ ((n : Int) - (i₀ : Int))) :: news)) (hI : ∀ p ∈ news, p.1 ≠ I) (J : Nat → (Str → Option Value) → List (Addr × Obj) → Prop) (hj : J i₀ m news)
    (turn : ∀ i tk₀ m₁ news₁ h tk, i₀ ≤ i → i < n → J i m₁ news₁ → Fr g L h (fun y => if y = x then some (.int i tk₀) else m₁ y) → News g L h ((I, rangeIt ((i + 1 : Nat) : Int) ((n : Int) - ((i + 1 : Nat) : Int))) :: news₁) → (∀ p ∈ news₁, p.1 ≠ I) →
      wpAny (model prog w) A (execs body env) (TurnPost s g L [(I, rangeIt ((i + 1 : Nat) : Int) ((n : Int) - ((i + 1 : Nat) : Int)))] (J (i + 1)))
        (fun _ _ => False) { s with heap := h, toks := tk })
    (done : ∀ m₁ news₁ h tk, J n m₁ news₁ → Fr g L h m₁ → News g L h news₁ → Q .next { s with heap := h, toks := tk }) :
    codeAny (model prog w) A (.forLoop (.Name x px) (.ref I) body [] env) (fun r s' => match r with | .ok f => Q f s' | .error e => E e s') s := by
  subst hL
  refine codeAny_forLoop (fun k s' => ∃ i m₁ news₁ h tk, k = n + 1 - i ∧ i₀ ≤ i ∧ i ≤ n ∧ s' = { s with heap := h, toks := tk } ∧ J i m₁ news₁ ∧ Fr g env.locals h m₁ ∧ News g env.locals h ((I, rangeIt (i : Int) ((n : Int) - (i : Int))) :: news₁) ∧ (∀ p ∈ news₁, p.1 ≠ I)) ?_ (n + 1 - i₀)
    ⟨i₀, m, news, s.heap, s.toks, rfl, Nat.le_refl _, hi₀, rfl, hj, F, N, hI⟩
  rintro k s' ⟨i, m₁, news₁, h, tk, rfl, hi1, hi, rfl, hJ, F₁, N₁, hI₁⟩
  have hit := (N₁ _ (.head _))
  by_cases hlt : i < n
  · refine wpAny_pyNext_range_item (s := { s with heap := h, toks := tk }) hit.1 (by omega) fun h' hit' hs' => ?_
    have F₂ := frBut F₁ hs' hit.2.2 hit.2.1
    have N₂ : News g env.locals h' news₁ := newsBut (fun p hp => N₁ p (.tail _ hp)) hI₁ hs'
    refine wpAny_assign_Name (wpAny_storeName_local (s := { s with heap := h', toks := tk + 1 }) hx F₂.ns (fun h'' hn'' hs'' => ?_) hp)
    have e1 : ((i : Int) + 1) = ((i + 1 : Nat) : Int) := by push_cast; rfl
    have e2 : ((n : Int) - (i : Int) - 1) = ((n : Int) - ((i + 1 : Nat) : Int)) := by push_cast; omega
    rw [e1, e2] at hit'
    have NI : News g env.locals h' ((I, rangeIt ((i + 1 : Nat) : Int) ((n : Int) - ((i + 1 : Nat) : Int))) :: news₁) := fun p hp => by
      rcases List.mem_cons.mp hp with rfl | hp
      · exact ⟨hit', hit.2⟩
      · exact N₂ p hp
    refine wpAny_mono (turn i tk m₁ news₁ h'' (tk + 1 + 1) hi1 hlt hJ (F₂.set hn'' hs'') (NI.set hs'') hI₁) (fun f s₃ z => ?_) fun _ _ z => z.elim
    obtain ⟨rfl, h₃, tk₃, m₃, news₃, rfl, F₃, N₃, hI₃, hJ₃⟩ := z
    exact ⟨n + 1 - (i + 1), by omega, i + 1, m₃, news₃, h₃, tk₃, rfl, by omega, hlt, rfl, hJ₃, F₃, N₃, fun p hp => hI₃ _ (.head _) p hp⟩
  · have : i = n := by omega
    subst this
    refine wpAny_pyNext_range_end (s := { s with heap := h, toks := tk }) hh hit.1 (by omega) fun h' he' => wpAny_execs_nil ?_
    have hs' : SubBut I h h' := fun b o hb e => he' b o hb e
    exact done m₁ news₁ h' tk hJ (frAfter F₁ hs' hit.2.2 hit.2.1) (fun p hp => ⟨hs' _ _ (hI₁ p hp) (N₁ p (.tail _ hp)).1, (N₁ p (.tail _ hp)).2⟩)

structure Sp where
  word : Str
  what : Str
  b : Nat
  e : Nat
def SpIs (g : Heap) (v : Value) (p : Sp) : Prop := ∃ a x1 x2 x3 x4, v = .ref a ∧ IsTup g a #[.str p.word x1, .str p.what x2, .int p.b x3, .int p.e x4]
inductive SpsAre (g : Heap) : List Value → List Sp → Prop
  | nil : SpsAre g [] []
  | cons {v p vs ps} : SpIs g v p → SpsAre g vs ps → SpsAre g (v :: vs) (p :: ps)
theorem SpsAre.length {g vs ps} (h : SpsAre g vs ps) : vs.length = ps.length := by
  induction h with
  | nil => rfl
  | cons _ _ ih => simp [ih]
theorem SpsAre.nth {g : Heap} : ∀ {vs : List Value} {ps : List Sp}, SpsAre g vs ps → ∀ (k : Nat) (p : Sp), ps[k]? = some p → ∃ v, vs[k]? = some v ∧ SpIs g v p
  | _, _, .cons h _, 0, p, e => ⟨_, rfl, by simp at e; exact e ▸ h⟩
  | _, _, .cons _ h, k + 1, p, e => by
    obtain ⟨v, e1, e2⟩ := h.nth k p (by simpa using e)
    exact ⟨v, by simpa using e1, e2⟩
def dueK (line : Str) (sps : List Sp) (k : Nat) : List Out :=
  match sps[k - 1]?, sps[k]? with
  | some p, some s => dueOne' s.word s.what (Txt.item line ((s.b : Int) - 1) == Str.ofString " ") (Txt.slice line (some (s.e : Int)) (some ((s.e : Int) + 1)) == Str.ofString " ") (Txt.slice line (some (s.e : Int)) (some ((s.e : Int) + 1))) s.b s.e p.e
  | _, _ => []
def dueN (line : Str) (sps : List Sp) : Nat → List Out
  | 0 => []
  | j + 1 => dueN line sps j ++ (if j = 0 then [] else dueK line sps j)
theorem dueOne_len {w k : Str} {bf af : Bool} {nc : Str} {b e e0 : Nat} : (dueOne' w k bf af nc b e e0).length ≤ 1 := by
  unfold dueOne'
  repeat' split
  all_goals simp
theorem dueK_len {line : Str} {sps : List Sp} {k : Nat} : (dueK line sps k).length ≤ 1 := by
  unfold dueK
  split
  · exact dueOne_len
  · simp
theorem dueN_len {line : Str} {sps : List Sp} : ∀ n, (dueN line sps n).length ≤ n
  | 0 => by simp [dueN]
  | n + 1 => by
    have := dueN_len (line := line) (sps := sps) n
    have h2 := dueK_len (line := line) (sps := sps) (k := n)
    simp only [dueN, List.length_append]
    split
    · simp; omega
    · omega
def DueIn (T : List (Addr × Obj)) (v : Value) (o : Out) : Prop := ∃ t p tt u1 u2, v = .ref t ∧ (t, tupOf [.ref p, .str o.msg tt]) ∈ T ∧ (p, tupOf [.int 1 u1, .int o.at_ u2]) ∈ T
inductive DuesIn (T : List (Addr × Obj)) : List Value → List Out → Prop
  | nil : DuesIn T [] []
  | cons {v o vs os} : DueIn T v o → DuesIn T vs os → DuesIn T (v :: vs) (o :: os)
theorem DueIn.mono {T T' v o} (h : DueIn T v o) (k : ∀ t vs, (t, tupOf vs) ∈ T → (t, tupOf vs) ∈ T') : DueIn T' v o := let ⟨t, p, a, b, c, e, m, i⟩ := h; ⟨t, p, a, b, c, e, k _ _ m, k _ _ i⟩
theorem DuesIn.mono {T T' vs os} (h : DuesIn T vs os) (k : ∀ t vs, (t, tupOf vs) ∈ T → (t, tupOf vs) ∈ T') : DuesIn T' vs os := by
  induction h with
  | nil => exact .nil
  | cons a _ ih => exact .cons (a.mono k) ih
theorem DuesIn.snoc {T vs os v o} (h : DuesIn T vs os) (e : DueIn T v o) : DuesIn T (vs ++ [v]) (os ++ [o]) := by
  induction h with
  | nil => exact .cons e .nil
  | cons a _ ih => exact .cons a ih
theorem DuesIn.length {T vs os} (h : DuesIn T vs os) : vs.length = os.length := by
  induction h with
  | nil => rfl
  | cons _ _ ih => simp [ih]
end Mine
end

section
open PySem PySem.W PySem.Calls PyProof.Rows PySem.Spec
set_option maxRecDepth 100000
set_option maxHeartbeats 8000000
namespace Mine

theorem rangeCall2 {prog : Program} {w : World} {A : Around} {g : Heap} {L : Addr} {s : Shared} {m : Str → Option Value} {news : List (Addr × Obj)} {Q : Value → Shared → Prop} {E : Value → Shared → Prop} {v : Int} {t t0 : Tok}
    (F : Fr g L s.heap m) (N : News g L s.heap news) (h1 : 1 ≤ v) (h2 : v ≤ 1000000)
    (h : ∀ I h' tk, Fr g L h' m → News g L h' ((I, rangeIt 1 (v - 1)) :: news) → (∀ p ∈ news, p.1 ≠ I) → Q (.ref I) { s with heap := h', toks := tk }) :
    wpAny (model prog w) A (call (.type "range") [.int 1 t0, .int v t]) (fun x s₁ => wpAny (model prog w) A (pyIter x) Q E s₁) E s := by
  refine call_range_2 ?_
  refine wpAny_pyIter_range (IsRange.new ..) (small_one (by decide) (by decide) (by omega) (by omega)) ?_
  have hsz : Builtin.Range.rangeSize 1 v 1 = v - 1 := by rw [rangeSize_one]; split <;> omega
  rw [hsz]
  have F1 := F.push { cls := .type "range", data := .fields #[.int 1 t0, .int v t, .int 1 s.toks] }
  have N1 : News g L (s.heap.push { cls := .type "range", data := .fields #[.int 1 t0, .int v t, .int 1 s.toks] }) news := fun p hp => ⟨Heap.get?_push_of_some _ (N p hp).1, (N p hp).2⟩
  refine h _ _ _ (F1.push _) (News.push F1 N1 _ rfl) fun p hp => ?_
  have := Heap.lt_size (N p hp).1
  rw [Heap.size_push]
  exact Nat.ne_of_lt (Nat.lt_succ_of_lt this)

local macro_rules | `(tactic| k_all) => `(tactic| assumption)
local macro_rules | `(tactic| walk_at "ite") => `(tactic| (k_closed; first | ((with_reducible refine' ite_pos ?hc ?_); (case hc => k_dflt decide)) | ((with_reducible refine' ite_neg ?hc ?_); (case hc => k_dflt decide))))
local macro_rules | `(tactic| walk_at "exec For Name Call cons nil") => `(tactic| (k_here; k_dflt (refine wpAny_For ?_)))
local macro_rules | `(tactic| walk_at "call type:range") => `(tactic| (k_here; k_dflt (refine' rangeCall2 ?F ?N ?z1 ?z2 ?_; (case F => k_asm); (case N => k_asm); (case z1 => omega); (case z2 => omega)); intro I' h' tk' F' N' l1; (try simp only [List.forall_mem_cons, List.mem_append, List.forall_mem_nil, and_true, ne_eq] at l1)))

theorem SpsAre.keeps {g g' : Heap} {vs ps} (h : SpsAre g vs ps) (k : Sub g g') : SpsAre g' vs ps := by
  induction h with
  | nil => exact .nil
  | cons a _ ih =>
    obtain ⟨x, y1, y2, y3, y4, e, q⟩ := a
    exact .cons ⟨x, y1, y2, y3, y4, e, by obtain ⟨o, e1, e2⟩ := q; exact ⟨o, k _ _ e1, e2⟩⟩ ih
structure SpOk (line : Str) (k : Nat) (p : Sp) : Prop where
  b0 : 0 < k → 0 < p.b
  b : p.b ≤ line.length
  e : p.e ≤ line.length
  r : (reprText p.word).length ≤ 1000

def DueJ (aSp : Addr) (line : Str) (tl : Tok) (sps : List Sp) (i : Nat) (m : Str → Option Value) (news : List (Addr × Obj)) : Prop :=
  ∃ aD dv nd T, news = (aD, W.listOf (List.toArray dv) nd) :: T ∧ m (Str.ofString "due") = some (.ref aD) ∧ m (Str.ofString "spans") = some (.ref aSp) ∧ m (Str.ofString "line") = some (.str line tl) ∧ DuesIn T dv (dueN line sps i) ∧ (∀ p ∈ T, p.1 ≠ aD)

theorem due_turn {w : World} {loose : List Str} {mean : ExcName → Option Value} {mg mb : Str → Option Value} {A : Around} {s : Shared} {g h : Heap} {L I aSp : Addr} {line : Str} {tl ti : Tok} {svs : List Value} {sps : List Sp} {i tk : Nat} {io : Obj} {m : Str → Option Value} {news : List (Addr × Obj)}
    (G : Gnd w loose mean mg mb g) (hh : A.handled = none) (lS : g.IsList aSp svs.toArray) (hS : SpsAre g svs sps) (h1 : 1 ≤ i) (hi : i < sps.length) (h2 : sps.length ≤ 1000)
    (hok : ∀ k p, sps[k]? = some p → SpOk line k p) (hll : line.length ≤ 1000000)
    (hJ : DueJ aSp line tl sps i m news) (F : Fr g L h (fun y => if y = Str.ofString "k" then some (.int i ti) else m y)) (N : News g L h ((I, io) :: news)) (hI : ∀ p ∈ news, p.1 ≠ I) (hio : io.cls = .type "range_iterator") :
    wpAny (model PySem.Challenge.rw_co0044_01.row.toRowW.prog w) A (execs (forBody dueFor) (envD L)) (TurnPost s g L [(I, io)] (DueJ aSp line tl sps (i + 1))) (fun _ _ => False) { s with heap := h, toks := tk } := by
  obtain ⟨aD, dv, nd, T, rfl, m1, m2, m3, hdu, hTn⟩ := hJ
  obtain ⟨p1, e1⟩ : ∃ p, sps[i]? = some p := ⟨_, List.getElem?_eq_getElem hi⟩
  obtain ⟨p0, e0⟩ : ∃ p, sps[i - 1]? = some p := ⟨_, List.getElem?_eq_getElem (by omega)⟩
  obtain ⟨v1, f1, a1, x1, x2, x3, x4, rfl, q1⟩ := hS.nth _ _ e1
  obtain ⟨v0, f0, a0, y1, y2, y3, y4, rfl, q0⟩ := hS.nth _ _ e0
  have o1 := hok _ _ e1
  have hdl := hdu.length
  have hdl2 := dueN_len (line := line) (sps := sps) i
  replace F := Fr.know (Fr.know (Fr.know F (x := Str.ofString "due") (v := .ref aD) (by rw [if_neg (by decide)]; exact m1)) (x := Str.ofString "line") (v := .str line tl) (by rw [if_neg (by decide), if_neg (by decide)]; exact m3)) (x := Str.ofString "spans") (v := .ref aSp) (by rw [if_neg (by decide), if_neg (by decide), if_neg (by decide)]; exact m2)
  have e3 : (fun y => if y = Str.ofString "spans" then some (Value.ref aSp) else if y = Str.ofString "line" then some (Value.str line tl) else if y = Str.ofString "due" then some (Value.ref aD) else if y = Str.ofString "k" then some (Value.int i ti) else m y) =
      (fun y => if y = Str.ofString "k" then some (Value.int i ti) else if y = Str.ofString "spans" then some (Value.ref aSp) else if y = Str.ofString "line" then some (Value.str line tl) else if y = Str.ofString "due" then some (Value.ref aD) else m y) := by
    funext y
    by_cases h1 : y = Str.ofString "k"
    · subst h1; rfl
    · simp only [if_neg h1]
  rw [e3] at F
  have hIT : ∀ p ∈ (I, io) :: T, p.1 ≠ aD := fun p hp => by
    rcases List.mem_cons.mp hp with rfl | hp
    · exact Ne.symm (hI _ (.head _))
    · exact hTn p hp
  have N' : News g L h ((aD, W.listOf dv.toArray nd) :: (I, io) :: T) := fun p hp => by
    rcases List.mem_cons.mp hp with rfl | hp
    · exact N _ (.tail _ (.head _))
    rcases List.mem_cons.mp hp with rfl | hp
    · exact N _ (.head _)
    · exact N _ (.tail _ (.tail _ hp))
  show wpAny _ _ (execs ((forBody dueFor).take 4 ++ [(dSt 4).getD default]) _) _ _ _
  refine dt0 (s := { s with heap := h, toks := tk }) G F N' hIT lS f1 f0 h1 (by omega) q1 q0 (o1.b0 (by omega)) o1.b o1.e hll (by omega) hh fun h' tk' aA aB u1 u2 u3 u4 F' N'' => ?_
  have hne : ∀ {x : Addr} {vs : List Value}, (x, tupOf vs) ∈ (aA, tupOf [.int 1 u1, .int p0.e u2]) :: (aB, tupOf [.int 1 u3, .int p1.e u4]) :: (aD, W.listOf dv.toArray nd) :: (I, io) :: T → x ≠ aD := fun {x vs} hx q => by
    have z := (N'' _ hx).1
    have y := (N'' _ (.tail _ (.tail _ (.head _)))).1
    dsimp only at z y
    rw [q, y] at z
    have := congrArg (fun o : Option Obj => o.map (·.cls)) z
    simp [tupOf] at this
  have eK : dueN line sps (i + 1) = dueN line sps i ++ dueOne' p1.word p1.what (Txt.item line ((p1.b : Int) - 1) == Str.ofString " ") (Txt.slice line (some (p1.e : Int)) (some ((p1.e : Int) + 1)) == Str.ofString " ") (Txt.slice line (some (p1.e : Int)) (some ((p1.e : Int) + 1))) p1.b p1.e p0.e := by
    rw [dueN, if_neg (by omega), dueK, e0, e1]
  -- the ledger anew, after the turn
  have fin : ∀ (h3 : Heap) (tk3 : Nat) (m3' : Str → Option Value) (led' : List (Addr × Obj)) (dv' : List Value) (nd' : Nat), Fr g L h3 m3' → News g L h3 led' → (aD, W.listOf dv'.toArray nd') ∈ led' → (∀ p ∈ (I, io) :: T, p ∈ led') → DuesIn led' dv' (dueN line sps (i + 1)) →
      m3' (Str.ofString "due") = some (.ref aD) → m3' (Str.ofString "line") = some (.str line tl) → m3' (Str.ofString "spans") = some (.ref aSp) → TurnPost s g L [(I, io)] (DueJ aSp line tl sps (i + 1)) .next { s with heap := h3, toks := tk3 } := by
    intro h3 tk3 m3' led' dv' nd' F3 N3 mD mT hD d1 d2 d3
    refine ⟨rfl, h3, tk3, m3', (aD, W.listOf dv'.toArray nd') :: led'.filter (fun p => decide (p.1 ≠ aD) && decide (p.1 ≠ I)), rfl, F3, ?_, ?_, aD, dv', nd', _, rfl, d1, d3, d2, hD.mono ?_, ?_⟩
    · intro p hp
      rcases List.mem_cons.mp hp with rfl | hp
      · exact N3 _ (mT _ (.head _))
      rcases List.mem_cons.mp hp with rfl | hp
      · exact N3 _ mD
      · exact N3 _ (List.mem_filter.mp hp).1
    · intro q hq p hp
      rcases List.mem_singleton.mp hq with rfl
      rcases List.mem_cons.mp hp with rfl | hp
      · have z := hI (aD, W.listOf dv.toArray nd) (.head _); exact z
      · exact of_decide_eq_true (Bool.and_eq_true_iff.mp (List.mem_filter.mp hp).2).2
    · intro t vs mt
      have z := (N3 _ mt).1
      have y := (N3 _ mD).1
      have x := (N3 _ (mT _ (.head _))).1
      dsimp only at x y z
      refine List.mem_filter.mpr ⟨mt, Bool.and_eq_true_iff.mpr ⟨decide_eq_true fun q => ?_, decide_eq_true fun q => ?_⟩⟩
      · dsimp only at q
        rw [q, y] at z
        have := congrArg (fun o : Option Obj => o.map (·.cls)) z
        simp [tupOf] at this
      · dsimp only at q
        rw [q, x] at z
        have := congrArg (fun o : Option Obj => o.map (·.cls)) z
        simp [tupOf, hio] at this
    · intro p hp
      exact of_decide_eq_true (Bool.and_eq_true_iff.mp (List.mem_filter.mp hp).2).1
  have e4 : (fun y => if y = Str.ofString "ahead" then some (Value.ref aA) else if y = Str.ofString "behind" then some (Value.ref aB) else if y = Str.ofString "before" then some (Value.bool (Txt.item line ((p1.b : Int) - 1) == Str.ofString " ")) else if y = Str.ofString "after" then some (Value.bool (Txt.slice line (some (p1.e : Int)) (some ((p1.e : Int) + 1)) == Str.ofString " "))
    else if y = Str.ofString "end" then some (Value.int p1.e x4) else if y = Str.ofString "begin" then some (Value.int p1.b x3) else if y = Str.ofString "what" then some (Value.str p1.what x2) else if y = Str.ofString "word" then some (Value.str p1.word x1)
    else if y = Str.ofString "k" then some (Value.int i ti) else if y = Str.ofString "spans" then some (Value.ref aSp) else if y = Str.ofString "line" then some (Value.str line tl) else if y = Str.ofString "due" then some (Value.ref aD) else m y) =
    (fun y => if y = Str.ofString "ahead" then some (Value.ref aA) else if y = Str.ofString "behind" then some (Value.ref aB) else if y = Str.ofString "before" then some (Value.bool (Txt.item line ((p1.b : Int) - 1) == Str.ofString " ")) else if y = Str.ofString "after" then some (Value.bool (Txt.slice line (some (p1.e : Int)) (some ((p1.e : Int) + 1)) == Str.ofString " "))
    else if y = Str.ofString "end" then some (Value.int p1.e x4) else if y = Str.ofString "begin" then some (Value.int p1.b x3) else if y = Str.ofString "what" then some (Value.str p1.what x2) else if y = Str.ofString "word" then some (Value.str p1.word x1)
    else if y = Str.ofString "line" then some (Value.str line tl) else if y = Str.ofString "due" then some (Value.ref aD) else if y = Str.ofString "k" then some (Value.int i ti) else if y = Str.ofString "spans" then some (Value.ref aSp) else m y) := by
    funext y
    by_cases h1 : y = Str.ofString "k"
    · subst h1; rfl
    by_cases h2 : y = Str.ofString "spans"
    · subst h2; rfl
    · simp only [if_neg h1, if_neg h2]
  rw [e4] at F'
  refine dt1 (s := { s with heap := h', toks := tk' }) (m := fun y => if y = Str.ofString "k" then some (.int i ti) else if y = Str.ofString "spans" then some (.ref aSp) else m y) G F' N'' hIT (hne (.head _)) (hne (.tail _ (.head _))) o1.e hll (by omega) hh o1.r ?_ ?_
  · intro h3 tk3 m3' led' hd F3 N3 mD mT d1 d2 d3
    refine fin h3 tk3 m3' led' dv nd F3 N3 mD mT ?_ d1 d2 (d3.trans rfl)
    rw [eK, hd, List.append_nil]
    exact hdu.mono fun t vs mt => mT _ (.tail _ mt)
  · intro at_ msg h3 tk3 m3' led' t p tt w1 w2 nd' hd F3 N3 mD mt mp mT d1 d2 d3
    refine fin h3 tk3 m3' led' (dv ++ [.ref t]) nd' F3 N3 (by simpa using mD) mT ?_ d1 d2 (d3.trans rfl)
    rw [eK, hd]
    exact (hdu.mono fun t vs mt => mT _ (.tail _ mt)).snoc ⟨t, p, tt, w1, w2, rfl, mt, mp⟩

theorem due_code {w : World} {loose : List Str} {mean : ExcName → Option Value} {mg mb : Str → Option Value} {A : Around} {s : Shared} {h₀ : Heap} {R : Result → Shared → Prop} {line : Str} {tl : Tok} {aSp : Addr} {svs : List Value} {sps : List Sp}
    (G : Gnd w loose mean mg mb h₀) (k : Sub h₀ s.heap) (hroom : A.depth < 595) (hh : A.handled = none) (lS : s.heap.IsList aSp svs.toArray) (hS : SpsAre s.heap svs sps) (h1 : 1 ≤ sps.length) (h2 : sps.length ≤ 1000)
    (hok : ∀ k p, sps[k]? = some p → SpOk line k p) (hll : line.length ≤ 1000000)
    (h : ∀ h' tk D dv nd T, Sub s.heap h' → s.heap.get? D = none → h'.get? D = some (W.listOf (List.toArray dv) nd) → (∀ p ∈ T, h'.get? p.1 = some p.2) → DuesIn T dv (dueN line sps sps.length) → R (.ok (.ret (.ref D))) { s with heap := h', toks := tk }) :
    codeAny (model PySem.Challenge.rw_co0044_01.row.toRowW.prog w) A (.call (.ref 122) ⟨[.ref aSp, .str line tl], []⟩) R s := by
  have XG := G.X
  revert XG
  k_fill
  intro XG
  refine' enter (news := []) (binds := [(Str.ofString "spans", .ref aSp), (Str.ofString "line", .str line tl)]) G k ?N ?k6 ?k7 ?k8 ?k9 ?kB ?_ ?c2 ?c3 ?c4 ?c5
  case N => intro p hp; cases hp
  case k6 => k_is
  case k7 => k_is
  case k8 => exact Nat.lt_of_le_of_lt (show A.depth ≤ 595 by omega) (by decide)
  case k9 => exact BindsTo.of_eq rfl
  case c5 => decide
  case kB => exact locs rfl
  case c2 => exact rfl
  case c3 => exact rfl
  case c4 => exact rfl
  intro g L' h₁ _ kg kg' kg'' F' N' X' T'
  have kk : Sub s.heap g := fun b o e => kg'' b o (by simp) e
  have lG : g.IsList aSp svs.toArray := by obtain ⟨o, e1, e2⟩ := lS; exact ⟨o, kk _ _ e1, e2⟩
  have hln := hS.length
  clear kg'' kg'
  (try dsimp only)
  k_unmd
  k_fold
  repeat' walk1
  rename Fr g L' _ _ => FA
  rename News g L' _ _ => NA
  refine PyProof.Rows.len_list (items := svs.toArray) (by obtain ⟨o, e1, e2⟩ := lG; exact ⟨o, FA.keep _ _ e1, e2⟩) (by simp only [List.size_toArray]; omega) ?_
  have hsz : ((svs.toArray.size : Nat) : Int) = (sps.length : Int) := by simp only [List.size_toArray]; omega
  rw [hsz]
  (try dsimp only)
  repeat' walk1
  rename Fr g L' _ _ => FB
  rename News g L' _ _ => NB
  rename ¬_ = _ ∧ _ => oB
  have hSg : SpsAre g svs sps := hS.keeps kk
  refine loopRangeFrom (L := L') (n := sps.length) (i₀ := 1) rfl hh rfl rfl h1 FB (by simpa using NB) (by simpa using oB.1) (DueJ aSp line tl sps) ⟨_, [], _, [], rfl, rfl, rfl, rfl, .nil, fun p hp => by cases hp⟩ ?_ ?_
  · intro i tk₀ m₁ news₁ h3 tk3 hi1 hi2 hJ F3 N3 hI3
    exact due_turn (G.keeps kg) hh lG hSg hi1 hi2 h2 hok hll hJ F3 N3 hI3 rfl
  · intro m₁ news₁ h3 tk3 hJ F3 N3
    obtain ⟨aD, dv, nd, T, rfl, m1, m2, m3, hdu, hTn⟩ := hJ
    replace F3 := Fr.know F3 (x := Str.ofString "due") (v := .ref aD) m1
    (try dsimp only)
    repeat' walk1
    (try k_unmd)
    (try k_unfold)
    (try dsimp only)
    exact h _ _ _ _ _ T (fun b o e => F3.keep _ _ (kk _ _ e)) (new_of kk (N3 _ (.head _)).2.2) (N3 _ (.head _)).1 (fun p hp => (N3 p (.tail _ hp)).1) hdu
end Mine
end

section
open PySem PySem.W PySem.Calls PyProof.Rows PySem.Spec
set_option maxRecDepth 100000
set_option maxHeartbeats 8000000
namespace Mine
/-! the plain law: words with or without a blank ahead -/
abbrev It := Pc × Bool
def txt : List It → List Nat
  | [] => []
  | (p, g) :: r => (if g = true then [32] else []) ++ p.word.cps.toList ++ txt r
def gp (g : Bool) : Nat := if g = true then 1 else 0
def step' (nc : Str) (σ : MS) (t : Tk) : MS × List Out :=
  let st := brace σ.st t.kind t.word
  if t.kind = 4 then ({ σ with st := st }, [])
  else
    let n := needStep { σ with st := st } t.kind t.word t.b
    ({ need := n.1, ptype := t.kind, prev := some (t.word, t.e), st := st }, out31 st t.kind t.word t.b nc ++ n.2)
theorem step_eq {line : Str} {σ : MS} {t : Tk} : step line σ t = step' (nextOf line t.e) σ t := rfl
/-- the sign behind, fin at the text's end -/
def nx (r : List It) (fin : List Nat) : Str := ⟨((txt r ++ fin).take 1).toArray⟩
def tk (pe : Nat) (p : Pc) (g : Bool) : Tk := ⟨p.kind, p.word, pe + gp g, pe + gp g + p.word.length⟩
def mwL : MS → Nat → List It → List Out
  | _, _, [] => []
  | σ, pe, (p, g) :: r => (step' (nx r [10]) σ (tk pe p g)).2 ++ mwL (step' (nx r [10]) σ (tk pe p g)).1 (tk pe p g).e r
def dueI (pe : Nat) (p : Pc) (g : Bool) (r : List It) : List Out :=
  dueOne' p.word p.what g (nx r [] == Str.ofString " ") (nx r []) (tk pe p g).b (tk pe p g).e pe
def dueL : Nat → List It → List Out
  | _, [] => []
  | pe, (p, g) :: r => dueI pe p g r ++ dueL (tk pe p g).e r
/-- what a waiting operator tells at the next word -/
def pend (σ : MS) (g : Bool) : List Out :=
  match σ.need, σ.prev with
  | .no, _ => []
  | _, none => []
  | .must, some (_, pe) => if g = true then [] else [⟨pe, m225⟩]
  | .opt p bl, some (y, pe) => if g = true then (if bl = true then [] else [⟨p, m225⟩]) else if bl = true then [⟨pe, m225⟩] else if (!(y == Str.ofString "**")) = true then [⟨p, optMsg y⟩] else []
/-- the words at which an operand may start -/
def starts : List (Int × Str) := [(1, "ab"), (2, "10"), (54, "-"), (54, "+"), (54, "("), (1, "f"), (1, "d"), (54, "["), (54, "{"), (1, "y"), (1, "c"), (2, "2"), (3, "'k'"), (1, "k")]
/-- the state ahead of an operand -/
structure Rdy (σ : MS) (pe : Nat) : Prop where
  prev : ∃ y, σ.prev = some (y, pe) ∧ (σ.need = .no → binOp σ.ptype y = false) ∧ y ≠ ")"
/-- the state behind an operand -/
structure Fin1 (σ : MS) (pe : Nat) (st : List Str) : Prop where
  need : σ.need = .no
  prev : ∃ y, σ.prev = some (y, pe) ∧ binOp σ.ptype y = true
  st : σ.st = st
end Mine
end

section
open PySem PySem.W PySem.Calls PyProof.Rows PySem.Spec
set_option maxRecDepth 100000
set_option maxHeartbeats 8000000
namespace Mine
def startOk (x : Str) : Bool := !(x == Str.ofString "=") && !(ins needed x) && (ins unary x || !(ins optional x)) && !(false || decide (x = Str.ofString ",") || decide (x = Str.ofString ")") || decide (x = Str.ofString ":")) && !(x == Str.ofString ":")

theorem gp_ne {pe : Nat} {g : Bool} : (pe + gp g ≠ pe) ↔ g = true := by
  cases g <;> simp [gp]
theorem need_start {σ : MS} {pe : Nat} {k : Int} {x : Str} {g : Bool} {st : List Str} (hx : startOk x = true) (R : Rdy σ pe) : needStep { σ with st := st } k x (pe + gp g) = (.no, pend σ g) := by
  obtain ⟨y, hp, hb, hy⟩ := R.prev
  simp only [startOk, Bool.and_eq_true, Bool.not_eq_true'] at hx
  obtain ⟨⟨⟨⟨h1, h2⟩, h3⟩, h4⟩, h5⟩ := hx
  have hs : slash x y = false := by
    simp only [slash, h4, h5, Bool.and_false, Bool.or_false]
  obtain ⟨need, ptype, prev, st0⟩ := σ
  dsimp only at hp hb ⊢
  subst hp
  cases need with
  | no =>
    have hb := hb rfl
    simp only [needStep, pend]
    split
    · unfold fresh
      rw [if_neg (by simp [kwEq, h1]), if_neg (by rw [h2]; decide)]
      by_cases hu : ins unary x = true
      · rw [if_pos hu, if_neg (by rw [hb]; decide)]
      · rw [if_neg hu, if_neg]
        intro ho
        rw [ho] at h3
        simp [hu] at h3
    · rfl
  | must =>
    simp only [needStep, pend]
    by_cases hg : g = true
    · rw [if_pos (gp_ne.mpr hg), if_pos hg]
    · rw [if_neg (fun q => hg (gp_ne.mp q)), if_neg (by rw [hs]; decide), if_neg hg]
  | opt p bl =>
    simp only [needStep, pend]
    by_cases hg : g = true
    · rw [if_pos (gp_ne.mpr hg), if_pos hg]
    · rw [if_neg (fun q => hg (gp_ne.mp q)), if_neg (by rw [hs]; decide), if_neg hg]
end Mine
end

section
open PySem PySem.W PySem.Calls PyProof.Rows PySem.Spec
set_option maxRecDepth 100000
set_option maxHeartbeats 8000000
namespace Mine
theorem nx_gap {q : Pc} {g : Bool} {r : List It} {fin : List Nat} {c : Nat} {cs : List Nat} (h : q.word.cps.toList = c :: cs) (hc : c ≠ 32) : (nx ((q, g) :: r) fin == Str.ofString " ") = g := by
  have e : Str.ofString " " = ⟨#[32]⟩ := by decide +kernel
  rw [e]
  cases g with
  | true => simp [nx, txt]
  | false =>
    simp only [nx, txt, Bool.false_eq_true, if_false, List.nil_append, h, List.cons_append, List.take_succ_cons, List.take_zero]
    rw [beq_eq_false_iff_ne]
    intro q
    have := congrArg Str.cps q
    simp at this
    exact hc this
/-- the tables' answers for the operators -/
def eitherOk (w : Str) : Bool := !(c31 54 w) && !(w == Str.ofString "=") && !(ins needed w) && (ins unary w || ins optional w) && !(binOp 54 w) && !(w == Str.ofString ")") && decide ((opPc w).kind = 54) && decide ((opPc w).what = Str.ofString "either") && decide (brace [] 54 w = []) && (!(ins [Str.ofString "|", Str.ofString ">>", Str.ofString "<<", Str.ofString "^", Str.ofString "&"] w) == ins arith w || w == Str.ofString "%")
def bothOk (w : Str) : Bool := !(c31 (opPc w).kind w) && !(w == Str.ofString "=") && ins needed w && !(binOp (opPc w).kind w) && !(w == Str.ofString ")") && (decide ((opPc w).kind = 54) || decide ((opPc w).kind = 1)) && decide ((opPc w).what = Str.ofString "both")
theorem either_ok {w : Str} (h : w ∈ either) : eitherOk w = true := by
  simp only [either, List.mem_cons, List.not_mem_nil, or_false] at h
  rcases h with rfl | rfl | rfl | rfl | rfl | rfl | rfl | rfl | rfl | rfl | rfl | rfl | rfl <;> decide +kernel
theorem both_ok {w : Str} (h : w ∈ both) : bothOk w = true := by
  simp only [both, List.mem_cons, List.not_mem_nil, or_false] at h
  rcases h with rfl | rfl | rfl | rfl | rfl | rfl | rfl | rfl | rfl | rfl <;> decide +kernel
end Mine
end

section
open PySem PySem.W PySem.Calls PyProof.Rows PySem.Spec
set_option maxRecDepth 100000
set_option maxHeartbeats 8000000
namespace Mine

theorem fresh_either {st : List Str} {pt : Int} {y w : Str} {pe b : Nat} (h : eitherOk w = true) (hb : binOp pt y = true) : fresh st pt y w pe b = (.opt pe (decide (b ≠ pe)), []) := by
  simp only [eitherOk, Bool.and_eq_true, Bool.not_eq_true', Bool.or_eq_true] at h
  obtain ⟨⟨⟨⟨⟨⟨⟨⟨⟨h1, h2⟩, h3⟩, h4⟩, h5⟩, h6⟩, h7⟩, h8⟩, h9⟩, h10⟩ := h
  unfold fresh
  rw [if_neg (by simp [kwEq, h2]), if_neg (by rw [h3]; decide)]
  by_cases hu : ins unary w = true
  · rw [if_pos hu, if_pos hb]
  · rw [if_neg hu, if_pos (h4.resolve_left hu)]
theorem fresh_both {st : List Str} {pt : Int} {y w : Str} {pe b : Nat} (h : bothOk w = true) : fresh st pt y w pe b = if b = pe then (.no, [⟨pe, m225⟩]) else (.must, []) := by
  simp only [bothOk, Bool.and_eq_true, Bool.not_eq_true', Bool.or_eq_true] at h
  obtain ⟨⟨⟨⟨⟨⟨h1, h2⟩, h3⟩, h4⟩, h5⟩, h6⟩, h7⟩ := h
  unfold fresh
  rw [if_neg (by simp [kwEq, h2]), if_pos h3]
end Mine
end

section
open PySem PySem.W PySem.Calls PyProof.Rows PySem.Spec
set_option maxRecDepth 100000
set_option maxHeartbeats 8000000
namespace Mine
def plainW (w : Str) : Bool := !(w == "[") && !(w == "(") && !(w == "{") && !(w == "]") && !(w == ")") && !(w == "}")
theorem brace_plain {st : List Str} {k : Int} {w : Str} (h : plainW w = true) : brace st k w = st := by
  simp only [plainW, Bool.and_eq_true, Bool.not_eq_true', beq_eq_false_iff_ne, ne_eq] at h
  obtain ⟨⟨⟨⟨⟨h1, h2⟩, h3⟩, h4⟩, h5⟩, h6⟩ := h
  rw [brace, if_neg, if_neg]
  · rintro ⟨_, q | q | q⟩
    · exact h4 q
    · exact h5 q
    · exact h6 q
  · rintro ⟨_, q | q | q⟩
    · exact h1 q
    · exact h2 q
    · exact h3 q
theorem plain_op {w : Str} (h : w ∈ either ++ both) : plainW w = true := by
  simp only [either, both, List.cons_append, List.nil_append, List.mem_cons, List.not_mem_nil, or_false] at h
  rcases h with rfl | rfl | rfl | rfl | rfl | rfl | rfl | rfl | rfl | rfl | rfl | rfl | rfl | rfl | rfl | rfl | rfl | rfl | rfl | rfl | rfl | rfl | rfl <;> decide +kernel

/-- an operator between two operands -/
theorem op_both {σ : MS} {pe : Nat} {st : List Str} {p : Pc} {q : Pc} {g g' : Bool} {r : List It} {c : Nat} {cs : List Nat} (hk : p.kind = 54 ∨ p.kind = 1) (hwhat : p.what = Str.ofString "both") (h31 : c31 p.kind p.word = false) (hf : ∀ pt y pe b, fresh st pt y p.word pe b = if b = pe then (.no, [⟨pe, m225⟩]) else (.must, []))
    (hp : plainW p.word = true) (hb : binOp p.kind p.word = false) (hr : p.word ≠ ")") (F : Fin1 σ pe st) (hq : q.word.cps.toList = c :: cs) (hc : c ≠ 32) :
    (step' (nx ((q, g') :: r) [10]) σ (tk pe p g)).2 ++ pend (step' (nx ((q, g') :: r) [10]) σ (tk pe p g)).1 g' = dueI pe p g ((q, g') :: r) ∧ Rdy (step' (nx ((q, g') :: r) [10]) σ (tk pe p g)).1 (tk pe p g).e ∧ (step' (nx ((q, g') :: r) [10]) σ (tk pe p g)).1.st = st := by
  obtain ⟨y, hpv, hbo⟩ := F.prev
  obtain ⟨need, ptype, prev, st0⟩ := σ
  have hn := F.need
  have hs := F.st
  dsimp only at hpv hbo hn hs
  subst hpv hn hs
  have k4 : p.kind ≠ 4 := by rcases hk with h | h <;> omega
  have k5 : ([54, 1] : List Int).any (· == p.kind) = true := by rcases hk with h | h <;> rw [h] <;> decide
  have e1 : step' (nx ((q, g') :: r) [10]) ⟨.no, ptype, some (y, pe), st0⟩ (tk pe p g) = (⟨(fresh st0 ptype y p.word pe (pe + gp g)).1, p.kind, some (p.word, (tk pe p g).e), st0⟩, (fresh st0 ptype y p.word pe (pe + gp g)).2) := by
    simp only [step', tk, if_neg k4, brace_plain hp, needStep, k5, if_true, out31, h31, Bool.false_eq_true, if_false, List.nil_append]
  rw [e1, hf]
  have e2 : dueI pe p g ((q, g') :: r) = if g = false then [⟨pe, m225⟩] else if g' = false then [⟨(tk pe p g).e, m225⟩] else [] := by
    unfold dueI dueOne'
    rw [nx_gap hq hc, hwhat]
    cases g <;> cases g' <;> rfl
  rw [e2]
  cases g with
  | false =>
    rw [if_pos (show pe + gp false = pe from rfl)]
    exact ⟨rfl, ⟨_, rfl, fun _ => hb, hr⟩, rfl⟩
  | true =>
    rw [if_neg (show ¬ pe + gp true = pe by simp [gp])]
    refine ⟨?_, ⟨_, rfl, (fun h => absurd h (by intro z; exact Need.noConfusion z)), hr⟩, rfl⟩
    cases g' <;> rfl
end Mine
end

section
open PySem PySem.W PySem.Calls PyProof.Rows PySem.Spec
set_option maxRecDepth 100000
set_option maxHeartbeats 8000000
namespace Mine
theorem op_either {σ : MS} {pe : Nat} {st : List Str} {p : Pc} {q : Pc} {g g' : Bool} {r : List It} {c : Nat} {cs : List Nat} (hk : p.kind = 54) (hwhat : p.what = Str.ofString "either") (h31 : c31 p.kind p.word = false) (hf : ∀ st pt y pe b, binOp pt y = true → fresh st pt y p.word pe b = (.opt pe (decide (b ≠ pe)), []))
    (hm : (if (p.word == Str.ofString "%") = true then m228 else if ins [Str.ofString "|", Str.ofString ">>", Str.ofString "<<", Str.ofString "^", Str.ofString "&"] p.word = true then m227 else m226) = optMsg p.word)
    (hp : plainW p.word = true) (hr : p.word ≠ ")") (F : Fin1 σ pe st) (hq : q.word.cps.toList = c :: cs) (hc : c ≠ 32) :
    (step' (nx ((q, g') :: r) [10]) σ (tk pe p g)).2 ++ pend (step' (nx ((q, g') :: r) [10]) σ (tk pe p g)).1 g' = dueI pe p g ((q, g') :: r) ∧ Rdy (step' (nx ((q, g') :: r) [10]) σ (tk pe p g)).1 (tk pe p g).e ∧ (step' (nx ((q, g') :: r) [10]) σ (tk pe p g)).1.st = st := by
  obtain ⟨y, hpv, hbo⟩ := F.prev
  obtain ⟨need, ptype, prev, st0⟩ := σ
  have hn := F.need
  have hs := F.st
  dsimp only at hpv hbo hn hs
  subst hpv hn hs
  have k4 : p.kind ≠ 4 := by omega
  have k5 : ([54, 1] : List Int).any (· == p.kind) = true := by rw [hk]; decide
  have e1 : step' (nx ((q, g') :: r) [10]) ⟨.no, ptype, some (y, pe), st0⟩ (tk pe p g) = (⟨(fresh st0 ptype y p.word pe (pe + gp g)).1, p.kind, some (p.word, (tk pe p g).e), st0⟩, (fresh st0 ptype y p.word pe (pe + gp g)).2) := by
    simp only [step', tk, if_neg k4, brace_plain hp, needStep, k5, if_true, out31, h31, Bool.false_eq_true, if_false, List.nil_append]
  have eg : decide (pe + gp g ≠ pe) = g := by cases g <;> simp [gp]
  rw [e1, hf _ _ _ _ _ hbo, eg]
  have e2 : dueI pe p g ((q, g') :: r) = if g = true then (if g' = true then [] else [⟨(tk pe p g).e, m225⟩]) else if g' = true then [⟨pe, m225⟩] else if (!(p.word == Str.ofString "**")) = true then [⟨pe, optMsg p.word⟩] else [] := by
    unfold dueI dueOne'
    rw [nx_gap hq hc, hwhat, ← hm]
    cases g <;> cases g'
    · cases h1 : (p.word == Str.ofString "**") <;> cases h2 : (p.word == Str.ofString "%") <;> cases h3 : (ins [Str.ofString "|", Str.ofString ">>", Str.ofString "<<", Str.ofString "^", Str.ofString "&"] p.word) <;> simp [h1, bne] <;> rfl
    · rfl
    · rfl
    · rfl
  rw [e2]
  refine ⟨?_, ⟨_, rfl, (fun h => absurd h (by intro z; exact Need.noConfusion z)), hr⟩, rfl⟩
  cases g <;> cases g' <;> rfl
end Mine
end

section
open PySem PySem.W PySem.Calls PyProof.Rows PySem.Spec
set_option maxRecDepth 100000
set_option maxHeartbeats 8000000
namespace Mine
theorem op_msg {w : Str} (h : w ∈ either) : (if (w == Str.ofString "%") = true then m228 else if ins [Str.ofString "|", Str.ofString ">>", Str.ofString "<<", Str.ofString "^", Str.ofString "&"] w = true then m227 else m226) = optMsg w := by
  simp only [either, List.mem_cons, List.not_mem_nil, or_false] at h
  rcases h with rfl | rfl | rfl | rfl | rfl | rfl | rfl | rfl | rfl | rfl | rfl | rfl | rfl <;> decide +kernel
theorem op_step {σ : MS} {pe : Nat} {st : List Str} {w : Str} {q : Pc} {g g' : Bool} {r : List It} {c : Nat} {cs : List Nat} (hw : w ∈ either ++ both) (F : Fin1 σ pe st) (hq : q.word.cps.toList = c :: cs) (hc : c ≠ 32) :
    (step' (nx ((q, g') :: r) [10]) σ (tk pe (opPc w) g)).2 ++ pend (step' (nx ((q, g') :: r) [10]) σ (tk pe (opPc w) g)).1 g' = dueI pe (opPc w) g ((q, g') :: r) ∧ Rdy (step' (nx ((q, g') :: r) [10]) σ (tk pe (opPc w) g)).1 (tk pe (opPc w) g).e ∧ (step' (nx ((q, g') :: r) [10]) σ (tk pe (opPc w) g)).1.st = st := by
  have hp := plain_op hw
  have hr : w ≠ ")" := by
    intro e
    subst e
    exact absurd hp (by decide +kernel)
  rcases List.mem_append.mp hw with h | h
  · have ho := either_ok h
    have ho' := ho
    simp only [eitherOk, Bool.and_eq_true, Bool.not_eq_true', Bool.or_eq_true, decide_eq_true_eq] at ho'
    obtain ⟨⟨⟨⟨⟨⟨⟨⟨⟨h1, h2⟩, h3⟩, h4⟩, h5⟩, h6⟩, h7⟩, h8⟩, h9⟩, h10⟩ := ho'
    exact op_either (p := opPc w) h7 h8 (by rw [h7]; exact h1) (fun _ _ _ _ _ hb => fresh_either ho hb) (op_msg h) hp hr F hq hc
  · have ho := both_ok h
    have ho' := ho
    simp only [bothOk, Bool.and_eq_true, Bool.not_eq_true', Bool.or_eq_true, decide_eq_true_eq] at ho'
    obtain ⟨⟨⟨⟨⟨⟨h1, h2⟩, h3⟩, h4⟩, h5⟩, h6⟩, h7⟩ := ho'
    exact op_both (p := opPc w) h6 h7 h1 (fun _ _ _ _ => fresh_both ho) hp h4 hr F hq hc
end Mine
end

section
open PySem PySem.W PySem.Calls PyProof.Rows PySem.Spec
set_option maxRecDepth 100000
set_option maxHeartbeats 8000000
namespace Mine
def quiet (w : Str) : Bool := !(w == Str.ofString "=") && !(ins needed w) && !(ins unary w) && !(ins optional w)
/-- an operand's first word -/
theorem word_start {σ : MS} {pe : Nat} {p : Pc} {g : Bool} {nc : Str} (hx : startOk p.word = true) (h31 : c31 p.kind p.word = false) (hk : p.kind ≠ 4) (R : Rdy σ pe) :
    step' nc σ (tk pe p g) = (⟨.no, p.kind, some (p.word, (tk pe p g).e), brace σ.st p.kind p.word⟩, pend σ g) := by
  have h := need_start (σ := σ) (pe := pe) (k := p.kind) (g := g) (st := brace σ.st p.kind p.word) hx R
  simp only [step', tk, if_neg hk]
  rw [h]
  simp [out31, h31, hk]
/-- a word of no table, nothing waiting -/
theorem word_quiet {σ : MS} {pe : Nat} {p : Pc} {g : Bool} {nc : Str} {y : Str} (hx : quiet p.word = true) (hk : p.kind ≠ 4) (hn : σ.need = .no) (hp : σ.prev = some (y, pe)) :
    step' nc σ (tk pe p g) = (⟨.no, p.kind, some (p.word, (tk pe p g).e), brace σ.st p.kind p.word⟩, out31 (brace σ.st p.kind p.word) p.kind p.word (tk pe p g).b nc) := by
  simp only [quiet, Bool.and_eq_true, Bool.not_eq_true'] at hx
  obtain ⟨⟨⟨h1, h2⟩, h3⟩, h4⟩ := hx
  obtain ⟨need, ptype, prev, st0⟩ := σ
  dsimp only at hn hp
  subst hn hp
  simp only [step', tk, if_neg hk, needStep]
  have e : ∀ b, fresh (brace st0 p.kind p.word) ptype y p.word pe b = (.no, []) := fun b => by
    unfold fresh
    rw [if_neg (by simp [kwEq, h1]), if_neg (by rw [h2]; decide), if_neg (by rw [h3]; decide), if_neg (by rw [h4]; decide)]
  rw [e]
  simp [hk]
end Mine
end

section
open PySem PySem.W PySem.Calls PyProof.Rows PySem.Spec
set_option maxRecDepth 100000
set_option maxHeartbeats 8000000
namespace Mine
def g0 : List It → Bool
  | [] => false
  | (_, g) :: _ => g
/-- the signs that may open an operand -/
def heads : List Nat := [97, 49, 45, 43, 40, 102, 100, 91, 123, 121]
theorem heads_ne {c : Nat} (h : c ∈ heads) : c ≠ 32 := by rintro rfl; exact absurd h (by decide)
def HeadOk (P : List It) : Prop := ∃ q g r c cs, P = (q, g) :: r ∧ q.word.cps.toList = c :: cs ∧ c ∈ heads
/-- the items of an operand, or of a sum, under the stack st: the machine tells what is due -/
structure Good (st : List Str) (P : List It) : Prop where
  head : HeadOk P
  run : ∀ σ pe rest, Rdy σ pe → σ.st = st → ∃ D e' σ', mwL σ pe (P ++ rest) = pend σ (g0 P) ++ D ++ mwL σ' e' rest ∧ dueL pe (P ++ rest) = D ++ dueL e' rest ∧ Fin1 σ' e' st

theorem Good.sum {st : List Str} {P Q : List It} {w : Str} {g : Bool} (hP : Good st P) (hw : w ∈ either ++ both) (hQ : Good st Q) : Good st (P ++ (opPc w, g) :: Q) := by
  obtain ⟨q, gq, r, c, cs, eQ, hc, hc2⟩ := hQ.head
  refine ⟨?_, fun σ pe rest hR hs => ?_⟩
  · obtain ⟨q', g', r', c', cs', e, h1, h2⟩ := hP.head
    exact ⟨q', g', r' ++ (opPc w, g) :: Q, c', cs', by rw [e]; rfl, h1, h2⟩
  · have e0 : g0 (P ++ (opPc w, g) :: Q) = g0 P := by
      obtain ⟨q', g', r', c', cs', e, h1, h2⟩ := hP.head
      rw [e]; rfl
    obtain ⟨D1, e1, σ1, m1, d1, f1⟩ := hP.run σ pe ((opPc w, g) :: (Q ++ rest)) hR hs
    have eq2 : Q ++ rest = (q, gq) :: (r ++ rest) := by rw [eQ]; rfl
    obtain ⟨o1, o2, o3⟩ := op_step (σ := σ1) (pe := e1) (st := st) (w := w) (q := q) (g := g) (g' := gq) (r := r ++ rest) hw f1 hc (heads_ne hc2)
    obtain ⟨D2, e2, σ2, m2, d2, f2⟩ := hQ.run _ _ rest o2 o3
    have hg : g0 Q = gq := by rw [eQ]; rfl
    refine ⟨D1 ++ dueI e1 (opPc w) g (Q ++ rest) ++ D2, e2, σ2, ?_, ?_, f2⟩
    · rw [e0, List.append_assoc, List.cons_append, m1]
      simp only [mwL]
      rw [eq2, ← o1, ← eq2]
      rw [hg] at m2
      rw [eq2] at m2 ⊢
      rw [m2]
      simp only [List.append_assoc]
    · rw [List.append_assoc, List.cons_append, d1]
      simp only [dueL]
      rw [d2]
      simp only [List.append_assoc]
end Mine
end

section
open PySem PySem.W PySem.Calls PyProof.Rows PySem.Spec
set_option maxRecDepth 100000
set_option maxHeartbeats 8000000
namespace Mine
def quietWhat (k : Str) : Bool := !(ins [Str.ofString "comma", Str.ofString "last"] k) && !(k == Str.ofString "both") && !(k == Str.ofString "either")
theorem due_quiet {pe : Nat} {p : Pc} {g : Bool} {r : List It} (h : quietWhat p.what = true) : dueI pe p g r = [] := by
  simp only [quietWhat, Bool.and_eq_true, Bool.not_eq_true'] at h
  obtain ⟨⟨h1, h2⟩, h3⟩ := h
  simp [dueI, dueOne', h1, h2, h3]
/-- one word that is an operand -/
theorem Good.word {st : List Str} {p : Pc} {g : Bool} {c : Nat} {cs : List Nat} (hx : startOk p.word = true) (h31 : c31 p.kind p.word = false) (hk : p.kind ≠ 4) (hp : plainW p.word = true) (hb : binOp p.kind p.word = true) (hw : quietWhat p.what = true) (hc : p.word.cps.toList = c :: cs) (hc2 : c ∈ heads) : Good st [(p, g)] := by
  refine ⟨⟨p, g, [], c, cs, rfl, hc, hc2⟩, fun σ pe rest hR hs => ⟨[], (tk pe p g).e, ⟨.no, p.kind, some (p.word, (tk pe p g).e), st⟩, ?_, ?_, ⟨rfl, ⟨_, rfl, hb⟩, rfl⟩⟩⟩
  · simp only [List.cons_append, List.nil_append, mwL, word_start hx h31 hk hR, brace_plain hp, hs, g0, List.append_nil]
  · simp only [List.cons_append, List.nil_append, dueL, due_quiet hw]
/-- a signed name -/
theorem Good.signed {st : List Str} {x : Str} {g g' : Bool} (h : x = "-" ∨ x = "+") : Good st [(pSign x, g), (pC, g')] := by
  have h1 : startOk x = true := by rcases h with rfl | rfl <;> decide +kernel
  have h2 : c31 54 x = false := by rcases h with rfl | rfl <;> decide +kernel
  have h3 : plainW x = true := by rcases h with rfl | rfl <;> decide +kernel
  have h4 : ∃ c cs, x.cps.toList = c :: cs ∧ c ∈ heads := by rcases h with rfl | rfl; exact ⟨45, [], by decide +kernel, by decide⟩; exact ⟨43, [], by decide +kernel, by decide⟩
  have h5 : binOp 54 x = false := by rcases h with rfl | rfl <;> decide +kernel
  have h6 : x ≠ ")" := by rcases h with rfl | rfl <;> decide +kernel
  obtain ⟨c, cs, h7, h8⟩ := h4
  refine ⟨⟨pSign x, g, [(pC, g')], c, cs, rfl, h7, h8⟩, fun σ pe rest hR hs => ?_⟩
  have s1 := word_start (p := pSign x) (g := g) (nc := nx ((pC, g') :: rest) [10]) h1 h2 (show (54 : Int) ≠ 4 by decide) hR
  have R2 : Rdy ⟨.no, 54, some (x, (tk pe (pSign x) g).e), st⟩ (tk pe (pSign x) g).e := ⟨_, rfl, fun _ => h5, h6⟩
  have s2 := word_start (p := pC) (g := g') (nc := nx rest [10]) (by decide +kernel) (by decide +kernel) (by decide) R2
  refine ⟨[], (tk (tk pe (pSign x) g).e pC g').e, ⟨.no, 1, some ("c", (tk (tk pe (pSign x) g).e pC g').e), st⟩, ?_, ?_, ⟨rfl, ⟨_, rfl, show binOp 1 (Str.ofString "c") = true by decide +kernel⟩, rfl⟩⟩
  · simp only [List.cons_append, List.nil_append, mwL, s1, brace_plain h3, hs]
    rw [s2, brace_plain (show plainW pC.word = true by decide +kernel)]
    rw [show pend ⟨.no, 54, some (x, (tk pe (pSign x) g).e), st⟩ g' = [] from rfl]
    simp only [g0, List.append_nil, List.nil_append]
  · simp only [List.cons_append, List.nil_append, dueL]
    rw [due_quiet (show quietWhat (Str.ofString "sign") = true by decide +kernel), due_quiet (show quietWhat (Str.ofString "") = true by decide +kernel)]
    rfl
end Mine
end

section
open PySem PySem.W PySem.Calls PyProof.Rows PySem.Spec
set_option maxRecDepth 100000
set_option maxHeartbeats 8000000
namespace Mine
/-- from σ to σ' the machine tells what is due -/
def Same (σ : MS) (pe : Nat) (P rest : List It) (σ' : MS) (e' : Nat) : Prop := ∃ D, mwL σ pe (P ++ rest) = D ++ mwL σ' e' rest ∧ dueL pe (P ++ rest) = D ++ dueL e' rest
theorem Same.trans {σ σ1 σ2 : MS} {pe e1 e2 : Nat} {P Q rest : List It} (h : Same σ pe P (Q ++ rest) σ1 e1) (h2 : Same σ1 e1 Q rest σ2 e2) : Same σ pe (P ++ Q) rest σ2 e2 := by
  obtain ⟨D, a, b⟩ := h
  obtain ⟨D2, a2, b2⟩ := h2
  exact ⟨D ++ D2, by rw [List.append_assoc, a, a2, List.append_assoc], by rw [List.append_assoc, b, b2, List.append_assoc]⟩
/-- the state after a word -/
def aft (p : Pc) (e : Nat) (st : List Str) : MS := ⟨.no, p.kind, some (p.word, e), st⟩
theorem Same.quiet {σ : MS} {pe : Nat} {p : Pc} {g : Bool} {rest : List It} {y : Str} {st' : List Str} (hx : quiet p.word = true) (hk : p.kind ≠ 4) (hn : σ.need = .no) (hp : σ.prev = some (y, pe)) (hst : brace σ.st p.kind p.word = st')
    (ho : out31 st' p.kind p.word (tk pe p g).b (nx rest [10]) = dueI pe p g rest) : Same σ pe [(p, g)] rest (aft p (tk pe p g).e st') (tk pe p g).e := by
  have h := word_quiet (g := g) (nc := nx rest [10]) hx hk hn hp
  rw [hst] at h
  refine ⟨dueI pe p g rest, ?_, ?_⟩
  · simp only [List.cons_append, List.nil_append, mwL]
    rw [h, ho]
    rfl
  · simp only [List.cons_append, List.nil_append, dueL]
theorem Good.same {σ : MS} {pe : Nat} {P rest : List It} {st : List Str} (h : Good st P) (R : Rdy σ pe) (hn : σ.need = .no) (hs : σ.st = st) : ∃ σ' e', Same σ pe P rest σ' e' ∧ Fin1 σ' e' st := by
  obtain ⟨D, e', σ', a, b, c⟩ := h.run σ pe rest R hs
  have hp : pend σ (g0 P) = [] := by unfold pend; rw [hn]
  rw [hp, List.nil_append] at a
  exact ⟨σ', e', ⟨D, a, b⟩, c⟩
end Mine
end

section
open PySem PySem.W PySem.Calls PyProof.Rows PySem.Spec
set_option maxRecDepth 100000
set_option maxHeartbeats 8000000
namespace Mine
theorem Good.build {st : List Str} {p : Pc} {g : Bool} {P : List It} {c : Nat} {cs : List Nat} (hx : startOk p.word = true) (h31 : c31 p.kind p.word = false) (hk : p.kind ≠ 4) (hw : quietWhat p.what = true) (hc : p.word.cps.toList = c :: cs) (hc2 : c ∈ heads)
    (hP : ∀ e rest, ∃ σ' e', Same (aft p e (brace st p.kind p.word)) e P rest σ' e' ∧ Fin1 σ' e' st) : Good st ((p, g) :: P) := by
  refine ⟨⟨p, g, P, c, cs, rfl, hc, hc2⟩, fun σ pe rest hR hs => ?_⟩
  obtain ⟨σ', e', ⟨D, a, b⟩, f⟩ := hP (tk pe p g).e rest
  have h := word_start (g := g) (nc := nx (P ++ rest) [10]) hx h31 hk hR
  rw [hs] at h
  refine ⟨D, e', σ', ?_, ?_, f⟩
  · simp only [List.cons_append, mwL]
    rw [h]
    simp only [g0, List.append_assoc]
    rw [← a]
    rfl
  · simp only [List.cons_append, dueL]
    rw [due_quiet hw, List.nil_append, b]
/-- a word behind which an operand starts -/
theorem rdy_aft {p : Pc} {e : Nat} {st : List Str} (h : binOp p.kind p.word = false) (h2 : p.word ≠ ")") : Rdy (aft p e st) e := ⟨_, rfl, fun _ => h, h2⟩
theorem fin_aft {p : Pc} {e : Nat} {st : List Str} (h : binOp p.kind p.word = true) : Fin1 (aft p e st) e st := ⟨rfl, ⟨_, rfl, h⟩, rfl⟩
theorem out_none {st : List Str} {k : Int} {x nc : Str} {b : Nat} (h : c31 k x = false) : out31 st k x b nc = [] := by simp [out31, h]
/-- ( sum ) -/
theorem Good.paren {st : List Str} {Q : List It} {g g' : Bool} (hQ : Good (st ++ [Str.ofString "("]) Q) : Good st ((pOp "(", g) :: (Q ++ [(pOp ")", g')])) := by
  refine Good.build (c := 40) (cs := []) (by decide +kernel) (by decide +kernel) (show (54 : Int) ≠ 4 by decide) (by decide +kernel) (by decide +kernel) (by decide) fun e rest => ?_
  have hb : brace st (pOp "(").kind (pOp "(").word = st ++ [Str.ofString "("] := by
    show brace st 54 "(" = _
    rw [brace, if_pos ⟨rfl, .inr (.inl rfl)⟩]
  rw [hb]
  obtain ⟨σ1, e1, s1, f1⟩ := hQ.same (rest := [(pOp ")", g')] ++ rest) (rdy_aft (p := pOp "(") (e := e) (by decide +kernel) (by decide +kernel)) rfl rfl
  obtain ⟨y, hy, _⟩ := f1.prev
  have hb2 : brace σ1.st (pOp ")").kind (pOp ")").word = st := by
    rw [f1.st]
    show brace (st ++ [Str.ofString "("]) 54 ")" = st
    rw [brace, if_neg (by decide +kernel), if_pos ⟨rfl, .inr (.inl rfl)⟩, List.dropLast_concat]
  have s2 := Same.quiet (p := pOp ")") (g := g') (rest := rest) (by decide +kernel) (show (54 : Int) ≠ 4 by decide) f1.need hy hb2 (by rw [out_none (by decide +kernel), due_quiet (by decide +kernel)])
  exact ⟨_, _, s1.trans s2, fin_aft (by decide +kernel)⟩
end Mine
end

section
open PySem PySem.W PySem.Calls PyProof.Rows PySem.Spec
set_option maxRecDepth 100000
set_option maxHeartbeats 8000000
namespace Mine
theorem brace_push {st : List Str} {x : Str} (h : x = "[" ∨ x = "(" ∨ x = "{") : brace st 54 x = st ++ [x] := by rw [brace, if_pos ⟨rfl, h⟩]
theorem brace_pop {st : List Str} {x y : Str} (h : x = "]" ∨ x = ")" ∨ x = "}") : brace (st ++ [y]) 54 x = st := by
  rw [brace, if_neg, if_pos ⟨rfl, h⟩, List.dropLast_concat]
  rintro ⟨_, q⟩
  rcases h with rfl | rfl | rfl <;> rcases q with q | q | q <;> exact absurd q (by decide +kernel)
/-- d [ sum : 2 ] -/
theorem Good.slice {st : List Str} {Q : List It} {g1 g2 g3 g4 g5 : Bool} (hQ : Good (st ++ [Str.ofString "["]) Q) : Good st ((pNm "d", g1) :: ([(pOp "[", g2)] ++ (Q ++ ([(pSlice, g3)] ++ ([(pTw, g4)] ++ [(pOp "]", g5)]))))) := by
  refine Good.build (c := 100) (cs := []) (by decide +kernel) (by decide +kernel) (show (1 : Int) ≠ 4 by decide) (by decide +kernel) (by decide +kernel) (by decide) fun e rest => ?_
  have hb0 : brace st (pNm "d").kind (pNm "d").word = st := brace_plain (by decide +kernel)
  rw [hb0]
  have s0 := Same.quiet (σ := aft (pNm "d") e st) (pe := e) (p := pOp "[") (g := g2) (rest := Q ++ ([(pSlice, g3)] ++ ([(pTw, g4)] ++ [(pOp "]", g5)])) ++ rest) (by decide +kernel) (show (54 : Int) ≠ 4 by decide) rfl rfl (brace_push (st := st) (.inl rfl)) (by rw [out_none (by decide +kernel), due_quiet (by decide +kernel)])
  obtain ⟨σ1, e1, s1, f1⟩ := hQ.same (rest := ([(pSlice, g3)] ++ ([(pTw, g4)] ++ [(pOp "]", g5)])) ++ rest) (rdy_aft (p := pOp "[") (e := (tk e (pOp "[") g2).e) (by decide +kernel) (by decide +kernel)) rfl rfl
  obtain ⟨y, hy, _⟩ := f1.prev
  have s2 := Same.quiet (p := pSlice) (g := g3) (rest := ([(pTw, g4)] ++ [(pOp "]", g5)]) ++ rest) (st' := st ++ [Str.ofString "["]) (by decide +kernel) (show (54 : Int) ≠ 4 by decide) f1.need hy (by rw [f1.st]; exact brace_plain (by decide +kernel)) (by
    rw [due_quiet (by decide +kernel)]
    have hs : s31 (st ++ [Str.ofString "["]) (Str.ofString ":") = true := by
      simp [s31]
    unfold out31
    rw [hs]
    split
    · split <;> rfl
    · rfl)
  have s3 := Same.quiet (σ := aft pSlice (tk e1 pSlice g3).e (st ++ [Str.ofString "["])) (p := pTw) (g := g4) (rest := [(pOp "]", g5)] ++ rest) (st' := st ++ [Str.ofString "["]) (by decide +kernel) (show (2 : Int) ≠ 4 by decide) rfl rfl (brace_plain (by decide +kernel)) (by rw [out_none (by decide +kernel), due_quiet (by decide +kernel)])
  have s4 := Same.quiet (σ := aft pTw (tk (tk e1 pSlice g3).e pTw g4).e (st ++ [Str.ofString "["])) (p := pOp "]") (g := g5) (rest := rest) (st' := st) (by decide +kernel) (show (54 : Int) ≠ 4 by decide) rfl rfl (brace_pop (.inl rfl)) (by rw [out_none (by decide +kernel), due_quiet (by decide +kernel)])
  exact ⟨_, _, s0.trans (s1.trans (s2.trans (s3.trans s4))), fin_aft (by decide +kernel)⟩
end Mine
end

section
open PySem PySem.W PySem.Calls PyProof.Rows PySem.Spec
set_option maxRecDepth 100000
set_option maxHeartbeats 8000000
namespace Mine
/-- a comma ahead of a closing bracket -/
theorem last_out {st : List Str} {x : Str} {g : Bool} {rest : List It} {pe : Nat} {g0 : Bool} (h : x = "]" ∨ x = ")") : out31 st (pLast).kind (pLast).word (tk pe pLast g0).b (nx ((pOp x, g) :: rest) [10]) = dueI pe pLast g0 ((pOp x, g) :: rest) := by
  have n1 : ∀ fin, nx ((pOp x, g) :: rest) fin = if g = true then Str.ofString " " else x := fun fin => by
    have e1 : Str.ofString " " = ⟨#[32]⟩ := by decide +kernel
    have e2 : ∃ c, x = ⟨#[c]⟩ := by rcases h with rfl | rfl; exact ⟨93, by decide +kernel⟩; exact ⟨41, by decide +kernel⟩
    obtain ⟨c, rfl⟩ := e2
    rw [e1]
    cases g <;> simp [nx, txt]
  unfold dueI
  rw [n1, n1]
  rcases h with rfl | rfl <;> cases g
  all_goals (
    rw [show out31 st (pLast).kind (pLast).word (tk pe pLast g0).b _ = [] from by
      unfold out31
      rw [show s31 st (pLast).word = false from by simp only [s31]; rw [show ((pLast).word == Str.ofString ":") = false by decide +kernel]; rfl]
      first
      | (rw [show b31 _ = false by decide +kernel]; split <;> rfl)
      | (rw [show d31 (pLast).word _ = true by decide +kernel, if_neg (show ¬ (false = true) by decide), if_pos (show (true = true) by rfl)]; split <;> (try split) <;> rfl)]
    symm
    unfold dueOne'
    rw [if_neg (by decide +kernel)]
    have z1 : ((pLast).what == Str.ofString "both") = false := by decide +kernel
    have z2 : ((pLast).what == Str.ofString "either") = false := by decide +kernel
    simp [z1, z2])
end Mine
end

section
open PySem PySem.W PySem.Calls PyProof.Rows PySem.Spec
set_option maxRecDepth 100000
set_option maxHeartbeats 8000000
namespace Mine
/-- [ sum , ] -/
theorem Good.list {st : List Str} {Q : List It} {g1 g2 g3 : Bool} (hQ : Good (st ++ [Str.ofString "["]) Q) : Good st ((pOp "[", g1) :: (Q ++ ([(pLast, g2)] ++ [(pOp "]", g3)]))) := by
  refine Good.build (c := 91) (cs := []) (by decide +kernel) (by decide +kernel) (show (54 : Int) ≠ 4 by decide) (by decide +kernel) (by decide +kernel) (by decide) fun e rest => ?_
  rw [show brace st (pOp "[").kind (pOp "[").word = st ++ [Str.ofString "["] from brace_push (.inl rfl)]
  obtain ⟨σ1, e1, s1, f1⟩ := hQ.same (rest := ([(pLast, g2)] ++ [(pOp "]", g3)]) ++ rest) (rdy_aft (p := pOp "[") (e := e) (by decide +kernel) (by decide +kernel)) rfl rfl
  obtain ⟨y, hy, _⟩ := f1.prev
  have s2 := Same.quiet (p := pLast) (g := g2) (rest := [(pOp "]", g3)] ++ rest) (st' := st ++ [Str.ofString "["]) (by decide +kernel) (show (54 : Int) ≠ 4 by decide) f1.need hy (by rw [f1.st]; exact brace_plain (by decide +kernel)) (last_out (.inl rfl))
  have s3 := Same.quiet (σ := aft pLast (tk e1 pLast g2).e (st ++ [Str.ofString "["])) (p := pOp "]") (g := g3) (rest := rest) (st' := st) (by decide +kernel) (show (54 : Int) ≠ 4 by decide) rfl rfl (brace_pop (.inl rfl)) (by rw [out_none (by decide +kernel), due_quiet (by decide +kernel)])
  exact ⟨_, _, s1.trans (s2.trans s3), fin_aft (by decide +kernel)⟩
/-- ( sum , ) -/
theorem Good.tuple {st : List Str} {Q : List It} {g1 g2 g3 : Bool} (hQ : Good (st ++ [Str.ofString "("]) Q) : Good st ((pOp "(", g1) :: (Q ++ ([(pLast, g2)] ++ [(pOp ")", g3)]))) := by
  refine Good.build (c := 40) (cs := []) (by decide +kernel) (by decide +kernel) (show (54 : Int) ≠ 4 by decide) (by decide +kernel) (by decide +kernel) (by decide) fun e rest => ?_
  rw [show brace st (pOp "(").kind (pOp "(").word = st ++ [Str.ofString "("] from brace_push (.inr (.inl rfl))]
  obtain ⟨σ1, e1, s1, f1⟩ := hQ.same (rest := ([(pLast, g2)] ++ [(pOp ")", g3)]) ++ rest) (rdy_aft (p := pOp "(") (e := e) (by decide +kernel) (by decide +kernel)) rfl rfl
  obtain ⟨y, hy, _⟩ := f1.prev
  have s2 := Same.quiet (p := pLast) (g := g2) (rest := [(pOp ")", g3)] ++ rest) (st' := st ++ [Str.ofString "("]) (by decide +kernel) (show (54 : Int) ≠ 4 by decide) f1.need hy (by rw [f1.st]; exact brace_plain (by decide +kernel)) (last_out (.inr rfl))
  have s3 := Same.quiet (σ := aft pLast (tk e1 pLast g2).e (st ++ [Str.ofString "("])) (p := pOp ")") (g := g3) (rest := rest) (st' := st) (by decide +kernel) (show (54 : Int) ≠ 4 by decide) rfl rfl (brace_pop (.inr (.inl rfl))) (by rw [out_none (by decide +kernel), due_quiet (by decide +kernel)])
  exact ⟨_, _, s1.trans (s2.trans s3), fin_aft (by decide +kernel)⟩
end Mine
end

section
open PySem PySem.W PySem.Calls PyProof.Rows PySem.Spec
set_option maxRecDepth 100000
set_option maxHeartbeats 8000000
namespace Mine
theorem nx_head {q : Pc} {g : Bool} {r : List It} {fin : List Nat} {c : Nat} {cs : List Nat} (h : q.word.cps.toList = c :: cs) : nx ((q, g) :: r) fin = if g = true then Str.ofString " " else ⟨#[c]⟩ := by
  have e1 : Str.ofString " " = ⟨#[32]⟩ := by decide +kernel
  rw [e1]
  cases g <;> simp [nx, txt, h]
theorem heads_out {c : Nat} (h : c ∈ 107 :: heads) : b31 ⟨#[c]⟩ = true ∧ Has ⟨#[c]⟩ ")]" = false ∧ ins [Str.ofString "", Str.ofString ")", Str.ofString "]"] ⟨#[c]⟩ = false ∧ ((⟨#[c]⟩ : Str) == Str.ofString " ") = false := by
  simp only [heads, List.mem_cons, List.not_mem_nil, or_false] at h
  rcases h with rfl | rfl | rfl | rfl | rfl | rfl | rfl | rfl | rfl | rfl | rfl <;> decide +kernel
/-- a comma, or a colon, with something behind it -/
theorem comma_out {st : List Str} {x : Str} {pe : Nat} {gc g : Bool} {q : Pc} {r : List It} {c : Nat} {cs : List Nat} (hx : c31 54 x = true) (hs : s31 st x = false) (hq : q.word.cps.toList = c :: cs) (hc : c ∈ 107 :: heads) :
    out31 st (pComma x).kind (pComma x).word (tk pe (pComma x) gc).b (nx ((q, g) :: r) [10]) = dueI pe (pComma x) gc ((q, g) :: r) := by
  obtain ⟨h1, h2, h3, h4⟩ := heads_out hc
  have z0 : ins [Str.ofString "comma", Str.ofString "last"] (pComma x).what = true := show ins [Str.ofString "comma", Str.ofString "last"] (Str.ofString "comma") = true by decide +kernel
  have z1 : ((pComma x).what == Str.ofString "both") = false := show (Str.ofString "comma" == Str.ofString "both") = false by decide +kernel
  have z2 : ((pComma x).what == Str.ofString "either") = false := show (Str.ofString "comma" == Str.ofString "either") = false by decide +kernel
  unfold dueI
  rw [nx_head hq, nx_head hq]
  cases g with
  | true =>
    have b : b31 (Str.ofString " ") = false := by decide +kernel
    have e : (Str.ofString " " == Str.ofString " ") = true := by decide +kernel
    simp only [if_true, out31, b, dueOne', e, z1, z2, Bool.not_true, Bool.and_false, Bool.false_and, Bool.false_eq_true, if_false]
    split <;> rfl
  | false =>
    simp only [Bool.false_eq_true, if_false, out31, h1, hs, d31, h2, Bool.and_false, dueOne', h4, h3, z0]
    rw [if_pos hx]
    rfl
/-- = in a call -/
theorem Same.kw {σ : MS} {pe : Nat} {g : Bool} {rest : List It} {y : Str} {st : List Str} (hn : σ.need = .no) (hp : σ.prev = some (y, pe)) (hst : σ.st = st ++ [Str.ofString "("]) :
    Same σ pe [(pWord, g)] rest (aft pWord (tk pe pWord g).e (st ++ [Str.ofString "("])) (tk pe pWord g).e := by
  have hb : brace (st ++ [Str.ofString "("]) 54 (Str.ofString "=") = st ++ [Str.ofString "("] := brace_plain (by decide +kernel)
  have hk : kwEq (st ++ [Str.ofString "("]) (Str.ofString "=") = true := by
    simp [kwEq]
  obtain ⟨need, ptype, prev, st0⟩ := σ
  dsimp only at hn hp hst
  subst hn hp hst
  have e : step' (nx rest [10]) ⟨.no, ptype, some (y, pe), st ++ [Str.ofString "("]⟩ (tk pe pWord g) = (aft pWord (tk pe pWord g).e (st ++ [Str.ofString "("]), []) := by
    have hf : ∀ b, fresh (st ++ [Str.ofString "("]) ptype y (Str.ofString "=") pe b = (.no, []) := fun b => by unfold fresh; rw [if_pos hk]
    have ho : ∀ b, out31 (st ++ [Str.ofString "("]) 54 (Str.ofString "=") b (nx rest [10]) = [] := fun b => out_none (by decide +kernel)
    show step' _ _ ⟨54, Str.ofString "=", pe + gp g, _⟩ = _
    simp only [step', hb, needStep, hf, ho, aft, tk]
    rfl
  refine ⟨[], ?_, ?_⟩
  · simp only [List.cons_append, List.nil_append, mwL]
    rw [e]
    rfl
  · simp only [List.cons_append, List.nil_append, dueL]
    rw [due_quiet (show quietWhat (Str.ofString "word") = true by decide +kernel)]
    rfl
theorem HeadOk.out {Q rest : List It} {st : List Str} {x : Str} {pe : Nat} {gc : Bool} (h : HeadOk Q) (hx : c31 54 x = true) (hs : s31 st x = false) :
    out31 st (pComma x).kind (pComma x).word (tk pe (pComma x) gc).b (nx (Q ++ rest) [10]) = dueI pe (pComma x) gc (Q ++ rest) := by
  obtain ⟨q, g, r, c, cs, rfl, h1, h2⟩ := h
  exact comma_out hx hs h1 (.tail _ h2)
/-- { 'k' : sum } -/
theorem Good.dict {st : List Str} {Q : List It} {g1 g2 g3 g4 : Bool} (hQ : Good (st ++ [Str.ofString "{"]) Q) : Good st ((pOp "{", g1) :: ([(pKq, g2)] ++ ([(pComma ":", g3)] ++ (Q ++ [(pOp "}", g4)])))) := by
  refine Good.build (c := 123) (cs := []) (by decide +kernel) (by decide +kernel) (show (54 : Int) ≠ 4 by decide) (by decide +kernel) (by decide +kernel) (by decide) fun e rest => ?_
  rw [show brace st (pOp "{").kind (pOp "{").word = st ++ [Str.ofString "{"] from brace_push (.inr (.inr rfl))]
  have s1 := Same.quiet (σ := aft (pOp "{") e (st ++ [Str.ofString "{"])) (pe := e) (p := pKq) (g := g2) (rest := [(pComma ":", g3)] ++ (Q ++ [(pOp "}", g4)]) ++ rest) (st' := st ++ [Str.ofString "{"]) (by decide +kernel) (show (3 : Int) ≠ 4 by decide) rfl rfl (brace_plain (by decide +kernel)) (by rw [out_none (by decide +kernel), due_quiet (by decide +kernel)])
  have s2 := Same.quiet (σ := aft pKq (tk e pKq g2).e (st ++ [Str.ofString "{"])) (p := pComma ":") (g := g3) (rest := Q ++ [(pOp "}", g4)] ++ rest) (st' := st ++ [Str.ofString "{"]) (by decide +kernel) (show (54 : Int) ≠ 4 by decide) rfl rfl (brace_plain (by decide +kernel)) (by
    rw [List.append_assoc]
    exact hQ.head.out (by decide +kernel) (by simp only [s31]; rw [List.length_append, List.length_singleton, Nat.add_sub_cancel, List.drop_left]; decide +kernel))
  obtain ⟨σ1, e1, s3, f1⟩ := hQ.same (rest := [(pOp "}", g4)] ++ rest) (rdy_aft (p := pComma ":") (e := (tk (tk e pKq g2).e (pComma ":") g3).e) (by decide +kernel) (by decide +kernel)) rfl rfl
  obtain ⟨y, hy, _⟩ := f1.prev
  have s4 := Same.quiet (p := pOp "}") (g := g4) (rest := rest) (st' := st) (by decide +kernel) (show (54 : Int) ≠ 4 by decide) f1.need hy (by rw [f1.st]; exact brace_pop (.inr (.inr rfl))) (by rw [out_none (by decide +kernel), due_quiet (by decide +kernel)])
  exact ⟨_, _, s1.trans (s2.trans (s3.trans s4)), fin_aft (by decide +kernel)⟩
/-- f ( sum , k = sum ) -/
theorem Good.call {st : List Str} {Q Q' : List It} {g1 g2 g3 g4 g5 g6 : Bool} (hQ : Good (st ++ [Str.ofString "("]) Q) (hQ' : Good (st ++ [Str.ofString "("]) Q') :
    Good st ((pNm "f", g1) :: ([(pOp "(", g2)] ++ (Q ++ ([(pComma ",", g3)] ++ ([(pNm "k", g4)] ++ ([(pWord, g5)] ++ (Q' ++ [(pOp ")", g6)]))))))) := by
  refine Good.build (c := 102) (cs := []) (by decide +kernel) (by decide +kernel) (show (1 : Int) ≠ 4 by decide) (by decide +kernel) (by decide +kernel) (by decide) fun e rest => ?_
  have hb0 : brace st (pNm "f").kind (pNm "f").word = st := brace_plain (by decide +kernel)
  rw [hb0]
  have s0 := Same.quiet (σ := aft (pNm "f") e st) (pe := e) (p := pOp "(") (g := g2) (rest := Q ++ ([(pComma ",", g3)] ++ ([(pNm "k", g4)] ++ ([(pWord, g5)] ++ (Q' ++ [(pOp ")", g6)])))) ++ rest) (by decide +kernel) (show (54 : Int) ≠ 4 by decide) rfl rfl (brace_push (st := st) (.inr (.inl rfl))) (by rw [out_none (by decide +kernel), due_quiet (by decide +kernel)])
  obtain ⟨σ1, e1, s1, f1⟩ := hQ.same (rest := ([(pComma ",", g3)] ++ ([(pNm "k", g4)] ++ ([(pWord, g5)] ++ (Q' ++ [(pOp ")", g6)])))) ++ rest) (rdy_aft (p := pOp "(") (e := (tk e (pOp "(") g2).e) (by decide +kernel) (by decide +kernel)) rfl rfl
  obtain ⟨y, hy, _⟩ := f1.prev
  have s2 := Same.quiet (p := pComma ",") (g := g3) (rest := ([(pNm "k", g4)] ++ ([(pWord, g5)] ++ (Q' ++ [(pOp ")", g6)]))) ++ rest) (st' := st ++ [Str.ofString "("]) (by decide +kernel) (show (54 : Int) ≠ 4 by decide) f1.need hy (by rw [f1.st]; exact brace_plain (by decide +kernel))
    (comma_out (c := 107) (cs := []) (by decide +kernel) (by simp only [s31]; rw [show ((pComma ",").word == Str.ofString ":") = false by decide +kernel]; rfl) (by decide +kernel) (.head _))
  have s3 := Same.quiet (σ := aft (pComma ",") (tk e1 (pComma ",") g3).e (st ++ [Str.ofString "("])) (p := pNm "k") (g := g4) (rest := ([(pWord, g5)] ++ (Q' ++ [(pOp ")", g6)])) ++ rest) (st' := st ++ [Str.ofString "("]) (by decide +kernel) (show (1 : Int) ≠ 4 by decide) rfl rfl (brace_plain (by decide +kernel)) (by rw [out_none (by decide +kernel), due_quiet (by decide +kernel)])
  have s4 := Same.kw (σ := aft (pNm "k") (tk (tk e1 (pComma ",") g3).e (pNm "k") g4).e (st ++ [Str.ofString "("])) (g := g5) (rest := (Q' ++ [(pOp ")", g6)]) ++ rest) (st := st) rfl rfl rfl
  obtain ⟨σ2, e2, s5, f2⟩ := hQ'.same (rest := [(pOp ")", g6)] ++ rest) (rdy_aft (p := pWord) (e := (tk (tk (tk e1 (pComma ",") g3).e (pNm "k") g4).e pWord g5).e) (by decide +kernel) (by decide +kernel)) rfl rfl
  obtain ⟨y2, hy2, _⟩ := f2.prev
  have s6 := Same.quiet (p := pOp ")") (g := g6) (rest := rest) (st' := st) (by decide +kernel) (show (54 : Int) ≠ 4 by decide) f2.need hy2 (by rw [f2.st]; exact brace_pop (.inr (.inl rfl))) (by rw [out_none (by decide +kernel), due_quiet (by decide +kernel)])
  exact ⟨_, _, s0.trans (s1.trans (s2.trans (s3.trans (s4.trans (s5.trans s6))))), fin_aft (by decide +kernel)⟩
end Mine
end

section
open PySem PySem.W PySem.Calls PyProof.Rows PySem.Spec
set_option maxRecDepth 100000
set_option maxHeartbeats 8000000
namespace Mine
/-! the grammar's words, laid out with any gaps -/
def pcs (its : List It) : List Pc := its.map (·.1)
theorem its_nil {its : List It} (h : pcs its = []) : its = [] := List.map_eq_nil_iff.mp h
theorem its_cons {its : List It} {p : Pc} {ps : List Pc} (h : pcs its = p :: ps) : ∃ g r, its = (p, g) :: r ∧ pcs r = ps := by
  obtain ⟨⟨p', g⟩, r, rfl, h1, h2⟩ := List.map_eq_cons_iff.mp h
  cases h1
  exact ⟨g, r, rfl, h2⟩
theorem its_app {its : List It} {a b : List Pc} (h : pcs its = a ++ b) : ∃ x y, its = x ++ y ∧ pcs x = a ∧ pcs y = b := List.map_eq_append_iff.mp h
theorem its_one {its : List It} {p : Pc} (h : pcs its = [p]) : ∃ g, its = [(p, g)] := by
  obtain ⟨g, r, rfl, h2⟩ := its_cons h
  exact ⟨g, by rw [its_nil h2]⟩

theorem goodT {S : List Pc → Prop} (hS : ∀ q, S q → ∀ its st, pcs its = q → Good st its) {p : List Pc} (h : TermP S p) : ∀ its st, pcs its = p → Good st its := by
  intro its st he
  cases h with
  | ab =>
    obtain ⟨g, rfl⟩ := its_one he
    exact Good.word (c := 97) (cs := [98]) (by decide +kernel) (by decide +kernel) (by decide) (by decide +kernel) (by decide +kernel) (by decide +kernel) (by decide +kernel) (by decide)
  | ten =>
    obtain ⟨g, rfl⟩ := its_one he
    exact Good.word (c := 49) (cs := [48]) (by decide +kernel) (by decide +kernel) (by decide) (by decide +kernel) (by decide +kernel) (by decide +kernel) (by decide +kernel) (by decide)
  | sign x hx =>
    obtain ⟨g, r, rfl, h2⟩ := its_cons he
    obtain ⟨g', rfl⟩ := its_one h2
    exact Good.signed hx
  | paren q hq =>
    obtain ⟨xy, z, rfl, hxy, hz⟩ := its_app he
    obtain ⟨x, y, rfl, hx, hy⟩ := its_app hxy
    obtain ⟨g1, rfl⟩ := its_one hx
    obtain ⟨g2, rfl⟩ := its_one hz
    exact Good.paren (hS q hq y _ hy)
  | call q r hq hr =>
    obtain ⟨i4, z, rfl, h4, hz⟩ := its_app he
    obtain ⟨i3, y2, rfl, h3, hy2⟩ := its_app h4
    obtain ⟨i2, c3, rfl, h2, hc3⟩ := its_app h3
    obtain ⟨i1, y1, rfl, h1, hy1⟩ := its_app h2
    obtain ⟨g1, j1, rfl, k1⟩ := its_cons h1
    obtain ⟨g2, rfl⟩ := its_one k1
    obtain ⟨g3, j2, rfl, k2⟩ := its_cons hc3
    obtain ⟨g4, j3, rfl, k3⟩ := its_cons k2
    obtain ⟨g5, rfl⟩ := its_one k3
    obtain ⟨g6, rfl⟩ := its_one hz
    have z := Good.call (st := st) (g1 := g1) (g2 := g2) (g3 := g3) (g4 := g4) (g5 := g5) (g6 := g6) (hS q hq y1 _ hy1) (hS r hr y2 _ hy2)
    simpa only [List.append_assoc, List.cons_append, List.nil_append] using z
  | slice q hq =>
    obtain ⟨xy, z, rfl, hxy, hz⟩ := its_app he
    obtain ⟨x, y, rfl, hx, hy⟩ := its_app hxy
    obtain ⟨g1, j1, rfl, k1⟩ := its_cons hx
    obtain ⟨g2, rfl⟩ := its_one k1
    obtain ⟨g3, j2, rfl, k2⟩ := its_cons hz
    obtain ⟨g4, j3, rfl, k3⟩ := its_cons k2
    obtain ⟨g5, rfl⟩ := its_one k3
    have z := Good.slice (st := st) (g1 := g1) (g2 := g2) (g3 := g3) (g4 := g4) (g5 := g5) (hS q hq y _ hy)
    simpa only [List.append_assoc, List.cons_append, List.nil_append] using z
  | list q hq =>
    obtain ⟨xy, z, rfl, hxy, hz⟩ := its_app he
    obtain ⟨x, y, rfl, hx, hy⟩ := its_app hxy
    obtain ⟨g1, rfl⟩ := its_one hx
    obtain ⟨g2, j2, rfl, k2⟩ := its_cons hz
    obtain ⟨g3, rfl⟩ := its_one k2
    have z := Good.list (st := st) (g1 := g1) (g2 := g2) (g3 := g3) (hS q hq y _ hy)
    simpa only [List.append_assoc, List.cons_append, List.nil_append] using z
  | tuple q hq =>
    obtain ⟨xy, z, rfl, hxy, hz⟩ := its_app he
    obtain ⟨x, y, rfl, hx, hy⟩ := its_app hxy
    obtain ⟨g1, rfl⟩ := its_one hx
    obtain ⟨g2, j2, rfl, k2⟩ := its_cons hz
    obtain ⟨g3, rfl⟩ := its_one k2
    have z := Good.tuple (st := st) (g1 := g1) (g2 := g2) (g3 := g3) (hS q hq y _ hy)
    simpa only [List.append_assoc, List.cons_append, List.nil_append] using z
  | dict q hq =>
    obtain ⟨xy, z, rfl, hxy, hz⟩ := its_app he
    obtain ⟨x, y, rfl, hx, hy⟩ := its_app hxy
    obtain ⟨g1, j1, rfl, k1⟩ := its_cons hx
    obtain ⟨g2, j2, rfl, k2⟩ := its_cons k1
    obtain ⟨g3, rfl⟩ := its_one k2
    obtain ⟨g4, rfl⟩ := its_one hz
    have z := Good.dict (st := st) (g1 := g1) (g2 := g2) (g3 := g3) (g4 := g4) (hS q hq y _ hy)
    simpa only [List.append_assoc, List.cons_append, List.nil_append] using z
theorem goodS {T : List Pc → Prop} (hT : ∀ q, T q → ∀ its st, pcs its = q → Good st its) : ∀ {n p}, SumP T n p → ∀ its st, pcs its = p → Good st its := by
  intro n p h
  induction h with
  | base h => exact hT _ h
  | @step n p w q _ hw hq ih =>
    intro its st he
    obtain ⟨xy, z, rfl, hxy, hz⟩ := its_app he
    obtain ⟨x, y, rfl, hx, hy⟩ := its_app hxy
    obtain ⟨g, rfl⟩ := its_one hy
    rw [List.append_assoc]
    exact Good.sum (ih x st hx) hw (hT q hq z st hz)
theorem good_term : ∀ d p, IsTerm d p → ∀ its st, pcs its = p → Good st its
  | 0, _, h => goodT (fun _ f => f.elim) h
  | d + 1, _, h => goodT (fun _ ⟨_, _, hs⟩ => goodS (good_term d) hs) h
theorem good_sum {d : Nat} {p : List Pc} (h : IsSum d p) : ∀ its st, pcs its = p → Good st its := let ⟨_, _, hs⟩ := h; goodS (good_term d) hs

/-! the stack of brackets stays low -/
def pcOk (p : Pc) : Bool := (decide (p.kind = 1) || decide (p.kind = 2) || decide (p.kind = 3) || decide (p.kind = 54)) && !(p.word == Str.ofString "lambda") && (decide ((reprText p.word).length ≤ 1000) && PyData.strOk (Str.ofString "E231 missing whitespace after " ++ reprText p.word)) && p.word.cps.toList.all (· != 32) && decide (0 < p.word.cps.toList.length) && decide (p.word.cps.toList.length ≤ 3)
structure StOk (st : List Str) : Prop where
  len : st.length ≤ 2
  ok : ∀ a ∈ st, okB a
inductive Run : List Str → List Pc → List Str → Prop
  | nil {st} : Run st [] st
  | cons {st p r st'} : pcOk p = true → StOk (brace st p.kind p.word) → Run (brace st p.kind p.word) r st' → Run st (p :: r) st'
theorem Run.app {st st' st'' : List Str} {P Q : List Pc} (h : Run st P st') (h' : Run st' Q st'') : Run st (P ++ Q) st'' := by
  induction h with
  | nil => exact h'
  | cons a b _ ih => exact .cons a b (ih h')
theorem Run.one {st st' : List Str} {p : Pc} (h : pcOk p = true) (e : brace st p.kind p.word = st') (hs : StOk st') : Run st [p] st' := by
  subst e
  exact .cons h hs .nil
theorem Run.plain {st : List Str} {p : Pc} (h : pcOk p = true) (e : plainW p.word = true) (hs : StOk st) : Run st [p] st := Run.one h (brace_plain e) hs
theorem opPc_ok {w : Str} (h : w ∈ either ++ both) : pcOk (opPc w) = true := by
  simp only [either, both, List.cons_append, List.nil_append, List.mem_cons, List.not_mem_nil, or_false] at h
  rcases h with rfl | rfl | rfl | rfl | rfl | rfl | rfl | rfl | rfl | rfl | rfl | rfl | rfl | rfl | rfl | rfl | rfl | rfl | rfl | rfl | rfl | rfl | rfl <;> decide +kernel
theorem StOk.push {st : List Str} {x : Str} (h : StOk st) (hl : st.length + 1 ≤ 2) (hx : okB x) : StOk (st ++ [x]) :=
  ⟨by simpa using hl, fun a ha => by
    rcases List.mem_append.mp ha with q | q
    · exact h.ok a q
    · rw [List.mem_singleton.mp q]; exact hx⟩

theorem runT {S : List Pc → Prop} {st : List Str} (hs : StOk st) (hS : ∀ q, S q → st.length + 1 ≤ 2 ∧ ∀ x, okB x → Run (st ++ [x]) q (st ++ [x])) {p : List Pc} (h : TermP S p) : Run st p st := by
  have o1 : okB "(" := .inl rfl
  have o2 : okB "[" := .inr (.inl rfl)
  have o3 : okB "{" := .inr (.inr rfl)
  cases h with
  | ab => exact .plain (by decide +kernel) (by decide +kernel) hs
  | ten => exact .plain (by decide +kernel) (by decide +kernel) hs
  | sign x hx =>
    refine Run.app (P := [_]) (st' := st) (.plain ?_ ?_ hs) (.plain (by decide +kernel) (by decide +kernel) hs)
    · rcases hx with rfl | rfl <;> decide +kernel
    · rcases hx with rfl | rfl <;> decide +kernel
  | paren q hq =>
    obtain ⟨hl, hr⟩ := hS q hq
    exact ((Run.one (by decide +kernel) (brace_push (.inr (.inl rfl))) (hs.push hl o1)).app (hr _ o1)).app (Run.one (by decide +kernel) (brace_pop (.inr (.inl rfl))) hs)
  | call q r hq hr =>
    obtain ⟨hl, hq⟩ := hS q hq
    obtain ⟨_, hr⟩ := hS r hr
    have hs2 := hs.push hl o1
    have a1 : Run st [pNm "f", pOp "("] (st ++ [Str.ofString "("]) := Run.app (P := [_]) (.plain (by decide +kernel) (by decide +kernel) hs) (Run.one (by decide +kernel) (brace_push (.inr (.inl rfl))) hs2)
    have a2 : Run (st ++ [Str.ofString "("]) [pComma ",", pNm "k", pWord] (st ++ [Str.ofString "("]) := Run.app (P := [_]) (.plain (by decide +kernel) (by decide +kernel) hs2) (Run.app (P := [_]) (.plain (by decide +kernel) (by decide +kernel) hs2) (.plain (by decide +kernel) (by decide +kernel) hs2))
    exact (((a1.app (hq _ o1)).app a2).app (hr _ o1)).app (Run.one (by decide +kernel) (brace_pop (.inr (.inl rfl))) hs)
  | slice q hq =>
    obtain ⟨hl, hq⟩ := hS q hq
    have hs2 := hs.push hl o2
    have a1 : Run st [pNm "d", pOp "["] (st ++ [Str.ofString "["]) := Run.app (P := [_]) (.plain (by decide +kernel) (by decide +kernel) hs) (Run.one (by decide +kernel) (brace_push (.inl rfl)) hs2)
    have a2 : Run (st ++ [Str.ofString "["]) [pSlice, pTw, pOp "]"] st := Run.app (P := [_]) (.plain (by decide +kernel) (by decide +kernel) hs2) (Run.app (P := [_]) (.plain (by decide +kernel) (by decide +kernel) hs2) (Run.one (by decide +kernel) (brace_pop (.inl rfl)) hs))
    exact (a1.app (hq _ o2)).app a2
  | list q hq =>
    obtain ⟨hl, hq⟩ := hS q hq
    have hs2 := hs.push hl o2
    have a2 : Run (st ++ [Str.ofString "["]) [pLast, pOp "]"] st := Run.app (P := [_]) (.plain (by decide +kernel) (by decide +kernel) hs2) (Run.one (by decide +kernel) (brace_pop (.inl rfl)) hs)
    exact ((Run.one (by decide +kernel) (brace_push (.inl rfl)) hs2).app (hq _ o2)).app a2
  | tuple q hq =>
    obtain ⟨hl, hq⟩ := hS q hq
    have hs2 := hs.push hl o1
    have a2 : Run (st ++ [Str.ofString "("]) [pLast, pOp ")"] st := Run.app (P := [_]) (.plain (by decide +kernel) (by decide +kernel) hs2) (Run.one (by decide +kernel) (brace_pop (.inr (.inl rfl))) hs)
    exact ((Run.one (by decide +kernel) (brace_push (.inr (.inl rfl))) hs2).app (hq _ o1)).app a2
  | dict q hq =>
    obtain ⟨hl, hq⟩ := hS q hq
    have hs2 := hs.push hl o3
    have a1 : Run st [pOp "{", pKq, pComma ":"] (st ++ [Str.ofString "{"]) := Run.app (P := [_]) (Run.one (by decide +kernel) (brace_push (.inr (.inr rfl))) hs2) (Run.app (P := [_]) (.plain (by decide +kernel) (by decide +kernel) hs2) (.plain (by decide +kernel) (by decide +kernel) hs2))
    exact (a1.app (hq _ o3)).app (Run.one (by decide +kernel) (brace_pop (.inr (.inr rfl))) hs)
theorem runS {T : List Pc → Prop} {st : List Str} (hs : StOk st) (hT : ∀ q, T q → Run st q st) : ∀ {n p}, SumP T n p → Run st p st := by
  intro n p h
  induction h with
  | base h => exact hT _ h
  | step _ hw hq ih => exact (ih.app (.plain (opPc_ok hw) (plain_op hw) hs)).app (hT _ hq)
theorem run_term : ∀ d p, IsTerm d p → ∀ st, StOk st → st.length + d ≤ 2 → Run st p st
  | 0, _, h, st, hs, _ => runT hs (fun _ f => f.elim) h
  | d + 1, _, h, st, hs, hl => runT hs (fun _ ⟨_, _, h⟩ => ⟨by omega, fun x hx => runS (hs.push (by omega) hx) (fun q hq => run_term d q hq _ (hs.push (by omega) hx) (by simp; omega)) h⟩) h
theorem run_sum {d : Nat} {p : List Pc} (h : IsSum d p) {st : List Str} (hs : StOk st) (hl : st.length + d ≤ 2) : Run st p st := let ⟨_, _, h⟩ := h; runS hs (fun q hq => run_term d q hq st hs hl) h
end Mine
end

section
open PySem PySem.W PySem.Calls PyProof.Rows PySem.Spec PySem.Builtin PySem.Builtin.Str
set_option maxRecDepth 100000
set_option maxHeartbeats 8000000
namespace Mine
/-! from the line's text to the laid-out words -/
theorem slice_in {x : Str} {pre suf : List Nat} {c : Nat} (h : x.cps.toList = pre ++ c :: suf) : Txt.slice x (some (pre.length : Int)) (some ((pre.length : Int) + 1)) = ⟨#[c]⟩ := by
  have hl : x.cps.toList.length = pre.length + suf.length + 1 := by rw [h]; simp; omega
  have z := beq_iff_eq.mp (slice_closes (x := x) (i := (pre.length : Int)) (j := (pre.length : Int) + 1) ⟨by omega, by omega, by omega⟩)
  rw [z, h]
  have e1 : ((pre.length : Int)).toNat = pre.length := by omega
  have e2 : ((pre.length : Int) + 1 - (pre.length : Int)).toNat = 1 := by omega
  rw [e1, e2, List.drop_left]
  rfl
theorem slice_out {x : Str} {n : Nat} (h : x.cps.toList.length = n) : Txt.slice x (some (n : Int)) (some ((n : Int) + 1)) = ⟨#[]⟩ := by
  have hl : x.length = n := by rw [← h]; simp [PySem.Str.length]
  have e : strSliceIndices (some (n : Int)) (some ((n : Int) + 1)) 1 x.length = [] := by
    rw [hl]
    have h1 : ¬ ((n : Int) < 0) := by omega
    have h2 : ¬ ((n : Int) + 1 < 0) := by omega
    have e1 : max (0 : Int) (min (n : Int) (n : Int)) = n := by omega
    have e2 : max (0 : Int) (min ((n : Int) + 1) (n : Int)) = n := by omega
    simp only [strSliceIndices, PySem.sliceRange, h1, h2, if_false, show ((1 : Int) > 0) = True from by simp, if_true, e1, e2]
    simp
  unfold Txt.slice
  rw [e]
  split
  · rename_i q
    have q2 : (0 == x.length) = true := by simpa using q
    have q3 : x.cps.size = 0 := (beq_iff_eq.mp q2).symm
    cases x with | mk cps => exact congrArg PySem.Str.mk (Array.eq_empty_of_size_eq_zero q3)
  · rfl
theorem item_in {x : Str} {pre suf : List Nat} {c : Nat} (h : x.cps.toList = pre ++ c :: suf) : Txt.item x (pre.length : Int) = ⟨#[c]⟩ := by
  have hl : x.length = pre.length + suf.length + 1 := by
    have : x.cps.toList.length = pre.length + suf.length + 1 := by rw [h]; simp; omega
    simpa [PySem.Str.length] using this
  have e : PySem.seqIndex? (pre.length : Int) x.length = some pre.length := by
    unfold PySem.seqIndex?
    have h1 : ¬ ((pre.length : Int) < 0) := by omega
    have h2 : (pre.length : Int) < (x.length : Int) := by omega
    simp [h1, h2]
  have e2 : x.cps[pre.length]? = some c := by
    rw [← Array.getElem?_toList, h]
    simp
  unfold Txt.item Txt.charAt
  rw [e]
  simp [e2]

def gapL (g : Bool) : List Nat := if g = true then [32] else []
theorem gapL_len {g : Bool} : (gapL g).length = gp g := by cases g <;> rfl
theorem txt_cons {p : Pc} {g : Bool} {r : List It} : txt ((p, g) :: r) = gapL g ++ p.word.cps.toList ++ txt r := rfl
theorem txt_app : ∀ (a b : List It), txt (a ++ b) = txt a ++ txt b
  | [], _ => rfl
  | (p, g) :: r, b => by simp only [List.cons_append, txt_cons, txt_app r b, List.append_assoc]
def toks : Nat → List It → List Tk
  | _, [] => []
  | pe, (p, g) :: r => tk pe p g :: toks (tk pe p g).e r
def spsOf : Nat → List It → List Sp
  | _, [] => []
  | pe, (p, g) :: r => ⟨p.word, p.what, (tk pe p g).b, (tk pe p g).e⟩ :: spsOf (tk pe p g).e r
theorem tk_e {pe : Nat} {p : Pc} {g : Bool} : (tk pe p g).e = pe + (txt [(p, g)]).length := by
  have e : (txt [(p, g)]).length = gp g + p.word.length := by
    rw [txt_cons, List.length_append, List.length_append, gapL_len]
    simp [txt, PySem.Str.length]
  rw [e]
  simp only [tk]
  omega
theorem spsOf_app : ∀ (a : List It) (pe : Nat) (b : List It), spsOf pe (a ++ b) = spsOf pe a ++ spsOf (pe + (txt a).length) b
  | [], _, _ => rfl
  | (p, g) :: r, pe, b => by
    rw [List.cons_append, spsOf, spsOf_app r, spsOf, List.cons_append, tk_e, show (p, g) :: r = [(p, g)] ++ r from rfl, txt_app, List.length_append, Nat.add_assoc]
theorem toks_app : ∀ (a : List It) (pe : Nat) (b : List It), toks pe (a ++ b) = toks pe a ++ toks (pe + (txt a).length) b
  | [], _, _ => rfl
  | (p, g) :: r, pe, b => by
    rw [List.cons_append, toks, toks_app r, toks, List.cons_append, tk_e, show (p, g) :: r = [(p, g)] ++ r from rfl, txt_app, List.length_append, Nat.add_assoc]
theorem spsOf_len : ∀ (a : List It) (pe : Nat), (spsOf pe a).length = a.length
  | [], _ => rfl
  | (p, g) :: r, pe => by rw [spsOf, List.length_cons, spsOf_len r, List.length_cons]
theorem toks_len : ∀ (a : List It) (pe : Nat), (toks pe a).length = a.length
  | [], _ => rfl
  | (p, g) :: r, pe => by rw [toks, List.length_cons, toks_len r, List.length_cons]
/-- the last token, the line's end -/
def nlTk (n : Nat) : Tk := ⟨4, Str.ofString "\n", n, n + 1⟩

theorem nx_at {x : Str} {pre fin : List Nat} {r : List It} (h : x.cps.toList = pre ++ (txt r ++ fin)) (n : Nat) (hn : n = pre.length) : nextOf x n = nx r fin := by
  subst hn
  unfold nextOf nx
  generalize txt r ++ fin = suf at h
  cases suf with
  | nil => exact slice_out (by rw [h]; simp)
  | cons c suf => exact slice_in h

theorem mw_mwL {line : Str} {m : Nat} : ∀ (its : List It) (pre : List Nat) (pe : Nat) (σ : MS), pe = pre.length → line.cps.toList = pre ++ (txt its ++ [10]) → mw line σ (toks pe its ++ [nlTk m]) = mwL σ pe its
  | [], _, _, σ, _, _ => by
    simp only [toks, List.nil_append, mw, mwL, step, nlTk, if_true, List.append_nil]
  | (p, g) :: r, pre, pe, σ, hp, h => by
    have h2 : line.cps.toList = (pre ++ txt [(p, g)]) ++ (txt r ++ [10]) := by
      rw [h, show (p, g) :: r = [(p, g)] ++ r from rfl, txt_app]; simp only [List.append_assoc]
    have hp2 : (tk pe p g).e = (pre ++ txt [(p, g)]).length := by rw [tk_e, hp, List.length_append]
    rw [toks, List.cons_append, mw, step_eq, nx_at h2 _ hp2, mw_mwL r _ _ _ hp2 h2, mwL]

theorem dueK_is {line : Str} {a : List It} {p0 p : Pc} {g0 g : Bool} {r : List It} (h : line.cps.toList = txt (a ++ (p0, g0) :: (p, g) :: r)) (ok0 : pcOk p0 = true) :
    dueK line (spsOf 0 (a ++ (p0, g0) :: (p, g) :: r)) (a.length + 1) = dueI (txt (a ++ [(p0, g0)])).length p g r := by
  have e1 : spsOf 0 (a ++ (p0, g0) :: (p, g) :: r) = spsOf 0 a ++ ⟨p0.word, p0.what, (tk (txt a).length p0 g0).b, (tk (txt a).length p0 g0).e⟩ :: ⟨p.word, p.what, (tk (tk (txt a).length p0 g0).e p g).b, (tk (tk (txt a).length p0 g0).e p g).e⟩ :: spsOf (tk (tk (txt a).length p0 g0).e p g).e r := by
    rw [spsOf_app, Nat.zero_add]; rfl
  have hpe : (tk (txt a).length p0 g0).e = (txt (a ++ [(p0, g0)])).length := by rw [tk_e, txt_app, List.length_append]
  rw [e1, hpe]
  generalize hN : (txt (a ++ [(p0, g0)])).length = pe
  have i1 : (spsOf 0 a ++ (⟨p0.word, p0.what, (tk (txt a).length p0 g0).b, pe⟩ : Sp) :: ⟨p.word, p.what, (tk pe p g).b, (tk pe p g).e⟩ :: spsOf (tk pe p g).e r)[a.length + 1 - 1]? = some ⟨p0.word, p0.what, (tk (txt a).length p0 g0).b, pe⟩ := by
    rw [Nat.add_sub_cancel, List.getElem?_append_right (by rw [spsOf_len]; omega), spsOf_len, Nat.sub_self]; rfl
  have i2 : (spsOf 0 a ++ (⟨p0.word, p0.what, (tk (txt a).length p0 g0).b, pe⟩ : Sp) :: ⟨p.word, p.what, (tk pe p g).b, (tk pe p g).e⟩ :: spsOf (tk pe p g).e r)[a.length + 1]? = some ⟨p.word, p.what, (tk pe p g).b, (tk pe p g).e⟩ := by
    rw [List.getElem?_append_right (by rw [spsOf_len]; omega), spsOf_len, Nat.add_sub_cancel_left]; rfl
  unfold dueK
  rw [i1, i2]
  dsimp only
  -- the sign behind
  have hs : line.cps.toList = txt (a ++ [(p0, g0)]) ++ (txt [(p, g)] ++ txt r) := by
    rw [h, show a ++ (p0, g0) :: (p, g) :: r = a ++ [(p0, g0)] ++ ([(p, g)] ++ r) by simp, txt_app (a ++ [(p0, g0)]), txt_app [(p, g)]]
  have hnx : Txt.slice line (some ((tk pe p g).e : Int)) (some (((tk pe p g).e : Int) + 1)) = nx r [] := by
    have h3 : line.cps.toList = (txt (a ++ [(p0, g0)]) ++ txt [(p, g)]) ++ (txt r ++ []) := by rw [hs]; simp only [List.append_assoc, List.append_nil]
    exact nx_at h3 (tk pe p g).e (by rw [tk_e, List.length_append, hN])
  rw [hnx]
  -- the sign ahead
  have hb : (Txt.item line (((tk pe p g).b : Int) - 1) == Str.ofString " ") = g := by
    have e32 : Str.ofString " " = ⟨#[32]⟩ := by decide +kernel
    rw [e32]
    cases g with
    | true =>
      have h4 : line.cps.toList = txt (a ++ [(p0, g0)]) ++ 32 :: (p.word.cps.toList ++ txt r) := by
        rw [hs, txt_cons]; simp [gapL, txt]
      have e5 : ((tk pe p true).b : Int) - 1 = ((txt (a ++ [(p0, g0)])).length : Int) := by
        rw [hN]; simp [tk, gp]
      rw [e5, item_in h4]
      simp
    | false =>
      simp only [pcOk, Bool.and_eq_true, decide_eq_true_eq] at ok0
      obtain ⟨⟨⟨_, o1⟩, o2⟩, _⟩ := ok0
      obtain ⟨cs, c, hc⟩ : ∃ cs c, p0.word.cps.toList = cs ++ [c] := by
        rcases List.eq_nil_or_concat p0.word.cps.toList with q | ⟨cs, c, q⟩
        · rw [q] at o2; simp at o2
        · exact ⟨cs, c, by simpa using q⟩
      have hc32 : c ≠ 32 := by
        have := List.all_eq_true.mp o1 c (by rw [hc]; simp)
        simpa using this
      have h4 : line.cps.toList = (txt a ++ gapL g0 ++ cs) ++ c :: (txt [(p, false)] ++ txt r) := by
        rw [hs, txt_app, txt_cons (p := p0), hc]; simp [txt]
      have e6 : pe = (txt a ++ gapL g0 ++ cs).length + 1 := by
        rw [← hN, txt_app, txt_cons (p := p0), hc]; simp [txt]; omega
      have e5 : ((tk pe p false).b : Int) - 1 = ((txt a ++ gapL g0 ++ cs).length : Int) := by
        simp only [tk, gp]; rw [e6]; simp
      rw [e5, item_in h4]
      simpa using hc32
  rw [hb]
  rfl
theorem dueN_dueL {line : Str} : ∀ (b a : List It) (p0 : Pc) (g0 : Bool), line.cps.toList = txt (a ++ (p0, g0) :: b) → (∀ x ∈ pcs (a ++ (p0, g0) :: b), pcOk x = true) →
    dueN line (spsOf 0 (a ++ (p0, g0) :: b)) (a.length + 1 + b.length) = dueN line (spsOf 0 (a ++ (p0, g0) :: b)) (a.length + 1) ++ dueL (txt (a ++ [(p0, g0)])).length b
  | [], _, _, _, _, _ => by simp [dueL]
  | (p, g) :: r, a, p0, g0, h, hok => by
    have e : a ++ (p0, g0) :: (p, g) :: r = (a ++ [(p0, g0)]) ++ (p, g) :: r := by simp
    have z := dueN_dueL r (a ++ [(p0, g0)]) p g (by rw [← e]; exact h) (by rw [← e]; exact hok)
    rw [← e] at z
    have l1 : (a ++ [(p0, g0)]).length = a.length + 1 := by simp
    rw [l1] at z
    rw [List.length_cons, ← Nat.add_assoc, Nat.add_right_comm, z]
    have d1 : dueN line (spsOf 0 (a ++ (p0, g0) :: (p, g) :: r)) (a.length + 1 + 1) = dueN line (spsOf 0 (a ++ (p0, g0) :: (p, g) :: r)) (a.length + 1) ++ dueI (txt (a ++ [(p0, g0)])).length p g r := by
      rw [dueN, if_neg (by omega), dueK_is h (hok p0 (by simp [pcs]))]
    rw [d1, dueL, List.append_assoc, tk_e]
    congr 2
    rw [txt_app (a ++ [(p0, g0)]), List.length_append]
end Mine
end

section
open PySem PySem.W PySem.Calls PyProof.Rows PySem.Spec
set_option maxRecDepth 100000
set_option maxHeartbeats 8000000
namespace Mine
def asgs : List Str := [Str.ofString "=", Str.ofString "+=", Str.ofString "**=", Str.ofString "-=", Str.ofString "*=", Str.ofString "/=", Str.ofString "//=", Str.ofString "%=", Str.ofString "^=", Str.ofString "&=", Str.ofString "|=", Str.ofString "<<=", Str.ofString ">>=", Str.ofString ":="]
abbrev asgPc (w : Str) : Pc := ⟨54, w, "both"⟩
abbrev pX : Pc := ⟨1, "x", ""⟩
abbrev pY : Pc := ⟨1, "y", ""⟩
/-- the pieces that law lays out -/
inductive Laid : List Pc → Prop
  | sum {w q} : w ∈ asgs → IsSum 2 q → Laid (pX :: asgPc w :: q)
  | cut {w} : w ∈ asgs → Laid [pX, asgPc w, pY]
def asgOk (w : Str) : Bool := !(c31 54 w) && ins needed w && !(binOp 54 w) && !(w == Str.ofString ")") && plainW w && pcOk (asgPc w)
theorem asg_ok {w : Str} (h : w ∈ asgs) : asgOk w = true := by
  simp only [asgs, List.mem_cons, List.not_mem_nil, or_false] at h
  rcases h with rfl | rfl | rfl | rfl | rfl | rfl | rfl | rfl | rfl | rfl | rfl | rfl | rfl | rfl <;> decide +kernel
theorem fresh_asg {pt : Int} {y w : Str} {pe b : Nat} (h : ins needed w = true) : fresh [] pt y w pe b = if b = pe then (.no, [⟨pe, m225⟩]) else (.must, []) := by
  unfold fresh
  rw [if_neg (by simp [kwEq]), if_pos h]

theorem laid_mw {w : Str} {Q : List It} {g1 : Bool} (hw : w ∈ asgs) (hQ : Good [] Q) : mwL ⟨.no, 54, none, []⟩ 0 ((pX, false) :: (asgPc w, g1) :: Q) = dueL (txt [(pX, false)]).length ((asgPc w, g1) :: Q) := by
  have ho := asg_ok hw
  simp only [asgOk, Bool.and_eq_true, Bool.not_eq_true'] at ho
  obtain ⟨⟨⟨⟨⟨h1, h2⟩, h3⟩, h4⟩, h5⟩, _⟩ := ho
  have hr : (asgPc w).word ≠ ")" := by
    intro q
    have : w = Str.ofString ")" := q
    rw [this] at h4
    exact absurd h4 (by decide +kernel)
  obtain ⟨q, gq, r, c, cs, eQ, hc, hc2⟩ := hQ.head
  have F0 : Fin1 (aft pX (tk 0 pX false).e []) (tk 0 pX false).e [] := fin_aft (by decide +kernel)
  have s0 : ∀ nc, step' nc ⟨.no, 54, none, []⟩ (tk 0 pX false) = (aft pX (tk 0 pX false).e [], []) := fun nc => by
    have hb : brace [] pX.kind pX.word = [] := brace_plain (by decide +kernel)
    have hk : ¬ (pX.kind = 4) := by decide
    simp only [step', tk, if_neg hk, hb, needStep, out_none (show c31 pX.kind pX.word = false by decide +kernel), aft, List.append_nil]
  obtain ⟨o1, o2, o3⟩ := op_both (σ := aft pX (tk 0 pX false).e []) (pe := (tk 0 pX false).e) (st := []) (p := asgPc w) (q := q) (g := g1) (g' := gq) (r := r) (.inl rfl) rfl h1 (fun _ _ _ _ => fresh_asg h2) h5 h3 hr F0 hc (heads_ne hc2)
  obtain ⟨D, e', σ', a, b, _⟩ := hQ.run _ _ [] o2 o3
  have e1 : (txt [(pX, false)]).length = (tk 0 pX false).e := by rw [tk_e, Nat.zero_add]
  have hg : g0 Q = gq := by rw [eQ]; rfl
  rw [e1, mwL, s0, List.nil_append, mwL, dueL]
  rw [List.append_nil] at a b
  rw [eQ, ← o1, ← eQ, b]
  rw [hg, eQ] at a
  rw [eQ, a]
  simp [mwL, dueL]
theorem laid_split {ps : List Pc} (h : Laid ps) {its : List It} {b : Bool} (e : pcs its = ps) (e0 : its.head?.map (·.2) = some b) : ∃ w g1 Q, w ∈ asgs ∧ its = (pX, b) :: (asgPc w, g1) :: Q ∧ Good [] Q := by
  cases h with
  | @sum w q hw hq =>
    obtain ⟨g, r, rfl, h1⟩ := its_cons e
    obtain ⟨g1, Q, rfl, h2⟩ := its_cons h1
    simp at e0
    subst e0
    exact ⟨w, g1, Q, hw, rfl, good_sum hq Q [] h2⟩
  | @cut w hw =>
    obtain ⟨g, r, rfl, h1⟩ := its_cons e
    obtain ⟨g1, Q, rfl, h2⟩ := its_cons h1
    obtain ⟨g2, rfl⟩ := its_one h2
    simp at e0
    subst e0
    exact ⟨w, g1, _, hw, rfl, Good.word (c := 121) (cs := []) (by decide +kernel) (by decide +kernel) (by decide) (by decide +kernel) (by decide +kernel) (by decide +kernel) (by decide +kernel) (by decide)⟩

theorem step_st {line : Str} {σ : MS} {t : Tk} : (step line σ t).1.st = brace σ.st t.kind t.word := by
  unfold step
  dsimp only
  split <;> rfl
theorem allOk_run {line : Str} {m : Nat} {st st' : List Str} {ps : List Pc} (h : Run st ps st') : StOk st → ∀ (its : List It) (pe : Nat) (σ : MS), pcs its = ps → σ.st = st → pe + (txt its).length ≤ line.length → AllOk line σ (toks pe its ++ [nlTk m]) := by
  induction h with
  | @nil st =>
    intro hs its pe σ e e1 _
    rw [its_nil e]
    have hb : brace σ.st (nlTk m).kind (nlTk m).word = st := by rw [e1]; exact brace_plain (show plainW (Str.ofString "\n") = true by decide +kernel)
    exact ⟨⟨.inr (.inr (.inr (.inr rfl))), fun q => absurd q (show ¬ (4 : Int) = 1 by decide), show (reprText (Str.ofString "\n")).length ≤ 1000 by decide +kernel, fun q => absurd rfl q, by rw [hb]; exact hs.len, by rw [hb]; exact hs.ok⟩, trivial⟩
  | @cons st p r st' hp hb _ ih =>
    intro hs its pe σ e e1 hl
    obtain ⟨g, R, rfl, h2⟩ := its_cons e
    have hl2 : (txt ((p, g) :: R)).length = (txt [(p, g)]).length + (txt R).length := by
      rw [show (p, g) :: R = [(p, g)] ++ R from rfl, txt_app, List.length_append]
    rw [toks, List.cons_append]
    simp only [pcOk, Bool.and_eq_true, Bool.or_eq_true, Bool.not_eq_true', decide_eq_true_eq] at hp
    obtain ⟨⟨⟨⟨⟨hk, hlam⟩, hrep⟩, _⟩, _⟩, _⟩ := hp
    refine ⟨⟨?_, fun _ q => ?_, hrep.1, fun _ => ?_, ?_, ?_⟩, ?_⟩
    · show p.kind = 1 ∨ p.kind = 2 ∨ p.kind = 3 ∨ p.kind = 54 ∨ p.kind = 4
      omega
    · have q' : p.word = Str.ofString "lambda" := q
      rw [q'] at hlam
      exact absurd hlam (by decide +kernel)
    · rw [tk_e]; omega
    · show (brace σ.st p.kind p.word).length ≤ 2
      rw [e1]; exact hb.len
    · show ∀ a ∈ brace σ.st p.kind p.word, okB a
      rw [e1]; exact hb.ok
    · exact ih hb R _ _ h2 (by rw [step_st, e1]; rfl) (by rw [tk_e]; omega)
theorem laid_run {ps : List Pc} (h : Laid ps) : Run [] ps [] := by
  have h0 : StOk [] := ⟨by decide, fun _ h => by cases h⟩
  cases h with
  | @sum w q hw hq =>
    have ho := asg_ok hw
    simp only [asgOk, Bool.and_eq_true, Bool.not_eq_true'] at ho
    exact Run.app (P := [pX]) (.plain (by decide +kernel) (by decide +kernel) h0) (Run.app (P := [asgPc w]) (.plain ho.2 ho.1.2 h0) (run_sum hq h0 (by decide)))
  | @cut w hw =>
    have ho := asg_ok hw
    simp only [asgOk, Bool.and_eq_true, Bool.not_eq_true'] at ho
    exact Run.app (P := [pX]) (.plain (by decide +kernel) (by decide +kernel) h0) (Run.app (P := [asgPc w]) (.plain ho.2 ho.1.2 h0) (.plain (by decide +kernel) (by decide +kernel) h0))
theorem Run.all {st st' : List Str} {P : List Pc} (h : Run st P st') : ∀ x ∈ P, pcOk x = true := by
  induction h with
  | nil => intro x hx; cases hx
  | cons a _ _ ih =>
    intro x hx
    rcases List.mem_cons.mp hx with rfl | hx
    · exact a
    · exact ih x hx
theorem sps_get : ∀ (its : List It) (pe : Nat) (k : Nat) (p : Sp), (∀ x ∈ pcs its, pcOk x = true) → (spsOf pe its)[k]? = some p → (0 < k → pe < p.b) ∧ p.b ≤ p.e ∧ p.e ≤ pe + (txt its).length ∧ (reprText p.word).length ≤ 1000 ∧ pe ≤ p.b
  | [], _, _, _, _, e => by simp [spsOf] at e
  | (q, g) :: r, pe, 0, p, ok, e => by
    have hl2 : (txt ((q, g) :: r)).length = (txt [(q, g)]).length + (txt r).length := by
      rw [show (q, g) :: r = [(q, g)] ++ r from rfl, txt_app, List.length_append]
    simp only [spsOf, List.getElem?_cons_zero, Option.some.injEq] at e
    subst e
    have hq := ok q (.head _)
    simp only [pcOk, Bool.and_eq_true, decide_eq_true_eq] at hq
    refine ⟨fun h => absurd h (by decide), ?_, ?_, hq.1.1.1.2.1, ?_⟩
    · show pe + gp g ≤ pe + gp g + q.word.length; omega
    · show (tk pe q g).e ≤ _; rw [tk_e]; omega
    · show pe ≤ pe + gp g; omega
  | (q, g) :: r, pe, k + 1, p, ok, e => by
    have hl2 : (txt ((q, g) :: r)).length = (txt [(q, g)]).length + (txt r).length := by
      rw [show (q, g) :: r = [(q, g)] ++ r from rfl, txt_app, List.length_append]
    simp only [spsOf, List.getElem?_cons_succ] at e
    obtain ⟨h1, h2, h3, h4, h5⟩ := sps_get r _ k p (fun x hx => ok x (.tail _ hx)) e
    have hq := ok q (.head _)
    simp only [pcOk, Bool.and_eq_true, decide_eq_true_eq] at hq
    have hpos : 0 < (txt [(q, g)]).length := by
      rw [txt_cons, List.length_append, List.length_append]; omega
    rw [tk_e] at h1 h3 h5
    exact ⟨fun _ => by omega, h2, by omega, h4, by omega⟩
theorem txt_le : ∀ (its : List It), (∀ x ∈ pcs its, pcOk x = true) → (txt its).length ≤ 4 * its.length
  | [], _ => by simp [txt]
  | (q, g) :: r, ok => by
    have hq := ok q (.head _)
    simp only [pcOk, Bool.and_eq_true, decide_eq_true_eq] at hq
    have := txt_le r fun x hx => ok x (.tail _ hx)
    have hg : (gapL g).length ≤ 1 := by cases g <;> decide
    rw [txt_cons, List.length_append, List.length_append, List.length_cons]
    omega

theorem sps_word : ∀ (its : List It) (pe : Nat), ∀ p ∈ spsOf pe its, ∃ q ∈ pcs its, p.word = q.word
  | [], _, p, h => by cases h
  | (q, g) :: r, pe, p, h => by
    rcases List.mem_cons.mp h with rfl | h
    · exact ⟨q, .head _, rfl⟩
    · obtain ⟨q', h1, h2⟩ := sps_word r _ p h
      exact ⟨q', .tail _ h1, h2⟩
theorem dueOne_msg {w k : Str} {bf af : Bool} {nc : Str} {b e e0 : Nat} (h : PyData.strOk (Str.ofString "E231 missing whitespace after " ++ reprText w) = true) : ∀ o ∈ dueOne' w k bf af nc b e e0, PyData.strOk o.msg = true := by
  intro o ho
  unfold dueOne' at ho
  repeat' split at ho
  all_goals (try (rw [List.mem_singleton.mp ho]))
  all_goals (first | exact h | (dsimp only; decide +kernel) | (cases ho; done))
theorem dueN_msg {line : Str} {sps : List Sp} (h : ∀ p ∈ sps, PyData.strOk (Str.ofString "E231 missing whitespace after " ++ reprText p.word) = true) : ∀ n, ∀ o ∈ dueN line sps n, PyData.strOk o.msg = true
  | 0, o, ho => by cases ho
  | n + 1, o, ho => by
    rcases List.mem_append.mp ho with ho | ho
    · exact dueN_msg h n o ho
    · split at ho
      · cases ho
      · unfold dueK at ho
        split at ho
        · rename_i e
          exact dueOne_msg (h _ (List.mem_of_getElem? e)) o ho
        · cases ho
/-- the plain law -/
theorem plain_law {ps : List Pc} {its : List It} {line line2 : Str} {m : Nat} (h : Laid ps) (e : pcs its = ps) (e0 : its.head?.map (·.2) = some false) (hl : line.cps.toList = txt its) (hl2 : line2.cps.toList = txt its ++ [10]) :
    mw line2 ⟨.no, 54, none, []⟩ (toks 0 its ++ [nlTk m]) = dueN line (spsOf 0 its) (spsOf 0 its).length ∧ AllOk line2 ⟨.no, 54, none, []⟩ (toks 0 its ++ [nlTk m]) ∧ (∀ k p, (spsOf 0 its)[k]? = some p → SpOk line k p) ∧ line.length ≤ 4 * its.length ∧ (∀ o ∈ dueN line (spsOf 0 its) (spsOf 0 its).length, PyData.strOk o.msg = true) := by
  have hrun := laid_run h
  have hok : ∀ x ∈ pcs its, pcOk x = true := by rw [e]; exact hrun.all
  have hlen : line.length = (txt its).length := by rw [← hl]; simp [PySem.Str.length]
  have hlen2 : line2.length = (txt its).length + 1 := by
    have : line2.cps.toList.length = (txt its).length + 1 := by rw [hl2]; simp
    simpa [PySem.Str.length] using this
  refine ⟨?_, ?_, ?_, ?_, ?_⟩
  · rw [mw_mwL its [] 0 _ rfl hl2, spsOf_len]
    obtain ⟨w, g1, Q, hw, rfl, hQ⟩ := laid_split h e e0
    rw [laid_mw hw hQ]
    have z := dueN_dueL (line := line) ((asgPc w, g1) :: Q) [] pX false hl hok
    rw [List.nil_append, List.length_nil, Nat.zero_add] at z
    rw [show ((pX, false) :: (asgPc w, g1) :: Q).length = 1 + ((asgPc w, g1) :: Q).length from by rw [List.length_cons]; omega, z]
    simp [dueN]
  · exact allOk_run hrun ⟨by decide, fun _ h => by cases h⟩ its 0 _ e rfl (by omega)
  · intro k p hk
    obtain ⟨h1, h2, h3, h4, h5⟩ := sps_get its 0 k p hok hk
    exact ⟨fun q => h1 q, by omega, by omega, h4⟩
  · rw [hlen]; exact txt_le its hok
  · refine dueN_msg (fun p hp => ?_) _
    obtain ⟨q, h1, h2⟩ := sps_word its 0 p hp
    have hq := hok q h1
    simp only [pcOk, Bool.and_eq_true, decide_eq_true_eq] at hq
    rw [h2]
    exact hq.1.1.1.2.2
end Mine
end

section
open PySem PySem.W PySem.Calls PyProof.Rows PySem.Spec
set_option maxRecDepth 100000
set_option maxHeartbeats 8000000
namespace Mine
local macro_rules | `(tactic| k_all) => `(tactic| assumption)
local macro_rules | `(tactic| walk_at "binaryOp Add ref ref") => `(tactic| (k_here; (with_reducible show wpAny _ _ (binaryOp _ (Value.ref _) (Value.ref _)) _ _ _); k_dflt (refine' add_K ?F ?N ?l ?b ?_ ?z; (case F => k_asm); (case N => k_asm); (case l => k_mem); (case b => k_mem); (case z => (simp only [List.length_append, List.length_cons, List.length_nil]; omega))); intro D' h' F' N' l1; (try k_lt l1); (try k_sweep)))
local macro_rules | `(tactic| walk_at "ite") => `(tactic| (k_closed; first | ((with_reducible refine' ite_pos ?hc ?_); (case hc => k_dflt decide)) | ((with_reducible refine' ite_neg ?hc ?_); (case hc => k_dflt decide))))

abbrev envL (L fa : Addr) (cv : Value) : Env := envOfC (Str.ofString "law") (defScope 22) L fa cv
def lSt (i : Nat) : Option Stmt := (defBody 22)[i]?

def Tups (T : List (Addr × Obj)) : Prop := ∀ p ∈ T, ∃ vs, p.2 = tupOf vs
theorem cell_not_tup {o : Obj} {v : Option Value} (d : o.data = .cell v) : ∀ vs, o ≠ tupOf vs := fun vs e => by rw [e] at d; cases d
theorem list_not_tup {a : Array Value} {n : Nat} : ∀ vs, W.listOf a n ≠ tupOf vs := fun vs e => by
  have := congrArg (fun o : Obj => o.cls) e
  simp at this
theorem Tups.ne {g h' : Heap} {L a : Addr} {led T : List (Addr × Obj)} {o : Obj} (hT : Tups T) (N : News g L h' led) (hs : ∀ p ∈ T, p ∈ led) (ho : ∀ vs, o ≠ tupOf vs) (m : (a, o) ∈ led) : ∀ p ∈ T, p.1 ≠ a := fun p hp e => by
  have z := (N p (hs p hp)).1
  have y := (N (a, o) m).1
  obtain ⟨vs, e2⟩ := hT p hp
  dsimp only at y
  rw [e, y] at z
  exact ho vs ((Option.some.inj z).trans e2)
theorem cellNe {g h' : Heap} {L a c : Addr} {led : List (Addr × Obj)} {o o' : Obj} {v : Option Value} (N : News g L h' led) (d : o.data = .cell v) (m : (c, o) ∈ led) (m' : (a, o') ∈ led) (hd : ∀ v, o'.data ≠ .cell v) : @Ne Nat a c := fun e => by
  have z := (N _ m).1
  have y := (N _ m').1
  dsimp only at z y
  have e' : a = c := e
  rw [e', z] at y
  rw [Option.some.inj y] at d
  exact hd v d
theorem list_no_cell {a : Array Value} {n : Nat} : ∀ v, (W.listOf a n).data ≠ .cell v := fun v e => by cases e
theorem PcsIn.tups {g h' : Heap} {L : Addr} {led : List (Addr × Obj)} {vs : List Value} {ps : List Pc} (_N : News g L h' led) (h : PcsIn led vs ps) : ∃ T, Tups T ∧ (∀ p ∈ T, p ∈ led) ∧ PcsIn T vs ps := by
  classical
  refine ⟨led.filter fun p => decide (∃ vs, p.2 = tupOf vs), fun p hp => of_decide_eq_true (List.mem_filter.mp hp).2, fun p hp => (List.mem_filter.mp hp).1, ?_⟩
  exact h.filter fun t vs' _ => decide_eq_true ⟨vs', rfl⟩
theorem getD_mem : ∀ {xs : List Str} {k : Nat} {d : Str}, k < xs.length → xs.getD k d ∈ xs
  | x :: _, 0, _, _ => .head _
  | _ :: r, k + 1, d, h => .tail _ (getD_mem (xs := r) (k := k) (d := d) (by simpa using h))

section
variable {w : World} {loose : List Str} {mean : ExcName → Option Value} {mg mb : Str → Option Value} {A : Around} {s : Shared} {g : Heap} {L aL : Addr} {m : Str → Option Value} {vs : List Value} {ns : List Int} {o1 o2 o3 : Obj} {Q : Flow → Shared → Prop}

theorem l0 (G : Gnd w loose mean mg mb g) (F : Fr g L s.heap (fun y => if y = Str.ofString "script" then some (.ref aL) else m y)) (N : News g L s.heap [(L + 1 + 1 + 1, o3), (L + 1 + 1, o2), (L + 1, o1)])
    (lL : g.IsList aL vs.toArray) (hI : IntsAre vs ns) (hlen : vs.length ≤ 63) (_hh : A.handled = none)
    (hQ : ∀ h' tk' aS aD ws t1 t2, Fr g L h' (fun y => if y = Str.ofString "state" then some (.ref aS) else if y = Str.ofString "script" then some (.ref aL) else m y) → News g L h' [(aS, stOf aD 0 17 t1 t2 0), (aD, W.listOf ws.toArray 0), (L + 1 + 1 + 1, o3), (L + 1 + 1, o2), (L + 1, o1)] →
      IntsAre ws (ns.take 60) → ws.length ≤ 63 → aD < aS → L + 1 + 1 + 1 < aD → Q .next { s with heap := h', toks := tk' }) :
    wpAny (model PySem.Challenge.rw_co0044_01.row.toRowW.prog w) A (exec ((lSt 0).getD default) (envL L fa cv)) Q (fun _ _ => False) s := by
  have X' := G.X
  have T' := G.T
  revert X'
  k_fill
  intro X'
  simp only [envL]
  conv in (Option.getD _ _) => whnf
  conv in (defScope 22) => whnf
  k_unmd
  repeat' walk1
  rename IntsAre _ (List.take 60 ns) => hI2
  rename (List.take 60 ns).length = _ => hlt
  rename Fr g L _ _ => FE
  rename News g L _ _ => NE
  rename _ < _ ∧ L + 1 + 1 + 1 < _ ∧ _ ∧ _ => c1
  rename L + 1 + 1 + 1 < _ ∧ L + 1 + 1 < _ ∧ _ => c2
  have := hI2.length
  exact hQ _ _ _ _ _ _ _ FE NE hI2 (by omega) c1.1 c2.1

theorem l1 {aS aD : Addr} {i c : Int} {t1 t2 : Tok} {n : Nat} {ws : List Value} {v0 : Option Value} (G : Gnd w loose mean mg mb g) (F : Fr g L s.heap (fun y => if y = Str.ofString "state" then some (.ref aS) else m y))
    (N : News g L s.heap [(aS, stOf aD i c t1 t2 n), (aD, W.listOf ws.toArray 0), (L + 1 + 1 + 1, o3), (L + 1 + 1, o2), (L + 1, o1)])
    (hI : IntsAre ws ns) (hlen : ws.length ≤ 63) (hh : A.handled = none) (hroom : A.depth < 540) (h1 : aD < aS) (h2 : L + 1 + 1 + 1 < aD) (d1 : o1.data = .cell v0) (h0 : 0 ≤ i) (hc0 : 0 ≤ c) (hc : c < 2147483647)
    (hQ : ∀ h' tk' i' c' ta tb aP pv np T ps o1', Fr g L h' (fun y => if y = Str.ofString "state" then some (.ref aS) else m y) →
      News g L h' ((aP, W.listOf (List.toArray pv) np) :: (aS, stOf aD i' c' ta tb n) :: (aD, W.listOf ws.toArray 0) :: (L + 1 + 1 + 1, o3) :: (L + 1 + 1, o2) :: (L + 1, o1') :: T) →
      o1'.data = .cell (some (.ref aP)) → PcsIn T pv ps → Tups T → (∃ x q, x ∈ asgs ∧ IsSum 2 q ∧ ps = pX :: asgPc x :: q) → 0 ≤ i' → 0 ≤ c' → c' < 2147483647 → aP ≠ aS → aP ≠ aD → Q .next { s with heap := h', toks := tk' }) :
    wpAny (model PySem.Challenge.rw_co0044_01.row.toRowW.prog w) A (exec ((lSt 1).getD default) (envL L fa cv)) Q (fun _ _ => False) s := by
  have X' := G.X
  have T' := G.T
  have q1 := ltN h1
  have q2 := ltN h2
  revert X'
  k_fill
  intro X'
  simp only [envL]
  conv in (Option.getD _ _) => whnf
  conv in (defScope 22) => whnf
  k_unmd
  repeat' walk1
  refine' next_L (aS := aS) (aL := aD) (t1 := t1) (t2 := t2) (n := n) (vs := ws) (nL := 0) G ?Fu1 ?Nu1 ?Uu1 ?Lu1 ?neu1 hI ?hlu1 ?ru1 h0 hc0 hc ?p1u1 ?p2u1 ?mainu1
  case Fu1 => assumption
  case Nu1 => assumption
  case Uu1 => k_updF
  case Lu1 => k_mem
  case neu1 => exact Nat.ne_of_lt h1
  case hlu1 => omega
  case ru1 => omega
  case p1u1 => decide
  case p2u1 => decide
  case mainu1 =>
  intro hh1 tk1 i1 c1 v1 ta1 tb1 tc1 F1 N1 g11 g12 g13 g14 g15
  dsimp only
  repeat' walk1
  refine' does_L (aS := aS) (aL := aD) (t1 := ta1) (t2 := tb1) (n := n) (vs := ws) (nL := 0) (sum2 G) ?Fu2 ?Nu2 ?Uu2 ?Lu2 (Nat.ne_of_lt h1) hI ?hlu2 hh ?ru2 g11 g12 g13 rfl ?mainu2
  case Fu2 => assumption
  case Nu2 => assumption
  case Uu2 => k_updF
  case Lu2 => k_mem
  case hlu2 => omega
  case ru2 => omega
  case mainu2 =>
  intro h2' tk2 i2 c2 ta2 tb2 a2 vs2 n2 T2 ps2 F2 N2 b21 b22 b23 hP2 hq2 o21 o22 o23
  simp only [List.forall_mem_cons] at o21
  have q3 := neN o21.2.2.2.2.2.2.2.2.1
  have q4 := neN o21.2.2.2.2.1
  have q5 := neN o21.2.2.2.2.2.1
  clear o21
  simp only [List.cons_append, List.nil_append] at N2
  have ln2 := hq2.length
  have lm2 := IsSum.len (by decide) hP2
  have oT := o23 (L + 1, o1) (by k_mem)
  clear o23
  dsimp only
  repeat' walk1
  rename Fr g L _ _ => FE
  rename News g L _ _ => NE
  rename Obj.data _ = .cell (some (.ref _)) => dE
  rename v1.toNat < _ => hv
  rename a2 < _ ∧ _ => cE
  obtain ⟨T, hT1, hT2, hT3⟩ := PcsIn.tups (ps := pX :: asgPc (asgs.getD v1.toNat Str.empty) :: ps2) NE (.cons ⟨_, _, _, _, rfl, by k_mem⟩ (.cons ⟨_, _, _, _, rfl, by k_mem⟩ (hq2.mono fun q hq => by simp only [List.mem_cons]; simp [hq])))
  refine hQ _ _ i2 c2 ta2 tb2 _ _ 0 T _ _ FE ?_ dE hT3 hT1 ⟨_, _, getD_mem hv, hP2, rfl⟩ b21 b22 b23 ?_ ?_
  · intro p hp
    simp only [List.mem_cons] at hp
    rcases hp with rfl | rfl | rfl | rfl | rfl | rfl | hp
    · exact NE _ (by k_mem)
    · exact NE _ (by k_mem)
    · exact NE _ (by k_mem)
    · exact NE _ (by k_mem)
    · exact NE _ (by k_mem)
    · exact NE _ (by k_mem)
    · exact NE _ (hT2 _ hp)
  · exact Ne.symm (Nat.ne_of_lt cE.2.2.2.2.2.1)
  · exact Ne.symm (Nat.ne_of_lt cE.2.2.2.2.2.2.1)
end
end Mine
end

section
open PySem PySem.W PySem.Calls PyProof.Rows PySem.Spec
set_option maxRecDepth 100000
set_option maxHeartbeats 8000000
namespace Mine
local macro_rules | `(tactic| k_all) => `(tactic| assumption)
local macro_rules | `(tactic| walk_at "binaryOp Add ref ref") => `(tactic| (k_here; (with_reducible show wpAny _ _ (binaryOp _ (Value.ref _) (Value.ref _)) _ _ _); k_dflt (refine' add_K ?F ?N ?l ?b ?_ ?z; (case F => k_asm); (case N => k_asm); (case l => k_mem); (case b => k_mem); (case z => (simp only [List.length_append, List.length_cons, List.length_nil]; omega))); intro D' h' F' N' l1; (try k_lt l1); (try k_sweep)))
local macro_rules | `(tactic| walk_at "ite") => `(tactic| (k_closed; first | ((with_reducible refine' ite_pos ?hc ?_); (case hc => k_dflt decide)) | ((with_reducible refine' ite_neg ?hc ?_); (case hc => k_dflt decide))))

theorem pick_two {pv : List Value} (h : 2 ≤ pv.length) : slicePick pv.toArray none (some 2) none = (pv.take 2).toArray := by
  have e : sliceBounds none (some 2) none pv.toArray.size = (((0 : Nat) : Int), ((2 : Nat) : Int), 1) := by
    simp only [sliceBounds, Option.getD_none, show (1 : Int) > 0 by decide, if_true, if_neg (show ¬ ((2 : Int) < 0) by omega), List.size_toArray]
    congr 1
    congr 1
    omega
  rw [kmk_pick_nat _ e]
  simp

section
variable {w : World} {loose : List Str} {mean : ExcName → Option Value} {mg mb : Str → Option Value} {A : Around} {s : Shared} {g : Heap} {L : Addr} {m : Str → Option Value} {o1 o2 o3 : Obj} {Q : Flow → Shared → Prop}

theorem l2 {aS aD aP : Addr} {i c : Int} {t1 t2 : Tok} {n np : Nat} {ws pv : List Value} {T : List (Addr × Obj)} {ps : List Pc} (G : Gnd w loose mean mg mb g) (F : Fr g L s.heap m)
    (N : News g L s.heap ((aP, W.listOf pv.toArray np) :: (aS, stOf aD i c t1 t2 n) :: (aD, W.listOf ws.toArray 0) :: (L + 1 + 1 + 1, o3) :: (L + 1 + 1, o2) :: (L + 1, o1) :: T))
    (hh : A.handled = none) (d1 : o1.data = .cell (some (.ref aP))) (hp : PcsIn T pv ps) (hT : Tups T) (hL : ∃ x q, x ∈ asgs ∧ IsSum 2 q ∧ ps = pX :: asgPc x :: q) (h1 : aP ≠ aS) (h2 : aP ≠ aD)
    (hQ : ∀ h' tk' aP' pv' np' T' ps' o1', Fr g L h' m →
      News g L h' ((aP', W.listOf (List.toArray pv') np') :: (aS, stOf aD i c t1 t2 n) :: (aD, W.listOf ws.toArray 0) :: (L + 1 + 1 + 1, o3) :: (L + 1 + 1, o2) :: (L + 1, o1') :: T') →
      o1'.data = .cell (some (.ref aP')) → PcsIn T' pv' ps' → Tups T' → Laid ps' → 2 ≤ ps'.length → ps'.length ≤ 40 → aP' ≠ aS → aP' ≠ aD → Q .next { s with heap := h', toks := tk' }) :
    wpAny (model PySem.Challenge.rw_co0044_01.row.toRowW.prog w) A (exec ((lSt 2).getD default) (envL L fa cv)) Q (fun _ _ => False) s := by
  have X' := G.X
  have T' := G.T
  have q1 := neN h1
  have q2 := neN h2
  have ln := hp.length
  revert X'
  k_fill
  intro X'
  simp only [envL]
  conv in (Option.getD _ _) => whnf
  conv in (defScope 22) => whnf
  k_unmd
  repeat' walk1
  obtain ⟨x, q, hx, hq, hps⟩ := hL
  have lm := IsSum.len (by decide) hq
  have lp : ps.length = q.length + 2 := by rw [hps]; rfl
  refine PyProof.Rows.len_list (items := pv.toArray) ⟨_, (N _ (by k_mem)).1, rfl, np, rfl⟩ (by simp only [List.size_toArray]; omega) ?_
  simp only [List.size_toArray]
  (try dsimp only)
  have nT := hT.ne N (fun p hp' => by simp only [List.mem_cons]; simp [hp']) (cell_not_tup d1) (by k_mem)
  have n1 := cellNe (a := aP) N d1 (by k_mem) (by k_mem) list_no_cell
  have n2 := cellNe (a := aS) N d1 (by k_mem) (by k_mem) list_no_cell
  have n3 := cellNe (a := aD) N d1 (by k_mem) (by k_mem) list_no_cell
  have n4 : @LT.lt Nat _ (L + 1) s.heap.objs.size := Heap.lt_size (N (L + 1, o1) (by k_mem)).1
  repeat' walk1
  · rename News g L _ _ => NA
    rw [pick_two (by omega)] at NA
    dsimp only at NA
    have lt2 : (pv.take 2).length ≤ 2 := by rw [List.length_take]; omega
    repeat' walk1
    rename Fr g L _ _ => FE
    rename News g L _ _ => NE
    rename Obj.data _ = .cell (some (.ref _)) => dE
    rename _ < _ ∧ _ < _ ∧ s.heap.objs.size + 1 < _ ∧ aP < _ ∧ _ => cE
    have hp2 : PcsIn T (pv.take 2) [pX, asgPc x] := by
      rw [hps] at hp
      cases hp with
      | cons p1 hp' =>
        cases hp' with
        | cons p2 _ => exact .cons p1 (.cons p2 .nil)
    obtain ⟨T1, hT1, hT2, hT3⟩ := PcsIn.tups (ps := [pX, asgPc x] ++ [pY]) NE (.append (hp2.mono fun q hq => by simp only [List.mem_cons]; simp [hq]) (.cons ⟨_, _, _, _, rfl, by k_mem⟩ .nil))
    refine hQ _ _ _ _ 0 T1 _ _ FE ?_ dE hT3 hT1 (.cut hx) (by simp) (by simp) ?_ ?_
    · intro p hp
      simp only [List.mem_cons] at hp
      rcases hp with rfl | rfl | rfl | rfl | rfl | rfl | hp
      · exact NE _ (by k_mem)
      · exact NE _ (by k_mem)
      · exact NE _ (by k_mem)
      · exact NE _ (by k_mem)
      · exact NE _ (by k_mem)
      · exact NE _ (by k_mem)
      · exact NE _ (hT2 _ hp)
    · exact Ne.symm (Nat.ne_of_lt cE.2.2.2.2.1)
    · exact Ne.symm (Nat.ne_of_lt cE.2.2.2.2.2.1)
  · exact hQ _ _ _ _ _ _ _ _ F N d1 hp hT (by rw [hps]; exact .sum hx hq) (by omega) (by omega) h1 h2
end
end Mine
end

section
open PySem PySem.W PySem.Calls PyProof.Rows PySem.Spec
set_option maxRecDepth 100000
set_option maxHeartbeats 8000000
namespace Mine
local macro_rules | `(tactic| k_all) => `(tactic| assumption)
local macro_rules | `(tactic| walk_at "ite") => `(tactic| (k_closed; first | ((with_reducible refine' ite_pos ?hc ?_); (case hc => k_dflt decide)) | ((with_reducible refine' ite_neg ?hc ?_); (case hc => k_dflt decide))))
local macro_rules | `(tactic| walk_at "assign Tuple") => `(tactic| (k_here; (with_reducible show wpAny _ _ (assign (Expr.Tuple _ _ _) _ (Value.ref _)) _ _ _); k_dflt (refine' unpackN_ ?k1 ?k2 ?k3 ?k4 ?k5 ?k6 ?_; (case k1 => k_asm); (case k2 => k_asm); (case k3 => first | assumption | kun_tup); (case k4 => assumption); (case k5 => exact rfl); (case k6 => exact rfl)); intro h' F' N'; (try k_sweep)))

section
variable {w : World} {loose : List Str} {mean : ExcName → Option Value} {mg mb : Str → Option Value} {A : Around} {s : Shared} {g : Heap} {L : Addr} {m : Str → Option Value} {o1 o2 o3 : Obj} {Q : Flow → Shared → Prop}

theorem l3 {aS aD aP : Addr} {i c : Int} {t1 t2 : Tok} {n np : Nat} {ws pv : List Value} {T : List (Addr × Obj)} {v2 v3 : Option Value} (G : Gnd w loose mean mg mb g) (F : Fr g L s.heap m)
    (N : News g L s.heap ((aP, W.listOf pv.toArray np) :: (aS, stOf aD i c t1 t2 n) :: (aD, W.listOf ws.toArray 0) :: (L + 1 + 1 + 1, o3) :: (L + 1 + 1, o2) :: (L + 1, o1) :: T))
    (d2 : o2.data = .cell v2) (d3 : o3.data = .cell v3) (hT : Tups T) (hh : A.handled = none)
    (hQ : ∀ h' tk' aX o2' o3' tl, Fr g L h' m →
      News g L h' ((aX, W.listOf #[] 0) :: (aP, W.listOf pv.toArray np) :: (aS, stOf aD i c t1 t2 n) :: (aD, W.listOf ws.toArray 0) :: (L + 1 + 1 + 1, o3') :: (L + 1 + 1, o2') :: (L + 1, o1) :: T) →
      o2'.data = .cell (some (.str "" tl)) → o3'.data = .cell (some (.ref aX)) → aX ≠ aS → aX ≠ aP → aX ≠ aD → Q .next { s with heap := h', toks := tk' }) :
    wpAny (model PySem.Challenge.rw_co0044_01.row.toRowW.prog w) A (exec ((lSt 3).getD default) (envL L fa cv)) Q (fun _ _ => False) s := by
  have X' := G.X
  have T' := G.T
  have nT2 := hT.ne N (fun p hp' => by simp only [List.mem_cons]; simp [hp']) (cell_not_tup d2) (by k_mem)
  have nT3 := hT.ne N (fun p hp' => by simp only [List.mem_cons]; simp [hp']) (cell_not_tup d3) (by k_mem)
  have n1 := cellNe (a := aP) N d2 (by k_mem) (by k_mem) list_no_cell
  have n2 := cellNe (a := aS) N d2 (by k_mem) (by k_mem) list_no_cell
  have n3 := cellNe (a := aD) N d2 (by k_mem) (by k_mem) list_no_cell
  have n4 := cellNe (a := aP) N d3 (by k_mem) (by k_mem) list_no_cell
  have n5 := cellNe (a := aS) N d3 (by k_mem) (by k_mem) list_no_cell
  have n6 := cellNe (a := aD) N d3 (by k_mem) (by k_mem) list_no_cell
  revert X'
  k_fill
  intro X'
  simp only [envL]
  conv in (Option.getD _ _) => whnf
  conv in (defScope 22) => whnf
  k_unmd
  repeat' walk1
  rename Fr g L _ _ => FE
  rename News g L _ _ => NE
  rename Obj.data _ = .cell (some (.str _ _)) => dE2
  rename Obj.data _ = .cell (some (.ref _)) => dE3
  rename aP < _ ∧ _ => cE
  refine hQ _ _ _ _ _ _ FE (fun p hp => NE p ?_) dE2 dE3 (Ne.symm (Nat.ne_of_lt cE.2.1)) (Ne.symm (Nat.ne_of_lt cE.1)) (Ne.symm (Nat.ne_of_lt cE.2.2.1))
  simp only [List.mem_cons] at hp ⊢
  rcases hp with rfl | rfl | rfl | rfl | rfl | rfl | rfl | hp <;> simp [*]
end
end Mine
end

section
open PySem PySem.W PySem.Calls PyProof.Rows PySem.Spec
set_option maxRecDepth 100000
set_option maxHeartbeats 8000000
namespace Mine
abbrev enumO (it : Addr) (i : Int) (old : Value) : Obj := { cls := .type "enumerate", dict := none, data := .fields #[.none, .bool false, .ref it, rawInt i, .none, old], slots := #[] }
def IoIs (l : Addr) (i : Nat) (io : Obj) : Prop := io.cls = .type "list_iterator" ∧ io.data = .fields #[.ref l, .int i 0]
theorem loopEnum {prog : Program} {w : World} {A : Around} {env : Env} {g : Heap} {L e it l : Addr} {s : Shared} {m : Str → Option Value} {news : List (Addr × Obj)} {elts : List Expr} {x1 : Nat} {pt : Pos} {body : List Stmt} {Q : Flow → Shared → Prop} {E : Value → Shared → Prop} {items : Array Value} {nP : Nat} {io : Obj}
    (hL : env.locals = L) (hh : A.handled = none) (hei : e ≠ it)
    (F : Fr g L s.heap m) (N : News g L s.heap ((e, enumO it 0 .none) :: (it, io) :: news)) (hio : IoIs l 0 io) (hI : ∀ p ∈ news, p.1 ≠ e ∧ p.1 ≠ it)
    (J : Nat → (Str → Option Value) → List (Addr × Obj) → Prop) (hj : J 0 m news) (hJl : ∀ i m₁ news₁, J i m₁ news₁ → (l, W.listOf items nP) ∈ news₁)
    (turn : ∀ i v t tk₀ m₁ news₁ h tk io', items[i]? = some v → J i m₁ news₁ → Fr g L h m₁ → News g L h ((t, tupOf [.int i tk₀, v]) :: (e, enumO it ((i : Int) + 1) v) :: (it, io') :: news₁) → io'.cls = .type "list_iterator" → (∀ p ∈ news₁, p.1 ≠ e ∧ p.1 ≠ it) →
      wpAny (model prog w) A (assign (.Tuple elts x1 pt) env (.ref t)) (fun _ s₂ => wpAny (model prog w) A (execs body env) (TurnPost s g L [(e, enumO it ((i : Int) + 1) v), (it, io')] (J (i + 1))) (fun _ _ => False) s₂) (fun _ _ => False) { s with heap := h, toks := tk })
    (done : ∀ m₁ news₁ h tk, J items.size m₁ news₁ → Fr g L h m₁ → News g L h news₁ → Q .next { s with heap := h, toks := tk }) :
    codeAny (model prog w) A (.forLoop (.Tuple elts x1 pt) (.ref e) body [] env) (fun r s' => match r with | .ok f => Q f s' | .error e => E e s') s := by
  subst hL
  refine codeAny_forLoop_any (fun k s' => ∃ i m₁ news₁ h tk old io, k = items.size + 1 - i ∧ i ≤ items.size ∧ s' = { s with heap := h, toks := tk } ∧ J i m₁ news₁ ∧ Fr g env.locals h m₁ ∧ News g env.locals h ((e, enumO it (i : Int) old) :: (it, io) :: news₁) ∧ IoIs l i io ∧ (∀ p ∈ news₁, p.1 ≠ e ∧ p.1 ≠ it)) ?_ (items.size + 1)
    ⟨0, m, news, s.heap, s.toks, .none, io, rfl, Nat.zero_le _, rfl, hj, F, N, hio, hI⟩
  rintro k s' ⟨i, m₁, news₁, h, tk, old, io₁, rfl, hi, rfl, hJ, F₁, N₁, hio₁, hI₁⟩
  have he := N₁ _ (.head _)
  have hit := N₁ _ (.tail _ (.head _))
  have hl := hJl _ _ _ hJ
  have hlz := N₁ _ (.tail _ (.tail _ hl))
  have hlL : h.IsList l items := ⟨_, hlz.1, rfl, nP, rfl⟩
  have hitL : h.IsListIter it l i := ⟨_, hit.1, hio₁.1, hio₁.2⟩
  cases hv : items[i]? with
  | none =>
    have hsz : i = items.size := Nat.le_antisymm hi (by simpa using hv)
    subst hsz
    refine wpAny_pyNext_enum_end hh he.1 hitL hlL hv fun h₁ he₁ => wpAny_execs_nil ?_
    have hs' : SubBut it h h₁ := fun b o hb e => he₁ b o hb e
    exact done m₁ news₁ h₁ tk hJ (frAfter F₁ hs' hit.2.2 hit.2.1) (fun p hp => ⟨hs' _ _ (hI₁ p hp).2 (N₁ p (.tail _ (.tail _ hp))).1, (N₁ p (.tail _ (.tail _ hp))).2⟩)
  | some v =>
    have hlt : i < items.size := (Array.getElem?_eq_some_iff.mp hv).1
    have heH : e < h.objs.size := Heap.lt_size he.1
    have hiH : it < h.objs.size := Heap.lt_size hit.1
    have hLH : env.locals < h.objs.size := F₁.ns.lt
    refine wpAny_pyNext_enum_item he.1 hitL hlL hv hei fun h₁ heo hit₁ ht₁ hz₁ hk₁ => ?_
    refine wpAny_letOwnedTupleGo_enum heo fun h₂ he₂ hs₂ => ?_
    replace hs₂ : Heap.SameBut e h₁ h₂ := hs₂
    obtain ⟨io₂, hio₂, hc₂, hd₂⟩ := hit₁.extBut hs₂.extBut (Ne.symm hei)
    have up : ∀ b o, b ≠ e → b ≠ it → h.get? b = some o → h₂.get? b = some o := fun b o h1 h2 x => (hs₂.2 b h1).trans (hk₁ b o h1 h2 x)
    have gN : g.get? h.objs.size = none := by
      cases q : g.get? h.objs.size with
      | none => rfl
      | some o => exact absurd (Heap.lt_size (F₁.keep _ _ q)) (Nat.lt_irrefl _)
    have F₂ : Fr g env.locals h₂ m₁ := ⟨F₁.ns.at' fun o x => up _ o (Ne.symm he.2.1) (Ne.symm hit.2.1) x, fun b o x => up b o (fun q => by rw [q, he.2.2] at x; cases x) (fun q => by rw [q, hit.2.2] at x; cases x) (F₁.keep b o x), F₁.above⟩
    refine wpAny_mono (turn i v h.objs.size tk m₁ news₁ h₂ (tk + 1) io₂ hv hJ F₂ ?_ hc₂ hI₁) (fun _ s₂ z => wpAny_mono z (fun f s₃ z => ?_) fun _ _ z => z.elim) fun _ _ z => z.elim
    · intro p hp
      rcases List.mem_cons.mp hp with rfl | hp
      · exact ⟨(hs₂.2 _ (Nat.ne_of_gt heH)).trans ht₁, Nat.ne_of_gt hLH, gN⟩
      rcases List.mem_cons.mp hp with rfl | hp
      · exact ⟨he₂, he.2⟩
      rcases List.mem_cons.mp hp with rfl | hp
      · exact ⟨hio₂, hit.2⟩
      · have z := N₁ p (.tail _ (.tail _ hp))
        exact ⟨up _ _ (hI₁ p hp).1 (hI₁ p hp).2 z.1, z.2⟩
    · obtain ⟨rfl, h₃, tk₃, m₃, news₃, rfl, F₃, N₃, hI₃, hJ₃⟩ := z
      refine ⟨items.size + 1 - (i + 1), by omega, i + 1, m₃, news₃, h₃, tk₃, v, io₂, rfl, hlt, rfl, hJ₃, F₃, ?_, ⟨hc₂, by rw [hd₂]⟩, fun p hp => ⟨hI₃ _ (.head _) p hp, hI₃ _ (.tail _ (.head _)) p hp⟩⟩
      have e1 : ((i : Int) + 1) = ((i + 1 : Nat) : Int) := by push_cast; rfl
      rw [e1] at N₃
      exact N₃
end Mine
end

section
open PySem PySem.W PySem.Calls PyProof.Rows PySem.Spec
set_option maxRecDepth 100000
set_option maxHeartbeats 8000000
namespace Mine
local macro_rules | `(tactic| k_all) => `(tactic| assumption)
local macro_rules | `(tactic| walk_at "ite") => `(tactic| (k_closed; first | ((with_reducible refine' ite_pos ?hc ?_); (case hc => k_dflt decide)) | ((with_reducible refine' ite_neg ?hc ?_); (case hc => k_dflt decide))))
local macro_rules | `(tactic| walk_at "assign Tuple") => `(tactic| (k_here; (with_reducible show wpAny _ _ (assign (Expr.Tuple _ _ _) _ (Value.ref _)) _ _ _); k_dflt (refine' unpackN_ ?k1 ?k2 ?k3 ?k4 ?k5 ?k6 ?_; (case k1 => k_asm); (case k2 => k_asm); (case k3 => first | assumption | kun_tup); (case k4 => assumption); (case k5 => exact rfl); (case k6 => exact rfl)); intro h' F' N'; (try k_sweep)))
def lawFor : Option Stmt := lSt 4
def lwSt (i : Nat) : Option Stmt := (forBody lawFor)[i]?

theorem PcsIn.nth {T : List (Addr × Obj)} : ∀ {vs : List Value} {ps : List Pc}, PcsIn T vs ps → ∀ (k : Nat) (p : Pc), ps[k]? = some p → ∃ v, vs[k]? = some v ∧ PcIn T v p
  | _, _, .cons h _, 0, p, e => ⟨_, rfl, by simp at e; exact e ▸ h⟩
  | _, _, .cons _ h, k + 1, p, e => by
    obtain ⟨v, e1, e2⟩ := h.nth k p (by simpa using e)
    exact ⟨v, by simpa using e1, e2⟩

section
variable {w : World} {loose : List Str} {mean : ExcName → Option Value} {mg mb : Str → Option Value} {A : Around} {s : Shared} {g : Heap} {L : Addr} {m : Str → Option Value} {o1 o2 o3 : Obj} {R : List (Addr × Obj)}

theorem b0 {t t2 : Addr} {i : Nat} {p : Pc} {u0 u1 u2 u3 : Tok} {Q : Unit → Shared → Prop} (G : Gnd w loose mean mg mb g) (F : Fr g L s.heap m)
    (N : News g L s.heap ((t, tupOf [.int i u0, .ref t2]) :: (t2, tupOf [.int p.kind u1, .str p.word u2, .str p.what u3]) :: R)) (hh : A.handled = none)
    (hQ : ∀ h' tk', Fr g L h' (fun y => if y = Str.ofString "what" then some (.str p.what u3) else if y = Str.ofString "word" then some (.str p.word u2) else if y = Str.ofString "kind" then some (.int p.kind u1) else if y = Str.ofString "k" then some (.int i u0) else m y) →
      News g L h' R → Q () { s with heap := h', toks := tk' }) :
    wpAny (model PySem.Challenge.rw_co0044_01.row.toRowW.prog w) A (assign (forTgt lawFor) (envL L fa cv) (.ref t)) Q (fun _ _ => False) s := by
  have X' := G.X
  have T' := G.T
  revert X'
  k_fill
  intro X'
  simp only [envL]
  conv in (forTgt _) => whnf
  conv in (defScope 22) => whnf
  k_unmd
  repeat' walk1
  rename Fr g L _ _ => FE
  rename News g L _ _ => NE
  exact hQ _ _ FE fun p hp => NE p (.tail _ (.tail _ hp))

theorem b1 {aS aD aP : Addr} {i : Nat} {c j : Int} {t1 t2 ti tw : Tok} {n np : Nat} {ws pv : List Value} {ns : List Int} {ps : List Pc} {p : Pc} {Q : Flow → Shared → Prop} (G : Gnd w loose mean mg mb g) (F : Fr g L s.heap m)
    (N : News g L s.heap ((aS, stOf aD j c t1 t2 n) :: (aD, W.listOf ws.toArray 0) :: (aP, W.listOf pv.toArray np) :: (L + 1, o1) :: R)) (hR : ∀ p ∈ R, p.1 ≠ aS) (h1 : aD ≠ aS) (h2 : aP ≠ aS) (d1 : o1.data = .cell (some (.ref aP)))
    (hI : IntsAre ws ns) (hlen : ws.length ≤ 63) (hh : A.handled = none) (hroom : A.depth < 540) (h0 : 0 ≤ j) (hc0 : 0 ≤ c) (hc : c < 2147483647) (hp : PcsIn R pv ps) (hi : i < ps.length) (hpl : ps.length ≤ 40)
    (mk : m (Str.ofString "k") = some (.int i ti)) (mw : m (Str.ofString "word") = some (.str p.word tw)) (ms : m (Str.ofString "state") = some (.ref aS))
    (hQ : ∀ h' tk' j' c' ta tb b, (i = 0 → b = true) → Fr g L h' (fun y => if y = Str.ofString "tight" then some (.bool b) else m y) →
      News g L h' ((aS, stOf aD j' c' ta tb n) :: (aD, W.listOf ws.toArray 0) :: (aP, W.listOf pv.toArray np) :: (L + 1, o1) :: R) → 0 ≤ j' → 0 ≤ c' → c' < 2147483647 → Q .next { s with heap := h', toks := tk' }) :
    wpAny (model PySem.Challenge.rw_co0044_01.row.toRowW.prog w) A (exec ((lwSt 0).getD default) (envL L fa cv)) Q (fun _ _ => False) s := by
  have X' := G.X
  have T' := G.T
  have q1 := neN h1
  have q2 := neN h2
  have q3 := Ne.symm (cellNe (a := aS) N d1 (by k_mem) (by k_mem) list_no_cell)
  have e : (fun y => if y = Str.ofString "k" then some (.int i ti) else if y = Str.ofString "word" then some (.str p.word tw) else if y = Str.ofString "state" then some (.ref aS) else m y) = m := by
    funext y
    by_cases h1 : y = Str.ofString "k"
    · rw [if_pos h1, h1, mk]
    rw [if_neg h1]
    by_cases h2 : y = Str.ofString "word"
    · rw [if_pos h2, h2, mw]
    rw [if_neg h2]
    by_cases h3 : y = Str.ofString "state"
    · rw [if_pos h3, h3, ms]
    rw [if_neg h3]
  have F2 : Fr g L s.heap (fun y => if y = Str.ofString "k" then some (.int i ti) else if y = Str.ofString "word" then some (.str p.word tw) else if y = Str.ofString "state" then some (.ref aS) else m y) := by rw [e]; exact F
  rw [← e] at hQ
  clear F
  revert X'
  k_fill
  intro X'
  simp only [envL]
  conv in (Option.getD _ _) => whnf
  conv in (defScope 22) => whnf
  k_unmd
  repeat' walk1
  · rename Fr g L _ _ => FE
    rename News g L _ _ => NE
    rename (i : Int) = 0 => hi0
    have : ((i : Int) == 0) = true := by simpa using hi0
    rw [this] at FE
    exact hQ _ _ _ _ _ _ _ (fun _ => rfl) FE NE h0 hc0 hc
  rename (i : Int) ≠ 0 => hi0
  refine' next_L (aS := aS) (aL := aD) (t1 := t1) (t2 := t2) (n := n) (vs := ws) (nL := 0) G ?Fu1 ?Nu1 ?Uu1 ?Lu1 h1 hI ?hlu1 ?ru1 h0 hc0 hc ?p1u1 ?p2u1 ?mainu1
  case Fu1 => assumption
  case Nu1 => assumption
  case Uu1 => k_updF
  case Lu1 => k_mem
  case hlu1 => omega
  case ru1 => omega
  case p1u1 => decide
  case p2u1 => decide
  case mainu1 =>
  intro hh1 tk1 j1 c1 v1 ta1 tb1 tc1 F1 N1 g11 g12 g13 g14 g15
  dsimp only
  obtain ⟨pv1, hpv1, hpi⟩ : ∃ v, pv[((i : Int) - 1).toNat]? = some v ∧ ∃ q, PcIn R v q := by
    obtain ⟨v, h1, h2⟩ := hp.nth (i - 1) _ (List.getElem?_eq_getElem (by omega))
    exact ⟨v, by rw [show ((i : Int) - 1).toNat = i - 1 by omega]; exact h1, _, h2⟩
  obtain ⟨q1', a9, u91, u92, u93, rfl, m9⟩ := hpi
  repeat' walk1
  · refine named_K G (fun _ _ e => e) (by assumption) (by assumption) (by omega) ?_
    intro h7 tk7 D7 ta7 tb7 tc7 td7 F7 N7 o7
    simp only [List.forall_mem_cons] at o7
    have q71 := neN o7.1
    have q72 := neN o7.2.1
    have q73 := neN o7.2.2.1
    have q74 := neN o7.2.2.2.1
    have o75 := o7.2.2.2.2
    clear o7
    (try dsimp only)
    repeat' walk1
    · rename Fr g L _ _ => FE
      rename News g L _ _ => NE
      exact hQ _ _ _ _ _ _ _ (fun q => by omega) FE (fun p hp => NE p (.tail _ hp)) g11 g12 g13
    · refine item_K N7 (by k_mem) (by omega) (by omega) hpv1 ?_
      (try dsimp only)
      repeat' walk1
      have m9' := N7 _ (.tail _ (.tail _ (.tail _ (.tail _ (.tail _ m9)))))
      refine item_tupleT (l := [.int q1'.kind u91, .str q1'.word u92, .str q1'.what u93]) (j := 1) (x := .str q1'.word u92) ⟨_, m9'.1, rfl, _, rfl⟩ (by omega) (by omega) rfl rfl ?_
      (try dsimp only)
      repeat' walk1
      refine named_K G (fun _ _ e => e) (by assumption) (by assumption) (by omega) ?_
      intro h8 tk8 D8 ta8 tb8 tc8 td8 F8 N8 o8
      (try dsimp only)
      repeat' walk1
      all_goals (
        rename Fr g L _ _ => FE
        rename News g L _ _ => NE
        exact hQ _ _ _ _ _ _ _ (fun q => by omega) FE (fun p hp => NE p (.tail _ (.tail _ hp))) g11 g12 g13)
  · rename Fr g L _ _ => FE
    rename News g L _ _ => NE
    exact hQ _ _ _ _ _ _ _ (fun q => by omega) FE NE g11 g12 g13
end
end Mine
end

section
open PySem PySem.W PySem.Calls PyProof.Rows PySem.Spec
set_option maxRecDepth 100000
set_option maxHeartbeats 8000000
namespace Mine
local macro_rules | `(tactic| k_all) => `(tactic| assumption)
local macro_rules | `(tactic| walk_at "ite") => `(tactic| (k_closed; first | ((with_reducible refine' ite_pos ?hc ?_); (case hc => k_dflt decide)) | ((with_reducible refine' ite_neg ?hc ?_); (case hc => k_dflt decide))))

section
variable {w : World} {loose : List Str} {mean : ExcName → Option Value} {mg mb : Str → Option Value} {A : Around} {s : Shared} {g : Heap} {L : Addr} {m : Str → Option Value} {o1 o2 o3 : Obj} {R : List (Addr × Obj)} {Q : Flow → Shared → Prop}

theorem b2 {line : Str} {tl : Tok} {b : Bool} (G : Gnd w loose mean mg mb g) (F : Fr g L s.heap (fun y => if y = Str.ofString "tight" then some (.bool b) else m y))
    (N : News g L s.heap ((L + 1 + 1, o2) :: R)) (hR : ∀ p ∈ R, p.1 ≠ L + 1 + 1) (d2 : o2.data = .cell (some (.str line tl))) (hll : line.length ≤ 100000) (hh : A.handled = none)
    (hQ : ∀ h' tk' o2' tl', Fr g L h' (fun y => if y = Str.ofString "tight" then some (.bool b) else m y) → News g L h' ((L + 1 + 1, o2') :: R) → o2'.data = .cell (some (.str (line ++ (if b = true then Str.ofString "" else Str.ofString " ")) tl')) → Q .next { s with heap := h', toks := tk' }) :
    wpAny (model PySem.Challenge.rw_co0044_01.row.toRowW.prog w) A (exec ((lwSt 1).getD default) (envL L fa cv)) Q (fun _ _ => False) s := by
  have X' := G.X
  have T' := G.T
  revert X'
  k_fill
  intro X'
  simp only [envL]
  conv in (Option.getD _ _) => whnf
  conv in (defScope 22) => whnf
  k_unmd
  repeat' walk1
  all_goals (
    rename Fr g L _ _ => FE
    rename News g L _ _ => NE
    rename Obj.data _ = .cell (some (.str (_ ++ _) _)) => dE
    rename b = _ => hb
    exact hQ _ _ _ _ FE NE (by rw [hb]; exact dE))

theorem b3 {aX : Addr} {line : Str} {tl x1 x2 : Tok} {sv : List Value} {nx : Nat} {p : Pc} (G : Gnd w loose mean mg mb g) (F : Fr g L s.heap (fun y => if y = Str.ofString "word" then some (.str p.word x1) else if y = Str.ofString "what" then some (.str p.what x2) else m y))
    (N : News g L s.heap ((aX, W.listOf sv.toArray nx) :: (L + 1 + 1 + 1, o3) :: (L + 1 + 1, o2) :: R)) (hR : ∀ p ∈ R, p.1 ≠ aX) (d2 : o2.data = .cell (some (.str line tl))) (d3 : o3.data = .cell (some (.ref aX))) (hll : line.length ≤ 100000) (hsv : sv.length ≤ 1000) (hpw : p.word.length ≤ 100) (hh : A.handled = none)
    (hQ : ∀ h' tk' t nx' y1 y2, Fr g L h' (fun y => if y = Str.ofString "word" then some (.str p.word x1) else if y = Str.ofString "what" then some (.str p.what x2) else m y) →
      News g L h' ((t, tupOf [.str p.word x1, .str p.what x2, .int line.length y1, .int (line.length + p.word.length : Nat) y2]) :: (aX, W.listOf (List.toArray (sv ++ [Value.ref t])) nx') :: (L + 1 + 1 + 1, o3) :: (L + 1 + 1, o2) :: R) → Q .next { s with heap := h', toks := tk' }) :
    wpAny (model PySem.Challenge.rw_co0044_01.row.toRowW.prog w) A (exec ((lwSt 2).getD default) (envL L fa cv)) Q (fun _ _ => False) s := by
  have X' := G.X
  have T' := G.T
  have q3 := Ne.symm (cellNe (a := aX) N d3 (by k_mem) (by k_mem) list_no_cell)
  have q2 := Ne.symm (cellNe (a := aX) N d2 (by k_mem) (by k_mem) list_no_cell)
  revert X'
  k_fill
  intro X'
  simp only [envL]
  conv in (Option.getD _ _) => whnf
  conv in (defScope 22) => whnf
  k_unmd
  repeat' walk1
  rename Fr g L _ _ => FE
  rename News g L _ _ => NE
  exact hQ _ _ _ _ _ _ FE (by simpa using NE)

theorem b4 {line : Str} {tl x1 : Tok} {p : Pc} (G : Gnd w loose mean mg mb g) (F : Fr g L s.heap (fun y => if y = Str.ofString "word" then some (.str p.word x1) else m y))
    (N : News g L s.heap ((L + 1 + 1, o2) :: R)) (hR : ∀ p ∈ R, p.1 ≠ L + 1 + 1) (d2 : o2.data = .cell (some (.str line tl))) (hll : line.length ≤ 100000) (hpw : p.word.length ≤ 100) (hh : A.handled = none)
    (hQ : ∀ h' tk' o2' tl', Fr g L h' (fun y => if y = Str.ofString "word" then some (.str p.word x1) else m y) → News g L h' ((L + 1 + 1, o2') :: R) → o2'.data = .cell (some (.str (line ++ p.word) tl')) → Q .next { s with heap := h', toks := tk' }) :
    wpAny (model PySem.Challenge.rw_co0044_01.row.toRowW.prog w) A (exec ((lwSt 3).getD default) (envL L fa cv)) Q (fun _ _ => False) s := by
  have X' := G.X
  have T' := G.T
  revert X'
  k_fill
  intro X'
  simp only [envL]
  conv in (Option.getD _ _) => whnf
  conv in (defScope 22) => whnf
  k_unmd
  repeat' walk1
  rename Fr g L _ _ => FE
  rename News g L _ _ => NE
  rename Obj.data _ = .cell (some (.str (_ ++ _) _)) => dE
  exact hQ _ _ _ _ FE NE dE
end
end Mine
end

section
open PySem PySem.W PySem.Calls PyProof.Rows PySem.Spec
set_option maxRecDepth 100000
set_option maxHeartbeats 8000000
namespace Mine
theorem objNe {g h : Heap} {L a b : Addr} {led : List (Addr × Obj)} {o o' : Obj} (N : News g L h led) (m : (a, o) ∈ led) (m' : (b, o') ∈ led) (hd : o ≠ o') : a ≠ b := fun e => by
  have z := (N _ m).1
  have y := (N _ m').1
  dsimp only at z y
  rw [e, y] at z
  exact hd (Option.some.inj z).symm
def SpIn (T : List (Addr × Obj)) (v : Value) (p : Sp) : Prop := ∃ t x1 x2 x3 x4, v = .ref t ∧ (t, tupOf [.str p.word x1, .str p.what x2, .int p.b x3, .int p.e x4]) ∈ T
inductive SpsIn (T : List (Addr × Obj)) : List Value → List Sp → Prop
  | nil : SpsIn T [] []
  | cons {v p vs ps} : SpIn T v p → SpsIn T vs ps → SpsIn T (v :: vs) (p :: ps)
theorem SpIn.mono {T T' v p} (h : SpIn T v p) (k : ∀ q ∈ T, q ∈ T') : SpIn T' v p := let ⟨t, a, b, c, d, e, m⟩ := h; ⟨t, a, b, c, d, e, k _ m⟩
theorem SpsIn.mono {T T' vs ps} (h : SpsIn T vs ps) (k : ∀ q ∈ T, q ∈ T') : SpsIn T' vs ps := by
  induction h with
  | nil => exact .nil
  | cons a _ ih => exact .cons (a.mono k) ih
theorem SpsIn.snoc {T vs ps v p} (h : SpsIn T vs ps) (e : SpIn T v p) : SpsIn T (vs ++ [v]) (ps ++ [p]) := by
  induction h with
  | nil => exact .cons e .nil
  | cons a _ ih => exact .cons a ih
theorem SpsIn.length {T vs ps} (h : SpsIn T vs ps) : vs.length = ps.length := by
  induction h with
  | nil => rfl
  | cons _ _ ih => simp [ih]
theorem Tups.cons {t : Addr} {vs : List Value} {T : List (Addr × Obj)} (h : Tups T) : Tups ((t, tupOf vs) :: T) := fun p hp => by
  rcases List.mem_cons.mp hp with rfl | hp
  · exact ⟨vs, rfl⟩
  · exact h p hp
theorem cps_add (a b : Str) : (a ++ b).cps.toList = a.cps.toList ++ b.cps.toList := by
  show (a.cps ++ b.cps).toList = _
  simp
theorem len_cps (a : Str) : a.length = a.cps.toList.length := by simp [PySem.Str.length]

/-- ahead of the turn i: what stands -/
def LawJ (L aX aP aS aD : Addr) (n np : Nat) (ws pv : List Value) (ps : List Pc) (o1 o3 : Obj) (i : Nat) (m₁ : Str → Option Value) (news₁ : List (Addr × Obj)) : Prop :=
  ∃ j c ta tb sv nx o2 line tl T its, news₁ = (aX, W.listOf (List.toArray sv) nx) :: (aP, W.listOf pv.toArray np) :: (aS, stOf aD j c ta tb n) :: (aD, W.listOf ws.toArray 0) :: (L + 1 + 1 + 1, o3) :: (L + 1 + 1, o2) :: (L + 1, o1) :: T ∧
    m₁ (Str.ofString "state") = some (.ref aS) ∧ o2.data = .cell (some (.str line tl)) ∧ line.cps.toList = txt its ∧ pcs its = ps.take i ∧ (∀ b, its.head?.map (·.2) = some b → b = false) ∧ SpsIn T sv (spsOf 0 its) ∧ PcsIn T pv ps ∧ Tups T ∧ 0 ≤ j ∧ 0 ≤ c ∧ c < 2147483647

theorem law_turn {w : World} {loose : List Str} {mean : ExcName → Option Value} {mg mb : Str → Option Value} {A : Around} {s : Shared} {g h : Heap} {L e it t aX aP aS aD : Addr} {n np i tk : Nat} {ws pv : List Value} {ns : List Int} {ps : List Pc} {o1 o3 eo io : Obj} {m₁ : Str → Option Value} {news₁ : List (Addr × Obj)} {v : Value} {u0 : Tok}
    (G : Gnd w loose mean mg mb g) (hh : A.handled = none) (hroom : A.depth < 540) (hI : IntsAre ws ns) (hlen : ws.length ≤ 63) (d1 : o1.data = .cell (some (.ref aP))) (d3 : o3.data = .cell (some (.ref aX)))
    (x1 : aX ≠ aS) (x2 : aX ≠ aP) (x3 : aX ≠ aD) (x4 : aP ≠ aS) (x5 : aD ≠ aS) (hpl : ps.length ≤ 40) (hpok : ∀ x ∈ ps, pcOk x = true)
    (hv : pv.toArray[i]? = some v) (hJ : LawJ L aX aP aS aD n np ws pv ps o1 o3 i m₁ news₁) (F : Fr g L h m₁) (N : News g L h ((t, tupOf [.int i u0, v]) :: (e, eo) :: (it, io) :: news₁)) (hio : io.cls = .type "list_iterator") (heo : eo.cls = .type "enumerate") (hE : ∀ p ∈ news₁, p.1 ≠ e ∧ p.1 ≠ it) :
    wpAny (model PySem.Challenge.rw_co0044_01.row.toRowW.prog w) A (assign (forTgt lawFor) (envL L fa cv) (.ref t)) (fun _ s₂ => wpAny (model PySem.Challenge.rw_co0044_01.row.toRowW.prog w) A (execs (forBody lawFor) (envL L fa cv)) (TurnPost s g L [(e, eo), (it, io)] (LawJ L aX aP aS aD n np ws pv ps o1 o3 (i + 1))) (fun _ _ => False) s₂) (fun _ _ => False) { s with heap := h, toks := tk } := by
  obtain ⟨j, c, ta, tb, sv, nx, o2, line, tl, T, its, rfl, ms, d2, hline, hits, hhead, hsp, hpv, hT, j0, c0, c1⟩ := hJ
  have hln := hpv.length
  have hi : i < ps.length := by
    have := (Array.getElem?_eq_some_iff.mp hv).1
    simp only [List.size_toArray] at this
    omega
  obtain ⟨p, hp⟩ : ∃ p, ps[i]? = some p := ⟨_, List.getElem?_eq_getElem hi⟩
  obtain ⟨v', hv', t2, u1, u2, u3, rfl, m2⟩ := hpv.nth i p hp
  have hvv : v = .ref t2 := by
    have : pv[i]? = some v := by simpa using hv
    rw [hv'] at this; exact (Option.some.inj this).symm
  subst hvv
  have pok := hpok p (List.mem_of_getElem? hp)
  have hpw : p.word.length ≤ 100 := by
    simp only [pcOk, Bool.and_eq_true, decide_eq_true_eq] at pok
    rw [len_cps]; omega
  have hitl : its.length = i := by
    have := congrArg List.length hits
    simp only [pcs, List.length_map, List.length_take] at this
    omega
  have hitok : ∀ x ∈ pcs its, pcOk x = true := fun x hx => hpok x (by rw [hits] at hx; exact List.mem_of_mem_take hx)
  have hll : line.length ≤ 160 := by
    rw [len_cps, hline]
    have := txt_le its hitok
    omega
  have hsl := hsp.length
  rw [spsOf_len] at hsl
  -- who is who
  have E1 := hE _ (.head _)
  have E2 := hE _ (.tail _ (.head _))
  have E3 := hE _ (.tail _ (.tail _ (.head _)))
  have E4 := hE _ (.tail _ (.tail _ (.tail _ (.head _))))
  have E5 := hE _ (.tail _ (.tail _ (.tail _ (.tail _ (.head _)))))
  have E6 := hE _ (.tail _ (.tail _ (.tail _ (.tail _ (.tail _ (.head _))))))
  have E7 := hE _ (.tail _ (.tail _ (.tail _ (.tail _ (.tail _ (.tail _ (.head _)))))))
  have ET : ∀ p ∈ T, p.1 ≠ e ∧ p.1 ≠ it := fun p hp => hE p (.tail _ (.tail _ (.tail _ (.tail _ (.tail _ (.tail _ (.tail _ hp)))))))
  have N0 : News g L h ((aX, W.listOf sv.toArray nx) :: (aP, W.listOf pv.toArray np) :: (aS, stOf aD j c ta tb n) :: (aD, W.listOf ws.toArray 0) :: (L + 1 + 1 + 1, o3) :: (L + 1 + 1, o2) :: (L + 1, o1) :: T) := fun p hp => N p (.tail _ (.tail _ (.tail _ hp)))
  have sT : ∀ p ∈ T, p ∈ (aX, W.listOf sv.toArray nx) :: (aP, W.listOf pv.toArray np) :: (aS, stOf aD j c ta tb n) :: (aD, W.listOf ws.toArray 0) :: (L + 1 + 1 + 1, o3) :: (L + 1 + 1, o2) :: (L + 1, o1) :: T := fun p hp => .tail _ (.tail _ (.tail _ (.tail _ (.tail _ (.tail _ (.tail _ hp))))))
  have T1 := hT.ne N0 sT list_not_tup (a := aS) (.tail _ (.tail _ (.head _)))
  have T2 := hT.ne N0 sT (cell_not_tup d2) (.tail _ (.tail _ (.tail _ (.tail _ (.tail _ (.head _))))))
  have T3 := hT.ne N0 sT list_not_tup (a := aX) (.head _)
  have c31 := cellNe (a := aS) N0 d3 (.tail _ (.tail _ (.tail _ (.tail _ (.head _))))) (.tail _ (.tail _ (.head _))) list_no_cell
  have c21 := cellNe (a := aS) N0 d2 (.tail _ (.tail _ (.tail _ (.tail _ (.tail _ (.head _)))))) (.tail _ (.tail _ (.head _))) list_no_cell
  have c22 := cellNe (a := aD) N0 d2 (.tail _ (.tail _ (.tail _ (.tail _ (.tail _ (.head _)))))) (.tail _ (.tail _ (.tail _ (.head _)))) list_no_cell
  have c23 := cellNe (a := aP) N0 d2 (.tail _ (.tail _ (.tail _ (.tail _ (.tail _ (.head _)))))) (.tail _ (.head _)) list_no_cell
  have c24 := cellNe (a := aX) N0 d2 (.tail _ (.tail _ (.tail _ (.tail _ (.tail _ (.head _)))))) (.head _) list_no_cell
  have c14 := cellNe (a := aX) N0 d1 (.tail _ (.tail _ (.tail _ (.tail _ (.tail _ (.tail _ (.head _))))))) (.head _) list_no_cell
  clear E5 N0 sT
  have eb : forBody lawFor = [(lwSt 0).getD default, (lwSt 1).getD default, (lwSt 2).getD default, (lwSt 3).getD default] := by exact rfl
  rw [eb]
  refine b0 (s := { s with heap := h, toks := tk }) (R := (e, eo) :: (it, io) :: (aX, W.listOf sv.toArray nx) :: (aP, W.listOf pv.toArray np) :: (aS, stOf aD j c ta tb n) :: (aD, W.listOf ws.toArray 0) :: (L + 1 + 1 + 1, o3) :: (L + 1 + 1, o2) :: (L + 1, o1) :: T)
    (t := t) (i := i) (u0 := u0) (t2 := t2) (p := p) (u1 := u1) (u2 := u2) (u3 := u3) G F (fun q hq => ?_) hh fun h0 k0 F0 N0 => ?_
  · rcases List.mem_cons.mp hq with rfl | hq
    · exact N _ (.head _)
    rcases List.mem_cons.mp hq with rfl | hq
    · exact N _ (.tail _ (.tail _ (.tail _ (.tail _ (.tail _ (.tail _ (.tail _ (.tail _ (.tail _ (.tail _ m2))))))))))
    · exact N q (.tail _ hq)
  clear N F
  -- tight
  refine wpAny_execs_cons (b1 (s := { s with heap := h0, toks := k0 }) (aS := aS) (aD := aD) (aP := aP) (i := i) (j := j) (c := c) (t1 := ta) (t2 := tb) (n := n) (np := np) (ws := ws) (pv := pv) (ns := ns) (ps := ps) (p := p) (o1 := o1)
    (R := (e, eo) :: (it, io) :: (aX, W.listOf sv.toArray nx) :: (L + 1 + 1 + 1, o3) :: (L + 1 + 1, o2) :: T) G F0 (fun q hq => N0 q ?_) (fun q hq => ?_) x5 x4 d1 hI hlen hh hroom j0 c0 c1 (hpv.mono fun q hq => .tail _ (.tail _ (.tail _ (.tail _ (.tail _ hq))))) hi hpl rfl rfl ms
    fun h1 k1 j1 c1' ta1 tb1 b hb F1 N1 p1 p2 p3 => ?_)
  · simp only [List.mem_cons] at hq ⊢
    rcases hq with rfl | rfl | rfl | rfl | rfl | rfl | rfl | rfl | rfl | hq <;> simp [*]
  · simp only [List.mem_cons] at hq
    rcases hq with rfl | rfl | rfl | rfl | rfl | hq
    · exact Ne.symm E3.1
    · exact Ne.symm E3.2
    · exact x1
    · exact Ne.symm c31
    · exact Ne.symm c21
    · exact T1 q hq
  show wpAny _ _ (execs [(lwSt 1).getD default, (lwSt 2).getD default, (lwSt 3).getD default] _) _ _ _
  clear N0 F0
  -- the gap
  refine wpAny_execs_cons (b2 (s := { s with heap := h1, toks := k1 }) (line := line) (tl := tl) (b := b) (o2 := o2) (R := (e, eo) :: (it, io) :: (aX, W.listOf sv.toArray nx) :: (aP, W.listOf pv.toArray np) :: (aS, stOf aD j1 c1' ta1 tb1 n) :: (aD, W.listOf ws.toArray 0) :: (L + 1 + 1 + 1, o3) :: (L + 1, o1) :: T) G F1
    (fun q hq => N1 q ?_) (fun q hq => ?_) d2 (by omega) hh fun h2 k2 o2' tl2 F2 N2 d2' => ?_)
  · simp only [List.mem_cons] at hq ⊢
    rcases hq with rfl | rfl | rfl | rfl | rfl | rfl | rfl | rfl | rfl | hq <;> simp [*]
  · simp only [List.mem_cons] at hq
    rcases hq with rfl | rfl | rfl | rfl | rfl | rfl | rfl | rfl | hq
    · exact Ne.symm E6.1
    · exact Ne.symm E6.2
    · exact c24
    · exact c23
    · exact c21
    · exact c22
    · exact (fun q => Nat.succ_ne_self _ q : ¬ L + 1 + 1 + 1 = L + 1 + 1)
    · exact (fun q => Nat.succ_ne_self _ q.symm : ¬ L + 1 = L + 1 + 1)
    · exact T2 q hq
  show wpAny _ _ (execs [(lwSt 2).getD default, (lwSt 3).getD default] _) _ _ _
  clear N1 F1
  have hcl : (line ++ (if b = true then Str.ofString "" else Str.ofString " ")).cps.toList = txt its ++ gapL (!b) := by
    rw [cps_add, hline]
    cases b
    · rw [show (if false = true then Str.ofString "" else Str.ofString " ").cps.toList = gapL (!false) by decide +kernel]
    · rw [show (if true = true then Str.ofString "" else Str.ofString " ").cps.toList = gapL (!true) by decide +kernel]
  generalize (line ++ (if b = true then Str.ofString "" else Str.ofString " ")) = line2 at d2' hcl
  have hl2 : line2.length = (txt its).length + gp (!b) := by rw [len_cps, hcl, List.length_append, gapL_len]
  have hl1 : line.length = (txt its).length := by rw [len_cps, hline]
  have hgp : gp (!b) ≤ 1 := by cases b <;> decide
  -- spans.append
  replace F2 := Fr.know (Fr.know F2 (x := Str.ofString "what") (v := .str p.what u3) rfl) (x := Str.ofString "word") (v := .str p.word u2) rfl
  refine wpAny_execs_cons (b3 (s := { s with heap := h2, toks := k2 }) (aX := aX) (line := line2) (tl := tl2) (x1 := u2) (x2 := u3) (sv := sv) (nx := nx) (p := p) (o2 := o2') (o3 := o3) (R := (e, eo) :: (it, io) :: (aP, W.listOf pv.toArray np) :: (aS, stOf aD j1 c1' ta1 tb1 n) :: (aD, W.listOf ws.toArray 0) :: (L + 1, o1) :: T) G F2
    (fun q hq => N2 q ?_) (fun q hq => ?_) d2' d3 (by omega) (by omega) hpw hh fun h3 k3 t3 nx3 y1 y2 F3 N3 => ?_)
  · simp only [List.mem_cons] at hq ⊢
    rcases hq with rfl | rfl | rfl | rfl | rfl | rfl | rfl | rfl | rfl | hq <;> simp [*]
  · simp only [List.mem_cons] at hq
    rcases hq with rfl | rfl | rfl | rfl | rfl | rfl | hq
    · exact Ne.symm E1.1
    · exact Ne.symm E1.2
    · exact Ne.symm x2
    · exact Ne.symm x1
    · exact Ne.symm x3
    · exact Ne.symm c14
    · exact T3 q hq
  show wpAny _ _ (execs [(lwSt 3).getD default] _) _ _ _
  clear N2 F2
  have t3n : ∀ q ∈ (aX, W.listOf (List.toArray (sv ++ [Value.ref t3])) nx3) :: (L + 1 + 1 + 1, o3) :: (L + 1 + 1, o2') :: (e, eo) :: (it, io) :: (aP, W.listOf pv.toArray np) :: (aS, stOf aD j1 c1' ta1 tb1 n) :: (aD, W.listOf ws.toArray 0) :: (L + 1, o1) :: T, (∀ vs, q.2 ≠ tupOf vs) → t3 ≠ q.1 := fun q hq hd =>
    objNe N3 (.head _) (.tail _ hq) (fun z => hd _ z.symm)
  -- the word
  refine wpAny_execs_cons (b4 (s := { s with heap := h3, toks := k3 }) (line := line2) (tl := tl2) (x1 := u2) (p := p) (o2 := o2') (R := (t3, tupOf [.str p.word u2, .str p.what u3, .int line2.length y1, .int (line2.length + p.word.length : Nat) y2]) :: (e, eo) :: (it, io) :: (aX, W.listOf (List.toArray (sv ++ [Value.ref t3])) nx3) :: (aP, W.listOf pv.toArray np) :: (aS, stOf aD j1 c1' ta1 tb1 n) :: (aD, W.listOf ws.toArray 0) :: (L + 1 + 1 + 1, o3) :: (L + 1, o1) :: T) G F3
    (fun q hq => N3 q ?_) (fun q hq => ?_) d2' (by omega) hpw hh fun h4 k4 o24 tl4 F4 N4 d24 => ?_)
  · simp only [List.mem_cons] at hq ⊢
    rcases hq with rfl | rfl | rfl | rfl | rfl | rfl | rfl | rfl | rfl | rfl | hq <;> simp [*]
  · simp only [List.mem_cons] at hq
    rcases hq with rfl | rfl | rfl | rfl | rfl | rfl | rfl | rfl | rfl | hq
    · exact t3n _ (.tail _ (.tail _ (.head _))) (cell_not_tup d2')
    · exact Ne.symm E6.1
    · exact Ne.symm E6.2
    · exact c24
    · exact c23
    · exact c21
    · exact c22
    · exact (fun q => Nat.succ_ne_self _ q : ¬ L + 1 + 1 + 1 = L + 1 + 1)
    · exact (fun q => Nat.succ_ne_self _ q.symm : ¬ L + 1 = L + 1 + 1)
    · exact T2 q hq
  refine wpAny_execs_nil ?_
  have t3e : t3 ≠ e := t3n _ (.tail _ (.tail _ (.tail _ (.head _)))) (fun vs z => by have := congrArg (fun o : Obj => o.cls) z; simp [heo] at this)
  have t3i : t3 ≠ it := t3n _ (.tail _ (.tail _ (.tail _ (.tail _ (.head _))))) (fun vs z => by have := congrArg (fun o : Obj => o.cls) z; simp [hio] at this)
  have hcl4 : (line2 ++ p.word).cps.toList = txt (its ++ [(p, !b)]) := by
    rw [cps_add, hcl, txt_app, txt_cons]
    simp [txt]
  refine ⟨rfl, h4, k4, _, (aX, W.listOf (List.toArray (sv ++ [Value.ref t3])) nx3) :: (aP, W.listOf pv.toArray np) :: (aS, stOf aD j1 c1' ta1 tb1 n) :: (aD, W.listOf ws.toArray 0) :: (L + 1 + 1 + 1, o3) :: (L + 1 + 1, o24) :: (L + 1, o1) :: (t3, tupOf [.str p.word u2, .str p.what u3, .int line2.length y1, .int (line2.length + p.word.length : Nat) y2]) :: T,
    rfl, F4, fun q hq => N4 q ?_, ?_, j1, c1', ta1, tb1, _, nx3, o24, _, tl4, _, its ++ [(p, !b)], rfl, ?_, d24, hcl4, ?_, ?_, ?_, hpv.mono fun q hq => .tail _ hq, hT.cons, p1, p2, p3⟩
  · simp only [List.cons_append, List.nil_append, List.mem_cons] at hq ⊢
    rcases hq with rfl | rfl | rfl | rfl | rfl | rfl | rfl | rfl | rfl | rfl | hq <;> simp [*]
  · intro q hq q' hq'
    have both : q'.1 ≠ e ∧ q'.1 ≠ it := by
      simp only [List.mem_cons] at hq'
      rcases hq' with rfl | rfl | rfl | rfl | rfl | rfl | rfl | rfl | hq'
      · exact E1
      · exact E2
      · exact E3
      · exact E4
      · exact hE _ (.tail _ (.tail _ (.tail _ (.tail _ (.head _)))))
      · exact E6
      · exact E7
      · exact ⟨t3e, t3i⟩
      · exact ET _ hq'
    simp only [List.mem_cons, List.not_mem_nil, or_false] at hq
    rcases hq with rfl | rfl
    · exact both.1
    · exact both.2
  · exact ms
  · rw [pcs, List.map_append, ← pcs, hits, List.take_add_one, hp]; rfl
  · intro b' hb'
    cases its with
    | nil =>
      have hi0 : i = 0 := by simpa using hitl.symm
      have := hb hi0
      subst this
      simpa using hb'.symm
    | cons x r => exact hhead b' (by simpa using hb')
  · rw [spsOf_app, Nat.zero_add]
    refine (hsp.mono fun q hq => .tail _ hq).snoc ⟨t3, u2, u3, y1, y2, rfl, ?_⟩
    have e1 : (Mine.tk (txt its).length p (!b)).b = line2.length := by simp only [Mine.tk]; omega
    have e2 : (Mine.tk (txt its).length p (!b)).e = line2.length + p.word.length := by simp only [Mine.tk]; omega
    show _ ∈ _
    rw [e1, e2]
    exact .head _
end Mine
end

section
open PySem PySem.W PySem.Calls PyProof.Rows PySem.Spec
set_option maxRecDepth 100000
set_option maxHeartbeats 8000000
namespace Mine
local macro_rules | `(tactic| k_all) => `(tactic| assumption)

section
variable {w : World} {loose : List Str} {mean : ExcName → Option Value} {mg mb : Str → Option Value} {A : Around} {s : Shared} {g : Heap} {L : Addr} {m : Str → Option Value} {o1 o2 o3 : Obj} {R : List (Addr × Obj)}

theorem it4 {aP : Addr} {pv : List Value} {np : Nat} {Q : Value → Shared → Prop} (G : Gnd w loose mean mg mb g) (F : Fr g L s.heap m) (N : News g L s.heap ((aP, W.listOf pv.toArray np) :: (L + 1, o1) :: R)) (d1 : o1.data = .cell (some (.ref aP)))
    (hQ : ∀ h' tk, IsEnum h' (s.heap.objs.size + 1) s.heap.objs.size 0 .none → h'.IsListIter s.heap.objs.size aP 0 → h'.objs.size = s.heap.objs.size + 2 → Sub s.heap h' → Q (.ref (s.heap.objs.size + 1)) { s with heap := h', toks := tk }) :
    wpAny (model PySem.Challenge.rw_co0044_01.row.toRowW.prog w) A (eval (forIt lawFor) (envL L fa cv)) Q (fun _ _ => False) s := by
  have X' := G.X
  have T' := G.T
  have lL : s.heap.IsList aP pv.toArray := ⟨_, (N _ (.head _)).1, rfl, np, rfl⟩
  revert X'
  k_fill
  intro X'
  simp only [envL]
  conv in (forIt _) => whnf
  conv in (defScope 22) => whnf
  k_unmd
  repeat' walk1
  refine call_enumerate_list lL fun h' h1 h2 h3 h4 => ?_
  exact hQ h' _ h1 h2 h3 h4

theorem l4 {aX aP aS aD : Addr} {n np : Nat} {j c : Int} {ta tb tl : Tok} {ws pv : List Value} {ns : List Int} {ps : List Pc} {T : List (Addr × Obj)} {Q : Flow → Shared → Prop}
    (G : Gnd w loose mean mg mb g) (hh : A.handled = none) (hroom : A.depth < 539) (hI : IntsAre ws ns) (hlen : ws.length ≤ 63) (d1 : o1.data = .cell (some (.ref aP))) (d2 : o2.data = .cell (some (.str "" tl))) (d3 : o3.data = .cell (some (.ref aX)))
    (x1 : aX ≠ aS) (x2 : aX ≠ aP) (x3 : aX ≠ aD) (x4 : aP ≠ aS) (x5 : aD ≠ aS) (hpl : ps.length ≤ 40) (hpok : ∀ x ∈ ps, pcOk x = true) (hpv : PcsIn T pv ps) (hT : Tups T) (j0 : 0 ≤ j) (c0 : 0 ≤ c) (c1 : c < 2147483647)
    (ms : m (Str.ofString "state") = some (.ref aS)) (F : Fr g L s.heap m)
    (N : News g L s.heap ((aX, W.listOf #[] 0) :: (aP, W.listOf pv.toArray np) :: (aS, stOf aD j c ta tb n) :: (aD, W.listOf ws.toArray 0) :: (L + 1 + 1 + 1, o3) :: (L + 1 + 1, o2) :: (L + 1, o1) :: T))
    (hQ : ∀ h' tk' m' news', LawJ L aX aP aS aD n np ws pv ps o1 o3 ps.length m' news' → Fr g L h' m' → News g L h' news' → Q .next { s with heap := h', toks := tk' }) :
    wpAny (model PySem.Challenge.rw_co0044_01.row.toRowW.prog w) A (exec ((lSt 4).getD default) (envL L fa cv)) Q (fun _ _ => False) s := by
  have e : (lSt 4).getD default = .For (forTgt lawFor) (forIt lawFor) (forBody lawFor) [] (match lawFor with | some (.For _ _ _ _ p) => p | _ => default) := by exact rfl
  have e2 : forTgt lawFor = .Tuple (tgtElts (forTgt lawFor)) (match forTgt lawFor with | .Tuple _ k _ => k | _ => 0) (match forTgt lawFor with | .Tuple _ _ p => p | _ => default) := by exact rfl
  rw [e]
  refine wpAny_For ?_ (by exact fun _ => rfl)
  have hz : ∀ p ∈ (aX, W.listOf #[] 0) :: (aP, W.listOf pv.toArray np) :: (aS, stOf aD j c ta tb n) :: (aD, W.listOf ws.toArray 0) :: (L + 1 + 1 + 1, o3) :: (L + 1 + 1, o2) :: (L + 1, o1) :: T, p.1 < s.heap.objs.size := fun p hp => Heap.lt_size (N p hp).1
  have hLz : L < s.heap.objs.size := F.ns.lt
  refine it4 (aP := aP) (pv := pv) (np := np) (o1 := o1) (R := T) G F (fun p hp => N p ?_) d1 fun h' tk he hit hsz hk => ?_
  · simp only [List.mem_cons] at hp ⊢
    rcases hp with rfl | rfl | hp <;> simp [*]
  refine wpAny_pyIter_enum he ?_
  have gN : ∀ a, s.heap.objs.size ≤ a → g.get? a = none := fun a ha => by
    cases q : g.get? a with
    | none => rfl
    | some o => exact absurd (Heap.lt_size (F.keep _ _ q)) (Nat.not_lt.mpr ha)
  obtain ⟨io, hio, hc, hd⟩ := hit
  have F1 : Fr g L h' m := ⟨F.ns.keeps hk, fun b o x => hk b o (F.keep b o x), F.above⟩
  have hln := hpv.length
  rw [e2]
  refine loopEnum (s := { s with heap := h', toks := tk }) (L := L) (e := s.heap.objs.size + 1) (it := s.heap.objs.size) (l := aP) (items := pv.toArray) (nP := np) (io := io) rfl hh (Nat.succ_ne_self _) F1
    (news := (aX, W.listOf #[] 0) :: (aP, W.listOf pv.toArray np) :: (aS, stOf aD j c ta tb n) :: (aD, W.listOf ws.toArray 0) :: (L + 1 + 1 + 1, o3) :: (L + 1 + 1, o2) :: (L + 1, o1) :: T) (fun p hp => ?_) ⟨hc, hd⟩ (fun p hp => ⟨Nat.ne_of_lt (Nat.lt_succ_of_lt (hz p hp)), Nat.ne_of_lt (hz p hp)⟩)
    (LawJ L aX aP aS aD n np ws pv ps o1 o3) ⟨j, c, ta, tb, [], 0, o2, _, tl, T, [], rfl, ms, d2, by decide +kernel, by simp [pcs], fun b hb => by simp at hb, .nil, hpv, hT, j0, c0, c1⟩ ?_ ?_ ?_
  · rcases List.mem_cons.mp hp with rfl | hp
    · exact ⟨he, Nat.ne_of_gt (Nat.lt_succ_of_lt hLz), gN _ (Nat.le_succ _)⟩
    rcases List.mem_cons.mp hp with rfl | hp
    · exact ⟨hio, Nat.ne_of_gt hLz, gN _ (Nat.le_refl _)⟩
    · exact ⟨hk _ _ (N p hp).1, (N p hp).2⟩
  · rintro i m₁ news₁ ⟨j', c', ta', tb', sv, nx, o2', line, tl', T', its, rfl, _⟩
    exact .tail _ (.head _)
  · intro i v t tk₀ m₁ news₁ h₁ tk₁ io' hv hJ F₁ N₁ hio' hE
    rw [← e2]
    exact law_turn G hh (by omega) hI hlen d1 d3 x1 x2 x3 x4 x5 hpl hpok hv hJ F₁ N₁ hio' rfl hE
  · intro m₁ news₁ h₁ tk₁ hJ F₁ N₁
    simp only [List.size_toArray, hln] at hJ
    exact hQ _ _ _ _ hJ F₁ N₁
end
end Mine
end

section
open PySem PySem.W PySem.Calls PyProof.Rows PySem.Spec
set_option maxRecDepth 100000
set_option maxHeartbeats 8000000
namespace Mine
local macro_rules | `(tactic| k_all) => `(tactic| assumption)

def c5 : Option (PySem.Expr × Scope) := match lSt 5 with
  | some (.Assign _ (.ListComp e _ sc _) _) => some (e, sc)
  | _ => none
def elt5 : PySem.Expr := match c5 with
  | some (e, _) => e
  | none => .Name "" default
def sc5 : Scope := match c5 with
  | some (_, sc) => sc
  | none => default
abbrev cl5 (L : Addr) : List (Str × Addr) := [(Str.ofString "spans", L + 1 + 1 + 1), (Str.ofString "pieces", L + 1), (Str.ofString "line", L + 1 + 1)]

section
variable {w : World} {loose : List Str} {mean : ExcName → Option Value} {mg mb : Str → Option Value} {A : Around} {s : Shared} {g : Heap} {L : Addr} {m m₂ : Str → Option Value} {o1 o2 o3 : Obj} {T : List (Addr × Obj)}

theorem el5 {aX aP I C D t1 t2 : Addr} {oI oC : Obj} {np nx i : Nat} {ys sv pv : List Value} {tl tk x1 x2 x3 x4 u1 u2 u3 : Tok} {line : Str} {p : Pc} {sp : Sp} {Q : Value → Shared → Prop} {E : Value → Shared → Prop} (G : Gnd w loose mean mg mb g) (F : Fr g L s.heap m)
    (N : News g L s.heap ((I, oI) :: (C, oC) :: (D, LCg.lst ys) :: (aX, W.listOf sv.toArray nx) :: (aP, W.listOf pv.toArray np) :: (L + 1 + 1 + 1, o3) :: (L + 1 + 1, o2) :: (L + 1, o1) :: T)) (hC : LCg.NsObj oC m₂) (hk : m₂ (Str.ofString "k") = some (.int i tk))
    (d1 : o1.data = .cell (some (.ref aP))) (d2 : o2.data = .cell (some (.str line tl))) (d3 : o3.data = .cell (some (.ref aX)))
    (m1 : (t1, tupOf [.str sp.word x1, .str sp.what x2, .int sp.b x3, .int sp.e x4]) ∈ T) (m2 : (t2, tupOf [.int p.kind u1, .str p.word u2, .str p.what u3]) ∈ T) (h1 : sv[i]? = some (.ref t1)) (h2 : pv[i]? = some (.ref t2)) (hi : i < 1000)
    (hll : line.length ≤ 100000) (hh : A.handled = none)
    (hQ : ∀ h' tk' t qa pa y1 y2 tl', Fr g L h' m → News g L h' ((t, tupOf [.int p.kind u1, .str sp.word x1, .ref pa, .ref qa, .str (line ++ Str.ofString "\n") tl']) :: (qa, tupOf [.int 1 y2, .int sp.e x4]) :: (pa, tupOf [.int 1 y1, .int sp.b x3]) ::
      (I, oI) :: (C, oC) :: (D, LCg.lst ys) :: (aX, W.listOf sv.toArray nx) :: (aP, W.listOf pv.toArray np) :: (L + 1 + 1 + 1, o3) :: (L + 1 + 1, o2) :: (L + 1, o1) :: T) →
      (∀ a ∈ [t, qa, pa], I < a ∧ C < a ∧ D < a) → Q (.ref t) { s with heap := h', toks := tk' }) :
    wpAny (model PySem.Challenge.rw_co0044_01.row.toRowW.prog w) A (eval elt5 (compEnvC sc5 (cl5 L) C (envL L fa cv))) Q E s := by
  have X' := G.X
  have T' := G.T
  revert X'
  k_fill
  intro X'
  simp only [envL]
  conv in elt5 => whnf
  conv in sc5 => whnf
  conv in (defScope 22) => whnf
  k_unmd
  have h1' : sv[(i : Int).toNat]? = some (.ref t1) := by simpa using h1
  have h2' : pv[(i : Int).toNat]? = some (.ref t2) := by simpa using h2
  repeat' walk1
  -- pieces[k][0]
  refine item_K (by assumption) (by k_mem) (by omega) (by omega) h2' ?_
  (try dsimp only)
  repeat' walk1
  rename News g L _ _ => NA
  have z1 := (NA (t2, tupOf [.int p.kind u1, .str p.word u2, .str p.what u3]) (by simp only [List.mem_cons]; simp [m2])).1
  refine item_tupleT (l := [.int p.kind u1, .str p.word u2, .str p.what u3]) (j := 0) (x := .int p.kind u1) ⟨_, z1, rfl, _, rfl⟩ (by omega) (by omega) rfl rfl ?_
  (try dsimp only)
  repeat' walk1
  -- spans[k][0]
  refine item_K (by assumption) (by k_mem) (by omega) (by omega) h1' ?_
  (try dsimp only)
  repeat' walk1
  rename News g L _ _ => NB
  have z2 := (NB (t1, tupOf [.str sp.word x1, .str sp.what x2, .int sp.b x3, .int sp.e x4]) (by simp only [List.mem_cons]; simp [m1])).1
  refine item_tupleT (l := [.str sp.word x1, .str sp.what x2, .int sp.b x3, .int sp.e x4]) (j := 0) (x := .str sp.word x1) ⟨_, z2, rfl, _, rfl⟩ (by omega) (by omega) rfl rfl ?_
  (try dsimp only)
  repeat' walk1
  -- spans[k][2]
  refine item_K (by assumption) (by k_mem) (by omega) (by omega) h1' ?_
  (try dsimp only)
  repeat' walk1
  rename News g L _ _ => NC
  have z3 := (NC (t1, tupOf [.str sp.word x1, .str sp.what x2, .int sp.b x3, .int sp.e x4]) (by simp only [List.mem_cons]; simp [m1])).1
  refine item_tupleT (l := [.str sp.word x1, .str sp.what x2, .int sp.b x3, .int sp.e x4]) (j := 2) (x := .int sp.b x3) ⟨_, z3, rfl, _, rfl⟩ (by omega) (by omega) rfl rfl ?_
  (try dsimp only)
  repeat' walk1
  -- spans[k][3]
  refine item_K (by assumption) (by k_mem) (by omega) (by omega) h1' ?_
  (try dsimp only)
  repeat' walk1
  rename News g L _ _ => ND
  have z4 := (ND (t1, tupOf [.str sp.word x1, .str sp.what x2, .int sp.b x3, .int sp.e x4]) (by simp only [List.mem_cons]; simp [m1])).1
  refine item_tupleT (l := [.str sp.word x1, .str sp.what x2, .int sp.b x3, .int sp.e x4]) (j := 3) (x := .int sp.e x4) ⟨_, z4, rfl, _, rfl⟩ (by omega) (by omega) rfl rfl ?_
  (try dsimp only)
  repeat' walk1
  rename Fr g L _ _ => FE
  rename News g L _ _ => NE
  rename _ < _ ∧ _ < _ ∧ I < _ ∧ _ => l3
  rename _ < _ ∧ I < _ ∧ _ => l2
  rename I < _ ∧ _ => l1
  refine hQ _ _ _ _ _ _ _ _ FE NE fun a ha => ?_
  simp only [List.mem_cons, List.not_mem_nil, or_false] at ha
  rcases ha with rfl | rfl | rfl
  · exact ⟨l3.2.2.1, l3.2.2.2.1, l3.2.2.2.2.1⟩
  · exact ⟨l2.2.1, l2.2.2.1, l2.2.2.2.1⟩
  · exact ⟨l1.1, l1.2.1, l1.2.2.1⟩
end
end Mine
end

section
open PySem PySem.W PySem.Calls PyProof.Rows PySem.Spec
set_option maxRecDepth 100000
set_option maxHeartbeats 8000000
namespace Mine
local macro_rules | `(tactic| k_all) => `(tactic| assumption)

def TkIn (T : List (Addr × Obj)) (line : Str) (v : Value) (t : Tk) : Prop := ∃ a p q tk tx tl t1 t2 t3 t4, v = .ref a ∧ (a, tupOf [.int t.kind tk, .str t.word tx, .ref p, .ref q, .str line tl]) ∈ T ∧ (p, tupOf [.int 1 t1, .int t.b t2]) ∈ T ∧ (q, tupOf [.int 1 t3, .int t.e t4]) ∈ T
inductive TksIn (T : List (Addr × Obj)) (line : Str) : List Value → List Tk → Prop
  | nil : TksIn T line [] []
  | cons {v t vs ts} : TkIn T line v t → TksIn T line vs ts → TksIn T line (v :: vs) (t :: ts)
theorem TkIn.mono {T T' line v t} (h : TkIn T line v t) (k : ∀ q ∈ T, q ∈ T') : TkIn T' line v t := let ⟨a, p, q, b1, b2, b3, b4, b5, b6, b7, e, m1, m2, m3⟩ := h; ⟨a, p, q, b1, b2, b3, b4, b5, b6, b7, e, k _ m1, k _ m2, k _ m3⟩
theorem TksIn.mono {T T' line vs ts} (h : TksIn T line vs ts) (k : ∀ q ∈ T, q ∈ T') : TksIn T' line vs ts := by
  induction h with
  | nil => exact .nil
  | cons a _ ih => exact .cons (a.mono k) ih
theorem TksIn.snoc {T line vs ts v t} (h : TksIn T line vs ts) (e : TkIn T line v t) : TksIn T line (vs ++ [v]) (ts ++ [t]) := by
  induction h with
  | nil => exact .cons e .nil
  | cons a _ ih => exact .cons a ih
theorem TksIn.length {T line vs ts} (h : TksIn T line vs ts) : vs.length = ts.length := by
  induction h with
  | nil => rfl
  | cons _ _ ih => simp [ih]
theorem SpsIn.nth {T : List (Addr × Obj)} : ∀ {vs : List Value} {ps : List Sp}, SpsIn T vs ps → ∀ (k : Nat) (p : Sp), ps[k]? = some p → ∃ v, vs[k]? = some v ∧ SpIn T v p
  | _, _, .cons h _, 0, p, e => ⟨_, rfl, by simp at e; exact e ▸ h⟩
  | _, _, .cons _ h, k + 1, p, e => by
    obtain ⟨v, e1, e2⟩ := h.nth k p (by simpa using e)
    exact ⟨v, by simpa using e1, e2⟩
def mkTk (p : Pc) (sp : Sp) : Tk := ⟨p.kind, sp.word, sp.b, sp.e⟩
theorem zip_toks : ∀ (its : List It) (pe : Nat), List.zipWith mkTk (pcs its) (spsOf pe its) = toks pe its
  | [], _ => rfl
  | (p, g) :: r, pe => by
    show List.zipWith mkTk (p :: pcs r) _ = _
    rw [spsOf, List.zipWith_cons_cons, zip_toks r, toks]
    rfl
def it5 : PySem.Expr := match lSt 5 with
  | some (.Assign _ (.ListComp _ (gen :: _) _ _) _) => gen.iter
  | _ => .Name "" default

section
variable {w : World} {loose : List Str} {mean : ExcName → Option Value} {mg mb : Str → Option Value} {A : Around} {s : Shared} {g : Heap} {L : Addr} {m : Str → Option Value} {o1 o2 o3 : Obj}

theorem r5 {aX : Addr} {nx : Nat} {sv : List Value} {R : List (Addr × Obj)} {Q : Value → Shared → Prop} (G : Gnd w loose mean mg mb g) (F : Fr g L s.heap m) (N : News g L s.heap ((aX, W.listOf sv.toArray nx) :: (L + 1 + 1 + 1, o3) :: R)) (d3 : o3.data = .cell (some (.ref aX))) (hsv : sv.length ≤ 1000)
    (hQ : ∀ h' tk r t u v, IsRange h' r 0 sv.length 1 t u v → Fr g L h' m → News g L h' ((aX, W.listOf sv.toArray nx) :: (L + 1 + 1 + 1, o3) :: R) → Q (.ref r) { s with heap := h', toks := tk }) :
    wpAny (model PySem.Challenge.rw_co0044_01.row.toRowW.prog w) A (eval it5 (envL L fa cv)) Q (fun _ _ => False) s := by
  have X' := G.X
  have T' := G.T
  revert X'
  k_fill
  intro X'
  simp only [envL]
  conv in it5 => whnf
  conv in (defScope 22) => whnf
  k_unmd
  repeat' walk1
  refine PyProof.Rows.len_list (items := sv.toArray) ⟨_, (N _ (by k_mem)).1, rfl, nx, rfl⟩ (by simp only [List.size_toArray]; omega) ?_
  simp only [List.size_toArray]
  (try dsimp only)
  repeat' walk1
  rename IsRange _ _ _ _ _ _ _ _ => RE
  rename Fr g L _ _ => FE
  rename News g L _ _ => NE
  exact hQ _ _ _ _ _ _ RE FE NE

/-- the tokens so far -/
def CI (L aX aP : Addr) (o1 o2 o3 : Obj) (np nx : Nat) (pv sv : List Value) (ps : List Pc) (sps : List Sp) (line2 : Str) (i : Nat) (ys : List Value) (news : List (Addr × Obj)) : Prop :=
  ∃ T, news = (aX, W.listOf sv.toArray nx) :: (aP, W.listOf pv.toArray np) :: (L + 1 + 1 + 1, o3) :: (L + 1 + 1, o2) :: (L + 1, o1) :: T ∧ Tups T ∧ PcsIn T pv ps ∧ SpsIn T sv sps ∧ TksIn T line2 ys ((List.zipWith mkTk ps sps).take i)

theorem comp5 {aX aP : Addr} {np nx : Nat} {pv sv : List Value} {ps : List Pc} {sps : List Sp} {line : Str} {tl : Tok} {Fin : List Value → List (Addr × Obj) → Prop} (G : Gnd w loose mean mg mb g) (hh : A.handled = none)
    (d1 : o1.data = .cell (some (.ref aP))) (d2 : o2.data = .cell (some (.str line tl))) (d3 : o3.data = .cell (some (.ref aX))) (hll : line.length ≤ 100000) (hpl : ps.length ≤ 1000) (hsp : sps.length = ps.length)
    (fin : ∀ ys news, CI L aX aP o1 o2 o3 np nx pv sv ps sps (line ++ Str.ofString "\n") ps.length ys news → Fin ys news) :
    ∀ (k i : Nat) (ys : List Value) (news : List (Addr × Obj)), i + k = ps.length → CI L aX aP o1 o2 o3 np nx pv sv ps sps (line ++ Str.ofString "\n") i ys news →
      LCg.CompRest PySem.Challenge.rw_co0044_01.row.toRowW.prog w A g L m (envL L fa cv) elt5 (Str.ofString "k") sc5 (cl5 L) s (fun _ => True) (fun i v => ∃ t, v = .int (0 + (i : Int)) t) Fin k i ys news := by
  intro k
  induction k with
  | zero =>
    intro i ys news hik hci
    have : i = ps.length := by omega
    subst this
    exact LCg.CompRest.zero (fin _ _ hci)
  | succ k ih =>
    intro i ys news hik hci
    obtain ⟨T, rfl, hT, hpv, hsv, hts⟩ := hci
    refine LCg.CompRest.succ ?_
    rintro v I oI C oC D m₂ h tk E' ⟨t, rfl⟩ hC hx F N off ne
    rw [Int.zero_add] at hx
    obtain ⟨p, hp⟩ : ∃ p, ps[i]? = some p := ⟨_, List.getElem?_eq_getElem (by omega)⟩
    obtain ⟨sp, hs⟩ : ∃ p, sps[i]? = some p := ⟨_, List.getElem?_eq_getElem (by omega)⟩
    obtain ⟨v1, e1, t2, u1, u2, u3, rfl, m2⟩ := hpv.nth i p hp
    obtain ⟨v2, e2, t1, x1, x2, x3, x4, rfl, m1⟩ := hsv.nth i sp hs
    refine el5 (s := { s with heap := h, toks := tk }) (aX := aX) (aP := aP) (I := I) (C := C) (D := D) (t1 := t1) (t2 := t2) (oI := oI) (oC := oC) (np := np) (nx := nx) (i := i) (ys := ys) (sv := sv) (pv := pv) (p := p) (sp := sp) (line := line) (tl := tl) G F N hC hx d1 d2 d3 m1 m2 e2 e1 (by omega) hll hh ?_
    intro h' tk' t qa pa y1 y2 tl' F' N' hne
    have off3 := off.mem
    refine LCg.CompEnd.intro F' N' ((aX, W.listOf sv.toArray nx) :: (aP, W.listOf pv.toArray np) :: (L + 1 + 1 + 1, o3) :: (L + 1 + 1, o2) :: (L + 1, o1) :: (t, tupOf [.int p.kind u1, .str sp.word x1, .ref pa, .ref qa, .str (line ++ Str.ofString "\n") tl']) :: (qa, tupOf [.int 1 y2, .int sp.e x4]) :: (pa, tupOf [.int 1 y1, .int sp.b x3]) :: T)
      (fun q hq => ?_) (LCg.Off3.of fun q hq => ?_) trivial (ih (i + 1) _ _ (by omega) ⟨_, rfl, hT.cons.cons.cons, hpv.mono fun q hq => .tail _ (.tail _ (.tail _ hq)), hsv.mono fun q hq => .tail _ (.tail _ (.tail _ hq)), ?_⟩)
    · simp only [List.mem_cons] at hq ⊢
      rcases hq with rfl | rfl | rfl | rfl | rfl | rfl | rfl | rfl | rfl | rfl | rfl | hq <;> simp [*]
    · have old : ∀ q ∈ (aX, W.listOf sv.toArray nx) :: (aP, W.listOf pv.toArray np) :: (L + 1 + 1 + 1, o3) :: (L + 1 + 1, o2) :: (L + 1, o1) :: T, q.1 ≠ I ∧ q.1 ≠ C ∧ q.1 ≠ D := off3
      have new : ∀ a ∈ [t, qa, pa], a ≠ I ∧ a ≠ C ∧ a ≠ D := fun a ha => ⟨Nat.ne_of_gt (hne a ha).1, Nat.ne_of_gt (hne a ha).2.1, Nat.ne_of_gt (hne a ha).2.2⟩
      simp only [List.mem_cons] at hq
      rcases hq with rfl | rfl | rfl | rfl | rfl | rfl | rfl | rfl | hq
      · exact old _ (.head _)
      · exact old _ (.tail _ (.head _))
      · exact old _ (.tail _ (.tail _ (.head _)))
      · exact old _ (.tail _ (.tail _ (.tail _ (.head _))))
      · exact old _ (.tail _ (.tail _ (.tail _ (.tail _ (.head _)))))
      · exact new _ (.head _)
      · exact new _ (.tail _ (.head _))
      · exact new _ (.tail _ (.tail _ (.head _)))
      · exact old _ (.tail _ (.tail _ (.tail _ (.tail _ (.tail _ hq)))))
    · have hz : (List.zipWith mkTk ps sps)[i]? = some (mkTk p sp) := by
        rw [List.getElem?_zipWith, hp, hs]
      rw [List.take_add_one, hz]
      exact (hts.mono fun q hq => .tail _ (.tail _ (.tail _ hq))).snoc ⟨t, pa, qa, u1, x1, tl', y1, x3, y2, x4, rfl, .head _, .tail _ (.tail _ (.head _)), .tail _ (.head _)⟩

theorem l5 {aX aP : Addr} {np nx : Nat} {pv sv : List Value} {ps : List Pc} {sps : List Sp} {line : Str} {tl : Tok} {T : List (Addr × Obj)} {Q : Flow → Shared → Prop} (G : Gnd w loose mean mg mb g) (F : Fr g L s.heap m) (hh : A.handled = none)
    (N : News g L s.heap ((aX, W.listOf sv.toArray nx) :: (aP, W.listOf pv.toArray np) :: (L + 1 + 1 + 1, o3) :: (L + 1 + 1, o2) :: (L + 1, o1) :: T)) (d1 : o1.data = .cell (some (.ref aP))) (d2 : o2.data = .cell (some (.str line tl))) (d3 : o3.data = .cell (some (.ref aX)))
    (hll : line.length ≤ 100000) (hpl : ps.length ≤ 1000) (hsp : sps.length = ps.length) (hT : Tups T) (hpv : PcsIn T pv ps) (hsv : SpsIn T sv sps)
    (hQ : ∀ h' tk' aT ys T', Fr g L h' (fun z => if z = Str.ofString "tokens" then some (.ref aT) else m z) → News g L h' ((aT, LCg.lst ys) :: (aX, W.listOf sv.toArray nx) :: (aP, W.listOf pv.toArray np) :: (L + 1 + 1 + 1, o3) :: (L + 1 + 1, o2) :: (L + 1, o1) :: T') →
      (∀ p ∈ (aX, W.listOf sv.toArray nx) :: (aP, W.listOf pv.toArray np) :: (L + 1 + 1 + 1, o3) :: (L + 1 + 1, o2) :: (L + 1, o1) :: T', p.1 ≠ aT) → Tups T' → SpsIn T' sv sps → TksIn T' (line ++ Str.ofString "\n") ys (List.zipWith mkTk ps sps) → Q .next { s with heap := h', toks := tk' }) :
    wpAny (model PySem.Challenge.rw_co0044_01.row.toRowW.prog w) A (exec ((lSt 5).getD default) (envL L fa cv)) Q (fun _ _ => False) s := by
  have hsl := hsv.length
  have e : (lSt 5).getD default = .Assign [.Name (Str.ofString "tokens") (match lSt 5 with | some (.Assign (.Name _ p :: _) _ _) => p | _ => default)] (.ListComp elt5 [⟨.Name (Str.ofString "k") (match lSt 5 with | some (.Assign _ (.ListComp _ (gen :: _) _ _) _) => (match gen.target with | .Name _ p => p | _ => default) | _ => default), it5, [], 0⟩] sc5 (match lSt 5 with | some (.Assign _ (.ListComp _ _ _ p) _) => p | _ => default)) (match lSt 5 with | some (.Assign _ _ p) => p | _ => default) := by exact rfl
  rw [e]
  refine LCg.Assign_ListComp_U (cl := cl5 L) F (by exact rfl) (by with_unfolding_all rfl) (by with_unfolding_all rfl) (by decide +kernel) (by exact rfl) (by decide +kernel) (by exact rfl) (by exact rfl) (by exact rfl) ?_
  refine r5 (aX := aX) (nx := nx) (sv := sv) (o3 := o3) (R := (aP, W.listOf pv.toArray np) :: (L + 1 + 1, o2) :: (L + 1, o1) :: T) G F (fun p hp => N p ?_) d3 (by omega) fun h' tk r t u v hr F' N' => ?_
  · simp only [List.mem_cons] at hp ⊢
    rcases hp with rfl | rfl | rfl | rfl | rfl | hp <;> simp [*]
  have hszr : Builtin.Range.rangeSize 0 (sv.length : Int) 1 = ((ps.length : Nat) : Int) := by rw [rangeSize_one]; split <;> omega
  refine LCg.CompSrc.range (news := (aX, W.listOf sv.toArray nx) :: (aP, W.listOf pv.toArray np) :: (L + 1 + 1 + 1, o3) :: (L + 1 + 1, o2) :: (L + 1, o1) :: T) hh F' (fun p hp => N' p ?_) hr (small_one (by decide) (by decide) (by omega) (by omega)) hszr (by rw [sizeLine_eq]; omega) fun g' => ?_
  · simp only [List.mem_cons] at hp ⊢
    rcases hp with rfl | rfl | rfl | rfl | rfl | hp <;> simp [*]
  refine comp5 G hh d1 d2 d3 hll hpl hsp ?_ ps.length 0 [] _ (by omega) ⟨T, rfl, hT, hpv, hsv, .nil⟩
  rintro ys news ⟨T', rfl, hT', hpv', hsv', hts⟩
  intro D h2 tk2 F2 N2 off
  have hzl : (List.zipWith mkTk ps sps).take ps.length = List.zipWith mkTk ps sps := List.take_of_length_le (by rw [List.length_zipWith]; omega)
  rw [hzl] at hts
  refine hQ _ _ D ys T' F2 N2 (fun p hp => ?_) hT' hsv' hts
  have : ∀ {l : List (Addr × Obj)}, LCg.Off1 D l → ∀ p ∈ l, p.1 ≠ D := by
    intro l
    induction l with
    | nil => intro _ p hp; cases hp
    | cons x r ih =>
      intro h p hp
      rcases List.mem_cons.mp hp with rfl | hp
      · exact h.1
      · exact ih h.2 p hp
  exact this off p hp
end
end Mine
end

section
open PySem PySem.W PySem.Calls PyProof.Rows PySem.Spec
set_option maxRecDepth 100000
set_option maxHeartbeats 8000000
namespace Mine
local macro_rules | `(tactic| k_all) => `(tactic| assumption)

section
variable {w : World} {loose : List Str} {mean : ExcName → Option Value} {mg mb : Str → Option Value} {A : Around} {s : Shared} {g : Heap} {L : Addr} {m : Str → Option Value} {o1 o2 o3 : Obj} {R : List (Addr × Obj)}

theorem l6 {aT : Addr} {nt : Nat} {ys : List Value} {line : Str} {tl : Tok} {Q : Flow → Shared → Prop} (G : Gnd w loose mean mg mb g) (F : Fr g L s.heap (fun z => if z = Str.ofString "tokens" then some (.ref aT) else m z)) (_hh : A.handled = none)
    (N : News g L s.heap ((aT, W.listOf ys.toArray nt) :: (L + 1 + 1, o2) :: R)) (hR : ∀ p ∈ R, p.1 ≠ aT) (d2 : o2.data = .cell (some (.str line tl))) (hll : line.length ≤ 100000) (hys : ys.length ≤ 1000)
    (hQ : ∀ h' tk' t pa qa x1 x2 x3 y1 y2 z1 z2 nt', Fr g L h' (fun z => if z = Str.ofString "tokens" then some (.ref aT) else m z) →
      News g L h' ((t, tupOf [.int 4 x1, .str (Str.ofString "\n") x2, .ref pa, .ref qa, .str (line ++ Str.ofString "\n") x3]) :: (qa, tupOf [.int 1 y1, .int (line.length + 1 : Nat) y2]) :: (pa, tupOf [.int 1 z1, .int line.length z2]) :: (aT, W.listOf (List.toArray (ys ++ [Value.ref t])) nt') :: (L + 1 + 1, o2) :: R) →
      Q .next { s with heap := h', toks := tk' }) :
    wpAny (model PySem.Challenge.rw_co0044_01.row.toRowW.prog w) A (exec ((lSt 6).getD default) (envL L fa cv)) Q (fun _ _ => False) s := by
  have X' := G.X
  have T' := G.T
  have q2 := Ne.symm (cellNe (a := aT) N d2 (by k_mem) (by k_mem) list_no_cell)
  revert X'
  k_fill
  intro X'
  simp only [envL]
  conv in (Option.getD _ _) => whnf
  conv in (defScope 22) => whnf
  k_unmd
  repeat' walk1
  rename Fr g L _ _ => FE
  rename News g L _ _ => NE
  exact hQ _ _ _ _ _ _ _ _ _ _ _ _ _ FE (by simpa using NE)
end
end Mine
end

section
open PySem PySem.W PySem.Calls PyProof.Rows PySem.Spec
set_option maxRecDepth 100000
set_option maxHeartbeats 8000000
namespace Mine
local macro_rules | `(tactic| k_all) => `(tactic| assumption)

/-! what the two lists say -/
def outD (o : Out) : PyData := .tuple [.tuple [.int 1, .int o.at_], .str o.msg]
theorem errIn_reads {g h : Heap} {T : List (Addr × Obj)} {v : Value} {o : Out} (k : ∀ b x, g.get? b = some x → h.get? b = some x) (hT : ∀ p ∈ T, h.get? p.1 = some p.2) (e : ErrIn g T v o) : Reads h v (outD o) [] := by
  obtain ⟨t, p, tt, t1, t2, rfl, m, ob, hob, hc, n, hd⟩ := e
  exact .tuple (hT _ m) rfl rfl (.cons (as := []) (.tuple (k _ _ hob) hc hd (.cons (as := []) (.int _ _) (.cons (as := []) (.int _ _) .nil))) (.cons (as := []) (.str _ _) .nil))
theorem errs_reads {g h : Heap} {T : List (Addr × Obj)} {vs : List Value} {os : List Out} (k : ∀ b x, g.get? b = some x → h.get? b = some x) (hT : ∀ p ∈ T, h.get? p.1 = some p.2) (e : ErrsIn g T vs os) : ReadsAll h vs (os.map outD) [] := by
  induction e with
  | nil => exact .nil
  | cons a _ ih => exact .cons (as := []) (errIn_reads k hT a) ih
theorem dueIn_reads {h : Heap} {T : List (Addr × Obj)} {v : Value} {o : Out} (hT : ∀ p ∈ T, h.get? p.1 = some p.2) (e : DueIn T v o) : Reads h v (outD o) [] := by
  obtain ⟨t, p, tt, u1, u2, rfl, m1, m2⟩ := e
  exact .tuple (hT _ m1) rfl rfl (.cons (as := []) (.tuple (hT _ m2) rfl rfl (.cons (as := []) (.int _ _) (.cons (as := []) (.int _ _) .nil))) (.cons (as := []) (.str _ _) .nil))
theorem dues_reads {h : Heap} {T : List (Addr × Obj)} {vs : List Value} {os : List Out} (hT : ∀ p ∈ T, h.get? p.1 = some p.2) (e : DuesIn T vs os) : ReadsAll h vs (os.map outD) [] := by
  induction e with
  | nil => exact .nil
  | cons a _ ih => exact .cons (as := []) (dueIn_reads hT a) ih
theorem outD_can : ∀ os : List Out, (∀ o ∈ os, PyData.strOk o.msg = true) → PyData.canLayAll0 (os.map outD) = true
  | [], _ => rfl
  | o :: r, h => by simp [PyData.canLayAll0, outD, PyData.canLay0, h o (.head _), outD_can r (fun x m => h x (.tail _ m))]
theorem outD_depth : ∀ os : List Out, PyData.depthAll (os.map outD) ≤ 2
  | [] => by simp [PyData.depthAll]
  | o :: r => by
    have := outD_depth r
    simp only [List.map_cons, PyData.depthAll, outD, PyData.depth]
    omega
theorem outD_shaped (os : List Out) (h : ∀ o ∈ os, PyData.strOk o.msg = true) : SeqAt.shaped (.list (os.map outD)) = true := by
  have h2 := outD_depth os
  simp only [SeqAt.shaped, PyData.canLay0, PyData.depth, outD_can os h, Bool.true_and]
  exact decide_eq_true (by omega)
theorem outD_eqv : ∀ os : List Out, PyData.eqvAll (os.map outD) (os.map outD) = true
  | [] => rfl
  | o :: r => by simp [PyData.eqvAll, PyData.eqv, outD, outD_eqv r]
theorem outs_eqv (os : List Out) : PyData.eqv (.list (os.map outD)) (.list (os.map outD)) = true := by
  simp only [PyData.eqv]; exact outD_eqv os
theorem spsIn_are {h : Heap} {T : List (Addr × Obj)} {vs : List Value} {ps : List Sp} (hT : ∀ p ∈ T, h.get? p.1 = some p.2) (e : SpsIn T vs ps) : SpsAre h vs ps := by
  induction e with
  | nil => exact .nil
  | cons a _ ih =>
    obtain ⟨t, x1, x2, x3, x4, rfl, m⟩ := a
    exact .cons ⟨t, x1, x2, x3, x4, rfl, _, hT _ m, rfl, _, rfl⟩ ih
theorem tksIn_are {h : Heap} {T : List (Addr × Obj)} {line : Str} {vs : List Value} {ts : List Tk} (hT : ∀ p ∈ T, h.get? p.1 = some p.2) (e : TksIn T line vs ts) : TksAre h line vs ts := by
  induction e with
  | nil => exact .nil
  | cons a _ ih =>
    obtain ⟨a, p, q, tk, tx, tl, t1, t2, t3, t4, rfl, m1, m2, m3⟩ := a
    exact .cons ⟨a, p, q, tk, tx, tl, t1, t2, t3, t4, rfl, ⟨_, hT _ m1, rfl, _, rfl⟩, ⟨_, hT _ m2, rfl, _, rfl⟩, ⟨_, hT _ m3, rfl, _, rfl⟩⟩ ih
end Mine
end

section
open PySem PySem.W PySem.Calls PyProof.Rows PySem.Spec
set_option maxRecDepth 100000
set_option maxHeartbeats 8000000
namespace Mine
local macro_rules | `(tactic| k_all) => `(tactic| assumption)

section
variable {w : World} {loose : List Str} {mean : ExcName → Option Value} {mg mb : Str → Option Value} {A : Around} {s : Shared} {g : Heap} {L fa : Addr} {cv : Value} {m : Str → Option Value} {o1 o2 o3 : Obj} {T : List (Addr × Obj)}

theorem l7 {aT aX : Addr} {nt nx : Nat} {tv sv : List Value} {line : Str} {tl : Tok} {ts : List Tk} {sps : List Sp} {Q : Flow → Shared → Prop} (G : Gnd w loose mean mg mb g) (F : Fr g L s.heap (fun z => if z = Str.ofString "tokens" then some (.ref aT) else m z)) (hh : A.handled = none) (hroom : A.depth < 525) (hun : A.units < 800)
    (N : News g L s.heap ((aT, W.listOf tv.toArray nt) :: (aX, W.listOf sv.toArray nx) :: (L + 1 + 1 + 1, o3) :: (L + 1 + 1, o2) :: T)) (d2 : o2.data = .cell (some (.str line tl))) (d3 : o3.data = .cell (some (.ref aX))) (hT : Tups T) (hg : s.gens = #[])
    (hts : TksIn T (line ++ Str.ofString "\n") tv ts) (hsp : SpsIn T sv sps) (hll : line.length ≤ 1000) (h1 : 1 ≤ sps.length) (h2 : sps.length ≤ 1000)
    (pl1 : mw (line ++ Str.ofString "\n") ⟨.no, 54, none, []⟩ ts = dueN line sps sps.length) (pl2 : AllOk (line ++ Str.ofString "\n") ⟨.no, 54, none, []⟩ ts) (pl3 : ∀ k p, sps[k]? = some p → SpOk line k p) (pl4 : ∀ o ∈ dueN line sps sps.length, PyData.strOk o.msg = true)
    (hQ : ∀ h' tk' dr, Sub g h' → Q (.ret (.bool true)) { heap := h', gens := #[GenState.finished], drawn := dr, toks := tk', os := s.os }) :
    wpAny (model PySem.Challenge.rw_co0044_01.row.toRowW.prog w) A (exec ((lSt 7).getD default) (envL L fa cv)) Q (fun _ _ => False) s := by
  have X' := G.X
  have T' := G.T
  have lT : s.heap.IsList aT tv.toArray := ⟨_, (N _ (.head _)).1, rfl, nt, rfl⟩
  have hats := tksIn_are (fun p hp => (N p (.tail _ (.tail _ (.tail _ (.tail _ hp))))).1) hts
  have hl2 : (line ++ Str.ofString "\n").length ≤ 1000000 := by
    have e : (line ++ Str.ofString "\n").length = line.length + 1 := by
      rw [len_cps, cps_add, List.length_append, ← len_cps]
      rw [show (Str.ofString "\n").cps.toList.length = 1 by decide +kernel]
    omega
  have hmwl : (mw (line ++ Str.ofString "\n") ⟨.no, 54, none, []⟩ ts).length ≤ 100000 := by
    rw [pl1]
    have := dueN_len (line := line) (sps := sps) sps.length
    omega
  obtain ⟨h0, gens0, dr0, tk0, os0⟩ := s
  dsimp only at hg F N lT hats
  subst hg
  revert X'
  k_fill
  intro X'
  simp only [envL]
  conv in (Option.getD _ _) => whnf
  conv in (defScope 22) => whnf
  k_unmd
  repeat' walk1
  have G0 := G.keeps F.keep
  refine wpAny_call (gen_call (s := { heap := h0, drawn := dr0, toks := tk0, os := os0 }) G0 (by omega) fun h₁ tk go F1 hgo hIg hgi => ?_)
  have k1 : Sub h0 (h₁.push go) := fun b o e => Heap.get?_push_of_some _ (F1.keep _ _ e)
  have F2 := frSub F k1
  have N2 := newsSub N k1
  have FL : (∀ h', Sub h0 h' → Fr g L h' (fun z => if z = Str.ofString "tokens" then some (.ref aT) else m z)) ∧ True := ⟨fun h' k => frSub F k, trivial⟩
  clear F
  dsimp only
  repeat' walk1
  refine list_gen (g := h0) (h₁ := h₁) (L := h0.objs.size) (aT := aT) (go := go) (line := line ++ Str.ofString "\n") (ll := line) (tl := tl) (vs := tv) (ts := ts) G0 F1 hgo hIg hgi rfl rfl lT hl2 (by omega) (by omega) hh hats pl2 hmwl ?_
  intro s' S hSn hlt hfin
  obtain ⟨hp', gens', dr', tks', os'⟩ := s'
  obtain ⟨f1, f2, TE, acc, c, f3, f4, f5, f6⟩ := hfin
  dsimp only at f1 f2 f3 f4 f5 f6
  subst f1 f2
  rw [pl1] at f6
  clear F2 N2 F1
  have F3 := FL.1 hp' f3
  have N3 := newsSub N f3
  clear N
  repeat' walk1
  have lX : hp'.IsList aX sv.toArray := ⟨_, (N3 _ (.tail _ (.head _))).1, rfl, nx, rfl⟩
  have hsa := spsIn_are (fun p hp => (N3 p (.tail _ (.tail _ (.tail _ (.tail _ hp))))).1) hsp
  refine wpAny_call (due_code (s := { heap := hp', gens := #[GenState.finished], drawn := dr', toks := tks', os := os' }) G F3.keep (by omega) hh lX hsa h1 h2 pl3 (by omega) fun h' tk' D dv nd T' k5 hDn hD hT' hdu => ?_)
  dsimp only at k5 hDn ⊢
  have rS : Reads h' (.ref S) (.list ((dueN line sps sps.length).map outD)) [S] := .list (k5 _ _ f4) rfl rfl (by
    have z := errs_reads (h := h') (fun b x e => k5 _ _ (f3 _ _ e)) (fun p hp => k5 _ _ (f5 p hp)) f6
    simpa using z)
  have rD : Reads h' (.ref D) (.list ((dueN line sps sps.length).map outD)) [D] := .list hD rfl rfl (by
    have z := dues_reads hT' hdu
    simpa using z)
  refine eq_dataH rS rD (outD_shaped _ pl4) (outD_shaped _ pl4) (by unfold cLine; omega) ?_
  rw [outs_eqv]
  exact hQ h' tk' dr' fun b o e => k5 _ _ (F3.keep _ _ e)
end
end Mine
end

section
open PySem PySem.W PySem.Calls PyProof.Rows PySem.Spec
set_option maxRecDepth 100000
set_option maxHeartbeats 8000000
namespace Mine

theorem law_body {w : World} {loose : List Str} {mean : ExcName → Option Value} {mg mb : Str → Option Value} {A : Around} {s : Shared} {g : Heap} {L fa aL : Addr} {cv : Value} {m : Str → Option Value} {o1 o2 o3 : Obj} {v1 v2 v3 : Option Value} {vs : List Value} {ns : List Int} {Q : Flow → Shared → Prop}
    (G : Gnd w loose mean mg mb g) (F : Fr g L s.heap (fun y => if y = Str.ofString "script" then some (.ref aL) else m y)) (N : News g L s.heap [(L + 1 + 1 + 1, o3), (L + 1 + 1, o2), (L + 1, o1)])
    (d1 : o1.data = .cell v1) (d2 : o2.data = .cell v2) (d3 : o3.data = .cell v3) (lL : g.IsList aL vs.toArray) (hI : IntsAre vs ns) (hlen : vs.length ≤ 63) (hh : A.handled = none) (hroom : A.depth < 525) (hun : A.units < 800) (hg : s.gens = #[])
    (hQ : ∀ h' tk' dr, Sub g h' → Q (.ret (.bool true)) { heap := h', gens := #[GenState.finished], drawn := dr, toks := tk', os := s.os }) :
    wpAny (model PySem.Challenge.rw_co0044_01.row.toRowW.prog w) A (execs (defBody 22) (envL L fa cv)) Q (fun _ _ => False) s := by
  have e : defBody 22 = [(lSt 0).getD default, (lSt 1).getD default, (lSt 2).getD default, (lSt 3).getD default, (lSt 4).getD default, (lSt 5).getD default, (lSt 6).getD default, (lSt 7).getD default] := by exact rfl
  rw [e]
  refine wpAny_execs_cons ?_
  with_reducible refine (l0 G F N lL hI hlen hh fun h0 k0 aS aD ws t1 t2 F0 N0 hI0 hl0 c1 c2 => ?_)
  show wpAny _ _ (execs [(lSt 1).getD default, (lSt 2).getD default, (lSt 3).getD default, (lSt 4).getD default, (lSt 5).getD default, (lSt 6).getD default, (lSt 7).getD default] _) _ _ _
  refine wpAny_execs_cons ?_
  with_reducible refine (l1 (s := { s with heap := h0, toks := k0 }) (aS := aS) (aD := aD) (i := 0) (c := 17) (o1 := o1) (o2 := o2) (o3 := o3) (t1 := t1) (t2 := t2) (n := 0) (ws := ws) (v0 := v1) G F0 N0 hI0 hl0 hh (by omega) c1 c2 d1 (by omega) (by omega) (by omega) fun h1 k1 i1 c1' ta tb aP pv np T ps o1' F1 N1 d1' hp hT hLd g1 g2 g3 x1 x2 => ?_)
  show wpAny _ _ (execs [(lSt 2).getD default, (lSt 3).getD default, (lSt 4).getD default, (lSt 5).getD default, (lSt 6).getD default, (lSt 7).getD default] _) _ _ _
  clear N0 F0 N F
  refine wpAny_execs_cons ?_
  with_reducible refine (l2 (s := { s with heap := h1, toks := k1 }) G F1 N1 hh d1' hp hT hLd x1 x2 fun h2 k2 aP' pv' np' T' ps' o1'' F2 N2 d1'' hp' hT' hLaid hle2 hle40 y1 y2 => ?_)
  show wpAny _ _ (execs [(lSt 3).getD default, (lSt 4).getD default, (lSt 5).getD default, (lSt 6).getD default, (lSt 7).getD default] _) _ _ _
  clear N1 F1 hp hT hLd d1' d1
  refine wpAny_execs_cons ?_
  with_reducible refine (l3 (s := { s with heap := h2, toks := k2 }) G F2 N2 d2 d3 hT' hh fun h3 k3 aX o2' o3' tl F3 N3 d2' d3' z1 z2 z3 => ?_)
  show wpAny _ _ (execs [(lSt 4).getD default, (lSt 5).getD default, (lSt 6).getD default, (lSt 7).getD default] _) _ _ _
  clear N2 F2 d2 d3
  refine wpAny_execs_cons ?_
  with_reducible refine (l4 (s := { s with heap := h3, toks := k3 }) G hh (by omega) hI0 hl0 d1'' d2' d3' z1 z2 z3 y1 (Nat.ne_of_lt c1) hle40 (laid_run hLaid).all hp' hT' g1 g2 g3 rfl F3 N3 fun h4 k4 m4 news4 hJ F4 N4 => ?_)
  show wpAny _ _ (execs [(lSt 5).getD default, (lSt 6).getD default, (lSt 7).getD default] _) _ _ _
  clear N3 F3 d2' hT' hp'
  obtain ⟨j, c, ta', tb', sv, nx, o24, line, tl4, T4, its, rfl, ms, d24, hline, hits, hhead, hsp, hpv, hT4, _, _, _⟩ := hJ
  rw [List.take_length] at hits
  have hitl : its.length = ps'.length := by rw [← hits]; simp [pcs]
  have e0 : its.head?.map (·.2) = some false := by
    cases its with
    | nil => simp at hitl; omega
    | cons x r => exact congrArg some (hhead x.2 rfl)
  have hline2 : (line ++ Str.ofString "\n").cps.toList = txt its ++ [10] := by
    rw [cps_add, hline]
    rw [show (Str.ofString "\n").cps.toList = [10] by decide +kernel]
  obtain ⟨pl1, pl2, pl3, pl5, pl4⟩ := plain_law (m := line.length) hLaid hits e0 hline hline2
  have hspl : (spsOf 0 its).length = ps'.length := by rw [spsOf_len, hitl]
  have hsl := hsp.length
  refine wpAny_execs_cons ?_
  with_reducible refine (l5 (s := { s with heap := h4, toks := k4 }) (aX := aX) (aP := aP') (np := np') (nx := nx) (pv := pv') (sv := sv) (ps := ps') (sps := spsOf 0 its) (line := line) (tl := tl4) (T := T4) (o1 := o1'') (o2 := o24) (o3 := o3') G F4 hh ?_ d1'' d24 d3' (by omega) (by omega) hspl hT4 hpv hsp
    fun h5 k5 aT ys T5 F5 N5 ne5 hT5 hsp5 hts5 => ?_)
  · intro p hp
    refine N4 p ?_
    simp only [List.mem_cons] at hp ⊢
    rcases hp with rfl | rfl | rfl | rfl | rfl | hp <;> simp [*]
  show wpAny _ _ (execs [(lSt 6).getD default, (lSt 7).getD default] _) _ _ _
  clear N4 F4
  rw [← hits, zip_toks] at hts5
  have hyl := hts5.length
  rw [toks_len] at hyl
  refine wpAny_execs_cons ?_
  with_reducible refine (l6 (s := { s with heap := h5, toks := k5 }) (aT := aT) (nt := ys.length) (ys := ys) (line := line) (tl := tl4) (o2 := o24) (R := (aX, W.listOf sv.toArray nx) :: (L + 1 + 1 + 1, o3') :: T5) G F5 hh ?_ (fun p hp => ?_) d24 (by omega) (by omega)
    fun h6 k6 t pa qa w1 w2 w3 w4 w5 w6 w7 nt' F6 N6 => ?_)
  · intro p hp
    rcases List.mem_cons.mp hp with rfl | hp
    · exact N5 _ (.head _)
    · refine N5 p ?_
      simp only [List.mem_cons] at hp ⊢
      rcases hp with rfl | rfl | rfl | hp <;> simp [*]
  · refine ne5 p ?_
    simp only [List.mem_cons] at hp ⊢
    rcases hp with rfl | rfl | hp <;> simp [*]
  show wpAny _ _ (execs [(lSt 7).getD default] _) _ _ _
  clear N5 F5
  refine wpAny_execs_cons ?_
  with_reducible refine (l7 (s := { s with heap := h6, toks := k6 }) (aT := aT) (aX := aX) (nt := nt') (nx := nx) (tv := ys ++ [.ref t]) (sv := sv) (line := line) (tl := tl4) (ts := toks 0 its ++ [nlTk line.length]) (sps := spsOf 0 its) (o2 := o24) (o3 := o3')
    (T := (t, tupOf [.int 4 w1, .str (Str.ofString "\n") w2, .ref pa, .ref qa, .str (line ++ Str.ofString "\n") w3]) :: (qa, tupOf [.int 1 w4, .int (line.length + 1 : Nat) w5]) :: (pa, tupOf [.int 1 w6, .int line.length w7]) :: T5)
    G F6 hh hroom hun ?_ d24 d3' hT5.cons.cons.cons hg ?_ (hsp5.mono fun q hq => List.mem_cons_of_mem _ (List.mem_cons_of_mem _ (List.mem_cons_of_mem _ hq))) (by omega) (by omega) (by omega) pl1 pl2 pl3 pl4 fun h' tk' dr hs => ?_)
  · intro p hp
    refine N6 p ?_
    simp only [List.mem_cons] at hp ⊢
    rcases hp with rfl | rfl | rfl | rfl | rfl | rfl | rfl | hp <;> simp [*]
  · exact (hts5.mono fun q hq => .tail _ (.tail _ (.tail _ hq))).snoc ⟨t, pa, qa, w1, w2, w3, w6, w7, w4, w5, rfl, .head _, .tail _ (.tail _ (.head _)), .tail _ (.head _)⟩
  · exact hQ h' tk' dr hs
end Mine
end

open PySem PySem.W PySem.Calls PyProof.Rows PySem.Spec
set_option maxRecDepth 100000 in
set_option maxHeartbeats 8000000 in
theorem PySem.Challenge.cw_co0044_01_holds : PySem.Challenge.rw_co0044_01.Holds := by
  refine Mine.hd ?_
  k_fill
  intro w s₀ s₁ mg mb G Y fa o pm cd doc dV kV ho hd' hcd hD hmg hg args vals as hpre hlay hrd hwl hlo
  have KX := kIn_of Y
  refine Ground.open G ?_
  intro T B D TE TW
  (try (refine guard_noD D (by decide +kernel) ?_; clear D))
  have TA := at_of_top T
  (try (obtain ⟨_, _, he, B0⟩ := based_of_top T rfl hmg ho hd'; have he' : cd = _ := he; subst he'; clear he))
  clear hmg
  wrow_args hpre hlay hrd hwl hlo
  all_goals (
    first | refine callC_kw (enter_call ?_) | refine enter_call ?_ | refine callC_kw (enter_callW ?_) | refine enter_callW ?_ | w_how
    w_top on
    have K0 := below_caller (Top.heap T)
    w_call any ho hd' hcd hD T F)
  rename Fr _ _ _ _ => FA
  rename News _ _ _ _ => NA
  rename IntsAre _ _ => hIA
  rename Heap.IsList _ _ _ => hLA
  rename ¬ _ < _ => hlen
  have hil := hIA.length
  refine wpAny_mono (Mine.law_body (fa := fa) (m := fun _ => none) ⟨KX, T⟩ FA NA (by assumption) (by assumption) (by assumption) hLA hIA (by omega) rfl (show (302 : Nat) < 525 by decide) (show (7 : Nat) < 800 by decide) hg ?_) (fun _ _ h => h) (fun _ _ h => h.elim)
  intro h' tk' dr hs
  refine ⟨.inl ⟨_, _, [], rfl, fun _ => rfl, ReadsW.bool true, ?_, fun _ => ⟨List.nodup_nil, fun _ hm => nomatch hm⟩⟩, .of_keep hs, rfl, fun y hy => ?_⟩
  · first | rfl | wrow_post
  · have : y = GenState.finished := by simpa using hy
    rw [this]; rfl
