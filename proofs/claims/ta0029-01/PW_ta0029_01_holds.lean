import PyProof.Rows.All
import Wide.All
import OpenK.AllK
import Wide.FinOn
import KE.BitLaws
import PySem.Challenge.RW_ta0029_01
set_option Elab.async false
set_option rowWalk.seconds 0
set_option compiler.extract_closed false
section
local macro_rules | `(tactic| omega) => `(tactic| first | lia | omega +splitDisjunctions)
section
open PySem PySem.W PyProof.Rows
set_option maxRecDepth 100000
set_option maxHeartbeats 0
namespace Mine
local macro_rules | `(tactic| o_head $H) => `(tactic| (have hH := $H; exact False.elim (by assumption)))
def pre.tw11289698404102066735 : Unit := ()
set_option Elab.async true in
theorem pre : False → PySem.Challenge.rw_ta0029_01.Holds := by
  intro hF
  w_on; o_law; k_head
end Mine
end
section
open PySem PySem.Spec PySem.Calls PySem.W PyProof.Rows
set_option maxRecDepth 100000
namespace Mine

/-- what a call that ends well leaves behind: all of G stands, the heap grew -/
def Ret (s : Shared) (G : Heap) (P : Value → Heap → Prop) : Result → Shared → Prop :=
  fun r s' => ∃ v h' tk, r = .ok (.ret v) ∧ s' = { s with heap := h', toks := tk } ∧ G.StaysIn h' ∧ G.objs.size ≤ h'.objs.size ∧ P v h'

section
variable {prog : Program} {w : World} {A A₀ : Around} {s : Shared} {base G h₀ : Heap} {outer : List Env} {R : Result → Shared → Prop} {name qual : Str} {params : Arguments} {body : List Stmt} {scope : Scope}
  {dV kV doc pm cdv ct oc : Value} {an od : Option Addr} {osl : Array (Option Value)} {f : Addr} {args : Args} {binds : List (Str × Value)} {K : Frag} {p : Program} {loose : List Str} {mean : ExcName → Option Value} {mg mb : Str → Option Value}

/-- a plain def of the text entered, over the heap without the hidden ones -/
theorem enterG (tabs : List (Addr × Obj)) (hG : G = hideAll s.heap (tabs.map (·.1))) (NT : ∀ q ∈ tabs, s.heap.get? q.1 = some q.2) (T : Top p loose mean mg mb G) (X : K.In G)
    (ho : K.lookup f = some ⟨oc, od, .func (fnOf name qual params body scope dV kV doc pm an cdv ct), osl⟩) (hcd : codeIn K cdv qual = true) (hroom : A.depth < recursionLimit)
    (hbind : BindsTo s (fnOf name qual params body scope dV kV doc pm an cdv ct) args binds) (hloc : ∀ y ∈ binds, scope.names.lookup y.1 = some .local)
    (h : ∀ L h₁, L = s.heap.objs.size → Fr G L h₁ (fun y => binds.reverse.lookup y) → News G L h₁ tabs → (∀ q ∈ tabs, q.1 < L) →
      wpAny (model prog w) (A.deeper (envOf qual scope L f cdv)) (execs body (envOf qual scope L f cdv))
        (fun fl s' => R (.ok (.ret (match fl with | .ret v => v | _ => .none))) s') (fun _ _ => False)
        { s with heap := h₁, toks := s.toks + binds.length })
    (hco : scope.isCoroutine = false) (hgen : scope.isGenerator = false) (hk : scope.kind = .function)
    (hcell : ∀ x ∈ scope.names, x.2 ≠ .cell) : codeAny (model prog w) A (.call (.ref f) args) R s := by
  have st : ∀ b o, G.get? b = some o → s.heap.get? b = some o := fun b o e => by rw [hG] at e; exact of_hideAll _ e
  have hsz : G.objs.size = s.heap.objs.size := by rw [hG]; exact hideAll_size _ _
  refine codeAny_call_def (fd := fnOf name qual params body scope dV kV doc pm an cdv ct) (body := body) (binds := binds) hroom (st _ _ (X _ _ ho)) rfl (T.nolimit.keeps st) (codeRec_of (X.keeps st) hcd) rfl hbind hcell hloc (fun h₁ hns hk₁ => ?_) hco hgen hk
  refine wpAny_mono (h s.heap.objs.size h₁ rfl ⟨hns, fun b o e => hk₁ b o (st b o e), Nat.le_of_eq hsz⟩ (fun q hq => ⟨hk₁ _ _ (NT q hq), Nat.ne_of_lt (Heap.lt_size (NT q hq)), ?_⟩) (fun q hq => Heap.lt_size (NT q hq))) (fun _ _ x => x) (fun _ _ x => x.elim)
  rw [hG]; exact hideAll_none _ (List.mem_map_of_mem hq)

/-- the same for a def with cells -/
theorem enterGC (tabs : List (Addr × Obj)) (hG : G = hideAll s.heap (tabs.map (·.1))) (NT : ∀ q ∈ tabs, s.heap.get? q.1 = some q.2) (T : Top p loose mean mg mb G) (X : K.In G)
    (ho : K.lookup f = some ⟨oc, od, .func (fnOf name qual params body scope dV kV doc pm an cdv ct), osl⟩) (hcd : codeIn K cdv qual = true) (hroom : A.depth < recursionLimit)
    (hbind : BindsTo s (fnOf name qual params body scope dV kV doc pm an cdv ct) args binds)
    (hkind : (binds.all fun y => scope.names.lookup y.1 == some .local || scope.names.lookup y.1 == some .cell) = true)
    (hnd : ((cellsFrom 0 scope.names []).map (·.1)).Nodup)
    (h : ∀ L h₁ tk cells, L = s.heap.objs.size → Fr G L h₁ (bindL (envOfC qual scope L f cdv).kindOf binds fun _ => none) → News G L h₁ (cells ++ tabs) →
      CellsAre (bindC (envOfC qual scope L f cdv).kindOf binds fun _ => none) (cellsFrom (L + 1) scope.names []) cells → (∀ q ∈ tabs, q.1 < L) →
      wpAny (model prog w) (A.deeper (envOfC qual scope L f cdv)) (execs body (envOfC qual scope L f cdv))
        (fun fl s' => R (.ok (.ret (match fl with | .ret v => v | _ => .none))) s') (fun _ _ => False)
        { s with heap := h₁, toks := tk })
    (hco : scope.isCoroutine = false) (hgen : scope.isGenerator = false) (hk : scope.kind = .function) : codeAny (model prog w) A (.call (.ref f) args) R s := by
  have st : ∀ b o, G.get? b = some o → s.heap.get? b = some o := fun b o e => by rw [hG] at e; exact of_hideAll _ e
  have hsz : G.objs.size = s.heap.objs.size := by rw [hG]; exact hideAll_size _ _
  refine codeAny_call_function hroom (st _ _ (X _ _ ho)) (fd := fnOf name qual params body scope dV kV doc pm an cdv ct) rfl hco hgen rfl (codeRec_of (X.keeps st) hcd) (hbind _ _ _ _ ?_)
  refine wpAny_newFunctionEnv_cells hk (kindsX hkind _) fun env' he s' x => ?_
  subst he
  refine ⟨(T.nolimit.keeps st).keeps x.toInCall.keep, codeAny_func ?_⟩
  obtain ⟨h₁, tk, rfl, _⟩ := x.done
  have hk₁ := x.toInCall.keep
  obtain ⟨cells, NC, Y⟩ := Cl.news (h₀ := s.heap) (Nat.le_refl _) fun n c hm => ⟨x.cell n c (lookup_of_mem_nodup (cellsFrom_names scope.names 0 (s.heap.objs.size + 1) [] [] rfl ▸ hnd) hm), x.above n c hm⟩
  refine wpAny_mono (h s.heap.objs.size h₁ tk cells rfl ⟨x.toInCall.ns, fun b o e => hk₁ b o (st b o e), Nat.le_of_eq hsz⟩ (fun q hq => ?_) Y (fun q hq => Heap.lt_size (NT q hq))) (fun fl s' hl => hl) (fun _ _ y => y.elim)
  rcases List.mem_append.mp hq with hq | hq
  · refine ⟨(NC q hq).1, (NC q hq).2.1, ?_⟩
    cases e : G.get? q.1 with
    | none => rfl
    | some o => have := st _ _ e; rw [(NC q hq).2.2] at this; cases this
  · refine ⟨hk₁ _ _ (NT q hq), Nat.ne_of_lt (Heap.lt_size (NT q hq)), ?_⟩
    rw [hG]; exact hideAll_none _ (List.mem_map_of_mem hq)
/-- a def made in the call (its cells' addresses in cl), entered; nothing hidden -/
theorem enterN {fo : Obj} {cl : List (Str × Addr)} (T : Top p loose mean mg mb s.heap)
    (ho : s.heap.get? f = some fo) (hd : fo.data = .func (fnX name qual params body scope cl dV kV doc pm an cdv ct)) (hcd : s.heap.CodeRec cdv qual) (hroom : A.depth < recursionLimit)
    (hbind : BindsTo s (fnX name qual params body scope cl dV kV doc pm an cdv ct) args binds) (hloc : ∀ y ∈ binds, scope.names.lookup y.1 = some .local)
    (h : ∀ L h₁, L = s.heap.objs.size → Fr s.heap L h₁ (fun y => binds.reverse.lookup y) → News s.heap L h₁ [] →
      wpAny (model prog w) (A.deeper (envX qual scope L f cdv cl)) (execs body (envX qual scope L f cdv cl))
        (fun fl s' => R (.ok (.ret (match fl with | .ret v => v | _ => .none))) s') (fun _ _ => False)
        { s with heap := h₁, toks := s.toks + binds.length })
    (hco : scope.isCoroutine = false) (hgen : scope.isGenerator = false) (hk : scope.kind = .function)
    (hcell : ∀ x ∈ scope.names, x.2 ≠ .cell) : codeAny (model prog w) A (.call (.ref f) args) R s := by
  refine codeAny_call_def (fd := fnX name qual params body scope cl dV kV doc pm an cdv ct) (body := body) (binds := binds) hroom ho hd T.nolimit hcd rfl hbind hcell hloc (fun h₁ hns hk₁ => ?_) hco hgen hk
  exact wpAny_mono (h s.heap.objs.size h₁ rfl ⟨hns, hk₁, Nat.le_refl _⟩ (fun _ h => nomatch h)) (fun _ _ x => x) (fun _ _ x => x.elim)

theorem nameFG {M : Model} {E : Value → Shared → Prop} {cn : Str} {cs : Scope} {L a : Addr} {ccd : Value} {cl : List (Str × Addr)} {m : Str → Option Value} {x : Str} {pos : Pos} {v : Value} {Q : Value → Shared → Prop} {c : Addr}
    (F : Fr h₀ L s.heap m) (hc : cl.lookup x = some c) (hC : h₀.IsCell c (some v)) (h : Q v s)
    (hk : cs.kind = .function := by rfl) (hx : (envX cn cs L a ccd cl).kindOf x = some .free := by rfl) (hb : (x == ("__debug__" : Str)) = false := by decide) (hn : (x == ("__classdict__" : Str)) = false := by decide) :
    wpAny M A (eval (.Name x pos) (envX cn cs L a ccd cl)) Q E s := wpAny_Name (wpAny_loadName_free hk hx hc (let ⟨o, e, d⟩ := hC; ⟨o, F.keep _ _ e, d⟩) h hn) hb
end
end Mine
namespace Mine
theorem Fr_on {h₀ h h' : Heap} {L : Addr} {m : Str → Option Value} (F : Fr h₀ L h m) (k : h.StaysIn h') : Fr h₀ L h' m := ⟨F.ns.keeps k, fun b o e => k b o (F.keep b o e), F.above⟩
theorem News_on {h₀ h h' : Heap} {L : Addr} {news : List (Addr × Obj)} (N : News h₀ L h news) (k : h.StaysIn h') : News h₀ L h' news := fun p hp => ⟨k _ _ (N p hp).1, (N p hp).2⟩
theorem IsCell_on {h h' : Heap} {c : Addr} {v : Option Value} (x : h.IsCell c v) (k : h.StaysIn h') : h'.IsCell c v := let ⟨o, e, d⟩ := x; ⟨o, k _ _ e, d⟩
theorem IsList_on {h h' : Heap} {l : Addr} {vs : Array Value} (x : h.IsList l vs) (k : h.StaysIn h') : h'.IsList l vs := let ⟨o, e, r⟩ := x; ⟨o, k _ _ e, r⟩
theorem News_erase {h₀ h : Heap} {L : Addr} {news : List (Addr × Obj)} (i : Nat) (N : News h₀ L h news) : News h₀ L h (news.eraseIdx i) := fun q hq => N q (List.mem_of_mem_eraseIdx hq)
theorem hide_on {G h : Heap} {l : List Addr} {b : Addr} {o : Obj} (k : G.StaysIn h) (e : G.get? b = some o) (hl : ∀ a ∈ l, G.get? a = none) : (hideAll h l).get? b = some o :=
  hideAll_get _ (k _ _ e) fun hb => by rw [hl b hb] at e; cases e
theorem stays_hide {G h : Heap} {l : List Addr} (k : G.StaysIn h) (hl : ∀ a ∈ l, G.get? a = none) : G.StaysIn (hideAll h l) := fun _ _ e => hide_on k e hl
theorem stays_trans {a b c : Heap} (x : a.StaysIn b) (y : b.StaysIn c) : a.StaysIn c := fun p o e => y p o (x p o e)

section
variable {prog : Program} {w : World} {A A₀ : Around} {s : Shared} {base G h₀ : Heap} {outer : List Env} {R : Result → Shared → Prop} {name qual : Str} {params : Arguments} {body : List Stmt} {scope : Scope}
  {dV kV doc pm cdv ct oc : Value} {an od : Option Addr} {osl : Array (Option Value)} {f : Addr} {args : Args} {binds : List (Str × Value)} {K : Frag} {p : Program} {loose : List Str} {mean : ExcName → Option Value} {mg mb : Str → Option Value}
/-- a def made in the call, over the heap without the hidden ones -/
theorem enterNG {fo : Obj} {cl : List (Str × Addr)} (tabs : List (Addr × Obj)) (hG : G = hideAll s.heap (tabs.map (·.1))) (NT : ∀ q ∈ tabs, s.heap.get? q.1 = some q.2) (T : Top p loose mean mg mb G)
    (ho : G.get? f = some fo) (hd : fo.data = .func (fnX name qual params body scope cl dV kV doc pm an cdv ct)) (hcd : G.CodeRec cdv qual) (hroom : A.depth < recursionLimit)
    (hbind : BindsTo s (fnX name qual params body scope cl dV kV doc pm an cdv ct) args binds) (hloc : ∀ y ∈ binds, scope.names.lookup y.1 = some .local)
    (h : ∀ L h₁, L = s.heap.objs.size → Fr G L h₁ (fun y => binds.reverse.lookup y) → News G L h₁ tabs → (∀ q ∈ tabs, q.1 < L) →
      wpAny (model prog w) (A.deeper (envX qual scope L f cdv cl)) (execs body (envX qual scope L f cdv cl))
        (fun fl s' => R (.ok (.ret (match fl with | .ret v => v | _ => .none))) s') (fun _ _ => False)
        { s with heap := h₁, toks := s.toks + binds.length })
    (hco : scope.isCoroutine = false) (hgen : scope.isGenerator = false) (hk : scope.kind = .function)
    (hcell : ∀ x ∈ scope.names, x.2 ≠ .cell) : codeAny (model prog w) A (.call (.ref f) args) R s := by
  have st : G.StaysIn s.heap := fun b o e => by rw [hG] at e; exact of_hideAll _ e
  have hsz : G.objs.size = s.heap.objs.size := by rw [hG]; exact hideAll_size _ _
  refine codeAny_call_def (fd := fnX name qual params body scope cl dV kV doc pm an cdv ct) (body := body) (binds := binds) hroom (st _ _ ho) hd (T.nolimit.keeps st) (hcd.keeps st) rfl hbind hcell hloc (fun h₁ hns hk₁ => ?_) hco hgen hk
  exact wpAny_mono (h s.heap.objs.size h₁ rfl ⟨hns, fun b o e => hk₁ b o (st b o e), Nat.le_of_eq hsz⟩ (fun q hq => ⟨hk₁ _ _ (NT q hq), Nat.ne_of_lt (Heap.lt_size (NT q hq)), by rw [hG]; exact hideAll_none _ (List.mem_map_of_mem hq)⟩) fun q hq => Heap.lt_size (NT q hq)) (fun _ _ x => x) (fun _ _ x => x.elim)

/-- the ground of a call out of a frame: what is hidden stands in the ledger -/
theorem groundT {L : Addr} {m : Str → Option Value} {env : Env} {h : Heap} (B : Below A base outer G) (F : Fr G L h m) (tabs : List (Addr × Obj)) (N : News G L h tabs) (hf : env.frame = some L) (hk : env.scope.kind = .function) :
    Fr G L (hideAll h (tabs.map (·.1))) m ∧ Below (A.deeper env) base (env :: outer) (hideAll h (tabs.map (·.1))) ∧ G.StaysIn (hideAll h (tabs.map (·.1))) ∧ ∀ q ∈ tabs, h.get? q.1 = some q.2 := by
  have e := groundX (s := ({ heap := h } : Shared)) (R := fun _ _ => True) B F N (A := A.deeper env) (Around.frames_deeper B.stack) hf hk
  exact ⟨e.1, e.2.1, e.2.2.1, fun q hq => (N q hq).1⟩
end
theorem Fr_back {G h h' : Heap} {L : Addr} {m : Str → Option Value} {l : List Addr} (hl : ∀ a ∈ l, G.get? a = none) (F : Fr G L h m) (hL : L ∉ l) (k : (hideAll h l).StaysIn h') : Fr G L h' m :=
  ⟨let ⟨o, es, ep, e, r⟩ := F.ns; ⟨o, es, ep, k _ _ (hideAll_get _ e hL), r⟩, fun b o e => k b o (hide_on F.keep e hl), F.above⟩
theorem News_back {G h h' : Heap} {L : Addr} {news : List (Addr × Obj)} {l : List Addr} (N : News G L h news) (hn : ∀ q ∈ news, q.1 ∉ l) (k : (hideAll h l).StaysIn h') : News G L h' news :=
  fun q hq => ⟨k _ _ (hideAll_get _ (N q hq).1 (hn q hq)), (N q hq).2⟩
theorem News_put {G h' : Heap} {L : Addr} {news : List (Addr × Obj)} {a : Addr} {o : Obj} (h1 : a ≠ L) (h2 : G.get? a = none) (h3 : h'.get? a = some o) (N : News G L h' news) : News G L h' ((a, o) :: news) := fun q hq => by
  rcases List.mem_cons.mp hq with rfl | hq
  · exact ⟨h3, h1, h2⟩
  · exact N q hq
theorem News_nil {G h' : Heap} {L : Addr} : News G L h' [] := fun _ h => nomatch h
theorem ni1 {a b : Nat} (h : a ≠ b) : a ∉ [b] := fun q => h (List.mem_singleton.mp q)
theorem none1 {G : Heap} {b : Addr} (h : G.get? b = none) : ∀ a ∈ [b], G.get? a = none := fun a ha => by rw [List.mem_singleton.mp ha]; exact h
end Mine
end
section
open PySem PyProof.Rows
namespace Mine
/-- figures to the base 2^n, the lowest first -/
def dv (n : Nat) : List Int → Int
  | [] => 0
  | d :: r => d + 2 ^ n * dv n r
def seg (ds : List Int) (lo hi : Nat) : List Int := (ds.drop lo).take (hi - lo)
theorem dv_append (n : Nat) (ys : List Int) : ∀ xs : List Int, dv n (xs ++ ys) = dv n xs + 2 ^ (n * xs.length) * dv n ys
  | [] => by simp [dv]
  | x :: r => by
    rw [List.cons_append, dv, dv_append n ys r, dv, List.length_cons, Nat.mul_add, Nat.mul_one, Nat.add_comm (n * r.length) n, Int.pow_add, Int.mul_add, Int.mul_assoc, Int.add_assoc]
theorem seg_length {ds : List Int} {lo hi : Nat} (h : hi ≤ ds.length) : (seg ds lo hi).length = hi - lo := by
  unfold seg; rw [List.length_take, List.length_drop]; omega
theorem seg_split {ds : List Int} {lo mid hi : Nat} (h1 : lo ≤ mid) (h2 : mid ≤ hi) : seg ds lo hi = seg ds lo mid ++ seg ds mid hi := by
  unfold seg
  have : ds.drop mid = (ds.drop lo).drop (mid - lo) := by rw [List.drop_drop]; congr 1; omega
  rw [this, show hi - lo = (mid - lo) + (hi - mid) by omega, List.take_add]
theorem seg_one {ds : List Int} {lo : Nat} (h : lo < ds.length) : seg ds lo (lo + 1) = [ds.getD lo 0] := by
  unfold seg
  rw [show lo + 1 - lo = 1 by omega, List.drop_eq_getElem_cons h, List.take_succ_cons, List.take_zero, List.getD_eq_getElem?_getD, List.getElem?_eq_getElem h]; rfl
theorem seg_all (ds : List Int) : seg ds 0 ds.length = ds := by unfold seg; simp
theorem seg_mem {ds : List Int} {lo hi : Nat} {d : Int} (h : d ∈ seg ds lo hi) : d ∈ ds := List.mem_of_mem_drop (List.mem_of_mem_take h)
theorem dv_bound (n : Nat) (hn : n ≤ 64) : ∀ ds : List Int, (∀ d ∈ ds, 0 ≤ d ∧ d < 2 ^ 64) → 0 ≤ dv n ds ∧ dv n ds < 2 ^ (65 + 65 * ds.length)
  | [], _ => by simp [dv]
  | d :: r, h => by
    obtain ⟨h1, h2⟩ := dv_bound n hn r fun x hx => h x (.tail _ hx)
    obtain ⟨h3, h4⟩ := h d (.head _)
    rw [dv, List.length_cons]
    have hp : (0 : Int) < 2 ^ n := Int.pow_pos (by decide)
    have hle : (2 : Int) ^ n ≤ 2 ^ 64 := by
      have := Nat.pow_le_pow_right (show 0 < 2 by decide) hn
      exact_mod_cast this
    have h5 : 2 ^ n * dv n r ≤ 2 ^ 64 * dv n r := Int.mul_le_mul_of_nonneg_right hle h1
    have h6 : 0 ≤ 2 ^ n * dv n r := Int.mul_nonneg (Int.le_of_lt hp) h1
    have e : (2 : Int) ^ (65 + 65 * (r.length + 1)) = 2 ^ 65 * 2 ^ (65 + 65 * r.length) := by rw [← Int.pow_add]; congr 1; omega
    have h7 : (1 : Int) ≤ 2 ^ (65 + 65 * r.length) := by
      have : (0 : Int) < 2 ^ (65 + 65 * r.length) := Int.pow_pos (by decide)
      omega
    refine ⟨by omega, ?_⟩
    rw [e]
    generalize (2 : Int) ^ (65 + 65 * r.length) = X at *
    omega
theorem dv_bits {n : Nat} (hn : n ≤ 64) {ds : List Int} (h : ∀ d ∈ ds, 0 ≤ d ∧ d < 2 ^ 64) : Builtin.Int.intBits (dv n ds) ≤ 65 + 65 * ds.length := by
  obtain ⟨h1, h2⟩ := dv_bound n hn ds h
  refine intBits_le ?_
  have : ((dv n ds).natAbs : Int) = dv n ds := Int.natAbs_of_nonneg h1
  have h3 : ((dv n ds).natAbs : Int) < ((2 ^ (65 + 65 * ds.length) : Nat) : Int) := by rw [this]; push_cast; exact h2
  exact_mod_cast h3
end Mine
end
section
open PySem PySem.Spec PySem.Calls PySem.W PyProof.Rows
set_option maxRecDepth 100000
set_option rowWalk.seconds 0
namespace Mine
def bodyOf : Stmt → List Stmt
  | .FunctionDef _ _ b .. => b
  | _ => []
/-- the i-th statement of the text, the j-th of its body -/
def stm (i : Nat) : Stmt := (PySem.Challenge.pw_ta0029_01.main.body).getD i (.Pass ⟨0,0,0,0⟩)
def stm2 (i j : Nat) : Stmt := (bodyOf (stm i)).getD j (.Pass ⟨0,0,0,0⟩)

theorem one_val (n : Nat) (ds : List Int) {lo hi : Int} (h0 : 0 ≤ lo) (e1 : lo + 1 = hi) (h2 : hi ≤ ds.length) : ds.getD lo.toNat 0 = dv n (seg ds lo.toNat hi.toNat) := by
  rw [show hi.toNat = lo.toNat + 1 by omega, seg_one (by omega), dv, dv, Int.mul_zero, Int.add_zero]

theorem shift_fits (n : Nat) (ds : List Int) (hn1 : n ≤ 64) (hlen : ds.length ≤ 200) (hval : ∀ d ∈ ds, 0 ≤ d ∧ d < 2 ^ 64) {lo mid hi : Int} (h0 : 0 ≤ lo) (hm1 : lo < mid) (hm2 : mid < hi) (h2 : hi ≤ ds.length) :
    (Builtin.Int.intBits (dv n (seg ds mid.toNat hi.toNat)) : Int) + (mid - lo) * (n : Int) ≤ 2 ^ 27 := by
  have hb := dv_bits hn1 (ds := seg ds mid.toNat hi.toNat) fun d hd => hval d (seg_mem hd)
  rw [seg_length (by omega)] at hb
  have h1 : (mid - lo) * (n : Int) ≤ 200 * 64 := by
    have e1 : (mid - lo) * (n : Int) ≤ (mid - lo) * 64 := Int.mul_le_mul_of_nonneg_left (by omega) (by omega)
    omega
  omega
theorem split_val (n : Nat) (ds : List Int) {lo mid hi : Int} (h0 : 0 ≤ lo) (hm1 : lo < mid) (hm2 : mid < hi) (h2 : hi ≤ ds.length) :
    dv n (seg ds mid.toNat hi.toNat) * 2 ^ ((mid - lo) * (n : Int)).toNat + dv n (seg ds lo.toNat mid.toNat) = dv n (seg ds lo.toNat hi.toNat) := by
  rw [seg_split (ds := ds) (lo := lo.toNat) (mid := mid.toNat) (hi := hi.toNat) (by omega) (by omega), dv_append, seg_length (by omega)]
  have e : ((mid - lo) * (n : Int)).toNat = n * (mid.toNat - lo.toNat) := by
    have : ((mid - lo) * (n : Int)) = ((n * (mid.toNat - lo.toNat) : Nat) : Int) := by
      rw [Int.natCast_mul, Int.mul_comm]; congr 1; omega
    rw [this]; rfl
  rw [e, Int.mul_comm, Int.add_comm]

local macro_rules | `(tactic| walk_at "eval Name") => `(tactic| (k_here; k_dflt (refine' nameFG ?F ?c ?C ?_; (case F => k_asm); (case c => assumption); (case C => assumption); k_whole)))
local macro_rules | `(tactic| walk_at "FnAt") => `(tactic| (k_dflt (exact ⟨_, _, _, _, Fr.keep (by k_asm) _ _ (by assumption)⟩)))
local macro_rules | `(tactic| walk_at "callWith ref") => `(tactic| (k_here; k_dflt (refine' callWith_F ⟨_, _, _, _, Fr.keep ?k1 _ _ ?k2⟩ ?_; (case k1 => k_asm); (case k2 => assumption); k_whole)))

set_option maxHeartbeats 4000000 in
theorem d2i_inner {w : World} {name bind : Str} {params : Arguments} {body : List Stmt} {scope : Scope} {pos : Pos}
    (hK : stm2 5 0 = .FunctionDef name params body [] none [] scope none bind pos)
    {qual : Str} {cl : List (Str × Addr)} {doc pm ctv : Value} {c' f cD cN cI l : Addr} {n : Nat} {tn : Tok} {vs : List Value} {ds : List Int} {p : Program} {loose : List Str} {mean : ExcName → Option Value} {mg mb : Str → Option Value}
    (hD : cl.lookup (PySem.Str.ofString "digits") = some cD) (hN : cl.lookup (PySem.Str.ofString "n") = some cN) (hI : cl.lookup (PySem.Str.ofString "inner") = some cI) (hds : IntsAre vs ds) (hn1 : n ≤ 64) (hlen : ds.length ≤ 200) (hval : ∀ d ∈ ds, 0 ≤ d ∧ d < 2 ^ 64) :
    ∀ k : Nat, ∀ (s : Shared) (A : Around) (base : Heap) (outer : List Env) (lo hi : Int) (t1 t2 : Tok) (R : Result → Shared → Prop),
      s.heap.get? f = some (fnMade name qual params body scope cl doc pm c' ctv) → s.heap.CodeRec (.ref c') qual → s.heap.IsCell cD (some (.ref l)) → s.heap.IsCell cN (some (.int n tn)) → s.heap.IsCell cI (some (.ref f)) → s.heap.IsList l vs.toArray →
      Below A base outer s.heap → (pre.heap_1_39 w.params).In s.heap → Top p loose mean mg mb s.heap →
      0 ≤ lo → lo < hi → hi ≤ ds.length → hi - lo ≤ k + 1 → A.depth + k + 1 < recursionLimit → A.units + 3 * k + 10 < cLine →
      (∀ h' tk t, s.heap.StaysIn h' → s.heap.objs.size ≤ h'.objs.size → R (.ok (.ret (.int (dv n (seg ds lo.toNat hi.toNat)) t))) { s with heap := h', toks := tk }) →
      codeAny (model PySem.Challenge.rw_ta0029_01.row.prog w) A (.call (.ref f) ⟨[.int lo t1, .int hi t2], []⟩) R s := by
  cases hK
  intro k
  induction k with
  | zero =>
    intro s A base outer lo hi t1 t2 R hf hcd hCD hCN hCI hl B X T h0 h1 h2 h3 h4 h5 hR
    k_fill
    refine enterN T hf rfl hcd (by omega) (BindsTo.of_eq rfl) (locs rfl) ?_ rfl rfl rfl (by decide)
    intro L h₁ hL F N
    have K0 := B
    w_top on
    have e1 : lo + 1 = hi := by omega
    k_steps
    dsimp only
    rw [one_val n ds h0 e1 h2]
    exact hR _ _ _ F.keep (Nat.le_trans (Nat.le_of_eq hL.symm) (Nat.le_of_lt F.ns.lt))
  | succ k ih =>
    intro s A base outer lo hi t1 t2 R hf hcd hCD hCN hCI hl B X T h0 h1 h2 h3 h4 h5 hR
    k_fill
    refine enterN T hf rfl hcd (by omega) (BindsTo.of_eq rfl) (locs rfl) ?_ rfl rfl rfl (by decide)
    intro L h₁ hL F N
    have K0 := B
    have hLs : s.heap.objs.size ≤ L := Nat.le_of_eq hL.symm
    w_top on
    k_steps
    · dsimp only
      rename lo + 1 = hi => e1
      rw [one_val n ds h0 e1 h2]
      exact hR _ _ _ F.keep (Nat.le_trans (Nat.le_of_eq hL.symm) (Nat.le_of_lt F.ns.lt))
    · rename Fr _ _ _ _ => F1
      rename News _ _ _ _ => N1
      have hm : (lo + hi).fdiv (2 ^ Int.toNat 1) = (lo + hi) / 2 := by
        rw [Int.fdiv_eq_ediv_of_nonneg _ (by decide)]; rfl
      have hm1 : lo < (lo + hi) / 2 := by omega
      have hm2 : (lo + hi) / 2 < hi := by omega
      simp only [hm]
      simp only [hm] at F1
      refine wpAny_call (ih _ _ _ _ _ _ _ _ _ (F1.keep _ _ hf) (hcd.keeps F1.keep) (IsCell_on hCD F1.keep) (IsCell_on hCN F1.keep) (IsCell_on hCI F1.keep) (IsList_on hl F1.keep) (pushX B F1 rfl rfl) (X.keeps F1.keep) (T.keeps F1.keep) (by omega) (by omega) (by omega) (by omega) (by rw [depth_deeper]; omega) (by rw [units_deeper]; omega) fun g2 tk2 u2 k2 sz2 => ?_)
      have F2 := Fr_on F1 k2
      have N2 := News_on N1 k2
      clear F1 N1
      dsimp only
      k_steps
      have hn0 : 0 ≤ ((lo + hi) / 2 - lo) * (n : Int) := Int.mul_nonneg (by omega) (by omega)
      refine lshift_int hn0 (shift_fits n ds hn1 hlen hval h0 hm1 hm2 h2) ?_
      dsimp only
      k_steps
      refine wpAny_call (ih _ _ _ _ _ _ _ _ _ (F2.keep _ _ hf) (hcd.keeps F2.keep) (IsCell_on hCD F2.keep) (IsCell_on hCN F2.keep) (IsCell_on hCI F2.keep) (IsList_on hl F2.keep) (pushX B F2 rfl rfl) (X.keeps F2.keep) (T.keeps F2.keep) (by omega) (by omega) (by omega) (by omega) (by rw [depth_deeper]; omega) (by rw [units_deeper]; omega) fun g3 tk3 u3 k3 sz3 => ?_)
      have F3 := Fr_on F2 k3
      have N3 := News_on N2 k3
      clear F2 N2
      dsimp only
      k_steps
      dsimp only
      rw [split_val n ds h0 hm1 hm2 h2]
      exact hR _ _ _ F3.keep (Nat.le_trans hLs (Nat.le_of_lt F3.ns.lt))
end Mine
end
section
open PySem PySem.Spec PySem.Calls PySem.W PyProof.Rows
set_option maxRecDepth 100000
set_option rowWalk.seconds 0
namespace Mine
/-- a code table with its one entry, the code object c with k -/
def TF (l c : Nat) (q : Str) (a : Addr) (k o : Obj) : Prop := o = tabObj #[rawInt l, rawInt c, .ref a] ∧ ∃ vs t, k.data = .fields vs ∧ vs[1]? = some (.str q t)
/-- .. or still empty -/
def TS (l c : Nat) (q : Str) (a : Addr) (k o : Obj) : Prop := o = tabObj #[] ∨ TF l c q a k o

/-- the code objects' names -/
def q37 : Str := ((PySem.Str.ofString "_digits2int" ++ ".<locals>." : Str) ++ PySem.Str.ofString "inner" : Str)
def q30 : Str := ((PySem.Str.ofString "_int2digits" ++ ".<locals>." : Str) ++ PySem.Str.ofString "inner" : Str)

local macro_rules | `(tactic| walk_at "FnAt") => `(tactic| (k_dflt (exact FnAt.of (by k_asm) (by k_mem))))

theorem cells3 {cm : Str → Option Value} {n₁ n₂ n₃ : Str} {c₁ c₂ c₃ : Addr} {cells : List (Addr × Obj)} (x : CellsAre cm [(n₁, c₁), (n₂, c₂), (n₃, c₃)] cells) :
    ∃ o₁ o₂ o₃, cells = [(c₁, o₁), (c₂, o₂), (c₃, o₃)] ∧ o₁.data = .cell (cm n₁) ∧ o₂.data = .cell (cm n₂) ∧ o₃.data = .cell (cm n₃) := x.three

set_option maxHeartbeats 4000000 in
theorem d2i_call {w : World} {s : Shared} {A : Around} {base G : Heap} {outer : List Env} {p : Program} {loose : List Str} {mean : ExcName → Option Value} {mg mb : Str → Option Value}
    {a : Addr} {k o : Obj} {l : Addr} {n : Nat} {tn : Tok} {vs : List Value} {ds : List Int} {R : Result → Shared → Prop}
    (hG : G = hideAll s.heap [a, 37]) (ha : s.heap.get? a = some k) (ho : s.heap.get? 37 = some o) (hT : TS 47 4 q37 a k o) (C : CodeHd G 41 37)
    (B : Below A base outer G) (X : (pre.heap_1_39 w.params).In G) (T : Top p loose mean mg mb G) (hl : G.IsList l vs.toArray)
    (hds : IntsAre vs ds) (hn1 : n ≤ 64) (hlen : ds.length ≤ 200) (hval : ∀ d ∈ ds, 0 ≤ d ∧ d < 2 ^ 64)
    (hdep : A.depth + 300 < recursionLimit) (hun : A.units + 1000 < cLine)
    (hR : ∀ h' tk t a' k' o', G.StaysIn h' → G.objs.size ≤ h'.objs.size → h'.get? a' = some k' → h'.get? 37 = some o' → TF 47 4 q37 a' k' o' → (a' = a ∨ G.objs.size ≤ a') →
      R (.ok (.ret (.int (dv n ds) t))) { s with heap := h', toks := tk }) :
    codeAny (model PySem.Challenge.rw_ta0029_01.row.prog w) A (.call (.ref 42) ⟨[.ref l, .int n tn], []⟩) R s := by
  revert X; k_fill; intro X
  refine enterGC [(a, k), (37, o)] hG (by simp [ha, ho]) T X (by k_is) (by k_is) (by omega) (BindsTo.of_eq rfl) rfl (by decide +kernel) ?_ rfl rfl rfl
  intro L h₁ tk cells hL F N Y l0
  obtain ⟨o1, o2, o3, rfl, d1, d2, d3⟩ := cells3 Y
  clear Y
  have K0 := B
  k_lt l0
  w_top on
  have hLs : G.objs.size ≤ L := by rw [hG, hideAll_size, hL]; exact Nat.le_refl _
  replace d3 : o3.data = .cell (some (.ref l)) := d3
  replace d2 : o2.data = .cell (some (.int n tn)) := d2
  rcases hT with rfl | ⟨rfl, kv, kt, hk1, hk2⟩
  · replace N : News G L h₁ [(_, o1), (_, o2), (_, o3), (37, tabObj #[])] := News_erase 3 N
    k_steps
    · rename Fr _ _ _ _ => F1
      rename News _ _ _ _ => N1
      refine' wpAny_call (d2i_inner (n := n) (l := l) (tn := tn) (vs := vs) (ds := ds) (hK := rfl) ?hD ?hN ?hI hds hn1 hlen hval ds.length _ _ base _ 0 ds.length _ _ _ ?hf ?hcd ?hCD ?hCN ?hCI ?hl (pushX B F1 rfl rfl) (X.keeps F1.keep) (T.keeps F1.keep) (by omega) (by omega) (by omega) (by omega) (by rw [depth_deeper]; omega) (by rw [units_deeper]; omega) fun g2 tk2 u2 k2 sz2 => ?_)
      case hf => exact N1.get (by k_mem)
      case hD => exact rfl
      case hN => exact rfl
      case hI => exact rfl
      case hcd => exact codeRec_news N1 (by k_mem) (by assumption) (by assumption)
      case hCD => exact ⟨_, N1.get (by k_mem), d3⟩
      case hCN => exact ⟨_, N1.get (by k_mem), d2⟩
      case hCI => exact ⟨_, N1.get (by k_mem), by assumption⟩
      case hl => exact IsList_on hl F1.keep
      have F2 := Fr_on F1 k2
      have N2 := News_on N1 k2
      dsimp only
      rw [show (0 : Int).toNat = 0 from rfl, show (ds.length : Int).toNat = ds.length from rfl, seg_all]
      exact hR _ _ _ _ _ _ F2.keep (Nat.le_trans hLs (Nat.le_of_lt F2.ns.lt)) (N2.get (.tail _ (.head _))) (N2.get (.tail _ (.tail _ (.tail _ (.tail _ (.tail _ (.head _))))))) ⟨rfl, _, _, by assumption, by assumption⟩ (.inr (by omega))
    · rename Fr _ _ _ _ => F2
      rename News _ _ _ _ => N2
      obtain rfl : ds = [] := List.eq_nil_of_length_eq_zero (by omega)
      exact hR _ _ _ _ _ _ F2.keep (Nat.le_trans hLs (Nat.le_of_lt F2.ns.lt)) (N2.get (.tail _ (.head _))) (N2.get (.tail _ (.tail _ (.tail _ (.tail _ (.tail _ (.head _))))))) ⟨rfl, _, _, by assumption, by assumption⟩ (.inr (by omega))
  · replace N : News G L h₁ [(_, o1), (_, o2), (_, o3), (a, k), (37, _)] := N
    k_steps
    · rename Fr _ _ _ _ => F1
      rename News _ _ _ _ => N1
      refine' wpAny_call (d2i_inner (n := n) (l := l) (tn := tn) (vs := vs) (ds := ds) (hK := rfl) ?hD ?hN ?hI hds hn1 hlen hval ds.length _ _ base _ 0 ds.length _ _ _ ?hf ?hcd ?hCD ?hCN ?hCI ?hl (pushX B F1 rfl rfl) (X.keeps F1.keep) (T.keeps F1.keep) (by omega) (by omega) (by omega) (by omega) (by rw [depth_deeper]; omega) (by rw [units_deeper]; omega) fun g2 tk2 u2 k2 sz2 => ?_)
      case hf => exact N1.get (by k_mem)
      case hD => exact rfl
      case hN => exact rfl
      case hI => exact rfl
      case hcd => exact codeRec_news N1 (by k_mem) (by assumption) (by assumption)
      case hCD => exact ⟨_, N1.get (by k_mem), d3⟩
      case hCN => exact ⟨_, N1.get (by k_mem), d2⟩
      case hCI => exact ⟨_, N1.get (by k_mem), by assumption⟩
      case hl => exact IsList_on hl F1.keep
      have F2 := Fr_on F1 k2
      have N2 := News_on N1 k2
      dsimp only
      rw [show (0 : Int).toNat = 0 from rfl, show (ds.length : Int).toNat = ds.length from rfl, seg_all]
      exact hR _ _ _ _ _ _ F2.keep (Nat.le_trans hLs (Nat.le_of_lt F2.ns.lt)) (N2.get (.tail _ (.tail _ (.tail _ (.tail _ (.head _)))))) (N2.get (.tail _ (.tail _ (.tail _ (.tail _ (.tail _ (.head _))))))) ⟨rfl, _, _, hk1, hk2⟩ (.inl rfl)
    · rename Fr _ _ _ _ => F2
      rename News _ _ _ _ => N2
      obtain rfl : ds = [] := List.eq_nil_of_length_eq_zero (by omega)
      exact hR _ _ _ _ _ _ F2.keep (Nat.le_trans hLs (Nat.le_of_lt F2.ns.lt)) (N2.get (.tail _ (.tail _ (.tail _ (.tail _ (.head _)))))) (N2.get (.tail _ (.tail _ (.tail _ (.tail _ (.tail _ (.head _))))))) ⟨rfl, _, _, hk1, hk2⟩ (.inl rfl)
end Mine
end
section
open PySem PyProof.Rows
namespace Mine
/-- the first k figures of x to the base 2^n, the lowest first -/
def dg (n : Nat) : Nat → Int → List Int
  | 0, _ => []
  | k + 1, x => x % 2 ^ n :: dg n k (x / 2 ^ n)
theorem dg_length (n : Nat) : ∀ (k : Nat) (x : Int), (dg n k x).length = k
  | 0, _ => rfl
  | k + 1, x => by rw [dg, List.length_cons, dg_length]
theorem dg_mem (n : Nat) : ∀ (k : Nat) (x d : Int), d ∈ dg n k x → 0 ≤ d ∧ d < 2 ^ n
  | 0, _, _, h => by cases h
  | k + 1, x, d, h => by
    have hp : (0 : Int) < 2 ^ n := Int.pow_pos (by decide)
    rcases List.mem_cons.mp h with rfl | h
    · exact ⟨Int.emod_nonneg _ (by omega), Int.emod_lt_of_pos _ hp⟩
    · exact dg_mem n k _ _ h
theorem dv_dg (n : Nat) : ∀ (k : Nat) (x : Int), 0 ≤ x → x < 2 ^ (n * k) → dv n (dg n k x) = x
  | 0, x, h0, h1 => by
    rw [Nat.mul_zero, Int.pow_zero] at h1
    rw [dg, dv]; omega
  | k + 1, x, h0, h1 => by
    have hp : (0 : Int) < 2 ^ n := Int.pow_pos (by decide)
    rw [Nat.mul_add, Nat.mul_one, Int.pow_add] at h1
    have h2 : x / 2 ^ n < 2 ^ (n * k) := Int.ediv_lt_of_lt_mul hp h1
    rw [dg, dv, dv_dg n k _ (Int.ediv_nonneg h0 (Int.le_of_lt hp)) h2]
    exact Int.emod_add_mul_ediv x (2 ^ n)
theorem pow_split (n i : Nat) : (2 : Int) ^ (n * (i + 1)) = 2 ^ n * 2 ^ (n * i) := by
  rw [Nat.mul_add, Nat.mul_one, Nat.add_comm, Int.pow_add]
theorem dg_add (n j : Nat) : ∀ (i : Nat) (x : Int), 0 ≤ x → dg n (i + j) x = dg n i (x % 2 ^ (n * i)) ++ dg n j (x / 2 ^ (n * i))
  | 0, x, _ => by rw [Nat.zero_add, Nat.mul_zero, Int.pow_zero, Int.ediv_one]; rfl
  | i + 1, x, h0 => by
    have hp : (0 : Int) < 2 ^ n := Int.pow_pos (by decide)
    have hq : (0 : Int) < 2 ^ (n * i) := Int.pow_pos (by decide)
    rw [show i + 1 + j = (i + j) + 1 by omega, dg, dg, dg_add n j i _ (Int.ediv_nonneg h0 (Int.le_of_lt hp)), pow_split, List.cons_append]
    have e1 : x % (2 ^ n * 2 ^ (n * i)) % 2 ^ n = x % 2 ^ n := Int.emod_emod_of_dvd _ ⟨_, rfl⟩
    have e2 : x % (2 ^ n * 2 ^ (n * i)) / 2 ^ n = x / 2 ^ n % 2 ^ (n * i) := by
      have a1 := Int.emod_add_mul_ediv x (2 ^ n * 2 ^ (n * i))
      have a2 := Int.emod_add_mul_ediv x (2 ^ n)
      rw [Int.emod_def, Int.emod_def, Int.mul_assoc, ← Int.ediv_ediv_of_nonneg (x := x) (Int.le_of_lt hp)]
      rw [Int.sub_eq_add_neg, ← Int.mul_neg, Int.add_mul_ediv_left _ _ (by omega), ← Int.sub_eq_add_neg]
    have e3 : x / 2 ^ n / 2 ^ (n * i) = x / (2 ^ n * 2 ^ (n * i)) := Int.ediv_ediv_of_nonneg (x := x) (Int.le_of_lt hp)
    rw [e1, e2, e3]
theorem nat_low (x s : Nat) : x &&& (x / 2 ^ s * 2 ^ s) = x / 2 ^ s * 2 ^ s := by
  apply Nat.eq_of_testBit_eq
  intro i
  rw [Nat.testBit_and, Nat.mul_comm, Nat.testBit_two_pow_mul]
  by_cases h : s ≤ i
  · rw [Nat.testBit_div_two_pow]
    have : s + (i - s) = i := by omega
    simp [h, this]
  · simp [h]
theorem xor_low {x : Int} (h : 0 ≤ x) (s : Nat) : Builtin.bitXor x (x / 2 ^ s * 2 ^ s) = x % 2 ^ s := by
  obtain ⟨m, rfl⟩ := Int.eq_ofNat_of_zero_le h
  have e : ((m : Int) / 2 ^ s * 2 ^ s) = ((m / 2 ^ s * 2 ^ s : Nat) : Int) := by push_cast; rfl
  rw [e, bitXor_and]
  have ea : Builtin.bitAnd (m : Int) ((m / 2 ^ s * 2 ^ s : Nat) : Int) = ((m / 2 ^ s * 2 ^ s : Nat) : Int) := by
    unfold Builtin.bitAnd
    rw [decide_eq_true (show (0 : Int) ≤ m by omega), decide_eq_true (Int.natCast_nonneg _)]
    show ((m &&& (m / 2 ^ s * 2 ^ s) : Nat) : Int) = _
    rw [nat_low]
  rw [ea]
  have := Int.emod_add_mul_ediv (m : Int) (2 ^ s)
  rw [Int.mul_comm] at this
  rw [← e]
  omega
theorem set_one (ns : List Int) {lo : Nat} (h : lo < ns.length) (x : Int) : ns.set lo x = ns.take lo ++ [x] ++ ns.drop (lo + 1) := by
  rw [List.set_eq_take_append_cons_drop, if_pos h, List.append_assoc]; rfl
theorem put_two (ns a b : List Int) {lo mid hi : Nat} (h1 : lo + a.length = mid) (h2 : mid + b.length = hi) (h3 : hi ≤ ns.length) :
    (ns.take lo ++ a ++ ns.drop mid).take mid ++ b ++ (ns.take lo ++ a ++ ns.drop mid).drop hi = ns.take lo ++ (a ++ b) ++ ns.drop hi := by
  have hl : (ns.take lo ++ a).length = mid := by rw [List.length_append, List.length_take]; omega
  have e1 : (ns.take lo ++ a ++ ns.drop mid).take mid = ns.take lo ++ a := by rw [← hl, List.take_left]
  have e2 : (ns.take lo ++ a ++ ns.drop mid).drop hi = ns.drop hi := by
    rw [show hi = (ns.take lo ++ a).length + b.length by omega, ← List.drop_drop, List.drop_left, List.drop_drop, hl]
  rw [e1, e2]; simp [List.append_assoc]
end Mine
end
section
open PySem PySem.Spec PySem.Calls PySem.W PyProof.Rows
set_option maxRecDepth 100000
set_option rowWalk.seconds 0
namespace Mine
local macro_rules | `(tactic| walk_at "eval Name") => `(tactic| (k_here; k_dflt (refine' nameFG ?F ?c ?C ?_; (case F => k_asm); (case c => assumption); (case C => assumption); k_whole)))
local macro_rules | `(tactic| walk_at "FnAt") => `(tactic| (k_dflt (exact ⟨_, _, _, _, Fr.keep (by k_asm) _ _ (by assumption)⟩)))
local macro_rules | `(tactic| walk_at "callWith ref") => `(tactic| (k_here; k_dflt (refine' callWith_F ⟨_, _, _, _, Fr.keep ?k1 _ _ ?k2⟩ ?_; (case k1 => k_asm); (case k2 => assumption); k_whole)))

theorem mid_eq (lo hi : Nat) : ((lo : Int) + hi).fdiv (2 ^ Int.toNat 1) = (((lo + hi) / 2 : Nat) : Int) := by
  rw [Int.fdiv_eq_ediv_of_nonneg _ (by decide)]; push_cast; rfl
theorem sh_eq {lo mid : Nat} (h : lo ≤ mid) (n : Nat) : ((mid : Int) - lo) * n = ((n * (mid - lo) : Nat) : Int) := by
  rw [Int.natCast_mul, Int.mul_comm, Int.natCast_sub h]
theorem fdiv_two (x : Int) (N : Nat) : x.fdiv (2 ^ (N : Int).toNat) = x / 2 ^ N := by
  rw [Int.toNat_natCast, Int.fdiv_eq_ediv_of_nonneg _ (Int.le_of_lt (Int.pow_pos (by decide)))]
theorem up_bits {n k N : Nat} {x : Int} (hn : n ≤ 64) (hk : k ≤ 200) (h0 : 0 ≤ x) (h1 : x < 2 ^ (n * k)) (hN : N ≤ n * k) : (Builtin.Int.intBits (x / 2 ^ N) : Int) + (N : Int) ≤ 2 ^ 27 := by
  have hb : n * k ≤ 64 * 200 := Nat.mul_le_mul hn hk
  have hle : x / 2 ^ N ≤ x := Int.ediv_le_self _ h0
  have h3 : 0 ≤ x / 2 ^ N := Int.ediv_nonneg h0 (Int.le_of_lt (Int.pow_pos (by decide)))
  have : Builtin.Int.intBits (x / 2 ^ N) ≤ n * k := by
    refine intBits_le ?_
    have e : ((x / 2 ^ N).natAbs : Int) < ((2 ^ (n * k) : Nat) : Int) := by rw [Int.natAbs_of_nonneg h3]; push_cast; omega
    exact_mod_cast e
  omega
theorem one_dg {n : Nat} {x : Int} (h0 : 0 ≤ x) (h1 : x < 2 ^ (n * 1)) : dg n 1 x = [x] := by
  rw [Nat.mul_one] at h1
  rw [dg, dg, Int.emod_eq_of_lt h0 h1]

theorem up_lt {n lo mid hi : Nat} {x : Int} (_ : lo < hi) (h2 : lo < mid) (h3 : mid < hi) (h : x < 2 ^ (n * (hi - lo))) : x / 2 ^ (n * (mid - lo)) < 2 ^ (n * (hi - mid)) := by
  refine Int.ediv_lt_of_lt_mul (Int.pow_pos (by decide)) ?_
  rw [← Int.pow_add, ← Nat.mul_add, show hi - mid + (mid - lo) = hi - lo by omega]
  exact h
theorem put_len {ns a : List Int} {lo mid len : Nat} (h1 : lo + a.length = mid) (h2 : mid ≤ ns.length) (h3 : ns.length = len := by assumption) : (ns.take lo ++ a ++ ns.drop mid).length = len := by
  rw [List.length_append, List.length_append, List.length_take, List.length_drop]; omega

set_option maxHeartbeats 4000000 in
theorem i2d_inner {w : World} {name bind : Str} {params : Arguments} {body : List Stmt} {scope : Scope} {pos : Pos}
    (hK : stm2 4 1 = .FunctionDef name params body [] none [] scope none bind pos)
    {qual : Str} {cl : List (Str × Addr)} {doc pm ctv : Value} {c' f cD cN cI D : Addr} {n : Nat} {tn : Tok} {p : Program} {loose : List Str} {mean : ExcName → Option Value} {mg mb : Str → Option Value}
    (hD : cl.lookup (PySem.Str.ofString "a_digits") = some cD) (hN : cl.lookup (PySem.Str.ofString "n") = some cN) (hI : cl.lookup (PySem.Str.ofString "inner") = some cI) (hn1 : n ≤ 64) {e : Nat} {len : Nat} (hlen : len ≤ 200) :
    ∀ k : Nat, ∀ (s : Shared) (A : Around) (base G : Heap) (outer : List Env) (x : Int) (lo hi : Nat) (t0 t1 t2 : Tok) (vs : List Value) (ns : List Int) (R : Result → Shared → Prop),
      G = hideAll s.heap [D] → s.heap.get? D = some (listOf vs.toArray e) → IntsAre vs ns → ns.length = len →
      G.get? f = some (fnMade name qual params body scope cl doc pm c' ctv) → G.CodeRec (.ref c') qual → G.IsCell cD (some (.ref D)) → G.IsCell cN (some (.int n tn)) → G.IsCell cI (some (.ref f)) →
      Below A base outer G → (pre.heap_1_39 w.params).In G → Top p loose mean mg mb G →
      lo < hi → hi ≤ len → hi - lo ≤ k → 0 ≤ x → x < 2 ^ (n * (hi - lo)) → A.depth + k < recursionLimit → A.units + 3 * k + 10 < cLine →
      (∀ h' tk vs', G.StaysIn h' → G.objs.size ≤ h'.objs.size → h'.get? D = some (listOf vs'.toArray e) → IntsAre vs' (ns.take lo ++ dg n (hi - lo) x ++ ns.drop hi) → R (.ok (.ret .none)) { s with heap := h', toks := tk }) →
      codeAny (model PySem.Challenge.rw_ta0029_01.row.prog w) A (.call (.ref f) ⟨[.int x t0, .int lo t1, .int hi t2], []⟩) R s := by
  cases hK
  intro k
  induction k with
  | zero =>
    intro s A base G outer x lo hi t0 t1 t2 vs ns R hG hDo hi' hln hf hcd hCD hCN hCI B X T h1 h2 h3
    omega
  | succ k ih =>
    intro s A base G outer x lo hi t0 t1 t2 vs ns R hG hDo hi' hln hf hcd hCD hCN hCI B X T h1 h2 h3 h4 h5 h6 h7 hR
    revert X; k_fill; intro X
    refine enterNG [(D, listOf vs.toArray e)] hG (by simp [hDo]) T hf rfl hcd (by omega) (BindsTo.of_eq rfl) (locs rfl) ?_ rfl rfl rfl (by decide)
    intro L h₁ hL F N l0
    have K0 := B
    k_lt l0
    have hLs : G.objs.size ≤ L := by rw [hG, hideAll_size, hL]; exact Nat.le_refl _
    have hD0 : ∀ a ∈ [D], G.get? a = none := fun a ha => by rw [hG]; exact hideAll_none _ ha
    w_top on
    k_steps
    · rename Fr _ _ _ _ => F2
      rename News _ _ _ _ => N2
      rename (lo : Int) + 1 = hi => e1
      refine hR _ _ _ F2.keep (Nat.le_trans hLs (Nat.le_of_lt F2.ns.lt)) (N2.get (.head _)) ?_
      rename IntsAre (_ : List Value) _ => hI2
      rw [Int.toNat_natCast, set_one _ (by omega)] at hI2
      rw [show hi - lo = 1 by omega] at h5 ⊢
      rw [one_dg h4 h5, show hi = lo + 1 by omega]
      exact hI2
    · rename Fr _ _ _ _ => F1
      rename News _ _ _ _ => N1
      obtain ⟨mid, hmid⟩ : ∃ m, m = (lo + hi) / 2 := ⟨_, rfl⟩
      simp only [mid_eq, ← hmid] at F1 ⊢
      have hm1 : lo < mid := by omega
      have hm2 : mid < hi := by omega
      simp only [sh_eq (Nat.le_of_lt hm1)] at F1 ⊢
      have hN : n * (mid - lo) ≤ n * (hi - lo) := Nat.mul_le_mul_left _ (by omega)
      refine rshift_int (Int.natCast_nonneg _) ?_
      simp only [fdiv_two]
      k_steps
      rename Fr _ _ _ _ => F2
      rename News _ _ _ _ => N2
      refine lshift_int (Int.natCast_nonneg _) (up_bits hn1 (by omega) h4 h5 hN) ?_
      simp only [Int.toNat_natCast]
      k_steps
      rename Fr _ _ _ _ => F3
      rename News _ _ _ _ => N3
      rw [xor_low h4]
      have st1 := stays_hide F3.keep hD0
      refine wpAny_call (ih _ _ _ _ _ _ _ _ _ _ _ _ _ _ rfl (N3.get (.head _)) hi' hln (hide_on F3.keep hf hD0) (hcd.keeps st1) (IsCell_on hCD st1) (IsCell_on hCN st1) (IsCell_on hCI st1) (groundT B F3 [(D, _)] N3 rfl rfl).2.1 (X.keeps st1) (T.keeps st1) hm1 (by omega) (by omega)
        (Int.emod_nonneg _ (Int.ne_of_gt (Int.pow_pos (by decide)))) (Int.emod_lt_of_pos _ (Int.pow_pos (by decide))) (by rw [depth_deeper]; omega) (by rw [units_deeper]; omega) fun g4 tk4 vs4 k4 sz4 e4 i4 => ?_)
      have N3' := N3
      have F4 := Fr_back hD0 F3 (by intro q; cases q with | head => omega | tail _ q => cases q) k4
      have N4 : News G L g4 [(D, listOf vs4.toArray e)] := News_put (N3' _ (.head _)).2.1 (hD0 _ (.head _)) e4 News_nil
      clear N3' F3 N3 st1
      dsimp only
      k_steps
      have st2 := stays_hide F4.keep hD0
      refine wpAny_call (ih _ _ _ _ _ _ _ _ _ _ _ _ _ _ rfl (N4.get (.head _)) i4 (put_len (by rw [dg_length]; omega) (by omega)) (hide_on F4.keep hf hD0) (hcd.keeps st2) (IsCell_on hCD st2) (IsCell_on hCN st2) (IsCell_on hCI st2) (groundT B F4 [(D, _)] N4 rfl rfl).2.1 (X.keeps st2) (T.keeps st2) hm2 h2 (by omega)
        (Int.ediv_nonneg h4 (Int.le_of_lt (Int.pow_pos (by decide)))) (up_lt h1 hm1 hm2 h5) (by rw [depth_deeper]; omega) (by rw [units_deeper]; omega) fun g5 tk5 vs5 k5 sz5 e5 i5 => ?_)
      have F5 := Fr_back hD0 F4 (by intro q; cases q with | head => omega | tail _ q => cases q) k5
      have N5 : News G L g5 [(D, listOf vs5.toArray e)] := News_put (N4 _ (.head _)).2.1 (hD0 _ (.head _)) e5 News_nil
      clear F4 N4 st2
      dsimp only
      k_steps
      refine hR _ _ _ F5.keep (Nat.le_trans hLs (Nat.le_of_lt F5.ns.lt)) (N5.get (.head _)) ?_
      rw [put_two _ _ _ (by rw [dg_length]; omega) (by rw [dg_length]; omega) (by omega), ← dg_add n _ _ _ h4, show mid - lo + (hi - mid) = hi - lo by omega] at i5
      exact i5
end Mine
end
section
open PySem PySem.Spec PySem.Calls PySem.W PyProof.Rows
set_option maxRecDepth 100000
set_option rowWalk.seconds 0
namespace Mine
local macro_rules | `(tactic| walk_at "FnAt") => `(tactic| (k_dflt (exact FnAt.of (by k_asm) (by k_mem))))
/-- how many figures -/
def dlen (n : Nat) (a : Int) : Nat := (Builtin.Int.intBits a + n - 1) / n
theorem dlen_eq {n : Nat} (hn : 0 < n) (a : Int) : ((Builtin.Int.intBits a : Int) + (n : Int) - 1).fdiv (n : Int) = (dlen n a : Int) := by
  unfold dlen
  rw [Int.fdiv_eq_ediv_of_nonneg _ (by omega), Int.natCast_ediv]
  congr 1
  omega

theorem dlen_pos {n : Nat} (hn : 0 < n) {a : Int} (ha : 0 ≤ a) (h : a ≠ 0) : 0 < dlen n a := by
  unfold dlen
  have : 0 < Builtin.Int.intBits a := by
    unfold Builtin.Int.intBits
    rw [if_neg (by simpa using h)]; omega
  exact Nat.div_pos (by omega) hn
theorem lt_two_bits {a : Int} (ha : 0 ≤ a) : a < 2 ^ (Builtin.Int.intBits a) := by
  unfold Builtin.Int.intBits
  by_cases h : a = 0
  · subst h; simp
  · rw [if_neg (by simpa using h)]
    have h1 : a.natAbs < 2 ^ (a.natAbs.log2 + 1) := Nat.lt_log2_self
    have h2 : ((a.natAbs : Nat) : Int) < ((2 ^ (a.natAbs.log2 + 1) : Nat) : Int) := by exact_mod_cast h1
    rw [Int.natAbs_of_nonneg ha] at h2
    push_cast at h2
    exact h2
theorem dlen_lt {n : Nat} (hn : 0 < n) {a : Int} (ha : 0 ≤ a) : a < 2 ^ (n * (dlen n a - 0)) := by
  refine Int.lt_of_lt_of_le (lt_two_bits ha) ?_
  have : Builtin.Int.intBits a ≤ n * (dlen n a - 0) := by
    unfold dlen
    have := Nat.div_add_mod (Builtin.Int.intBits a + n - 1) n
    have := Nat.mod_lt (Builtin.Int.intBits a + n - 1) hn
    rw [Nat.sub_zero]
    omega
  have h := Nat.pow_le_pow_right (show 0 < 2 by decide) this
  exact_mod_cast h
theorem dlen_zero {n : Nat} (hn : 0 < n) : dlen n 0 = 0 := by
  unfold dlen
  rw [show Builtin.Int.intBits 0 = 0 from rfl]
  exact Nat.div_eq_of_lt (by omega)
theorem nb_all2 {news : List (Addr × Obj)} {d : Addr} (h : ∀ p ∈ news, p.1 ≠ d) : ∀ q ∈ news, q.1 ∉ [d] := fun q hq => ni1 (h q hq)

set_option maxHeartbeats 4000000 in
theorem i2d_call {w : World} {s : Shared} {A : Around} {base G : Heap} {outer : List Env} {p : Program} {loose : List Str} {mean : ExcName → Option Value} {mg mb : Str → Option Value}
    {c : Addr} {k o : Obj} {a : Int} {n : Nat} {ta tn : Tok} {R : Result → Shared → Prop}
    (hG : G = hideAll s.heap [c, 30]) (hc : s.heap.get? c = some k) (ho : s.heap.get? 30 = some o) (hT : TS 32 4 q30 c k o) (C : CodeHd G 34 30)
    (B : Below A base outer G) (X : (pre.heap_1_39 w.params).In G) (T : Top p loose mean mg mb G)
    (ha : 0 ≤ a) (hn : 0 < n) (hn1 : n ≤ 64) (hlen : dlen n a ≤ 200)
    (hdep : A.depth + 300 < recursionLimit) (hun : A.units + 1000 < cLine)
    (hR : ∀ h' tk D vs e c' k' o', G.StaysIn h' → G.objs.size ≤ h'.objs.size → G.objs.size ≤ D → h'.get? D = some (listOf vs.toArray e) → IntsAre vs (dg n (dlen n a) a) →
      h'.get? c' = some k' → h'.get? 30 = some o' → TF 32 4 q30 c' k' o' → (c' = c ∨ G.objs.size ≤ c') → D ≠ c' → R (.ok (.ret (.ref D))) { s with heap := h', toks := tk }) :
    codeAny (model PySem.Challenge.rw_ta0029_01.row.prog w) A (.call (.ref 35) ⟨[.int a ta, .int n tn], []⟩) R s := by
  revert X; k_fill; intro X
  refine enterGC [(c, k), (30, o)] hG (by simp [hc, ho]) T X (by k_is) (by k_is) (by omega) (BindsTo.of_eq rfl) rfl (by decide +kernel) ?_ rfl rfl rfl
  intro L h₁ tk cells hL F N Y l0
  obtain ⟨o1, o2, o3, rfl, d1, d2, d3⟩ := cells3 Y
  clear Y
  have K0 := B
  k_lt l0
  w_top on
  have hLs : G.objs.size ≤ L := by rw [hG, hideAll_size, hL]; exact Nat.le_refl _
  replace N : News G L h₁ [(_, o1), (_, o2), (_, o3), (c, k), (30, o)] := N
  replace d3 : o3.data = .cell (some (.int n tn)) := d3
  k_steps
  rename Fr _ _ _ _ => F1
  rename News _ _ _ _ => N1
  simp only [dlen_eq hn]
  refine KM.mul F1 N1 (PySem.IsL.isList (N1.get (.head _))) (.cons 0 _ .nil) (by omega) (by omega) (by simp; omega) ?_
  intro D h2 F2 N2 l2 i2 _ _ _ _ _
  clear F1 N1
  k_lt l2
  rw [krep_flat, Int.toNat_natCast] at i2
  rw [Int.toNat_natCast] at N2
  generalize (List.replicate (dlen n a) [Value.int 0 _]).flatten = vs at N2 i2
  have hvs : vs.toArray.size = dlen n a := by rw [List.size_toArray, i2.length, List.length_replicate]
  k_steps
  rcases hT with rfl | ⟨rfl, kv, kt, hk1, hk2⟩
  · rename News _ _ _ _ => N3
    replace N3 := News_erase 5 N3
    simp only [List.eraseIdx_cons_succ, List.eraseIdx_cons_zero] at N3
    k_steps
    · rename Fr _ _ _ _ => F5
      rename News _ _ _ _ => N5
      have hD0 := none1 (N5 (D, listOf vs.toArray 0) (by k_mem)).2.2
      have ND : News G L _ [(D, listOf vs.toArray 0)] := cb_drop N5 (fun q hq => by rw [List.mem_singleton.mp hq]; k_mem)
      refine' wpAny_call (i2d_inner (n := n) (D := D) (tn := tn) (hK := rfl) ?hD ?hN ?hI hn1 (len := dlen n a) hlen (dlen n a) _ _ base _ _ a 0 (dlen n a) _ _ _ vs (List.replicate (dlen n a) 0) _ rfl (ND _ (.head _)).1 i2 (by rw [List.length_replicate]) ?hf ?hcd ?hCD ?hCN ?hCI (groundT B F5 _ ND rfl rfl).2.1 (X.keeps (stays_hide F5.keep hD0)) (T.keeps (stays_hide F5.keep hD0)) (dlen_pos hn ha (by assumption)) (Nat.le_refl _) (by omega) ha (dlen_lt hn ha) (by rw [depth_deeper]; omega) (by rw [units_deeper]; omega) fun g6 tk6 vs6 k6 sz6 e6 i6 => ?_)
      case hf => exact hideAll_get _ (N5.get (by k_mem)) (ni1 (by omega))
      case hD => exact rfl
      case hN => exact rfl
      case hI => exact rfl
      case hcd => exact ⟨_, _, _, _, rfl, hideAll_get _ (N5.get (by k_mem)) (ni1 (by omega)), by assumption, by assumption⟩
      case hCD => exact ⟨_, hideAll_get _ (N5.get (by k_mem)) (ni1 (by omega)), by assumption⟩
      case hCN => exact ⟨_, hideAll_get _ (N5.get (by k_mem)) (ni1 (by omega)), d3⟩
      case hCI => exact ⟨_, hideAll_get _ (N5.get (by k_mem)) (ni1 (by omega)), by assumption⟩
      have F6 := Fr_back hD0 F5 (ni1 (by omega)) k6
      have N6 := News_put (ND _ (.head _)).2.1 (ND _ (.head _)).2.2 e6 (News_back (News_erase 2 N5) (by simp only [List.eraseIdx_cons_succ, List.eraseIdx_cons_zero]; exact nb_all2 (by k_all)) k6)
      simp only [List.eraseIdx_cons_succ, List.eraseIdx_cons_zero] at N6
      clear F5 N5 ND
      dsimp only
      k_steps
      refine hR _ _ _ _ _ _ _ _ F6.keep (Nat.le_trans hLs (Nat.le_of_lt F6.ns.lt)) (by omega) (N6.get (.head _)) ?i (N6.get (.tail _ (.tail _ (.head _)))) (N6.get (by k_mem)) ⟨rfl, _, _, by assumption, by assumption⟩ (.inr (by omega)) (neN (by omega))
      case i => simpa using i6
    · rename Fr _ _ _ _ => F6
      rename News _ _ _ _ => N6
      rename a = 0 => ha0
      subst ha0
      rw [dlen_zero hn] at i2
      refine hR _ _ _ _ _ _ _ _ F6.keep (Nat.le_trans hLs (Nat.le_of_lt F6.ns.lt)) (by omega) (N6.get (.tail _ (.tail _ (.head _)))) ?i (N6.get (.tail _ (.head _))) (N6.get (by k_mem)) ⟨rfl, _, _, by assumption, by assumption⟩ (.inr (by omega)) (neN (by omega))
      case i => rw [dlen_zero hn]; exact i2
  · k_steps
    · rename Fr _ _ _ _ => F5
      rename News _ _ _ _ => N5
      have hD0 := none1 (N5 (D, listOf vs.toArray 0) (by k_mem)).2.2
      have ND : News G L _ [(D, listOf vs.toArray 0)] := cb_drop N5 (fun q hq => by rw [List.mem_singleton.mp hq]; k_mem)
      refine' wpAny_call (i2d_inner (n := n) (D := D) (tn := tn) (hK := rfl) ?hD ?hN ?hI hn1 (len := dlen n a) hlen (dlen n a) _ _ base _ _ a 0 (dlen n a) _ _ _ vs (List.replicate (dlen n a) 0) _ rfl (ND _ (.head _)).1 i2 (by rw [List.length_replicate]) ?hf ?hcd ?hCD ?hCN ?hCI (groundT B F5 _ ND rfl rfl).2.1 (X.keeps (stays_hide F5.keep hD0)) (T.keeps (stays_hide F5.keep hD0)) (dlen_pos hn ha (by assumption)) (Nat.le_refl _) (by omega) ha (dlen_lt hn ha) (by rw [depth_deeper]; omega) (by rw [units_deeper]; omega) fun g6 tk6 vs6 k6 sz6 e6 i6 => ?_)
      case hf => exact hideAll_get _ (N5.get (by k_mem)) (ni1 (by omega))
      case hD => exact rfl
      case hN => exact rfl
      case hI => exact rfl
      case hcd => exact ⟨_, _, _, _, rfl, hideAll_get _ (N5.get (by k_mem)) (ni1 (by omega)), hk1, hk2⟩
      case hCD => exact ⟨_, hideAll_get _ (N5.get (by k_mem)) (ni1 (by omega)), by assumption⟩
      case hCN => exact ⟨_, hideAll_get _ (N5.get (by k_mem)) (ni1 (by omega)), d3⟩
      case hCI => exact ⟨_, hideAll_get _ (N5.get (by k_mem)) (ni1 (by omega)), by assumption⟩
      have F6 := Fr_back hD0 F5 (ni1 (by omega)) k6
      have N6 := News_put (ND _ (.head _)).2.1 (ND _ (.head _)).2.2 e6 (News_back (News_erase 1 N5) (by simp only [List.eraseIdx_cons_succ, List.eraseIdx_cons_zero]; exact nb_all2 (by k_all)) k6)
      simp only [List.eraseIdx_cons_succ, List.eraseIdx_cons_zero] at N6
      clear F5 N5 ND
      dsimp only
      k_steps
      refine hR _ _ _ _ _ c k _ F6.keep (Nat.le_trans hLs (Nat.le_of_lt F6.ns.lt)) (by omega) (N6.get (.head _)) ?i (N6.get (by k_mem)) (N6.get (by k_mem)) ⟨rfl, _, _, hk1, hk2⟩ (.inl rfl) (neN (by omega))
      case i => simpa using i6
    · rename Fr _ _ _ _ => F6
      rename News _ _ _ _ => N6
      rename a = 0 => ha0
      subst ha0
      rw [dlen_zero hn] at i2
      refine hR _ _ _ _ _ c k _ F6.keep (Nat.le_trans hLs (Nat.le_of_lt F6.ns.lt)) (by omega) (N6.get (.tail _ (.head _))) ?i (N6.get (by k_mem)) (N6.get (by k_mem)) ⟨rfl, _, _, hk1, hk2⟩ (.inl rfl) (neN (by omega))
      case i => rw [dlen_zero hn]; exact i2
end Mine
end
section
open PySem PySem.Spec PySem.Calls PySem.W PyProof.Rows
set_option maxRecDepth 100000
namespace Mine
def Hold (p : Prop) : Prop := p
theorem hold_of {p : Prop} (h : Hold p) : p := h
theorem News_take {h₀ h : Heap} {L : Addr} {news : List (Addr × Obj)} (i : Nat) (N : News h₀ L h news) : News h₀ L h (news.take i) := fun q hq => N q (List.mem_of_mem_take hq)
theorem News_drop {h₀ h : Heap} {L : Addr} {news : List (Addr × Obj)} (i : Nat) (N : News h₀ L h news) : News h₀ L h (news.drop i) := fun q hq => N q (List.mem_of_mem_drop hq)
theorem News_app {h₀ h : Heap} {L : Addr} {n1 n2 : List (Addr × Obj)} (N1 : News h₀ L h n1) (N2 : News h₀ L h n2) : News h₀ L h (n1 ++ n2) := fun q hq => (List.mem_append.mp hq).elim (N1 q) (N2 q)
theorem fresh_ne {G h : Heap} {L a : Addr} {m : Str → Option Value} (F : Fr G L h m) (ha : h.objs.size ≤ a) : a ≠ L ∧ G.get? a = none :=
  ⟨Nat.ne_of_gt (Nat.lt_of_lt_of_le F.ns.lt ha), Heap.get?_none_of_le (Nat.le_trans F.above (Nat.le_trans (Nat.le_of_lt F.ns.lt) ha))⟩

section
variable {w : World} {s : Shared} {A A' : Around} {base G : Heap} {outer : List Env} {p : Program} {loose : List Str} {mean : ExcName → Option Value} {mg mb : Str → Option Value} {L : Addr} {m : Str → Option Value} {env : Env}
  {c : Addr} {k o : Obj} {c2 : Addr} {k2 o2 : Obj} {own rest : List (Addr × Obj)} {E : Value → Shared → Prop} {Q : Value → Shared → Prop}
/-- a call of _int2digits out of a frame -/
theorem call_i2d {a : Int} {n : Nat} {ta tn : Tok} (B : Below A base outer G) (F : Fr G L s.heap m) (hA : A' = A.deeper env) (hf : env.frame = some L) (hk : env.scope.kind = .function) (NO : News G L s.heap own) (NT : News G L s.heap ((c, k) :: (30, o) :: rest))
    (hT : TS 32 4 q30 c k o) (ho : ∀ q ∈ own ++ rest, q.1 ≠ c ∧ q.1 ≠ 30) (C : CodeHd G 34 30) (X : (pre.heap_1_39 w.params).In G) (T : Top p loose mean mg mb G)
    (ha : 0 ≤ a) (hn : 0 < n) (hn1 : n ≤ 64) (hlen : dlen n a ≤ 200) (hdep : A.depth + 310 < recursionLimit) (hun : A.units + 1010 < cLine)
    (h : ∀ h' tk D vs e c' k' o', Fr G L h' m → News G L h' ((D, listOf vs.toArray e) :: own ++ (c', k') :: (30, o') :: rest) → IntsAre vs (dg n (dlen n a) a) → TF 32 4 q30 c' k' o' →
      @LT.lt Nat _ L D → (@Eq Nat c' c ∨ @LT.lt Nat _ L c' ∧ AllLt c' (own ++ rest)) → @Ne Nat D c' → Q (.ref D) { s with heap := h', toks := tk }) :
    wpAny (model PySem.Challenge.rw_ta0029_01.row.prog w) A' (call (.ref 35) [.int a ta, .int n tn]) Q E s := by
  subst hA
  have NT2 : News G L s.heap [(c, k), (30, o)] := cb_drop NT fun q hq => by
    rcases List.mem_cons.mp hq with rfl | hq
    · exact .head _
    · rw [List.mem_singleton.mp hq]; exact .tail _ (.head _)
  have NR : News G L s.heap rest := cb_drop NT fun q hq => .tail _ (.tail _ hq)
  have hl : ∀ b ∈ [c, 30], G.get? b = none := fun b hb => by
    rcases List.mem_cons.mp hb with rfl | hb
    · exact (NT _ (.head _)).2.2
    · rw [List.mem_singleton.mp hb]; exact (NT _ (.tail _ (.head _))).2.2
  have hL : L ∉ [c, 30] := fun hb => by
    rcases List.mem_cons.mp hb with e | hb
    · exact (NT _ (.head _)).2.1 e.symm
    · exact (NT _ (.tail _ (.head _))).2.1 (List.mem_singleton.mp hb).symm
  have g := groundT B F _ NT2 hf hk
  have st := stays_hide F.keep hl
  have hsz : (hideAll s.heap [c, 30]).objs.size = s.heap.objs.size := hideAll_size _ _
  refine wpAny_call (i2d_call rfl (NT _ (.head _)).1 (NT _ (.tail _ (.head _))).1 hT (C.keeps st) g.2.1 (X.keeps st) (T.keeps st) ha hn hn1 hlen (by rw [depth_deeper]; omega) (by rw [units_deeper]; omega) ?_)
  intro h' tk D vs e c' k' o' ks sz hD eD iD ec eo hTF hcc hDc
  rw [hsz] at hcc hD
  have F' := Fr_back hl F hL ks
  have hoo : ∀ q ∈ own, q.1 ∉ [c, 30] := fun q hq hb => by
    have := ho q (List.mem_append_left _ hq)
    rcases List.mem_cons.mp hb with e | hb
    · exact this.1 e
    · exact this.2 (List.mem_singleton.mp hb)
  have hor : ∀ q ∈ rest, q.1 ∉ [c, 30] := fun q hq hb => by
    have := ho q (List.mem_append_right _ hq)
    rcases List.mem_cons.mp hb with e | hb
    · exact this.1 e
    · exact this.2 (List.mem_singleton.mp hb)
  have fD := fresh_ne F hD
  have fc : c' ≠ L ∧ G.get? c' = none := hcc.elim (fun e => e ▸ (NT _ (.head _)).2) (fresh_ne F)
  refine h h' tk D vs e c' k' o' F' ?_ iD hTF (Nat.lt_of_lt_of_le F.ns.lt hD) (hcc.imp id fun hs => ⟨Nat.lt_of_lt_of_le F.ns.lt hs, allLt_of fun q hq => Nat.lt_of_lt_of_le (Heap.lt_size (News_app NO NR q hq).1) hs⟩) hDc
  exact News_put fD.1 fD.2 eD (News_app (News_back NO hoo ks) (News_put fc.1 fc.2 ec (News_put (NT _ (.tail _ (.head _))).2.1 (NT _ (.tail _ (.head _))).2.2 eo (News_back NR hor ks))))

/-- a call of _digits2int out of a frame -/
theorem call_d2i {l : Addr} {n : Nat} {tn : Tok} {vs : List Value} {e : Nat} {ds : List Int} (B : Below A base outer G) (F : Fr G L s.heap m) (hA : A' = A.deeper env) (hf : env.frame = some L) (hk : env.scope.kind = .function) (NO : News G L s.heap own) (NT : News G L s.heap ((c2, k2) :: (37, o2) :: rest))
    (hT : TS 47 4 q37 c2 k2 o2) (ho : ∀ q ∈ own ++ rest, q.1 ≠ c2 ∧ q.1 ≠ 37) (C : CodeHd G 41 37) (X : (pre.heap_1_39 w.params).In G) (T : Top p loose mean mg mb G)
    (hl : (l, listOf vs.toArray e) ∈ own) (hds : IntsAre vs ds) (hn1 : n ≤ 64) (hlen : ds.length ≤ 200) (hval : ∀ d ∈ ds, 0 ≤ d ∧ d < 2 ^ 64) (hdep : A.depth + 310 < recursionLimit) (hun : A.units + 1010 < cLine)
    (h : ∀ h' tk t c' k' o', Fr G L h' m → News G L h' (own ++ (c', k') :: (37, o') :: rest) → TF 47 4 q37 c' k' o' → (@Eq Nat c' c2 ∨ @LT.lt Nat _ L c' ∧ AllLt c' (own ++ rest)) → Q (.int (dv n ds) t) { s with heap := h', toks := tk }) :
    wpAny (model PySem.Challenge.rw_ta0029_01.row.prog w) A' (call (.ref 42) [.ref l, .int n tn]) Q E s := by
  subst hA
  have NT2 : News G L s.heap [(c2, k2), (37, o2)] := cb_drop NT fun q hq => by
    rcases List.mem_cons.mp hq with rfl | hq
    · exact .head _
    · rw [List.mem_singleton.mp hq]; exact .tail _ (.head _)
  have NR : News G L s.heap rest := cb_drop NT fun q hq => .tail _ (.tail _ hq)
  have hlo : ∀ b ∈ [c2, 37], G.get? b = none := fun b hb => by
    rcases List.mem_cons.mp hb with rfl | hb
    · exact (NT _ (.head _)).2.2
    · rw [List.mem_singleton.mp hb]; exact (NT _ (.tail _ (.head _))).2.2
  have hL : L ∉ [c2, 37] := fun hb => by
    rcases List.mem_cons.mp hb with e | hb
    · exact (NT _ (.head _)).2.1 e.symm
    · exact (NT _ (.tail _ (.head _))).2.1 (List.mem_singleton.mp hb).symm
  have hoo : ∀ q ∈ own, q.1 ∉ [c2, 37] := fun q hq hb => by
    have := ho q (List.mem_append_left _ hq)
    rcases List.mem_cons.mp hb with e | hb
    · exact this.1 e
    · exact this.2 (List.mem_singleton.mp hb)
  have hor : ∀ q ∈ rest, q.1 ∉ [c2, 37] := fun q hq hb => by
    have := ho q (List.mem_append_right _ hq)
    rcases List.mem_cons.mp hb with e | hb
    · exact this.1 e
    · exact this.2 (List.mem_singleton.mp hb)
  have g := groundT B F _ NT2 hf hk
  have st := stays_hide F.keep hlo
  have hsz : (hideAll s.heap [c2, 37]).objs.size = s.heap.objs.size := hideAll_size _ _
  refine wpAny_call (d2i_call rfl (NT _ (.head _)).1 (NT _ (.tail _ (.head _))).1 hT (C.keeps st) g.2.1 (X.keeps st) (T.keeps st) (PySem.IsL.isList (n := e) (hideAll_get _ (NO _ hl).1 (hoo _ hl))) hds hn1 hlen hval (by rw [depth_deeper]; omega) (by rw [units_deeper]; omega) ?_)
  intro h' tk t c' k' o' ks sz ec eo hTF hcc
  rw [hsz] at hcc
  have F' := Fr_back hlo F hL ks
  have fc : c' ≠ L ∧ G.get? c' = none := hcc.elim (fun e => e ▸ (NT _ (.head _)).2) (fresh_ne F)
  refine h h' tk t c' k' o' F' ?_ hTF (hcc.imp id fun hs => ⟨Nat.lt_of_lt_of_le F.ns.lt hs, allLt_of fun q hq => Nat.lt_of_lt_of_le (Heap.lt_size (News_app NO NR q hq).1) hs⟩)
  exact News_app (News_back NO hoo ks) (News_put fc.1 fc.2 ec (News_put (NT _ (.tail _ (.head _))).2.1 (NT _ (.tail _ (.head _))).2.2 eo (News_back NR hor ks)))
end

/-- a loop by what holds at its head; its turns do not raise -/
theorem For_own {prog : Program} {w : World} {A : Around} {s : Shared} {env : Env} {E : Value → Shared → Prop} {target iter : Expr} {body : List Stmt} {pos : Pos} {Q : Flow → Shared → Prop}
    (h : wpAny (model prog w) A (eval iter env) (fun xv s₁ => wpAny (model prog w) A (pyIter xv) (fun it s₂ => ∃ (I : Nat → Shared → Prop) (n : Nat), I n s₂ ∧ ∀ n s, I n s →
      wpAny (model prog w) A (pyNext it) (fun r s₁ => match r with
        | none => Q .next s₁
        | some v => wpAny (model prog w) A (letOwnedTupleGo target it v) (fun _ s₁' => wpAny (model prog w) A (assign target env v) (fun _ s₂ =>
            wpAny (model prog w) A (execs body env) (fun f s₃ => match f with
              | .next | .cont => Hold (∃ m, m < n ∧ I m s₃)
              | .brk => Q .next s₃
              | .ret v => Q (.ret v) s₃) (fun _ _ => False) s₂) (fun _ _ => False) s₁') (fun _ _ => False) s₁) (fun _ _ => False) s) E s₁) E s)
    (hs : ∀ x, foldedSetIterable iter env x = pure x := by intro _; rfl) :
    wpAny (model prog w) A (exec (.For target iter body [] pos) env) Q E s := by
  refine wpAny_For (wpAny_mono h (fun xv s₁ h₁ => wpAny_mono h₁ (fun it s₂ h₂ => ?_) fun _ _ e => e) fun _ _ e => e) hs
  obtain ⟨I, n, h0, turn⟩ := h₂
  refine codeAny_forLoop_any I (fun n s hI => ?_) n h0
  refine wpAny_mono (turn n s hI) (fun r s₁ hr => ?_) fun _ _ x => x.elim
  cases r with
  | none => exact wpAny_execs_nil hr
  | some v =>
    refine wpAny_mono hr (fun _ s₂ h₂ => wpAny_mono h₂ (fun _ s₃ h₃ => wpAny_mono h₃ (fun f s₄ h₄ => ?_) fun _ _ x => x.elim) fun _ _ x => x.elim) fun _ _ x => x.elim
    cases f <;> exact h₄
/-- a for loop by an invariant, what holds behind a turn under a name -/
theorem For_hid {prog : Program} {w : World} {A : Around} {s : Shared} {env : Env} {E : Value → Shared → Prop} {target iter : Expr} {body : List Stmt} {pos : Pos} {Q : Flow → Shared → Prop}
    (h : wpAny (model prog w) A (eval iter env) (fun xv s₁ => wpAny (model prog w) A (pyIter xv) (fun it s₂ => ∃ (I : Nat → Shared → Prop) (n : Nat), I n s₂ ∧ ∀ n s, I n s → ∀ Qt : Flow → Shared → Prop, (∀ s₃ m, m < n → I m s₃ → Qt .next s₃) →
      (∀ s₃, Q .next s₃ → Qt .brk s₃) → (∀ v s₃, Q (.ret v) s₃ → Qt (.ret v) s₃) →
      wpAny (model prog w) A (pyNext it) (fun r s₁ => match r with
        | none => Q .next s₁
        | some v => wpAny (model prog w) A (letOwnedTupleGo target it v) (fun _ s₁' => wpAny (model prog w) A (assign target env v) (fun _ s₂ =>
            wpAny (model prog w) A (execs body env) Qt (fun _ _ => False) s₂) (fun _ _ => False) s₁') (fun _ _ => False) s₁) (fun _ _ => False) s) E s₁) E s)
    (hs : ∀ x, foldedSetIterable iter env x = pure x := by intro _; rfl) :
    wpAny (model prog w) A (exec (.For target iter body [] pos) env) Q E s := by
  refine For_own (wpAny_mono h (fun xv s₁ h₁ => wpAny_mono h₁ (fun it s₂ h₂ => ?_) fun _ _ e => e) fun _ _ e => e) hs
  obtain ⟨I, n, h0, turn⟩ := h₂
  refine ⟨I, n, h0, fun n s hI => ?_⟩
  refine wpAny_mono (turn n s hI (fun f s₃ => match f with
              | .next | .cont => Hold (∃ m, m < n ∧ I m s₃)
              | .brk => Q .next s₃
              | .ret v => Q (.ret v) s₃) (fun s₃ m hm hI => ⟨m, hm, hI⟩) (fun _ q => q) (fun _ _ q => q)) (fun r s₁ hr => ?_) fun _ _ e => e
  cases r with
  | none => exact hr
  | some v => exact hr
/-- the goal under a name, while a fact is taken apart -/
theorem hideP {p : Prop} (h : ∀ P : Prop, (p → P) → P) : p := h p id
theorem News_set1 {G h h' : Heap} {L a : Addr} {o : Obj} {rest : List (Addr × Obj)} (N : News G L h ((a, o) :: rest)) {o' : Obj} (hs : Heap.SameBut a h h') (ho : h'.get? a = some o') (hne : ∀ q ∈ rest, q.1 ≠ a) : News G L h' ((a, o') :: rest) := fun q hq => by
  have z := N _ (.head _)
  rcases List.mem_cons.mp hq with rfl | hq
  · exact ⟨ho, z.2⟩
  · have y := N _ (.tail _ hq)
    exact ⟨(hs.2 _ (hne q hq)).trans y.1, y.2⟩
theorem nameLA {M : Model} {A : Around} {s : Shared} {h₀ : Heap} {E : Value → Shared → Prop} {cn : Str} {cs : Scope} {L a : Addr} {ccd : Value} {cl : List (Str × Addr)} {m : Str → Option Value} {x : Str} {pos : Pos} {v : Value} {Q : Value → Shared → Prop}
    (F : Fr h₀ L s.heap m) (hv : m x = some v) (h : Q v s)
    (hk : cs.kind = .function := by rfl) (hx : (envX cn cs L a ccd cl).kindOf x = some .local := by rfl) (hd : (x == ("__debug__" : Str)) = false := by decide) :
    wpAny M A (eval (.Name x pos) (envX cn cs L a ccd cl)) Q E s := wpAny_Name (wpAny_loadName_local hk hx F.ns hv h) hd
theorem Fr_but {G h h' : Heap} {L a : Addr} {m : Str → Option Value} (F : Fr G L h m) (x : Heap.ExtBut a h h') (hL : a ≠ L) (hn : G.get? a = none) : Fr G L h' m :=
  ⟨let ⟨o, es, ep, e, r⟩ := F.ns; ⟨o, es, ep, x _ _ hL.symm e, r⟩, fun b o e => x b o (fun q => by rw [q, hn] at e; cases e) (F.keep b o e), F.above⟩
theorem News_but {G h h' : Heap} {L a : Addr} {o : Obj} {rest : List (Addr × Obj)} (N : News G L h ((a, o) :: rest)) (x : Heap.ExtBut a h h') (hne : ∀ q ∈ rest, q.1 ≠ a) : News G L h' rest :=
  fun q hq => ⟨x _ _ (hne q hq) (N _ (.tail _ hq)).1, (N _ (.tail _ hq)).2⟩
/-- what is pure in the two tables' state -/
structure TP (c : Addr) (k o : Obj) (c2 : Addr) (k2 o2 : Obj) : Prop where
  hT : TS 32 4 q30 c k o
  hT2 : TS 47 4 q37 c2 k2 o2
  n1 : @Ne Nat c c2
  n2 : @Ne Nat c 37
  n3 : @Ne Nat c2 30
/-- addresses L + k -/
theorem lt_Lk {x L k : Nat} (h : x < L) : x < L + k := Nat.lt_of_lt_of_le h (Nat.le_add_right L k)
theorem Lk_lt {L k y : Nat} (hk : k ≤ 9) (h : L + 9 < y) : L + k < y := Nat.lt_of_le_of_lt (Nat.add_le_add_left hk L) h
theorem Lk_ne {L j k : Nat} (h : j ≠ k) : L + j ≠ L + k := fun e => h (Nat.add_left_cancel e)
/-- a table that stays or is made anew is none of the others -/
theorem up_all {c c' L : Nat} {l : List (Addr × Obj)} (h : @Eq Nat c' c ∨ @LT.lt Nat _ L c' ∧ AllLt c' l) (ho : ∀ q ∈ l, @Ne Nat q.1 c ∧ @Ne Nat q.1 37) : ∀ q ∈ l, @Ne Nat q.1 c' ∧ @Ne Nat q.1 37 := fun q hq =>
  ⟨h.elim (fun e => e ▸ (ho q hq).1) fun p => Nat.ne_of_lt (ktn_ltOf p.2 q hq), (ho q hq).2⟩
theorem up_gt {c c' L x : Nat} {P : Prop} (h : @Eq Nat c' c ∨ @LT.lt Nat _ L c' ∧ P) (hx : x < c) (k : P → x < c') : x < c' := h.elim (fun e => e ▸ hx) fun p => k p.2
end Mine
end
section
open PySem PySem.Spec PySem.Calls PySem.W PyProof.Rows
set_option maxRecDepth 100000
set_option rowWalk.seconds 0
namespace Mine
abbrev tupOf (vs : Array Value) : Obj := { cls := .type "tuple", data := .seq vs }
set_option maxHeartbeats 4000000 in
theorem div_call {w : World} {s : Shared} {A : Around} {base : Heap} {outer : List Env} {p : Program} {loose : List Str} {mean : ExcName → Option Value} {mg mb : Str → Option Value}
    {a b n : Int} {ta tb tn : Tok} {R : Result → Shared → Prop}
    (B : Below A base outer s.heap) (X : (pre.heap_1_39 w.params).In s.heap) (T : Top p loose mean mg mb s.heap)
    (hb : 0 < b) (hbits : (Builtin.Int.intBits a : Int) - n ≤ 4000) (hp : Builtin.divisionGoesByPylong a b = false) (hdep : A.depth + 3 < recursionLimit) (hun : A.units + 100 < cLine)
    (hR : ∀ h' tk t t1 t2, s.heap.StaysIn h' → s.heap.objs.size ≤ h'.objs.size → s.heap.objs.size ≤ t → h'.get? t = some (tupOf #[.int (a.fdiv b) t1, .int (a.fmod b) t2]) → R (.ok (.ret (.ref t))) { s with heap := h', toks := tk }) :
    codeAny (model PySem.Challenge.rw_ta0029_01.row.prog w) A (.call (.ref 21) ⟨[.int a ta, .int b tb, .int n tn], []⟩) R s := by
  revert X; k_fill; intro X
  refine enterG (G := s.heap) [] rfl (by simp) T X (by k_is) (by k_is) (by omega) (BindsTo.of_eq rfl) (locs rfl) ?_ rfl rfl rfl (by decide)
  intro L h₁ hL F N l0
  have K0 := B
  w_top on
  have hLs : s.heap.objs.size ≤ L := Nat.le_of_eq hL.symm
  k_steps
  rename Fr _ _ _ _ => F1
  rename News _ _ _ _ => N1
  refine divmod_N F1 N1 (by omega) ?_ (.inl hp)
  intro h2 F2 N2
  dsimp only
  exact hR _ _ _ _ _ F2.keep (Nat.le_trans hLs (Nat.le_of_lt F2.ns.lt)) (Nat.le_trans hLs (Nat.le_of_lt F1.ns.lt)) (N2.get (.head _))
theorem pyl {a b : Int} (h0 : 0 < b) (h : b < 2 ^ 64) : Builtin.divisionGoesByPylong a b = false := by
  refine PyProof.noPylong_of_log2 ?_
  have : b.natAbs.log2 < 64 := (Nat.log2_lt (by omega)).mpr (by omega)
  omega
/-- the ground of a call that hides nothing -/
theorem ground0 {A : Around} {base G h : Heap} {outer : List Env} {L : Addr} {m : Str → Option Value} {env : Env} (B : Below A base outer G) (F : Fr G L h m) (hf : env.frame = some L) (hk : env.scope.kind = .function) :
    Below (A.deeper env) base (env :: outer) h := pushX B F hf hk
theorem call_div {w : World} {s : Shared} {A A' : Around} {base G : Heap} {outer : List Env} {p : Program} {loose : List Str} {mean : ExcName → Option Value} {mg mb : Str → Option Value} {L : Addr} {m : Str → Option Value} {env : Env} {news : List (Addr × Obj)} {E Q : Value → Shared → Prop}
    {a b n : Int} {ta tb tn : Tok} (B : Below A base outer G) (F : Fr G L s.heap m) (hA : A' = A.deeper env) (hf : env.frame = some L) (hk : env.scope.kind = .function) (N : News G L s.heap news)
    (X : (pre.heap_1_39 w.params).In G) (T : Top p loose mean mg mb G) (hb : 0 < b) (hb1 : b < 2 ^ 64) (hbits : (Builtin.Int.intBits a : Int) - n ≤ 4000) (hdep : A.depth + 10 < recursionLimit) (hun : A.units + 110 < cLine)
    (h : ∀ h' tk t t1 t2, Fr G L h' m → News G L h' ((t, tupOf #[.int (a / b) t1, .int (a % b) t2])   :: news) → @LT.lt Nat _ L t → (∀ q ∈ news, q.1 < t) → Q (.ref t) { s with heap := h', toks := tk }) :
    wpAny (model PySem.Challenge.rw_ta0029_01.row.prog w) A' (call (.ref 21) [.int a ta, .int b tb, .int n tn]) Q E s := by
  subst hA
  refine wpAny_call (div_call (ground0 B F hf hk) (X.keeps F.keep) (T.keeps F.keep) hb hbits (pyl hb hb1) (by rw [depth_deeper]; omega) (by rw [units_deeper]; omega) fun h' tk t t1 t2 ks sz ht et => ?_)
  rw [Int.fdiv_eq_ediv_of_nonneg _ (Int.le_of_lt hb), Int.fmod_eq_emod_of_nonneg _ (Int.le_of_lt hb)] at et
  have fr := fresh_ne F ht
  exact h h' tk t t1 t2 (Fr_on F ks) (News_put fr.1 fr.2 et (News_on N ks)) (Nat.lt_of_lt_of_le F.ns.lt ht) fun q hq => Nat.lt_of_lt_of_le (Heap.lt_size (N q hq).1) ht
end Mine
end
section
open PySem PyProof.Rows
namespace Mine
/-- the long division, from the highest figure on: the rest so far and the quotient's figures, the highest first -/
def dstep (n : Nat) (b : Int) (st : Int × List Int) (d : Int) : Int × List Int := ((st.1 * 2 ^ n + d) % b, st.2 ++ [(st.1 * 2 ^ n + d) / b])
def dst (n : Nat) (b : Int) : List Int → Int × List Int
  | [] => (0, [])
  | d :: r => dstep n b (dst n b r) d
theorem dst_drop {n : Nat} {b : Int} {ds : List Int} {i : Nat} (h : i < ds.length) : dst n b (ds.drop i) = dstep n b (dst n b (ds.drop (i + 1))) (ds.getD i 0) := by
  rw [List.drop_eq_getElem_cons h, dst, List.getD_eq_getElem?_getD, List.getElem?_eq_getElem h]; rfl
theorem dst_ok {n : Nat} {b : Int} (hb : 0 < b) : ∀ ds : List Int, (∀ d ∈ ds, 0 ≤ d ∧ d < 2 ^ n) →
    0 ≤ (dst n b ds).1 ∧ (dst n b ds).1 < b ∧ (∀ q ∈ (dst n b ds).2, 0 ≤ q ∧ q < 2 ^ n) ∧ (dst n b ds).2.length = ds.length ∧ dv n (dst n b ds).2.reverse * b + (dst n b ds).1 = dv n ds
  | [], _ => ⟨Int.le_refl _, hb, fun _ h => (nomatch h), rfl, by simp [dst, dv]⟩
  | d :: r, h => by
    obtain ⟨h1, h2, h3, h4, h5⟩ := dst_ok hb r fun x hx => h x (.tail _ hx)
    obtain ⟨d0, d1⟩ := h d (.head _)
    rw [dst, dstep]
    generalize hr : (dst n b r).1 = r' at *
    generalize (dst n b r).2 = qs at *
    have hp : (0 : Int) < 2 ^ n := Int.pow_pos (by decide)
    have hx0 : 0 ≤ r' * 2 ^ n := Int.mul_nonneg h1 (Int.le_of_lt hp)
    have hx1 : r' * 2 ^ n + d < 2 ^ n * b := by
      have e1 : (r' + 1) * 2 ^ n ≤ b * 2 ^ n := Int.mul_le_mul_of_nonneg_right (by omega) (Int.le_of_lt hp)
      rw [Int.add_mul, Int.one_mul, Int.mul_comm b] at e1
      omega
    refine ⟨Int.emod_nonneg _ (by omega), Int.emod_lt_of_pos _ hb, ?_, by simp [h4], ?_⟩
    · intro q hq
      rcases List.mem_append.mp hq with hq | hq
      · exact h3 q hq
      · rw [List.mem_singleton.mp hq]
        exact ⟨Int.ediv_nonneg (by omega) (by omega), Int.ediv_lt_of_lt_mul hb hx1⟩
    · rw [List.reverse_append]
      show dv n ((r' * 2 ^ n + d) / b :: qs.reverse) * b + (r' * 2 ^ n + d) % b = dv n (d :: r)
      rw [dv, dv, ← h5, Int.add_mul, Int.mul_add, Int.mul_assoc]
      have := Int.emod_add_mul_ediv (r' * 2 ^ n + d) b
      rw [Int.mul_comm b] at this
      rw [Int.mul_comm r'] at this ⊢
      omega
theorem dst_div {n : Nat} {b a : Int} (hb : 0 < b) {ds : List Int} (h : ∀ d ∈ ds, 0 ≤ d ∧ d < 2 ^ n) (e : dv n ds = a) : dv n (dst n b ds).2.reverse = a / b ∧ (dst n b ds).1 = a % b := by
  obtain ⟨h1, h2, _, _, h5⟩ := dst_ok hb ds h
  rw [e, Int.mul_comm] at h5
  have hq : a / b = dv n (dst n b ds).2.reverse := by
    rw [← h5, Int.add_comm, Int.add_mul_ediv_left _ _ (by omega), Int.ediv_eq_zero_of_lt h1 h2, Int.zero_add]
  refine ⟨hq.symm, ?_⟩
  have := Int.emod_add_mul_ediv a b
  rw [hq] at this
  omega
end Mine
end
section
open PySem PySem.Spec PySem.Calls PySem.W PyProof.Rows
set_option maxRecDepth 100000
set_option rowWalk.seconds 0
namespace Mine
local macro_rules | `(tactic| walk_at "FnAt") => `(tactic| (k_dflt (exact FnAt.of (by k_asm) (by k_mem))))
local macro_rules | `(tactic| walk_at "call ref") => `(tactic| ((with_reducible show wpAny _ _ (call (Value.ref 35) _) _ _ _); refine hold_of ?_))
local macro_rules | `(tactic| walk_at "call ref") => `(tactic| ((with_reducible show wpAny _ _ (call (Value.ref 42) _) _ _ _); refine hold_of ?_))

local macro_rules | `(tactic| walk_at "exec For") => `(tactic| (refine hold_of ?_))
local macro_rules | `(tactic| walk_at "exec For Name Call cons nil") => `(tactic| (refine hold_of ?_))
local macro_rules | `(tactic| walk_at "exec For Name Name cons nil") => `(tactic| (refine hold_of ?_))
local macro_rules | `(tactic| walk_at "pyIter ref") => `(tactic| (refine hold_of ?_))
local macro_rules | `(tactic| walk_at "pyIter") => `(tactic| (refine hold_of ?_))
theorem ints_get : ∀ {vs : List Value} {ds : List Int} {i : Nat}, IntsAre vs ds → i < ds.length → ∃ t, vs[i]? = some (.int (ds.getD i 0) t)
  | _, _, 0, .cons x t _, _ => ⟨t, rfl⟩
  | _, _, i + 1, .cons x t h, hi => ints_get (i := i) h (Nat.lt_of_succ_lt_succ hi)
local macro_rules | `(tactic| walk_at "eval Name") => `(tactic| (k_here; k_dflt (refine' nameLA ?F ?v ?_; (case F => k_asm); (case v => first | exact rfl | assumption); k_whole)))
theorem getD_mem {ds : List Int} {i : Nat} (h : i < ds.length) : ds.getD i 0 ∈ ds := by
  rw [List.getD_eq_getElem?_getD, List.getElem?_eq_getElem h]; exact List.getElem_mem h
theorem x_bits {n : Nat} {b r d : Int} (hn : n ≤ 64) (r0 : 0 ≤ r) (r1 : r < b) (hb : b < 2 ^ 64) (d0 : 0 ≤ d) (d1 : d < 2 ^ n) : Builtin.Int.intBits (r * 2 ^ n + d) ≤ 129 := by
  have hle : (2 : Int) ^ n ≤ 2 ^ 64 := by
    have := Nat.pow_le_pow_right (show 0 < 2 by decide) hn
    exact_mod_cast this
  have h1 : r * 2 ^ n ≤ r * 2 ^ 64 := Int.mul_le_mul_of_nonneg_left hle r0
  have h0 : 0 ≤ r * 2 ^ n := Int.mul_nonneg r0 (Int.le_of_lt (Int.pow_pos (by decide)))
  refine intBits_le ?_
  omega
theorem ints_app : ∀ {vs : List Value} {ns : List Int}, IntsAre vs ns → ∀ (y : Int) (u : Tok), IntsAre (vs ++ [.int y u]) (ns ++ [y])
  | _, _, .nil, y, u => .cons y u .nil
  | _, _, .cons i t h, y, u => .cons i t (ints_app h y u)
theorem le64 {n : Nat} (hn : n ≤ 64) {d : Int} (h : 0 ≤ d ∧ d < 2 ^ n) : 0 ≤ d ∧ d < 2 ^ 64 := by
  have hle : (2 : Int) ^ n ≤ 2 ^ 64 := by
    have := Nat.pow_le_pow_right (show 0 < 2 by decide) hn
    exact_mod_cast this
  exact ⟨h.1, by omega⟩
theorem bits_pos {b : Int} (hb : 0 < b) : 0 < Builtin.Int.intBits b := by
  unfold Builtin.Int.intBits
  rw [if_neg (by simp; omega)]; omega
theorem bits_le {b : Int} (hb : 0 < b) (hb1 : b < 2 ^ 64) : Builtin.Int.intBits b ≤ 64 := intBits_le_64 (by omega) hb1

set_option maxHeartbeats 4000000 in
theorem dmp_call {w : World} {s : Shared} {A : Around} {base G : Heap} {outer : List Env} {p : Program} {loose : List Str} {mean : ExcName → Option Value} {mg mb : Str → Option Value}
    {c : Addr} {k o : Obj} {c2 : Addr} {k2 o2 : Obj} {a b : Int} {ta tb : Tok} {R : Result → Shared → Prop}
    (hG : G = hideAll s.heap [c, 30, c2, 37]) (hc : s.heap.get? c = some k) (ho : s.heap.get? 30 = some o) (hc2 : s.heap.get? c2 = some k2) (ho2 : s.heap.get? 37 = some o2) (hTP : TP c k o c2 k2 o2)
    (C : CodeHd G 34 30) (C2 : CodeHd G 41 37)
    (hh : A.handled = none) (B : Below A base outer G) (X : (pre.heap_1_39 w.params).In G) (T : Top p loose mean mg mb G)
    (ha : 0 ≤ a) (hb : 0 < b) (hb1 : b < 2 ^ 64) (hlen : dlen (Builtin.Int.intBits b) a ≤ 200)
    (hdep : A.depth + 400 < recursionLimit) (hun : A.units + 1500 < cLine)
    (hR : ∀ h' tk t t1 t2 c' k' o' c2' k2' o2', G.StaysIn h' → G.objs.size ≤ h'.objs.size → @LE.le Nat _ G.objs.size t → h'.get? t = some (tupOf #[.int (a / b) t1, .int (a % b) t2]) → h'.get? c' = some k' → h'.get? 30 = some o' → h'.get? c2' = some k2' → h'.get? 37 = some o2' →
      TP c' k' o' c2' k2' o2' → (@Eq Nat c' c ∨ @LE.le Nat _ G.objs.size c') → (@Eq Nat c2' c2 ∨ @LE.le Nat _ G.objs.size c2') → @Ne Nat t c' → @Ne Nat t c2' → R (.ok (.ret (.ref t))) { s with heap := h', toks := tk }) :
    codeAny (model PySem.Challenge.rw_ta0029_01.row.prog w) A (.call (.ref 49) ⟨[.int a ta, .int b tb], []⟩) R s := by
  obtain ⟨ah, dp, fr, gd, un⟩ := A
  cases hh
  obtain ⟨hT, hT2, n1, n2, n3⟩ := hTP
  dsimp only at hdep hun
  revert X; k_fill; intro X
  refine enterG [(c, k), (30, o), (c2, k2), (37, o2)] hG (by simp [hc, ho, hc2, ho2]) T X (by k_is) (by k_is) (by show dp < _; omega) (BindsTo.of_eq rfl) (locs rfl) ?_ rfl rfl rfl (by decide)
  intro L h₁ hL F N l0
  have K0 := B
  k_lt l0
  w_top on
  have hLs : G.objs.size ≤ L := by rw [hG, hideAll_size, hL]; exact Nat.le_refl _
  k_steps
  show wpAny _ _ _ _ _ _
  rename Fr _ _ _ _ => F1
  rename News _ _ _ _ => N1
  have hn : 0 < Builtin.Int.intBits b := bits_pos hb
  have hn1 : Builtin.Int.intBits b ≤ 64 := bits_le hb hb1
  refine call_i2d (own := []) (rest := [(c2, k2), (37, o2)]) B F1 rfl rfl rfl News_nil N1 hT (by simp [n1.symm, n3, n2.symm]) C X T ha hn hn1 hlen (by show dp + _ < _; omega) (by show un + _ < _; omega) ?_
  intro h2 tk2 D vs e c' k' o' F2 N2 i2 hTF hD hcc hDc
  clear F1 N1
  dsimp only [List.nil_append, List.cons_append] at N2
  simp only [AllLt, List.cons_append, List.nil_append, and_true] at hcc
  dsimp only
  k_steps
  show wpAny _ _ _ _ _ _
  refine For_hid ?_
  k_steps
  show wpAny _ _ _ _ _ _
  rename Fr _ _ _ _ => F3
  rename News _ _ _ _ => N3
  generalize hds : dg (Builtin.Int.intBits b) (dlen (Builtin.Int.intBits b) a) a = ds at i2
  have hdv : dv (Builtin.Int.intBits b) ds = a := by rw [← hds]; exact dv_dg _ _ _ ha (dlen_lt hn ha)
  have hdm : ∀ d ∈ ds, 0 ≤ d ∧ d < 2 ^ (Builtin.Int.intBits b) := by rw [← hds]; exact fun d => dg_mem _ _ _ d
  have hdl : ds.length ≤ 200 := by rw [← hds, dg_length]; exact hlen
  have hbb : b < 2 ^ Builtin.Int.intBits b := lt_two_bits (Int.le_of_lt hb)
  generalize Builtin.Int.intBits b = n at *
  have hvl : vs.length = ds.length := i2.length
  rename_i Qd _ l5 _ It _ l6
  refine wpAny_pyIter_revIter ⟨_, N3.get (.head _), rfl, rfl⟩ ?_
  refine ⟨fun j s' => ∀ P : Shared → Prop, (∀ h tk m' oI ws ee tr tn, j ≤ ds.length → Fr G L h m' → News G L h [(It, oI), (Qd, listOf ws.toArray ee), (D, listOf vs.toArray e), (c', k'), (30, o'), (c2, k2), (37, o2)] →
    oI.cls = .type "list_reverseiterator" → oI.data = .fields #[.ref D, rawInt ((j : Int) - 1)] → IntsAre ws (dst n b (ds.drop j)).2 → m' (PySem.Str.ofString "r") = some (.int (dst n b (ds.drop j)).1 tr) → m' (PySem.Str.ofString "n") = some (.int n tn) → m' (PySem.Str.ofString "b") = some (.int b tb) →
    m' (PySem.Str.ofString "q_digits") = some (.ref Qd) → P { s with heap := h, toks := tk }) → P s', ds.length, ?_, ?_⟩
  · refine' fun P hP => hP _ _ _ _ [] 0 _ _ (Nat.le_refl _) F3 N3 rfl ?k1 ?k2 ?k3 ?k4 ?k5 ?k6
    case k1 => rw [← hvl]; rfl
    case k2 => rw [List.drop_length]; exact .nil
    case k3 => rw [List.drop_length]; exact rfl
    case k4 => exact rfl
    case k5 => exact rfl
    case k6 => exact rfl
  · clear F3 N3
    intro j s' hI0 Qa hQa _ _
    refine hI0 _ fun h tk m' oI ws ee tr tn hj F4 N4 oc od iw vr vn vb vq => ?_
    clear hI0
    cases j with
    | zero =>
      refine wpAny_pyNext_rev_end rfl ⟨_, N4.get (.head _), oc, od⟩ fun h5 hx => ?_
      have F5 := Fr_but F4 hx (N4 _ (.head _)).2.1 (N4 _ (.head _)).2.2
      have N5 := News_but N4 hx (by k_all)
      clear F4 N4
      dsimp only
      k_steps
      obtain ⟨_, _, hq, hqn, _⟩ := dst_ok hb ds hdm
      rw [List.drop_zero] at iw vr
      have hws : ws.length ≤ 200 := by rw [iw.length, hqn]; omega
      refine reverse_head_ints F5 N5 (by k_all) iw ?_ (by rw [hqn]; exact Nat.le_trans hdl (by decide))
      intro h6 F6 N6 i6
      rw [List.toList_toArray] at N6
      clear F5 N5
      dsimp only
      k_steps
      show wpAny _ _ _ _ _ _
      rename Fr _ _ _ _ => F7
      rename News _ _ _ _ => N7
      refine call_d2i (own := [(Qd, _), (D, _), (c', k'), (30, o')]) (rest := []) B F7 rfl rfl rfl (News_take 4 N7) (News_drop 4 N7) hT2 (by intro q hq; simp only [List.append_nil, List.mem_cons, List.not_mem_nil, or_false] at hq; rcases hq with rfl | rfl | rfl | rfl <;> exact ⟨neN (by omega), neN (by omega)⟩) C2 X T (.head _) i6 hn1 (by rw [List.length_reverse, hqn]; exact hdl) (fun d hd => le64 hn1 (hq d (List.mem_reverse.mp hd))) (by show dp + _ < _; omega) (by show un + _ < _; omega) ?_
      intro h8 tk8 t8 c3 k3 o3 F8 N8 hTF2 hcc2
      dsimp only [List.cons_append, List.nil_append] at N8
      simp only [AllLt, List.cons_append, List.nil_append, and_true] at hcc2
      clear F7 N7
      dsimp only
      k_steps
      rename Fr _ _ _ _ => F9
      rename News _ _ _ _ => N9
      obtain ⟨e1, e2⟩ := dst_div hb hdm hdv
      rw [e1, e2] at N9
      exact hR _ _ _ _ _ c' k' o' c3 k3 o3 F9.keep (Nat.le_trans hLs (Nat.le_of_lt F9.ns.lt)) (by omega) (N9.get (.head _)) (N9.get (.tail _ (.tail _ (.tail _ (.head _))))) (N9.get (.tail _ (.tail _ (.tail _ (.tail _ (.head _)))))) (N9.get (.tail _ (.tail _ (.tail _ (.tail _ (.tail _ (.head _))))))) (N9.get (.tail _ (.tail _ (.tail _ (.tail _ (.tail _ (.tail _ (.head _)))))))) ⟨.inr hTF, .inr hTF2, by omega, by omega, by omega⟩ (by omega) (by omega) (by omega) (by omega)
    | succ j =>
      have hx : vs.toArray[j]? = vs[j]? := by simp
      rw [show (((j + 1 : Nat) : Int) - 1) = (j : Int) by omega] at od
      obtain ⟨t0, ht0⟩ := ints_get i2 (i := j) (by omega)
      refine wpAny_pyNext_rev_item (i := j) ⟨_, N4.get (.head _), oc, od⟩ (PySem.IsL.isList (N4.get (.tail _ (.tail _ (.head _))))) (hx.trans ht0) fun h5 hit hsb => ?_
      obtain ⟨oJ, oe, oc', od'⟩ := hit
      have z := N4 _ (.head _)
      have F5 := F4.change hsb z.2.1 z.2.2
      have N5 := News_set1 N4 hsb oe (by k_all)
      clear F4 N4 z
      dsimp only
      refine wpAny_of_eq (a := ()) rfl ?_
      obtain ⟨r0, r1, hq, hqn, _⟩ := dst_ok hb (ds.drop (j + 1)) fun d hd => hdm d (List.mem_of_mem_drop hd)
      have ed := dst_drop (n := n) (b := b) (show j < ds.length by omega)
      have hdj : 0 ≤ ds.getD j 0 ∧ ds.getD j 0 < 2 ^ n := hdm _ (getD_mem (by omega))
      have hx3 := x_bits hn1 r0 r1 hb1 hdj.1 hdj.2
      have hr3 := intBits_le_64 (k := (dst n b (ds.drop (j + 1))).1) (by omega) (by omega)
      k_steps
      rename Fr _ _ _ _ => F6
      rename News _ _ _ _ => N6
      refine call_div B F6 rfl rfl rfl N6 X T hb hb1 (by simp only [Int.toNat_natCast]; omega) (by show dp + _ < _; omega) (by show un + _ < _; omega) ?_
      intro h7 tk7 t7 u1 u2 F7 N7 _ l7
      k_lt l7
      clear F6 N6
      dsimp only
      k_steps
      rename Fr _ _ _ _ => F8
      rename News _ _ _ _ => N8
      have hws : ws.length ≤ 200 := by rw [iw.length, hqn, List.length_drop]; omega
      k_dflt (refine' append_K F8 N8 ?U ?_ ?z)
      case U => k_upd
      case z => rw [List.size_toArray]; exact Nat.le_trans hws (by decide)
      intro h9 F9 N9
      clear F8 N8
      dsimp only
      k_steps
      rw [List.push_toArray] at N9
      rw [Int.toNat_natCast] at F9 N9
      refine' hQa _ j (Nat.lt_succ_self _) fun P hP => hP _ _ _ oJ (ws ++ [_]) _ u2 tn (by omega) F9 (News_drop 1 N9) oc' od' ?k1 ?k2 vn vb vq
      case k1 => rw [ed]; exact ints_app iw _ _
      case k2 => rw [ed]; exact rfl
end Mine
end
section
open PySem PySem.Spec PySem.Calls PySem.W PyProof.Rows
set_option maxRecDepth 100000
set_option rowWalk.seconds 0
namespace Mine
/-- what a def of two ints answers: quotient and rest -/
def DivC (w : World) (f : Addr) (P : Int → Int → Prop) (dd uu : Nat) : Prop :=
  ∀ (s : Shared) (A : Around) (base G : Heap) (outer : List Env) (p : Program) (loose : List Str) (mean : ExcName → Option Value) (mg mb : Str → Option Value)
    (c : Addr) (k o : Obj) (c2 : Addr) (k2 o2 : Obj) (a b : Int) (ta tb : Tok) (R : Result → Shared → Prop),
    G = hideAll s.heap [c, 30, c2, 37] → s.heap.get? c = some k → s.heap.get? 30 = some o → s.heap.get? c2 = some k2 → s.heap.get? 37 = some o2 → TP c k o c2 k2 o2 → CodeHd G 34 30 → CodeHd G 41 37 →
    A.handled = none → Below A base outer G → (pre.heap_1_39 w.params).In G → Top p loose mean mg mb G → P a b → A.depth + dd < recursionLimit → A.units + uu < cLine →
    (∀ h' tk t t1 t2 c' k' o' c2' k2' o2', G.StaysIn h' → G.objs.size ≤ h'.objs.size → @LE.le Nat _ G.objs.size t → h'.get? t = some (tupOf #[.int (a / b) t1, .int (a % b) t2]) → h'.get? c' = some k' → h'.get? 30 = some o' → h'.get? c2' = some k2' → h'.get? 37 = some o2' →
      TP c' k' o' c2' k2' o2' → (@Eq Nat c' c ∨ @LE.le Nat _ G.objs.size c') → (@Eq Nat c2' c2 ∨ @LE.le Nat _ G.objs.size c2') → @Ne Nat t c' → @Ne Nat t c2' → R (.ok (.ret (.ref t))) { s with heap := h', toks := tk }) →
    codeAny (model PySem.Challenge.rw_ta0029_01.row.prog w) A (.call (.ref f) ⟨[.int a ta, .int b tb], []⟩) R s
def PosDiv (a b : Int) : Prop := 0 ≤ a ∧ 0 < b ∧ b < 2 ^ 64 ∧ dlen (Builtin.Int.intBits b) a ≤ 200
theorem dmp_c (w : World) : DivC w 49 PosDiv 400 1500 := fun _ _ _ _ _ _ _ _ _ _ _ _ _ _ _ _ _ _ _ _ _ hG hc ho hc2 ho2 hTP C C2 hh B X T hP hdep hun hR =>
  dmp_call hG hc ho hc2 ho2 hTP C C2 hh B X T hP.1 hP.2.1 hP.2.2.1 hP.2.2.2 hdep hun hR
section
variable {w : World} {s : Shared} {A A' : Around} {base G : Heap} {outer : List Env} {p : Program} {loose : List Str} {mean : ExcName → Option Value} {mg mb : Str → Option Value} {L : Addr} {m : Str → Option Value} {env : Env}
  {c : Addr} {k o : Obj} {c2 : Addr} {k2 o2 : Obj} {own : List (Addr × Obj)} {E : Value → Shared → Prop} {Q : Value → Shared → Prop} {P : Int → Int → Prop} {f : Addr} {dd uu : Nat}
theorem call_dm (H : DivC w f P dd uu) {a b : Int} {ta tb : Tok} (B : Below A base outer G) (F : Fr G L s.heap m) (hA : A' = A.deeper env) (hf : env.frame = some L) (hk : env.scope.kind = .function) (hh : A.handled = none) (NO : News G L s.heap own) (NT : News G L s.heap [(c, k), (30, o), (c2, k2), (37, o2)])
    (hTP : TP c k o c2 k2 o2) (ho : ∀ q ∈ own, @Ne Nat q.1 c ∧ @Ne Nat q.1 30 ∧ @Ne Nat q.1 c2 ∧ @Ne Nat q.1 37) (C : CodeHd G 34 30) (C2 : CodeHd G 41 37) (X : (pre.heap_1_39 w.params).In G) (T : Top p loose mean mg mb G)
    (hP : P a b) (hdep : A.depth + (dd + 1) < recursionLimit) (hun : A.units + (uu + 3) < cLine)
    (h : ∀ h' tk t t1 t2 c' k' o' c2' k2' o2', Fr G L h' m → News G L h' ((t, tupOf #[.int (a / b) t1, .int (a % b) t2]) :: own ++ [(c', k'), (30, o'), (c2', k2'), (37, o2')]) → TP c' k' o' c2' k2' o2' → @LT.lt Nat _ L t → AllLt t own →
      (@Eq Nat c' c ∨ @LT.lt Nat _ L c' ∧ AllLt c' own) → (@Eq Nat c2' c2 ∨ @LT.lt Nat _ L c2' ∧ AllLt c2' own) → @Ne Nat t c' → @Ne Nat t c2' → Q (.ref t) { s with heap := h', toks := tk }) :
    wpAny (model PySem.Challenge.rw_ta0029_01.row.prog w) A' (call (.ref f) [.int a ta, .int b tb]) Q E s := by
  subst hA
  have z1 := NT (c, k) (by simp)
  have z2 := NT (30, o) (by simp)
  have z3 := NT (c2, k2) (by simp)
  have z4 := NT (37, o2) (by simp)
  have hl : ∀ b ∈ [c, 30, c2, 37], G.get? b = none := by
    intro b hb
    simp only [List.mem_cons, List.not_mem_nil, or_false] at hb
    rcases hb with rfl | rfl | rfl | rfl
    · exact z1.2.2
    · exact z2.2.2
    · exact z3.2.2
    · exact z4.2.2
  have hL : L ∉ [c, 30, c2, 37] := by
    intro hb
    simp only [List.mem_cons, List.not_mem_nil, or_false] at hb
    rcases hb with e | e | e | e
    · exact z1.2.1 e.symm
    · exact z2.2.1 e.symm
    · exact z3.2.1 e.symm
    · exact z4.2.1 e.symm
  have g := groundT B F _ NT hf hk
  have st := stays_hide F.keep hl
  have hsz : (hideAll s.heap [c, 30, c2, 37]).objs.size = s.heap.objs.size := hideAll_size _ _
  refine wpAny_call (H s (A.deeper env) base _ (env :: outer) p loose mean mg mb c k o c2 k2 o2 a b ta tb _ rfl z1.1 z2.1 z3.1 z4.1 hTP (C.keeps st) (C2.keeps st) hh g.2.1 (X.keeps st) (T.keeps st) hP (by rw [depth_deeper]; omega) (by rw [units_deeper]; omega) ?_)
  intro h' tk t t1 t2 c' k' o' c2' k2' o2' ks sz ht et ec eo ec2 eo2 hTP' hcc hcc2 htc htc2
  rw [hsz] at hcc hcc2 ht
  have F' := Fr_back hl F hL ks
  have hoo : ∀ q ∈ own, q.1 ∉ [c, 30, c2, 37] := by
    intro q hq hb
    have := ho q hq
    simp only [List.mem_cons, List.not_mem_nil, or_false] at hb
    rcases hb with e | e | e | e
    · exact this.1 e
    · exact this.2.1 e
    · exact this.2.2.1 e
    · exact this.2.2.2 e
  have ft := fresh_ne F ht
  have fc : c' ≠ L ∧ G.get? c' = none := hcc.elim (fun e => (show c' = c from e) ▸ z1.2) (fresh_ne F)
  have fc2 : c2' ≠ L ∧ G.get? c2' = none := hcc2.elim (fun e => (show c2' = c2 from e) ▸ z3.2) (fresh_ne F)
  have big : ∀ {x : Addr}, @LE.le Nat _ s.heap.objs.size x → @LT.lt Nat _ L x ∧ AllLt x own := fun hx => ⟨Nat.lt_of_lt_of_le F.ns.lt hx, allLt_of fun q hq => Nat.lt_of_lt_of_le (Heap.lt_size (NO q hq).1) hx⟩
  refine h h' tk t t1 t2 c' k' o' c2' k2' o2' F' ?_ hTP' (big ht).1 (big ht).2 (hcc.imp id big) (hcc2.imp id big) htc htc2
  exact News_put ft.1 ft.2 et (News_app (News_back NO hoo ks) (News_put fc.1 fc.2 ec (News_put z2.2.1 z2.2.2 eo (News_put fc2.1 fc2.2 ec2 (News_put z4.2.1 z4.2.2 eo2 News_nil)))))
end
end Mine
end
section
open PySem PySem.Spec PySem.Calls PySem.W PyProof.Rows
set_option maxRecDepth 100000
set_option rowWalk.seconds 0
namespace Mine
local macro_rules | `(tactic| walk_at "call ref") => `(tactic| ((with_reducible show wpAny _ _ (call (Value.ref 49) _) _ _ _); refine hold_of ?_))
local macro_rules | `(tactic| walk_at "call ref") => `(tactic| ((with_reducible show wpAny _ _ (call (Value.ref 56) _) _ _ _); refine hold_of ?_))

set_option maxHeartbeats 4000000 in
theorem idm_c0 (w : World) : DivC w 56 PosDiv 402 1510 := by
  intro s A base G outer p loose mean mg mb c k o c2 k2 o2 a b ta tb R hG hc ho hc2 ho2 hTP C C2 hh B X T hP hdep hun hR
  obtain ⟨ah, dp, fr, gd, un⟩ := A
  cases hh
  dsimp only at hdep hun
  obtain ⟨ha, hb, hb1, hlen⟩ := id hP
  revert X; k_fill; intro X
  refine enterG [(c, k), (30, o), (c2, k2), (37, o2)] hG (by simp [hc, ho, hc2, ho2]) T X (by k_is) (by k_is) (by show dp < _; omega) (BindsTo.of_eq rfl) (locs rfl) ?_ rfl rfl rfl (by decide)
  intro L h₁ hL F N l0
  have K0 := B
  k_lt l0
  w_top on
  have hLs : G.objs.size ≤ L := by rw [hG, hideAll_size, hL]; exact Nat.le_refl _
  k_steps
  · show wpAny _ _ _ _ _ _
    rename Fr _ _ _ _ => F1
    rename News _ _ _ _ => N1
    refine call_dm (own := []) (dmp_c w) B F1 rfl rfl rfl rfl News_nil N1 hTP (fun _ h => nomatch h) C C2 X T hP (by show dp + _ < _; omega) (by show un + _ < _; omega) ?_
    intro h2 tk2 t t1 t2 c' k' o' c2' k2' o2' F2 N2 hTP' ht _ hcc hcc2 htc htc2
    dsimp only [List.nil_append, List.cons_append] at N2
    dsimp only
    exact hR _ _ _ _ _ c' k' o' c2' k2' o2' F2.keep (Nat.le_trans hLs (Nat.le_of_lt F2.ns.lt)) (by omega) (N2.get (.head _)) (N2.get (.tail _ (.head _))) (N2.get (.tail _ (.tail _ (.head _)))) (N2.get (.tail _ (.tail _ (.tail _ (.head _))))) (N2.get (.tail _ (.tail _ (.tail _ (.tail _ (.head _)))))) hTP' (by omega) (by omega) htc htc2

/-- for a whole number of either sign -/
def AnyDiv (a b : Int) : Prop := 0 < b ∧ b < 2 ^ 64 ∧ dlen (Builtin.Int.intBits b) a ≤ 200 ∧ dlen (Builtin.Int.intBits b) (-a - 1) ≤ 200
theorem bitNot_eq (a : Int) : Builtin.bitNot a = -a - 1 := by unfold Builtin.bitNot; omega
theorem neg_div {a b : Int} (hb : 0 < b) : -((-a - 1) / b) - 1 = a / b ∧ b + (-((-a - 1) % b) - 1) = a % b := by
  have h1 := Int.emod_add_mul_ediv (-a - 1) b
  have h2 := Int.emod_nonneg (-a - 1) (show b ≠ 0 by omega)
  have h3 := Int.emod_lt_of_pos (-a - 1) hb
  generalize (-a - 1) / b = q at *
  generalize (-a - 1) % b = r at *
  have e : a = (b - 1 - r) + b * (-q - 1) := by rw [Int.mul_sub, Int.mul_neg, Int.mul_one]; omega
  have e1 : a / b = -q - 1 := by rw [e, Int.add_mul_ediv_left _ _ (by omega), Int.ediv_eq_zero_of_lt (by omega) (by omega), Int.zero_add]
  have e2 : a % b = b - 1 - r := by rw [e, Int.add_mul_emod_self_left, Int.emod_eq_of_lt (by omega) (by omega)]
  omega
set_option maxHeartbeats 4000000 in
theorem idm_c (w : World) : DivC w 56 AnyDiv 404 1520 := by
  intro s A base G outer p loose mean mg mb c k o c2 k2 o2 a b ta tb R hG hc ho hc2 ho2 hTP C C2 hh B X T hP hdep hun hR
  by_cases ha : 0 ≤ a
  · exact idm_c0 w s A base G outer p loose mean mg mb c k o c2 k2 o2 a b ta tb R hG hc ho hc2 ho2 hTP C C2 hh B X T ⟨ha, hP.1, hP.2.1, hP.2.2.1⟩ (by omega) (by omega) hR
  obtain ⟨ah, dp, fr, gd, un⟩ := A
  cases hh
  dsimp only at hdep hun
  obtain ⟨hb, hb1, _, hlen⟩ := id hP
  revert X; k_fill; intro X
  refine enterG [(c, k), (30, o), (c2, k2), (37, o2)] hG (by simp [hc, ho, hc2, ho2]) T X (by k_is) (by k_is) (by show dp < _; omega) (BindsTo.of_eq rfl) (locs rfl) ?_ rfl rfl rfl (by decide)
  intro L h₁ hL F N l0
  have K0 := B
  k_lt l0
  w_top on
  have hLs : G.objs.size ≤ L := by rw [hG, hideAll_size, hL]; exact Nat.le_refl _
  k_steps
  · show wpAny _ _ _ _ _ _
    rename Fr _ _ _ _ => F1
    rename News _ _ _ _ => N1
    rw [bitNot_eq]
    refine call_dm (own := []) (idm_c0 w) B F1 rfl rfl rfl rfl News_nil N1 hTP (fun _ h => nomatch h) C C2 X T ⟨by omega, hb, hb1, hlen⟩ (by show dp + _ < _; omega) (by show un + _ < _; omega) ?_
    intro h2 tk2 t t1 t2 c' k' o' c2' k2' o2' F2 N2 hTP' ht _ hcc hcc2 htc htc2
    dsimp only [List.nil_append, List.cons_append] at N2
    simp only [AllLt, and_true] at hcc hcc2
    dsimp only
    clear F1 N1
    k_steps
    rename Fr _ _ _ _ => F3
    rename News _ _ _ _ => N3
    simp only [bitNot_eq, (neg_div hb).1, (neg_div hb).2] at N3
    exact hR _ _ _ _ _ c' k' o' c2' k2' o2' F3.keep (Nat.le_trans hLs (Nat.le_of_lt F3.ns.lt)) (by omega) (N3.get (.head _)) (N3.get (.tail _ (.tail _ (.head _)))) (N3.get (.tail _ (.tail _ (.tail _ (.head _))))) (N3.get (.tail _ (.tail _ (.tail _ (.tail _ (.head _)))))) (N3.get (.tail _ (.tail _ (.tail _ (.tail _ (.tail _ (.head _))))))) hTP' (by omega) (by omega) (by omega) (by omega)
end Mine
end
section
open PySem PySem.Spec PySem.Calls PySem.W PyProof.Rows
set_option maxRecDepth 100000
set_option rowWalk.seconds 0
namespace Mine
def forBody : Stmt → List Stmt
  | .For _ _ b _ _ => b
  | _ => []
/-- the key of the search in _law_secret -/
def lamE : PySem.Expr := match (forBody (stm2 19 1)).getD 5 (.Pass ⟨0,0,0,0⟩) with
  | .Assign _ (.Call _ _ (k :: _) _) _ => k.value
  | _ => .Name "x" ⟨0,0,0,0⟩
/-- f squares an int, wherever it is called -/
def SqC (prog : Program) (w : World) (h : Heap) (f : Addr) : Prop :=
  ∀ (s : Shared) (A : Around) (i : Int) (t : Tok) (R : Result → Shared → Prop), h.StaysIn s.heap → A.depth < recursionLimit → i.natAbs < 2 ^ 63 →
    (∀ h' tk t', s.heap.StaysIn h' → s.heap.objs.size ≤ h'.objs.size → R (.ok (.ret (.int (i * i) t'))) { s with heap := h', toks := tk }) →
    codeAny (model prog w) A (.call (.ref f) ⟨[.int i t], []⟩) R s
theorem SqC.on {prog : Program} {w : World} {h h' : Heap} {f : Addr} (x : SqC prog w h f) (k : h.StaysIn h') : SqC prog w h' f := fun s A i t R ks => x s A i t R (stays_trans k ks)
set_option maxHeartbeats 4000000 in
theorem lam_call {w : World} {params : Arguments} {body : PySem.Expr} {scope : Scope} {pos : Pos} (hK : lamE = .Lambda params body scope pos)
    {h : Heap} {name qual : Str} {cl : List (Str × Addr)} {pm ctv : Value} {c' f : Addr} {p : Program} {loose : List Str} {mean : ExcName → Option Value} {mg mb : Str → Option Value}
    (hf : h.get? f = some (kla_obj name qual params body scope cl pm c' ctv)) (hcd : h.CodeRec (.ref c') qual) (T : Top p loose mean mg mb h) (X : (pre.heap_1_39 w.params).In h) :
    SqC PySem.Challenge.rw_ta0029_01.row.prog w h f := by
  cases hK
  intro s A i t R st hdep hi hR
  revert X; k_fill; intro X
  refine kla_callFunE hdep (st _ _ hf) rfl rfl rfl rfl (hcd.keeps st) ?_
  refine (show BindsTo s _ _ _ from BindsTo.of_eq rfl) _ _ _ _ ?_
  refine wpAny_newFunctionEnv (by dsimp only; decide) (locs rfl) (fun h₁ hns hsb => ⟨((T.nolimit).keeps st).fresh _ hsb, ?_⟩) rfl
  have hk₁ : ∀ b o, s.heap.get? b = some o → h₁.get? b = some o := fun b o e => hsb.extBut b o (Nat.ne_of_lt (Heap.lt_size e)) (Heap.get?_push_of_some _ e)
  refine kla_codeExpr (wpAny_mono (Q := fun v s' => R (.ok (.ret v)) s') (E := fun _ _ => False) ?_ (fun _ _ x => x) fun _ _ x => x.elim)
  have F : Fr s.heap s.heap.objs.size h₁ _ := ⟨hns, hk₁, Nat.le_refl _⟩
  w_top on
  k_steps
  exact hR _ _ _ F.keep (Nat.le_of_lt F.ns.lt)
end Mine
end
section
open PySem PySem.Spec PySem.Calls PySem.W PyProof.Rows
set_option maxRecDepth 100000
set_option rowWalk.seconds 0
namespace Mine
theorem While_own {prog : Program} {w : World} {A : Around} {s : Shared} {env : Env} {E : Value → Shared → Prop} {test : PySem.Expr} {body : List Stmt} {pos : Pos} {Q : Flow → Shared → Prop}
    (I : Nat → Shared → Prop) (n : Nat) (h0 : I n s) (turn : ∀ n s, I n s →
      wpAny (model prog w) A (isTrue test env (eval test env)) (fun b s₂ =>
        if b then wpAny (model prog w) A (execs body env) (fun f s₃ => match f with
            | .next | .cont => Hold (∃ m, m < n ∧ I m s₃)
            | .brk => Q .next s₃
            | .ret v => Q (.ret v) s₃) (fun _ _ => False) s₂
        else Q .next s₂) (fun _ _ => False) s) :
    wpAny (model prog w) A (exec (.While test body [] pos) env) Q E s := by
  refine wpAny_While (codeAny_whileLoop I (fun n s hI => ?_) n h0)
  refine wpAny_mono (turn n s hI) (fun b s₂ h₂ => ?_) fun _ _ x => x.elim
  cases b with
  | false => exact wpAny_execs_nil h₂
  | true =>
    refine wpAny_mono h₂ (fun f s₄ h₄ => ?_) fun _ _ x => x.elim
    cases f <;> exact h₄
/-- a while loop by an invariant, what holds behind a turn under a name -/
theorem While_hid {prog : Program} {w : World} {A : Around} {s : Shared} {env : Env} {E : Value → Shared → Prop} {test : PySem.Expr} {body : List Stmt} {pos : Pos} {Q : Flow → Shared → Prop}
    (I : Nat → Shared → Prop) (n : Nat) (h0 : I n s) (turn : ∀ n s, I n s → ∀ Qt : Flow → Shared → Prop, (∀ s₃ m, m < n → I m s₃ → Qt .next s₃) → (∀ s₃, Q .next s₃ → Qt .brk s₃) → (∀ v s₃, Q (.ret v) s₃ → Qt (.ret v) s₃) →
      wpAny (model prog w) A (isTrue test env (eval test env)) (fun b s₂ =>
        if b then wpAny (model prog w) A (execs body env) Qt (fun _ _ => False) s₂
        else Q .next s₂) (fun _ _ => False) s) :
    wpAny (model prog w) A (exec (.While test body [] pos) env) Q E s := by
  refine While_own I n h0 fun n s hI => ?_
  refine wpAny_mono (turn n s hI (fun f s₃ => match f with
              | .next | .cont => Hold (∃ m, m < n ∧ I m s₃)
              | .brk => Q .next s₃
              | .ret v => Q (.ret v) s₃) (fun s₃ m hm hI => ⟨m, hm, hI⟩) (fun _ q => q) (fun _ _ q => q)) (fun b s₁ hr => ?_) fun _ _ e => e
  cases b with
  | false => exact hr
  | true => exact hr
/-- the search among the squares -/
def bs (x : Int) : Nat → Nat → Nat → Nat
  | 0, lo, _ => lo
  | k + 1, lo, hi => if lo < hi then (if (((lo + hi) / 2 : Nat) : Int) * (((lo + hi) / 2 : Nat) : Int) < x then bs x k ((lo + hi) / 2 + 1) hi else bs x k lo ((lo + hi) / 2)) else lo
theorem mids {lo hi : Nat} (h : lo < hi) : lo ≤ (lo + hi) / 2 ∧ (lo + hi) / 2 < hi := by omega
theorem half_hi {lo hi k : Nat} (h : lo < hi) (hk : hi - lo ≤ k + 1) : hi - ((lo + hi) / 2 + 1) ≤ k := by have m := mids h; generalize (lo + hi) / 2 = mid at *; omega
theorem half_lo {lo hi k : Nat} (h : lo < hi) (hk : hi - lo ≤ k + 1) : (lo + hi) / 2 - lo ≤ k := by have m := mids h; generalize (lo + hi) / 2 = mid at *; omega
theorem bs_ok (x : Int) : ∀ (k lo hi : Nat), lo ≤ hi → hi - lo ≤ k → lo ≤ bs x k lo hi ∧ bs x k lo hi ≤ hi ∧ (∀ i, lo ≤ i → i < bs x k lo hi → (i : Int) * i < x) ∧ (bs x k lo hi < hi → ¬ ((bs x k lo hi : Nat) : Int) * ((bs x k lo hi : Nat) : Int) < x)
  | 0, lo, hi, h1, h2 => ⟨Nat.le_refl _, h1, fun i a b => by rw [bs] at b; omega, fun a => by rw [bs] at a; omega⟩
  | k + 1, lo, hi, h1, h2 => by
    rw [bs]
    by_cases h : lo < hi
    · rw [if_pos h]
      have m := mids h
      have m1 := half_hi h h2
      have m2 := half_lo h h2
      generalize (lo + hi) / 2 = mid at *
      by_cases hq : (mid : Int) * mid < x
      · rw [if_pos hq]
        obtain ⟨a, b, c, d⟩ := bs_ok x k (mid + 1) hi m.2 m1
        refine ⟨Nat.le_trans m.1 (Nat.le_of_succ_le a), b, fun i i1 i2 => ?_, d⟩
        by_cases hi' : mid + 1 ≤ i
        · exact c i hi' i2
        · have e1 : (i : Int) * i ≤ mid * i := Int.mul_le_mul_of_nonneg_right (by omega) (by omega)
          have e2 : (mid : Int) * i ≤ mid * mid := Int.mul_le_mul_of_nonneg_left (by omega) (by omega)
          omega
      · rw [if_neg hq]
        obtain ⟨a, b, c, d⟩ := bs_ok x k lo mid m.1 m2
        refine ⟨a, Nat.le_trans b (Nat.le_of_lt m.2), c, fun hh => ?_⟩
        by_cases he : bs x k lo mid < mid
        · exact d he
        · have : bs x k lo mid = mid := by omega
          rw [this]; exact hq
    · rw [if_neg h]
      exact ⟨Nat.le_refl _, h1, fun i a b => by omega, fun a => absurd a h⟩
/-- the search's span -/
theorem bs_turn (x : Int) {k lo hi : Nat} (h : lo < hi) (hk : hi - lo ≤ k) : bs x k lo hi = if (((lo + hi) / 2 : Nat) : Int) * (((lo + hi) / 2 : Nat) : Int) < x then bs x k ((lo + hi) / 2 + 1) hi else bs x k lo ((lo + hi) / 2) := by
  have fuel : ∀ (k j lo hi : Nat), hi - lo ≤ k → hi - lo ≤ j → bs x k lo hi = bs x j lo hi := by
    intro k
    induction k with
    | zero =>
      intro j lo hi h1 h2
      cases j with
      | zero => rfl
      | succ j => rw [bs, bs, if_neg (by omega)]
    | succ k ih =>
      intro j lo hi h1 h2
      cases j with
      | zero => rw [bs, bs, if_neg (by omega)]
      | succ j =>
        rw [bs, bs]
        by_cases h : lo < hi
        · rw [if_pos h, if_pos h, ih j _ _ (half_hi h h1) (half_hi h h2), ih j _ _ (half_lo h h1) (half_lo h h2)]
        · rw [if_neg h, if_neg h]
  obtain ⟨j, rfl⟩ : ∃ j, k = j + 1 := ⟨k - 1, by omega⟩
  conv => lhs; rw [bs, if_pos h]
  rw [fuel (j + 1) j _ _ (Nat.le_succ_of_le (half_hi h hk)) (half_hi h hk), fuel (j + 1) j lo _ (Nat.le_succ_of_le (half_lo h hk)) (half_lo h hk)]

local macro_rules | `(tactic| walk_at "eval Name") => `(tactic| (k_here; k_dflt (refine' nameLA ?F ?v ?_; (case F => k_asm); (case v => first | exact rfl | assumption); k_whole)))
theorem rg_getD {n mid : Nat} (h : mid < n) : ((List.range n).map fun (i : Nat) => (i : Int)).getD ((mid : Int)).toNat 0 = mid := by
  rw [Int.toNat_natCast, List.getD_eq_getElem?_getD, List.getElem?_map, List.getElem?_range h]; rfl
theorem mid2_eq (lo hi : Nat) : ((lo : Int) + hi).fdiv 2 = (((lo + hi) / 2 : Nat) : Int) := by
  rw [Int.fdiv_eq_ediv_of_nonneg _ (by decide)]; push_cast; rfl
theorem bs_stop (x : Int) {k lo hi : Nat} (h : ¬ lo < hi) : bs x k lo hi = lo := by
  cases k with
  | zero => rfl
  | succ k => rw [bs, if_neg h]
theorem FnAt_on {f : Addr} {h h' : Heap} (x : FnAt f h) (k : h.StaysIn h') : FnAt f h' := let ⟨a, b, c, d, e⟩ := x; ⟨a, b, c, d, k _ _ e⟩
local macro_rules | `(tactic| walk_at "FnAt") => `(tactic| (k_dflt (exact FnAt_on (by assumption) (Fr.keep (by k_asm)))))
local macro_rules | `(tactic| walk_at "exec While Compare cons nil") => `(tactic| (refine hold_of ?_))
local macro_rules | `(tactic| walk_at "exec While") => `(tactic| (refine hold_of ?_))
set_option maxHeartbeats 4000000 in
theorem bs_call {w : World} {s : Shared} {A : Around} {base : Heap} {outer : List Env} {p : Program} {loose : List Str} {mean : ExcName → Option Value} {mg mb : Str → Option Value}
    {l f : Addr} {x : Int} {tx : Tok} {vs : List Value} {R : Result → Shared → Prop}
    (hh : A.handled = none) (B : Below A base outer s.heap) (X : (pre.heap_1_39 w.params).In s.heap) (T : Top p loose mean mg mb s.heap)
    (hl : s.heap.IsList l vs.toArray) (hi : IntsAre vs ((List.range 256).map fun (i : Nat) => (i : Int))) (hf : SqC PySem.Challenge.rw_ta0029_01.row.prog w s.heap f) (hfn : FnAt f s.heap) (hdep : A.depth + 10 < recursionLimit) (hun : A.units + 100 < cLine)
    (hR : ∀ h' tk t, s.heap.StaysIn h' → s.heap.objs.size ≤ h'.objs.size → R (.ok (.ret (.int (bs x 256 0 256) t))) { s with heap := h', toks := tk }) :
    codeAny (model PySem.Challenge.rw_ta0029_01.row.prog w) A (.call (.ref 65) ⟨[.ref l, .int x tx], [(PySem.Str.ofString "key", .ref f)]⟩) R s := by
  obtain ⟨ah, dp, fr, gd, un⟩ := A
  cases hh
  dsimp only at hdep hun
  revert X; k_fill; intro X
  refine enterG (G := s.heap) [] rfl (by simp) T X (by k_is) (by k_is) (by show dp < _; omega) (binds_K X rfl (by k_is) rfl rfl rfl) (locs rfl) ?_ rfl rfl rfl (by decide)
  intro L h₁ hL F N l0
  have K0 := B
  w_top on
  have hLs : s.heap.objs.size ≤ L := Nat.le_of_eq hL.symm
  k_steps
  have hvl : vs.toArray.size = 256 := by rw [List.size_toArray, hi.length]; simp
  rename Fr _ _ _ _ => F1
  rename News _ _ _ _ => N1
  refine Calls.call_len_list (IsList_on hl F1.keep) (by omega) ?_
  rw [hvl]
  k_steps
  show wpAny _ _ _ _ _ _
  rename Fr _ _ _ _ => F2
  refine While_hid (fun n s' => ∀ P : Shared → Prop, (∀ (lo hi : Nat) (h : Heap) (tk : Nat) (m' : Str → Option Value) (ta tb : Tok), n = hi - lo → lo ≤ hi → hi ≤ 256 → bs x 256 lo hi = bs x 256 0 256 → Fr s.heap L h m' → m' (PySem.Str.ofString "lo") = some (.int lo ta) → m' (PySem.Str.ofString "hi") = some (.int hi tb) → m' (PySem.Str.ofString "a") = some (.ref l) → m' (PySem.Str.ofString "x") = some (.int x tx) → m' (PySem.Str.ofString "key") = some (.ref f) → P { s with heap := h, toks := tk }) → P s') 256 ?_ ?_
  · exact fun P hP => hP 0 256 _ _ _ _ _ rfl (by omega) (by omega) rfl F2 rfl rfl rfl rfl rfl
  · clear F2
    intro n s' hI Qa hQa _ _
    refine hI _ fun lo hi' h tk m' ta tb hn b1 b2 b3 F3 vlo vhi va vx vk => ?_
    clear hI
    have N3 : News s.heap L h [] := News_nil
    k_steps
    · rename Fr _ _ _ _ => F4
      rename News _ _ _ _ => N4
      simp only [mid2_eq] at F4
      have hlt : lo < hi' := by omega
      have hbt := bs_turn x hlt (k := 256) (by omega)
      have hm := mids hlt
      generalize (lo + hi') / 2 = mid at F4 hbt hm
      refine' callWith_F (FnAt_on hfn F4.keep) ?_
      k_steps
      rw [rg_getD (show mid < 256 by omega)]
      refine wpAny_call (hf _ _ _ _ _ F4.keep (by show dp + 1 < _; omega) (by omega) fun h5 tk5 t5 k5 sz5 => ?_)
      have F5 := Fr_on F4 k5
      have N5 : News s.heap L h5 [] := News_nil
      clear F4 N4
      dsimp only
      k_steps
      · rename Fr _ _ _ _ => F6
        rename (mid : Int) * mid < x => hc
        rw [if_pos hc] at hbt
        refine' hQa _ (hi' - (mid + 1)) (by omega) fun P hP => hP (mid + 1) hi' _ _ _ _ tb rfl (by omega) (by omega) ?k1 F6 ?k2 vhi va vx vk
        case k1 => rw [← b3, hbt]
        case k2 => exact rfl
      · rename Fr _ _ _ _ => F6
        rename ¬ (mid : Int) * mid < x => hc
        rw [if_neg hc] at hbt
        refine' hQa _ (mid - lo) (by omega) fun P hP => hP lo mid _ _ _ ta _ rfl (by omega) (by omega) ?k1 F6 vlo ?k2 va vx vk
        case k1 => rw [← b3, hbt]
        case k2 => exact rfl
    · rename Fr _ _ _ _ => F4
      have e : bs x 256 0 256 = lo := by rw [← b3, bs_stop x (by omega)]
      rw [e] at hR
      exact hR _ _ _ F4.keep (Nat.le_trans hLs (Nat.le_of_lt F4.ns.lt))
end Mine
end
section
local macro_rules | `(tactic| omega) => `(tactic| omega +splitDisjunctions)
open PySem PySem.Spec PySem.Calls PySem.W PyProof.Rows
set_option maxRecDepth 100000
set_option rowWalk.seconds 0
namespace Mine
abbrev Row3 := Int × Int × Int
def stepRow (r2 r1 : Row3) : Row3 := (r2.1 % r1.1, r2.2.1 - r2.1 / r1.1 * r1.2.1, r2.2.2 - r2.1 / r1.1 * r1.2.2)
/-- Euclid's run, what is added to the first two rows -/
def runL : Nat → Row3 → Row3 → List Row3
  | 0, _, _ => []
  | n + 1, r2, r1 => if r1.1 = 0 then [] else stepRow r2 r1 :: runL n r1 (stepRow r2 r1)
theorem runL_stop {n : Nat} {r2 r1 : Row3} (h : r1.1 = 0) : runL n r2 r1 = [] := by
  cases n with
  | zero => rfl
  | succ n => rw [runL, if_pos h]
inductive RA (tl : List (Addr × Obj)) : List Value → List Row3 → Prop
  | nil : RA tl [] []
  | cons {a : Addr} {x y z : Int} {t1 t2 t3 : Tok} {vs : List Value} {rs : List Row3} : (a, tupOf #[.int x t1, .int y t2, .int z t3]) ∈ tl → RA tl vs rs → RA tl (.ref a :: vs) ((x, y, z) :: rs)
theorem RA.mono {tl tl' : List (Addr × Obj)} (h : ∀ q ∈ tl, q ∈ tl') : ∀ {vs : List Value} {rs : List Row3}, RA tl vs rs → RA tl' vs rs
  | _, _, .nil => .nil
  | _, _, .cons m r => .cons (h _ m) (r.mono h)
theorem RA.app {tl : List (Addr × Obj)} : ∀ {vs ws : List Value} {rs us : List Row3}, RA tl vs rs → RA tl ws us → RA tl (vs ++ ws) (rs ++ us)
  | _, _, _, _, .nil, k => k
  | _, _, _, _, .cons m r, k => .cons m (r.app k)
theorem RA.length {tl : List (Addr × Obj)} : ∀ {vs : List Value} {rs : List Row3}, RA tl vs rs → vs.length = rs.length
  | _, _, .nil => rfl
  | _, _, .cons _ r => congrArg (· + 1) r.length
abbrev rangeIt (x left : Int) : Obj := { cls := .type "range_iterator", dict := none, data := .fields #[rawInt x, rawInt left, rawInt 1], slots := #[] }
theorem neg1_i (l : List Value) (x y : Value) : seqIndex? (-1) (l ++ [x, y]).length = some (l.length + 1) := by
  unfold seqIndex?; simp; omega
theorem neg2_i (l : List Value) (x y : Value) : seqIndex? (-2) (l ++ [x, y]).length = some l.length := by
  unfold seqIndex?; simp; omega
theorem neg1_v (l : List Value) (x y : Value) : (l ++ [x, y])[l.length + 1]? = some y := by simp
theorem neg2_v (l : List Value) (x y : Value) : (l ++ [x, y])[l.length]? = some x := by simp
theorem any_40 {a b : Int} (ha : 0 ≤ a) (ha1 : a < 2 ^ 40) (hb : 0 < b) (hb1 : b < 2 ^ 40) : AnyDiv a b := by
  have h1 := bits_pos hb
  have e : ∀ x : Int, -(2 ^ 40) ≤ x → x < 2 ^ 40 → dlen (Builtin.Int.intBits b) x ≤ 200 := fun x h h' => by
    have : Builtin.Int.intBits x ≤ 64 := intBits_le_64 (by omega) (by omega)
    unfold dlen
    refine Nat.div_le_of_le_mul ?_
    have := Nat.le_mul_of_pos_left 200 h1
    have h2 : Builtin.Int.intBits b * 200 ≥ Builtin.Int.intBits b + 199 := by omega
    omega
  exact ⟨hb, by omega, e a (by omega) ha1, e _ (by omega) (by omega)⟩
local macro_rules | `(tactic| walk_at "exec For") => `(tactic| (refine hold_of ?_))
local macro_rules | `(tactic| walk_at "exec For Name Call cons nil") => `(tactic| (refine hold_of ?_))
local macro_rules | `(tactic| walk_at "pyIter ref") => `(tactic| (refine hold_of ?_))
local macro_rules | `(tactic| walk_at "call ref") => `(tactic| ((with_reducible show wpAny _ _ (call (Value.ref 56) _) _ _ _); refine hold_of ?_))
local macro_rules | `(tactic| walk_at "eval Name") => `(tactic| (k_here; k_dflt (refine' nameLA ?F ?v ?_; (case F => k_asm); (case v => first | exact rfl | assumption); k_whole)))
local macro_rules | `(tactic| walk_at "subscriptTail Name UnaryOp ref int") => `(tactic| (k_here; (with_reducible show wpAny _ _ (subscriptTail _ _ (Value.ref _) (Value.int _ _)) _ _ _); k_dflt (refine' kde_neg ?k1 ?k2 ?k3 ?k4 ?k5 ?_ ?k6; (case k1 => exact PySem.IsL.isList (News.get (by k_asm) (by k_mem))); (case k4 => first | exact neg1_i _ _ _ | exact neg2_i _ _ _); (case k2 => decide); (case k3 => decide); (case k5 => first | exact neg1_v _ _ _ | exact neg2_v _ _ _); (case k6 => with_unfolding_all rfl); k_whole)))
theorem News_rot {G h : Heap} {L : Addr} {a : Addr × Obj} {own four : List (Addr × Obj)} (N : News G L h (a :: own ++ four)) : News G L h (a :: four ++ own) := fun q hq => N q (by
  rcases List.mem_append.mp hq with hq | hq
  · rcases List.mem_cons.mp hq with rfl | hq
    · exact .head _
    · exact List.mem_append_right _ hq
  · exact List.mem_append_left _ (.tail _ hq))
theorem up_ne {x c c3 : Addr} {P : Prop} (h : @Eq Nat c3 c ∨ P) (d : x ≠ c) (k : P → @LT.lt Nat _ x c3) : x ≠ c3 := h.elim (fun e => by rw [show c3 = c from e]; exact d) (fun p => Nat.ne_of_lt (k p))
local macro_rules | `(tactic| k_all) => `(tactic| assumption)
local macro_rules | `(tactic| k_ne) => `(tactic| ((try dsimp only); first | assumption | (refine Ne.symm ?_; assumption)))
set_option maxHeartbeats 4000000 in
theorem run_call {w : World} {s : Shared} {A : Around} {base G : Heap} {outer : List Env} {p : Program} {loose : List Str} {mean : ExcName → Option Value} {mg mb : Str → Option Value}
    {c : Addr} {k o : Obj} {c2 : Addr} {k2 o2 : Obj} {a b : Int} {ta tb : Tok} {R : Result → Shared → Prop}
    (hG : G = hideAll s.heap [c, 30, c2, 37]) (hc : s.heap.get? c = some k) (ho : s.heap.get? 30 = some o) (hc2 : s.heap.get? c2 = some k2) (ho2 : s.heap.get? 37 = some o2) (hTP : TP c k o c2 k2 o2)
    (C : CodeHd G 34 30) (C2 : CodeHd G 41 37)
    (hh : A.handled = none) (B : Below A base outer G) (X : (pre.heap_1_39 w.params).In G) (T : Top p loose mean mg mb G)
    (ha : 0 ≤ a) (ha1 : a < 2 ^ 40) (hb : 0 ≤ b) (hb1 : b < 2 ^ 40)
    (hdep : A.depth + 410 < recursionLimit) (hun : A.units + 1600 < cLine)
    (hR : ∀ (h' : Heap) (tk : Nat) (l : Addr) (lv : List Value) (e : Nat) (tl : List (Addr × Obj)) (c' : Addr) (k' o' : Obj) (c2' : Addr) (k2' o2' : Obj), G.StaysIn h' → G.objs.size ≤ h'.objs.size → G.get? l = none → h'.get? l = some (listOf (List.toArray lv) e) → RA tl lv ((a, 1, 0) :: (b, 0, 1) :: runL 60 (a, 1, 0) (b, 0, 1)) →
      (∀ q ∈ tl, h'.get? q.1 = some q.2 ∧ G.get? q.1 = none ∧ q.1 ≠ l ∧ q.1 ≠ c' ∧ q.1 ≠ c2' ∧ q.1 ≠ 30 ∧ q.1 ≠ 37) → h'.get? c' = some k' → h'.get? 30 = some o' → h'.get? c2' = some k2' → h'.get? 37 = some o2' →
      TP c' k' o' c2' k2' o2' → (@Eq Nat c' c ∨ @LE.le Nat _ G.objs.size c') → (@Eq Nat c2' c2 ∨ @LE.le Nat _ G.objs.size c2') → l ≠ c' → l ≠ c2' → l ≠ 30 → l ≠ 37 → lv.length ≤ 62 → R (.ok (.ret (.ref l))) { s with heap := h', toks := tk }) :
    codeAny (model PySem.Challenge.rw_ta0029_01.row.prog w) A (.call (.ref 130) ⟨[.int a ta, .int b tb], []⟩) R s := by
  obtain ⟨ah, dp, fr, gd, un⟩ := A
  cases hh
  dsimp only at hdep hun
  revert X; k_fill; intro X
  refine enterG [(c, k), (30, o), (c2, k2), (37, o2)] hG (by simp [hc, ho, hc2, ho2]) T X (by k_is) (by k_is) (by show dp < _; omega) (BindsTo.of_eq rfl) (locs rfl) ?_ rfl rfl rfl (by decide)
  intro L h₁ hL F N l0
  have K0 := B
  k_lt l0
  w_top on
  have hLs : G.objs.size ≤ L := by rw [hG, hideAll_size, hL]; exact Nat.le_refl _
  k_steps
  show wpAny _ _ _ _ _ _
  refine For_hid ?_
  k_steps
  show wpAny _ _ _ _ _ _
  rename Fr _ _ _ _ => F1
  rename News _ _ _ _ => N1
  rename_i aA _ lA aB _ lB lL _ lC _ _ _ hX _ _ _ _ hr _
  refine wpAny_pyIter_range hr rfl ?_
  have F2 := F1.push (rangeIt 0 60)
  have N2 := N1.push F1 (rangeIt 0 60)
  have lD := allLt_of fun q hq => Heap.lt_size (N1 q hq).1
  simp only [AllLt, and_true] at lD
  clear F1 N1
  dsimp only at F2 N2 lD
  have N3 := News_app (News_take 1 (News_drop 1 N2)) (News_app (News_take 1 N2) (News_app (News_drop 4 N2) (News_take 2 (News_drop 2 N2))))
  dsimp only [List.take, List.drop, List.cons_append, List.nil_append] at N3
  generalize hX.objs.size = It at N3 lD ⊢
  clear N2
  refine ⟨fun j s' => ∀ P : Shared → Prop, (∀ h tk m' e tl pre rs a1 a2 x1 y1 z1 x2 y2 z2 t1 t2 t3 u1 u2 u3 c' k' o' c2' k2' o2', j ≤ 60 → Fr G L h m' →
    News G L h ((lL, listOf (List.toArray (pre ++ [.ref a2, .ref a1])) e) :: (It, rangeIt (60 - (j : Int)) j) :: (c', k') :: (30, o') :: (c2', k2') :: (37, o2') :: (a1, tupOf #[.int x1 t1, .int y1 t2, .int z1 t3]) :: (a2, tupOf #[.int x2 u1, .int y2 u2, .int z2 u3]) :: tl) →
    m' (PySem.Str.ofString "run") = some (.ref lL) → RA tl pre rs → TP c' k' o' c2' k2' o2' → (@Eq Nat c' c ∨ @LT.lt Nat _ L c') → (@Eq Nat c2' c2 ∨ @LT.lt Nat _ L c2') → 0 ≤ x1 → x1 < 2 ^ 40 → 0 ≤ x2 → x2 < 2 ^ 40 → pre.length + 2 + j = 62 →
    rs ++ (x2, y2, z2) :: (x1, y1, z1) :: runL j (x2, y2, z2) (x1, y1, z1) = (a, 1, 0) :: (b, 0, 1) :: runL 60 (a, 1, 0) (b, 0, 1) →
    lL ≠ c' → lL ≠ c2' → It ≠ c' → It ≠ c2' → lL ≠ It → a1 ≠ lL → a2 ≠ lL → a1 ≠ It → a2 ≠ It → a1 ≠ c' → a2 ≠ c' → a1 ≠ c2' → a2 ≠ c2' → a1 ≠ 30 → a2 ≠ 30 → a1 ≠ 37 → a2 ≠ 37 →
    (∀ q ∈ tl, q.1 ≠ lL) → (∀ q ∈ tl, q.1 ≠ It) → (∀ q ∈ tl, q.1 ≠ c') → (∀ q ∈ tl, q.1 ≠ c2') → (∀ q ∈ tl, q.1 ≠ 30) → (∀ q ∈ tl, q.1 ≠ 37) → P { s with heap := h, toks := tk }) → P s', 60, ?_, ?_⟩
  · refine fun P hP => hP _ _ _ 0 [] [] [] aB aA _ _ _ _ _ _ _ _ _ _ _ _ _ _ _ _ _ _ (Nat.le_refl _) F2 N3 rfl .nil hTP (.inl rfl) (.inl rfl) hb hb1 ha ha1 rfl rfl ?_ ?_ ?_ ?_ ?_ ?_ ?_ ?_ ?_ ?_ ?_ ?_ ?_ ?_ ?_ ?_ ?_ (fun _ h => nomatch h) (fun _ h => nomatch h) (fun _ h => nomatch h) (fun _ h => nomatch h) (fun _ h => nomatch h) (fun _ h => nomatch h)
    all_goals (refine neN ?_; clear ha ha1 hb hb1 hdep hun; lia)
  · clear F2 N3 hTP
    intro j s' hI Qa hQa hBr _
    refine hI _ fun h tk m' e tl pre rs a1 a2 x1 y1 z1 x2 y2 z2 t1 t2 t3 u1 u2 u3 c' k' o' c2' k2' o2' hj F4 N4 vrun hra hTP hc' hc2' p1 p2 p3 p4 hlen hrun d1 d2 d3 d4 d5 d6 d7 d8 d9 d10 d11 d12 d13 d14 d15 d16 d17 q1 q2 q3 q4 q5 q6 => ?_
    clear hI
    have fin : ∀ (h' : Heap) (tk' : Nat) (mm : Str → Option Value), Fr G L h' mm → News G L h' ((lL, listOf (List.toArray (pre ++ [.ref a2, .ref a1])) e) :: (c', k') :: (30, o') :: (c2', k2') :: (37, o2') :: (a1, tupOf #[.int x1 t1, .int y1 t2, .int z1 t3]) :: (a2, tupOf #[.int x2 u1, .int y2 u2, .int z2 u3]) :: tl) →
        rs ++ [(x2, y2, z2), (x1, y1, z1)] = (a, 1, 0) :: (b, 0, 1) :: runL 60 (a, 1, 0) (b, 0, 1) → R (.ok (.ret (.ref lL))) { s with heap := h', toks := tk' } := by
      intro h' tk' mm F N hfull
      refine hR h' tk' lL _ e ((a1, tupOf #[.int x1 t1, .int y1 t2, .int z1 t3]) :: (a2, tupOf #[.int x2 u1, .int y2 u2, .int z2 u3]) :: tl) c' k' o' c2' k2' o2' F.keep (Nat.le_trans hLs (Nat.le_of_lt F.ns.lt)) (N _ (.head _)).2.2 (N.get (.head _)) ?_ ?_ (N.get (by k_mem)) (N.get (by k_mem)) (N.get (by k_mem)) (N.get (by k_mem)) hTP (hc'.imp id fun x => by omega) (hc2'.imp id fun x => by omega) d1 d2 (neN (by omega)) (neN (by omega)) (by simp only [List.length_append, List.length_cons, List.length_nil]; omega)
      · rw [← hfull]
        exact (hra.mono fun q hq => .tail _ (.tail _ hq)).app (.cons (.tail _ (.head _)) (.cons (.head _) .nil))
      · intro q hq
        refine ⟨?_, ?_, ?_⟩
        · exact (N q (.tail _ (.tail _ (.tail _ (.tail _ (.tail _ hq)))))).1
        · exact (N q (.tail _ (.tail _ (.tail _ (.tail _ (.tail _ hq)))))).2.2
        · rcases List.mem_cons.mp hq with rfl | hq
          · exact ⟨d6, d10, d12, d14, d16⟩
          rcases List.mem_cons.mp hq with rfl | hq
          · exact ⟨d7, d11, d13, d15, d17⟩
          · exact ⟨q1 q hq, q3 q hq, q4 q hq, q5 q hq, q6 q hq⟩
    have zI := N4 _ (.tail _ (.head _))
    have N4' := News_app (News_take 1 (News_drop 1 N4)) (News_app (News_take 1 N4) (News_drop 2 N4))
    dsimp only [List.take, List.drop, List.cons_append, List.nil_append] at N4'
    cases j with
    | zero =>
      refine wpAny_pyNext_range_end rfl (N4.get (.tail _ (.head _))) (Int.le_refl _) fun h5 hx => ?_
      have F5 := Fr_but F4 hx zI.2.1 zI.2.2
      have N5 := News_but N4' hx (by k_all)
      clear F4 N4 N4'
      dsimp only
      k_steps
      rename Fr _ _ _ _ => F6
      rename News _ _ _ _ => N6
      exact fin _ _ _ F6 N6 hrun
    | succ j =>
      refine wpAny_pyNext_range_item (N4.get (.tail _ (.head _))) (by omega) fun h5 hit hsb => ?_
      dsimp only
      refine wpAny_of_eq (a := ()) rfl ?_
      have F5 := F4.change hsb zI.2.1 zI.2.2
      have N5 := News_set1 N4' hsb hit (by k_all)
      rw [show (60 - ((j + 1 : Nat) : Int) + 1) = 60 - (j : Int) by omega, show (((j + 1 : Nat) : Int) - 1) = (j : Int) by omega] at N5
      clear F4 N4 N4'
      k_steps
      · refine hBr _ ?_
        k_steps
        rename Fr _ _ _ _ => F6
        rename News _ _ _ _ => N6
        rename x1 = 0 => hx0
        refine fin _ _ _ F6 (News_drop 1 N6) ?_
        rw [← hrun, runL_stop hx0]
      · show wpAny _ _ _ _ _ _
        rename Fr _ _ _ _ => F6
        rename News _ _ _ _ => N6
        rename x1 ≠ 0 => hx0
        have NO := News_app (News_take 2 N6) (News_drop 6 N6)
        dsimp only [List.take, List.drop, List.cons_append, List.nil_append] at NO
        refine call_dm (idm_c w) B F6 rfl rfl rfl rfl NO (News_take 4 (News_drop 2 N6)) hTP ?_ C C2 X T (any_40 p3 p4 (by omega) p2) (by show dp + _ < _; omega) (by show un + _ < _; omega) ?_
        · intro q hq
          rcases List.mem_cons.mp hq with rfl | hq
          · exact ⟨d3, neN (by omega), d4, neN (by omega)⟩
          rcases List.mem_cons.mp hq with rfl | hq
          · exact ⟨d1, neN (by omega), d2, neN (by omega)⟩
          rcases List.mem_cons.mp hq with rfl | hq
          · exact ⟨d10, d14, d12, d16⟩
          rcases List.mem_cons.mp hq with rfl | hq
          · exact ⟨d11, d15, d13, d17⟩
          · exact ⟨q3 q hq, q5 q hq, q4 q hq, q6 q hq⟩
        intro h7 tk7 t v1 v2 c3 k3 o3 c4 k4 o4 F7 N7 hTP3 lt lto hcc hcc2 htc htc2
        replace N7 := News_rot N7
        dsimp only [List.nil_append, List.cons_append] at N7
        simp only [AllLt] at lto hcc hcc2
        clear F6 N6 NO
        have e1 : lL ≠ c3 := up_ne hcc d1 fun h => h.2.2.1
        have e2 : lL ≠ c4 := up_ne hcc2 d2 fun h => h.2.2.1
        have e3 : It ≠ c3 := up_ne hcc d3 fun h => h.2.1
        have e4 : It ≠ c4 := up_ne hcc2 d4 fun h => h.2.1
        have e10 : a1 ≠ c3 := up_ne hcc d10 fun h => h.2.2.2.1
        have e11 : a2 ≠ c3 := up_ne hcc d11 fun h => h.2.2.2.2.1
        have e12 : a1 ≠ c4 := up_ne hcc2 d12 fun h => h.2.2.2.1
        have e13 : a2 ≠ c4 := up_ne hcc2 d13 fun h => h.2.2.2.2.1
        have r3 : ∀ q ∈ tl, q.1 ≠ c3 := fun q hq => up_ne hcc (q3 q hq) fun h => ktn_ltOf h.2.2.2.2.2 q hq
        have r4 : ∀ q ∈ tl, q.1 ≠ c4 := fun q hq => up_ne hcc2 (q4 q hq) fun h => ktn_ltOf h.2.2.2.2.2 q hq
        have hc3 : @Eq Nat c3 c ∨ @LT.lt Nat _ L c3 := by
          rcases hcc with h | h
          · rw [show c3 = c' from h]; exact hc'
          · exact .inr h.1
        have hc4 : @Eq Nat c4 c2 ∨ @LT.lt Nat _ L c4 := by
          rcases hcc2 with h | h
          · rw [show c4 = c2' from h]; exact hc2'
          · exact .inr h.1
        clear hcc hcc2 hc' hc2' d1 d2 d3 d4 d10 d11 d12 d13 q3 q4 fin
        have hq0 : 0 ≤ x2 / x1 := Int.ediv_nonneg p3 p1
        have hq1 : x2 / x1 ≤ x2 := Int.ediv_le_self _ p3
        have hq64 : Builtin.Int.intBits (x2 / x1) ≤ 64 := intBits_le_64 (by omega) (by omega)
        clear hq0 hq1
        dsimp only
        k_steps
        rename Fr _ _ _ _ => F8
        rename News _ _ _ _ => N8
        rename_i a0 _ la0
        k_dflt (refine' append_K F8 N8 ?U ?_ ?z)
        case U => k_upd
        case z => rw [List.size_toArray, List.length_append]; exact Nat.le_trans (show pre.length + 2 ≤ 100 by omega) (by decide)
        intro h9 F9 N9
        clear F8 N8
        dsimp only
        k_steps
        have N10 := News_app (News_take 1 (News_drop 7 N9)) (News_app (News_take 1 (News_drop 6 N9)) (News_app (News_take 4 (News_drop 2 N9)) (News_app (News_take 1 N9) (News_app (News_take 1 (News_drop 8 N9)) (News_drop 9 N9)))))
        dsimp only [List.take, List.drop, List.cons_append, List.nil_append] at N10
        rw [List.push_toArray, List.append_assoc] at N10
        have M := hra.mono (tl' := (a2, tupOf #[.int x2 u1, .int y2 u2, .int z2 u3]) :: tl) fun q hq => .tail _ hq
        have M2 := M.app (.cons (.head _) .nil)
        refine hQa _ j (Nat.lt_succ_self _) fun P hP => hP _ _ _ _ ((a2, tupOf #[.int x2 u1, .int y2 u2, .int z2 u3]) :: tl) (pre ++ [.ref a2]) (rs ++ [(x2, y2, z2)]) a0 a1 _ _ _ _ _ _ _ _ _ _ _ _ _ _ _ _ _ _ (by omega) F9 (by
          rw [List.append_assoc]; exact N10) vrun M2 hTP3 hc3 hc4 (Int.emod_nonneg _ hx0) ?f1 p1 p2 ?f2 ?f3 e1 e2 e3 e4 d5 (Nat.ne_of_gt la0.2.2.2.2.2.2.1) d6 (Nat.ne_of_gt la0.2.2.2.2.2.1) d8 (Nat.ne_of_gt la0.2.1) e10 (Nat.ne_of_gt la0.2.2.2.1) e12 (Nat.ne_of_gt la0.2.2.1) d14 (Nat.ne_of_gt la0.2.2.2.2.1) d16 (List.forall_mem_cons.mpr ⟨d7, q1⟩) (List.forall_mem_cons.mpr ⟨d9, q2⟩) (List.forall_mem_cons.mpr ⟨e11, r3⟩) (List.forall_mem_cons.mpr ⟨e13, r4⟩) (List.forall_mem_cons.mpr ⟨d15, q5⟩) (List.forall_mem_cons.mpr ⟨d17, q6⟩)
        case f1 =>
          have := Int.emod_lt_of_pos x2 (show 0 < x1 by omega)
          omega
        case f2 => rw [List.length_append]; show pre.length + 1 + 2 + j = 62; omega
        case f3 =>
          rw [← hrun, List.append_assoc]
          rw [runL, if_neg hx0]; rfl
end Mine
end
section
open PySem PySem.Spec PySem.Calls PySem.W PyProof.Rows
set_option maxRecDepth 100000
namespace Mine
section
variable {w : World} {s : Shared} {A A' : Around} {base G : Heap} {outer : List Env} {p : Program} {loose : List Str} {mean : ExcName → Option Value} {mg mb : Str → Option Value} {L : Addr} {m : Str → Option Value} {env : Env}
  {c : Addr} {k o : Obj} {c2 : Addr} {k2 o2 : Obj} {own : List (Addr × Obj)} {E : Value → Shared → Prop} {Q : Value → Shared → Prop}
theorem call_run {a b : Int} {ta tb : Tok} (B : Below A base outer G) (F : Fr G L s.heap m) (hA : A' = A.deeper env) (hf : env.frame = some L) (hk : env.scope.kind = .function) (hh : A.handled = none) (NO : News G L s.heap own) (NT : News G L s.heap [(c, k), (30, o), (c2, k2), (37, o2)])
    (hTP : TP c k o c2 k2 o2) (ho : ∀ q ∈ own, @Ne Nat q.1 c ∧ @Ne Nat q.1 30 ∧ @Ne Nat q.1 c2 ∧ @Ne Nat q.1 37) (C : CodeHd G 34 30) (C2 : CodeHd G 41 37) (X : (pre.heap_1_39 w.params).In G) (T : Top p loose mean mg mb G)
    (ha : 0 ≤ a) (ha1 : a < 2 ^ 40) (hb : 0 ≤ b) (hb1 : b < 2 ^ 40) (hdep : A.depth + 412 < recursionLimit) (hun : A.units + 1610 < cLine)
    (h : ∀ (h' : Heap) (tk : Nat) (l : Addr) (lv : List Value) (e : Nat) (tl : List (Addr × Obj)) (c' : Addr) (k' o' : Obj) (c2' : Addr) (k2' o2' : Obj), Fr G L h' m → News G L h' ((l, listOf (List.toArray lv) e) :: own ++ [(c', k'), (30, o'), (c2', k2'), (37, o2')]) → News G L h' tl → TP c' k' o' c2' k2' o2' →
      RA tl lv ((a, 1, 0) :: (b, 0, 1) :: runL 60 (a, 1, 0) (b, 0, 1)) → (∀ q ∈ tl, q.1 ≠ l ∧ q.1 ≠ c' ∧ q.1 ≠ c2' ∧ q.1 ≠ 30 ∧ q.1 ≠ 37) → (∀ r ∈ own, r.1 ≠ l ∧ ∀ q ∈ tl, q.1 ≠ r.1) →
      (@Eq Nat c' c ∨ @LT.lt Nat _ L c' ∧ AllLt c' own) → (@Eq Nat c2' c2 ∨ @LT.lt Nat _ L c2' ∧ AllLt c2' own) → l ≠ c' → l ≠ c2' → l ≠ 30 → l ≠ 37 → lv.length ≤ 62 → Q (.ref l) { s with heap := h', toks := tk }) :
    wpAny (model PySem.Challenge.rw_ta0029_01.row.prog w) A' (call (.ref 130) [.int a ta, .int b tb]) Q E s := by
  subst hA
  have z1 := NT (c, k) (by simp)
  have z2 := NT (30, o) (by simp)
  have z3 := NT (c2, k2) (by simp)
  have z4 := NT (37, o2) (by simp)
  have hl : ∀ b ∈ [c, 30, c2, 37], G.get? b = none := by
    intro b hb
    simp only [List.mem_cons, List.not_mem_nil, or_false] at hb
    rcases hb with rfl | rfl | rfl | rfl
    · exact z1.2.2
    · exact z2.2.2
    · exact z3.2.2
    · exact z4.2.2
  have hL : L ∉ [c, 30, c2, 37] := by
    intro hb
    simp only [List.mem_cons, List.not_mem_nil, or_false] at hb
    rcases hb with e | e | e | e
    · exact z1.2.1 e.symm
    · exact z2.2.1 e.symm
    · exact z3.2.1 e.symm
    · exact z4.2.1 e.symm
  have g := groundT B F _ NT hf hk
  have st := stays_hide F.keep hl
  have hsz : (hideAll s.heap [c, 30, c2, 37]).objs.size = s.heap.objs.size := hideAll_size _ _
  have hoo : ∀ q ∈ own, q.1 ∉ [c, 30, c2, 37] := by
    intro q hq hb
    have := ho q hq
    simp only [List.mem_cons, List.not_mem_nil, or_false] at hb
    rcases hb with e | e | e | e
    · exact this.1 e
    · exact this.2.1 e
    · exact this.2.2.1 e
    · exact this.2.2.2 e
  have hLG : ∃ oo, (hideAll s.heap [c, 30, c2, 37]).get? L = some oo := by
    obtain ⟨oL, _, _, e, _⟩ := F.ns
    exact ⟨oL, hideAll_get _ e hL⟩
  have fr : ∀ {x : Addr}, (hideAll s.heap [c, 30, c2, 37]).get? x = none → x ≠ L ∧ G.get? x = none := by
    intro x hx
    refine ⟨fun e => ?_, ?_⟩
    · obtain ⟨oo, ho⟩ := hLG
      rw [e, ho] at hx; cases hx
    · cases e : G.get? x with
      | none => rfl
      | some y => rw [st _ _ e] at hx; cases hx
  have fo : ∀ {x : Addr}, (hideAll s.heap [c, 30, c2, 37]).get? x = none → ∀ r ∈ own, x ≠ r.1 := by
    intro x hx r hr e
    rw [e, hideAll_get _ (NO r hr).1 (hoo r hr)] at hx; cases hx
  refine wpAny_call (run_call (G := hideAll s.heap [c, 30, c2, 37]) rfl z1.1 z2.1 z3.1 z4.1 hTP (C.keeps st) (C2.keeps st) hh g.2.1 (X.keeps st) (T.keeps st) ha ha1 hb hb1 (by rw [depth_deeper]; omega) (by rw [units_deeper]; omega) ?_)
  intro h' tk l lv e tl c' k' o' c2' k2' o2' ks sz hlG el hra htl ec eo ec2 eo2 hTP' hcc hcc2 hlc hlc2 hl30 hl37 hlen
  rw [hsz] at hcc hcc2
  have F' := Fr_back hl F hL ks
  have ft := fr hlG
  have fc : c' ≠ L ∧ G.get? c' = none := hcc.elim (fun e => (show c' = c from e) ▸ z1.2) (fresh_ne F)
  have fc2 : c2' ≠ L ∧ G.get? c2' = none := hcc2.elim (fun e => (show c2' = c2 from e) ▸ z3.2) (fresh_ne F)
  have big : ∀ {x : Addr}, @LE.le Nat _ s.heap.objs.size x → @LT.lt Nat _ L x ∧ AllLt x own := fun hx => ⟨Nat.lt_of_lt_of_le F.ns.lt hx, allLt_of fun q hq => Nat.lt_of_lt_of_le (Heap.lt_size (NO q hq).1) hx⟩
  refine h h' tk l lv e tl c' k' o' c2' k2' o2' F' ?_ (fun q hq => ⟨(htl q hq).1, fr (htl q hq).2.1⟩) hTP' hra (fun q hq => (htl q hq).2.2) (fun r hr => ⟨(fo hlG r hr).symm, fun q hq => fo (htl q hq).2.1 r hr⟩) (hcc.imp id big) (hcc2.imp id big) hlc hlc2 hl30 hl37 hlen
  exact News_put ft.1 ft.2 el (News_app (News_back NO hoo ks) (News_put fc.1 fc.2 ec (News_put z2.2.1 z2.2.2 eo (News_put fc2.1 fc2.2 ec2 (News_put z4.2.1 z4.2.2 eo2 News_nil)))))
end
end Mine
end
section
open PySem PySem.Spec PySem.Calls PySem.W PyProof.Rows
set_option maxRecDepth 100000
namespace Mine
/-- none of these is a table or a table's code object -/
def OT (c c2 : Addr) (own : List (Addr × Obj)) : Prop := ∀ q ∈ own, @Ne Nat q.1 c ∧ @Ne Nat q.1 30 ∧ @Ne Nat q.1 c2 ∧ @Ne Nat q.1 37
theorem OT.nil {c c2 : Addr} : OT c c2 [] := fun _ h => nomatch h
theorem OT.cons {c c2 a : Addr} {o : Obj} {r : List (Addr × Obj)} (h1 : @Ne Nat a c) (h2 : @Ne Nat a 30) (h3 : @Ne Nat a c2) (h4 : @Ne Nat a 37) (h : OT c c2 r) : OT c c2 ((a, o) :: r) := fun q hq => by
  rcases List.mem_cons.mp hq with rfl | hq
  · exact ⟨h1, h2, h3, h4⟩
  · exact h q hq
theorem OT.tail {c c2 : Addr} {x : Addr × Obj} {r : List (Addr × Obj)} (h : OT c c2 (x :: r)) : OT c c2 r := fun q hq => h q (.tail _ hq)
theorem OT.head {c c2 : Addr} {x : Addr × Obj} {r : List (Addr × Obj)} (h : OT c c2 (x :: r)) : @Ne Nat x.1 c ∧ @Ne Nat x.1 30 ∧ @Ne Nat x.1 c2 ∧ @Ne Nat x.1 37 := h x (.head _)
theorem OT.next {c c2 c3 c4 L : Addr} {own : List (Addr × Obj)} (O : OT c c2 own) (h : @Eq Nat c3 c ∨ @LT.lt Nat _ L c3 ∧ AllLt c3 own) (h2 : @Eq Nat c4 c2 ∨ @LT.lt Nat _ L c4 ∧ AllLt c4 own) : OT c3 c4 own := fun q hq =>
  ⟨up_ne h (O q hq).1 fun k => ktn_ltOf k.2 q hq, (O q hq).2.1, up_ne h2 (O q hq).2.2.1 fun k => ktn_ltOf k.2 q hq, (O q hq).2.2.2⟩
theorem News_four {G h : Heap} {L : Addr} {a : Addr × Obj} {own four : List (Addr × Obj)} (N : News G L h (a :: own ++ four)) : News G L h (a :: four ++ own) := News_rot N
section
variable {w : World} {s : Shared} {A A' : Around} {base G : Heap} {outer : List Env} {p : Program} {loose : List Str} {mean : ExcName → Option Value} {mg mb : Str → Option Value} {L : Addr} {m : Str → Option Value} {env : Env}
  {c : Addr} {k o : Obj} {c2 : Addr} {k2 o2 : Obj} {own : List (Addr × Obj)} {E : Value → Shared → Prop} {Q : Value → Shared → Prop} {P : Int → Int → Prop} {f : Addr} {dd uu : Nat}
theorem call_dm2 (H : DivC w f P dd uu) {a b : Int} {ta tb : Tok} (B : Below A base outer G) (F : Fr G L s.heap m) (hA : A' = A.deeper env) (hf : env.frame = some L) (hk : env.scope.kind = .function) (hh : A.handled = none) (N : News G L s.heap ((c, k) :: (30, o) :: (c2, k2) :: (37, o2) :: own))
    (hTP : TP c k o c2 k2 o2) (O : OT c c2 own) (C : CodeHd G 34 30) (C2 : CodeHd G 41 37) (X : (pre.heap_1_39 w.params).In G) (T : Top p loose mean mg mb G)
    (hP : P a b) (hdep : A.depth + (dd + 1) < recursionLimit) (hun : A.units + (uu + 3) < cLine)
    (h : ∀ (h' : Heap) (tk : Nat) (t : Addr) (t1 t2 : Tok) (c' : Addr) (k' o' : Obj) (c2' : Addr) (k2' o2' : Obj), Fr G L h' m → News G L h' ((t, tupOf #[.int (a / b) t1, .int (a % b) t2]) :: (c', k') :: (30, o') :: (c2', k2') :: (37, o2') :: own) → TP c' k' o' c2' k2' o2' → OT c' c2' own →
      (@Eq Nat c' c ∨ @LT.lt Nat _ L c') → (@Eq Nat c2' c2 ∨ @LT.lt Nat _ L c2') → Q (.ref t) { s with heap := h', toks := tk }) :
    wpAny (model PySem.Challenge.rw_ta0029_01.row.prog w) A' (call (.ref f) [.int a ta, .int b tb]) Q E s := by
  refine call_dm H B F hA hf hk hh (News_drop 4 N) (News_take 4 N) hTP O C C2 X T hP hdep hun ?_
  intro h' tk t t1 t2 c' k' o' c2' k2' o2' F' N' hTP' _ _ hcc hcc2 _ _
  exact h h' tk t t1 t2 c' k' o' c2' k2' o2' F' (News_rot N') hTP' (OT.next O hcc hcc2) (hcc.imp id fun x => x.1) (hcc2.imp id fun x => x.1)
/-- a call of bisect_left out of a frame -/
theorem call_bs {l f : Addr} {x : Int} {tx : Tok} {vs : List Value} {news : List (Addr × Obj)} (B : Below A base outer G) (F : Fr G L s.heap m) (hA : A' = A.deeper env) (hf : env.frame = some L) (hk : env.scope.kind = .function) (hh : A.handled = none) (N : News G L s.heap news)
    (X : (pre.heap_1_39 w.params).In G) (T : Top p loose mean mg mb G)
    (hl : s.heap.IsList l vs.toArray) (hi : IntsAre vs ((List.range 256).map fun (i : Nat) => (i : Int))) (hs : SqC PySem.Challenge.rw_ta0029_01.row.prog w s.heap f) (hfn : FnAt f s.heap) (hdep : A.depth + 12 < recursionLimit) (hun : A.units + 110 < cLine)
    (h : ∀ h' tk t, Fr G L h' m → News G L h' news → Q (.int (bs x 256 0 256) t) { s with heap := h', toks := tk }) :
    wpAny (model PySem.Challenge.rw_ta0029_01.row.prog w) A' (call (.ref 65) [.ref l, .int x tx] [(PySem.Str.ofString "key", .ref f)]) Q E s := by
  subst hA
  have g := groundT B F [] (fun _ h => nomatch h) hf hk
  refine wpAny_call (bs_call hh (pushX B F hf hk) (X.keeps F.keep) (T.keeps F.keep) hl hi hs hfn (by rw [depth_deeper]; omega) (by rw [units_deeper]; omega) ?_)
  intro h' tk t ks sz
  exact h h' tk t (Fr_on F ks) (News_on N ks)
end
section
variable {M : Model} {A : Around} {E : Value → Shared → Prop} {s : Shared} {h₀ : Heap} {L a : Addr} {m mg mb : Str → Option Value} {cn : Str} {cs : Scope} {ccd : Value} {cl : List (Str × Addr)}
  {p : Program} {loose : List Str} {mean : ExcName → Option Value} {name qual : Str} {params : Arguments} {body : PySem.Expr} {scope : Scope} {pos : Pos} {firstLine : Nat}
/-- the lambda made, be its code object there or not -/
theorem lam_any {Q : Value → Shared → Prop} {pre post : List (Addr × Obj)} {o5 : Obj} {co P : Addr} (F : Fr h₀ L s.heap m) (N : News h₀ L s.heap (pre ++ (P, o5) :: post)) (hpre : ∀ q ∈ pre, q.1 ≠ P) (hpost : ∀ q ∈ post, q.1 ≠ P) (T : Top p loose mean mg mb h₀) (C : CodeHd h₀ co P) (hcd : ccd = .ref co)
    (hcl : closureFor scope (envX cn cs L a ccd cl) = pure []) (S : o5 = tabObj #[] ∨ ∃ c5 k5, (c5, k5) ∈ post ∧ TF pos.line pos.col qual c5 k5 o5)
    (h : ∀ (f c5 : Addr) (oc : Obj) (ctv : Value) (o5' : Obj) (h' : Heap) (tk : Nat), Fr h₀ L h' m → News h₀ L h' ((f, kla_obj name qual params body scope [] ((mg "__name__").getD .none) c5 ctv) :: (c5, oc) :: (pre ++ (P, o5') :: post)) → TF pos.line pos.col qual c5 oc o5' →
      ((c5, oc) ∈ post ∨ AllLt c5 (pre ++ (P, o5) :: post)) → AllLt f (pre ++ (P, o5) :: post) → Q (.ref f) { s with heap := h', toks := tk }) :
    wpAny M A (makeFunction name qual params (.expr body) scope (envX cn cs L a ccd cl) [] [] [] pos firstLine) Q E s := by
  have U : ∀ {pre : List (Addr × Obj)}, (∀ q ∈ pre, q.1 ≠ P) → UpdF P o5 (pre ++ (P, o5) :: post) (fun o' => pre ++ (P, o') :: post) := by
    intro pre hp
    induction pre with
    | nil => exact .head hpost
    | cons x r ih => exact .tail (hp x (.head _)) (ih fun q hq => hp q (.tail _ hq))
  rcases S with rfl | ⟨c5, k5, hm, rfl, kv, kt, hk1, hk2⟩
  · refine kla_nest F N T C hcd (U hpre) trivial rfl hcl ?_
    intro f c' oc vs t ctv h' tk F' N' d1 d2 l1 l2
    exact h f c' oc ctv _ h' tk F' N' ⟨rfl, vs, t, d1, d2⟩ (.inr (allLt_of l1)) (allLt_of fun q hq => Nat.lt_trans (l1 q hq) l2)
  · refine kla_hit (c' := c5) F N T C hcd (List.mem_append_right _ (.head _)) (by simp [TriplesOk, rawInt]) (by simp [codeAmong, rawInt]) hcl ?_
    intro f ctv h' tk F' N' l1
    refine h f c5 k5 ctv _ h' tk F' (News_app (News_take 1 N') ?_) ⟨rfl, kv, kt, hk1, hk2⟩ (.inl hm) (allLt_of l1)
    exact fun q hq => N' q (.tail _ ((List.mem_cons.mp hq).elim (fun e => by rw [e]; exact List.mem_append_right _ (.tail _ hm)) id))
end
end Mine
end
section
open PySem PySem.Spec PySem.Calls PySem.W PyProof.Rows
set_option maxRecDepth 100000
set_option rowWalk.seconds 0
namespace Mine

/-- what a row of the run tells -/
def keptR (b : Int) (r : Row3) : Int := (b * (r.2.2.natAbs : Int) - 1) / (r.2.1.natAbs : Int)
def leftR (b : Int) (r : Row3) : Int := (b * (r.2.2.natAbs : Int) - 1) % (r.2.1.natAbs : Int)
def halfR (a b : Int) (r : Row3) : Int := (a + 1 - keptR b r) / 2
def oddR (a b : Int) (r : Row3) : Int := (a + 1 - keptR b r) % 2
def sqR (a b : Int) (r : Row3) : Int := halfR a b r * halfR a b r - a
def placeR (a b : Int) (r : Row3) : Nat := bs (sqR a b r) 256 0 256
def okR (b : Int) (r : Row3) : Bool := r.2.1 != 0 && decide (r.2.1.natAbs < 2 ^ 40) && decide (r.2.2.natAbs < 2 ^ 40) && decide (-(2 ^ 40) < keptR b r) && decide (keptR b r < 2 ^ 40)
def hitR (a b : Int) (r : Row3) : Bool := leftR b r == 0 && oddR a b r == 0 && decide (0 < halfR a b r) && decide (placeR a b r < 256) && (placeR a b r : Int) * (placeR a b r : Int) == sqR a b r
def secF (a b : Int) : List Row3 → Option (List Int)
  | [] => none
  | r :: rs => if okR b r then (if hitR a b r then some [(r.2.2.natAbs : Int), halfR a b r - placeR a b r, halfR a b r + placeR a b r] else secF a b rs) else none
def lamPos : Pos := match lamE with
  | .Lambda _ _ _ pos => pos
  | _ => ⟨0, 0, 0, 0⟩
def q137 : Str := ((PySem.Str.ofString "_law_secret" ++ ".<locals>." : Str) ++ PySem.Str.ofString "<lambda>" : Str)
theorem us_range {us : List Value} (h : IntsAre us (rangeKs 0 256)) : IntsAre us ((List.range 256).map fun (i : Nat) => (i : Int)) := by
  have e : rangeKs 0 256 = (List.range 256).map fun (i : Nat) => (i : Int) := by
    unfold rangeKs
    exact List.map_congr_left fun i _ => Int.zero_add _
  rw [← e]; exact h
theorem pick2 (x y : Value) (vs : List Value) : kms_pick (x :: y :: vs) (some 2) none = vs := by
  unfold kms_pick kms_lo kms_hi
  simp
theorem RA.get {tl : List (Addr × Obj)} : ∀ {vs : List Value} {rs : List Row3} {i : Nat}, RA tl vs rs → ∀ {r : Row3} {rr : List Row3}, rs.drop i = r :: rr → ∃ a t1 t2 t3, vs[i]? = some (.ref a) ∧ (a, tupOf #[.int r.1 t1, .int r.2.1 t2, .int r.2.2 t3]) ∈ tl
  | _, _, 0, .cons m k, r, rr, e => by
    rw [List.drop_zero] at e
    cases e
    exact ⟨_, _, _, _, rfl, m⟩
  | _, _, i + 1, .cons m k, r, rr, e => k.get (i := i) e
  | _, _, 0, .nil, r, rr, e => nomatch e
  | _, _, i + 1, .nil, r, rr, e => nomatch e
local macro_rules | `(tactic| walk_at "exec For") => `(tactic| (refine hold_of ?_))
local macro_rules | `(tactic| walk_at "exec For Name Call cons nil") => `(tactic| (refine hold_of ?_))
local macro_rules | `(tactic| walk_at "exec For Tuple Subscript cons nil") => `(tactic| (refine hold_of ?_))
local macro_rules | `(tactic| walk_at "pyIter ref") => `(tactic| (refine hold_of ?_))
local macro_rules | `(tactic| walk_at "call ref") => `(tactic| ((with_reducible show wpAny _ _ (call (Value.ref 56) _) _ _ _); refine hold_of ?_))
local macro_rules | `(tactic| walk_at "call ref") => `(tactic| ((with_reducible show wpAny _ _ (call (Value.ref 130) _) _ _ _); refine hold_of ?_))
local macro_rules | `(tactic| walk_at "eval Name") => `(tactic| (k_here; k_dflt (refine' nameLA ?F ?v ?_; (case F => k_asm); (case v => first | exact rfl | assumption); k_whole)))
local macro_rules | `(tactic| walk_at "call type:list") => `(tactic| (refine hold_of ?_))
local macro_rules | `(tactic| walk_at "eval Lambda") => `(tactic| (refine hold_of ?_))
local macro_rules | `(tactic| walk_at "subscriptTail Name Slice ref ref") => `(tactic| (refine hold_of ?_))
def sq2 (a : Int) : Int := a * a
section
variable {prog : Program} {w : World} {A : Around} {s : Shared} {E : Value → Shared → Prop} {Q : Value → Shared → Prop}
theorem item_rg {value slice : PySem.Expr} {l : Addr} {us : List Value} {k : Int} {u : Tok} (hl : s.heap.IsList l us.toArray) (hi : IntsAre us ((List.range 256).map fun (i : Nat) => (i : Int))) (h0 : 0 ≤ k) (h1 : k < 256) (h : ∀ t, Q (.int k t) s)
    (hs : subscripted slice false (.ref l) (.int k u) = operate [.ref l, .int k u] (getItem (.ref l) (.int k u)) := by with_unfolding_all rfl) :
    wpAny (model prog w) A (subscriptTail value slice (.ref l) (.int k u)) Q E s := by
  obtain ⟨t, ht⟩ := ints_get (i := k.toNat) hi (by rw [List.length_map, List.length_range]; omega)
  obtain ⟨n, rfl⟩ := Int.eq_ofNat_of_zero_le h0
  have e := rg_getD (n := 256) (mid := n) (by omega)
  rw [e] at ht
  exact tail_any hl.typeIs slot_list_getitem.lookup (wpAny_getItem_list hl h0 (by omega) (by simpa using ht) (h t)) hs
theorem pow_sq {a : Int} {t u : Tok} (ha : a.natAbs < 2 ^ 64) (h : Q (.int (sq2 a) s.toks) { s with toks := s.toks + 1 }) : wpAny (model prog w) A (binaryOp .Pow (.int a t) (.int 2 u)) Q E s := by
  refine pow_int_small (by decide) (by decide) ha ?_
  rw [show a ^ (2 : Int).toNat = a * a from Int.pow_succ .. |>.trans (by rw [Int.pow_one])]
  exact h
end
theorem abs_eq (x : Int) : (if x < 0 then -x else x) = (x.natAbs : Int) := by split <;> omega
theorem okR_of {b : Int} {r : Row3} (h : okR b r = true) : r.2.1 ≠ 0 ∧ r.2.1.natAbs < 2 ^ 40 ∧ r.2.2.natAbs < 2 ^ 40 ∧ -(2 ^ 40) < keptR b r ∧ keptR b r < 2 ^ 40 := by
  simp only [okR, Bool.and_eq_true, decide_eq_true_eq, bne_iff_ne] at h
  exact ⟨h.1.1.1.1, h.1.1.1.2, h.1.1.2, h.1.2, h.2⟩
theorem dlen_le {n k : Nat} {x : Int} (hn : 0 < n) (h : x.natAbs < 2 ^ k) (hk : k ≤ 200) : dlen n x ≤ 200 := by
  have : Builtin.Int.intBits x ≤ k := intBits_le h
  unfold dlen
  refine Nat.div_le_of_le_mul ?_
  have := Nat.le_mul_of_pos_left 200 hn
  omega
theorem any_big {a b : Int} (ha : a.natAbs < 2 ^ 190) (hb : 0 < b) (hb1 : b < 2 ^ 64) : AnyDiv a b :=
  ⟨hb, hb1, dlen_le (bits_pos hb) ha (by decide), dlen_le (k := 191) (bits_pos hb) (by omega) (by decide)⟩

local macro_rules | `(tactic| walk_at "subscriptTail Name Name ref int") => `(tactic| (k_here; (with_reducible show wpAny _ _ (subscriptTail _ _ (Value.ref _) (Value.int _ _)) _ _ _); (refine' item_rg ?k1 (by assumption) ?k3 ?k4 ?_ ?k6; (case k1 => exact PySem.IsL.isList (News.get (by k_asm) (by k_mem))); (case k3 => omega); (case k4 => omega); (case k6 => with_unfolding_all rfl); k_whole); intro _))
local macro_rules | `(tactic| walk_at "subscriptTail Name BinOp ref int") => `(tactic| (k_here; (with_reducible show wpAny _ _ (subscriptTail _ _ (Value.ref _) (Value.int _ _)) _ _ _); (refine' item_rg ?k1 (by assumption) ?k3 ?k4 ?_ ?k6; (case k1 => exact PySem.IsL.isList (News.get (by k_asm) (by k_mem))); (case k3 => omega); (case k4 => omega); (case k6 => with_unfolding_all rfl); k_whole); intro _))
local macro_rules | `(tactic| walk_at "binaryOp Pow int int") => `(tactic| (k_here; (with_reducible refine pow_sq (by omega) ?_)))
local macro_rules | `(tactic| walk_at "execs nil") => `(tactic| (refine wpAny_execs_nil (hold_of ?_)))
local macro_rules | `(tactic| k_all) => `(tactic| assumption)
set_option maxHeartbeats 4000000 in
theorem sec_t1 {w : World} {s : Shared} {A : Around} {base G : Heap} {outer : List Env} {p : Program} {loose : List Str} {mean : ExcName → Option Value} {mg mb : Str → Option Value}
    {st : Stmt} (hK : (forBody (stm2 19 1)).getD 6 (.Pass ⟨0,0,0,0⟩) = st) {name bind : Str} {params : Arguments} {body : List Stmt} {scope : Scope} {pos : Pos} (hK0 : stm 19 = .FunctionDef name params body [] none [] scope none bind pos) {L : Addr}
    {m : Str → Option Value} {hv : Addr} {us : List Value} {e2 : Nat} {rest : List (Addr × Obj)} {pl : Nat} {sq half odd left other : Int} {t1 t2 t3 t4 t5 t6 : Tok} {Q : Flow → Shared → Prop}
    (B : Below A base outer G) (X : (pre.heap_1_39 w.params).In G) (T : Top p loose mean mg mb G)
    (F : Fr G L s.heap m) (N : News G L s.heap ((hv, listOf (List.toArray us) e2) :: rest)) (hi : IntsAre us ((List.range 256).map fun (i : Nat) => (i : Int)))
    (v1 : m (PySem.Str.ofString "halves") = some (.ref hv)) (v2 : m (PySem.Str.ofString "place") = some (.int pl t1)) (v3 : m (PySem.Str.ofString "square") = some (.int sq t2)) (v4 : m (PySem.Str.ofString "half") = some (.int half t3))
    (v5 : m (PySem.Str.ofString "odd") = some (.int odd t4)) (v6 : m (PySem.Str.ofString "left") = some (.int left t5)) (v7 : m (PySem.Str.ofString "other") = some (.int other t6))
    (b2 : pl ≤ 256) (b5 : pl < 256 → sq ≤ sq2 pl) (b6 : 0 < pl → sq2 ((pl : Int) - 1) < sq)
    (hQ : ∀ h' tk, Fr G L h' m → News G L h' ((hv, listOf (List.toArray us) e2) :: rest) → Q .next { s with heap := h', toks := tk }) :
    wpAny (model PySem.Challenge.rw_ta0029_01.row.prog w) (A.deeper (envOf (PySem.Str.ofString "_law_secret") scope L 137 (.ref 136))) (exec st (envOf (PySem.Str.ofString "_law_secret") scope L 137 (.ref 136))) Q (fun _ _ => False) s := by
  subst hK
  cases hK0
  revert X; k_fill; intro X
  have K0 := B
  w_top on
  rcases Nat.eq_zero_or_pos pl with h0 | h0 <;> rcases Nat.lt_or_ge pl 256 with h1 | h1
  · have g1 := b5 h1
    clear b5 b6
    show wpAny _ _ (exec (.If _ _ _ _) _) _ _ _
    k_steps
    all_goals (rename Fr _ _ _ _ => F1; rename News _ _ _ _ => N1)
    all_goals exact hQ _ _ F1 N1
  · exfalso; omega
  · have g1 := b5 h1
    have g2 := b6 h0
    clear b5 b6
    show wpAny _ _ (exec (.If _ _ _ _) _) _ _ _
    k_steps
    all_goals (rename Fr _ _ _ _ => F1; rename News _ _ _ _ => N1)
    all_goals exact hQ _ _ F1 N1
  · have g2 := b6 h0
    clear b5 b6
    show wpAny _ _ (exec (.If _ _ _ _) _) _ _ _
    k_steps
    all_goals (rename Fr _ _ _ _ => F1; rename News _ _ _ _ => N1)
    all_goals exact hQ _ _ F1 N1
set_option maxHeartbeats 4000000 in
theorem sec_t2 {w : World} {s : Shared} {A : Around} {base G : Heap} {outer : List Env} {p : Program} {loose : List Str} {mean : ExcName → Option Value} {mg mb : Str → Option Value}
    {st : Stmt} (hK : (forBody (stm2 19 1)).getD 7 (.Pass ⟨0,0,0,0⟩) = st) {name bind : Str} {params : Arguments} {body : List Stmt} {scope : Scope} {pos : Pos} (hK0 : stm 19 = .FunctionDef name params body [] none [] scope none bind pos) {L : Addr}
    {m : Str → Option Value} {hv : Addr} {us : List Value} {e2 : Nat} {rest : List (Addr × Obj)} {pl : Nat} {sq half odd left other : Int} {t1 t2 t3 t4 t5 t6 : Tok} {Q : Flow → Shared → Prop}
    (B : Below A base outer G) (X : (pre.heap_1_39 w.params).In G) (T : Top p loose mean mg mb G)
    (F : Fr G L s.heap m) (N : News G L s.heap ((hv, listOf (List.toArray us) e2) :: rest)) (hi : IntsAre us ((List.range 256).map fun (i : Nat) => (i : Int)))
    (v1 : m (PySem.Str.ofString "halves") = some (.ref hv)) (v2 : m (PySem.Str.ofString "place") = some (.int pl t1)) (v3 : m (PySem.Str.ofString "square") = some (.int sq t2)) (v4 : m (PySem.Str.ofString "half") = some (.int half t3))
    (v5 : m (PySem.Str.ofString "odd") = some (.int odd t4)) (v6 : m (PySem.Str.ofString "left") = some (.int left t5)) (v7 : m (PySem.Str.ofString "other") = some (.int other t6))
    (b2 : pl ≤ 256) 
    (hhit : (left = 0 ∧ odd = 0 ∧ 0 < half ∧ pl < 256 ∧ sq2 pl = sq) → ∀ h' tk l u1 u2 u3, Fr G L h' m → News G L h' ((l, listOf #[.int (other.natAbs : Int) u1, .int (half - pl) u2, .int (half + pl) u3] 0) :: (hv, listOf (List.toArray us) e2) :: rest) → AllLt l ((hv, listOf (List.toArray us) e2) :: rest) → Q (.ret (.ref l)) { s with heap := h', toks := tk })
    (hmiss : ¬ (left = 0 ∧ odd = 0 ∧ 0 < half ∧ pl < 256 ∧ sq2 pl = sq) → ∀ h' tk, Fr G L h' m → News G L h' ((hv, listOf (List.toArray us) e2) :: rest) → Q .next { s with heap := h', toks := tk }) :
    wpAny (model PySem.Challenge.rw_ta0029_01.row.prog w) (A.deeper (envOf (PySem.Str.ofString "_law_secret") scope L 137 (.ref 136))) (exec st (envOf (PySem.Str.ofString "_law_secret") scope L 137 (.ref 136))) Q (fun _ _ => False) s := by
  subst hK
  cases hK0
  revert X; k_fill; intro X
  have K0 := B
  w_top on
  show wpAny _ _ (exec (.If _ _ _ _) _) _ _ _
  k_steps
  all_goals (rename Fr _ _ _ _ => F1; rename News _ _ _ _ => N1)
  all_goals first
    | exact hmiss (by omega) _ _ F1 N1
    | (simp only [abs_eq] at N1; exact hhit ⟨by omega, by omega, by omega, by omega, by omega⟩ _ _ _ _ _ _ F1 N1 (by assumption))
end Mine
end
section
open PySem PySem.Spec PySem.Calls PySem.W PyProof.Rows
set_option maxRecDepth 100000
set_option rowWalk.seconds 0
namespace Mine
local macro_rules | `(tactic| walk_at "exec For") => `(tactic| (refine hold_of ?_))
local macro_rules | `(tactic| walk_at "exec For Name Call cons nil") => `(tactic| (refine hold_of ?_))
local macro_rules | `(tactic| walk_at "exec For Tuple Subscript cons nil") => `(tactic| (refine hold_of ?_))
local macro_rules | `(tactic| walk_at "pyIter ref") => `(tactic| (refine hold_of ?_))
local macro_rules | `(tactic| walk_at "call ref") => `(tactic| ((with_reducible show wpAny _ _ (call (Value.ref 56) _) _ _ _); refine hold_of ?_))
local macro_rules | `(tactic| walk_at "call ref") => `(tactic| ((with_reducible show wpAny _ _ (call (Value.ref 130) _) _ _ _); refine hold_of ?_))
local macro_rules | `(tactic| walk_at "eval Name") => `(tactic| (k_here; k_dflt (refine' nameLA ?F ?v ?_; (case F => k_asm); (case v => first | exact rfl | assumption); k_whole)))
local macro_rules | `(tactic| walk_at "call type:list") => `(tactic| (refine hold_of ?_))
local macro_rules | `(tactic| walk_at "eval Lambda") => `(tactic| (refine hold_of ?_))
local macro_rules | `(tactic| walk_at "subscriptTail Name Slice ref ref") => `(tactic| (refine hold_of ?_))
local macro_rules | `(tactic| walk_at "execs cons") => `(tactic| ((with_reducible show wpAny _ _ (execs [Stmt.If _ _ _ _, Stmt.If _ _ _ _] _) _ _ _); refine hold_of ?_))
set_option maxHeartbeats 0 in
theorem sec_call {w : World} {s : Shared} {A : Around} {base G : Heap} {outer : List Env} {p : Program} {loose : List Str} {mean : ExcName → Option Value} {mg mb : Str → Option Value}
    {c : Addr} {k o : Obj} {c2 : Addr} {k2 o2 : Obj} {a b : Int} {ta tb : Tok} {R : Result → Shared → Prop}
    (hG : G = hideAll s.heap [c, 30, c2, 37, 132]) (hc : s.heap.get? c = some k) (ho : s.heap.get? 30 = some o) (hc2 : s.heap.get? c2 = some k2) (ho2 : s.heap.get? 37 = some o2) (h132 : s.heap.get? 132 = some (tabObj #[])) (hTP : TP c k o c2 k2 o2) (nc : @Ne Nat c 132) (nc2 : @Ne Nat c2 132)
    (C : CodeHd G 34 30) (C2 : CodeHd G 41 37) (C3 : CodeHd G 136 132)
    (hh : A.handled = none) (B : Below A base outer G) (X : (pre.heap_1_39 w.params).In G) (T : Top p loose mean mg mb G)
    (ha : 0 ≤ a) (ha1 : a < 2 ^ 40) (hb : 0 ≤ b) (hb1 : b < 2 ^ 40) {ans : List Int} (hsec : secF a b (runL 60 (a, 1, 0) (b, 0, 1)) = some ans)
    (hdep : A.depth + 420 < recursionLimit) (hun : A.units + 1700 < cLine)
    (hR : ∀ (h' : Heap) (tk : Nat) (l : Addr) (us : List Value) (e : Nat) (c' : Addr) (k' o' : Obj) (c2' : Addr) (k2' o2' : Obj), G.StaysIn h' → G.objs.size ≤ h'.objs.size → G.get? l = none → h'.get? l = some (listOf (List.toArray us) e) → IntsAre us ans →
      h'.get? c' = some k' → h'.get? 30 = some o' → h'.get? c2' = some k2' → h'.get? 37 = some o2' → TP c' k' o' c2' k2' o2' → (@Eq Nat c' c ∨ @LE.le Nat _ G.objs.size c') → (@Eq Nat c2' c2 ∨ @LE.le Nat _ G.objs.size c2') → @Ne Nat l c' → @Ne Nat l c2' → @Ne Nat l 30 → @Ne Nat l 37 → ∀ ps : Array Value, h'.get? 132 = some (tabObj ps) → @Ne Nat l 132 → @Ne Nat c' 132 → @Ne Nat c2' 132 → R (.ok (.ret (.ref l))) { s with heap := h', toks := tk }) :
    codeAny (model PySem.Challenge.rw_ta0029_01.row.prog w) A (.call (.ref 137) ⟨[.int a ta, .int b tb], []⟩) R s := by
  obtain ⟨ah, dp, fr, gd, un⟩ := A
  cases hh
  dsimp only at hdep hun
  revert X; k_fill; intro X
  refine enterG [(c, k), (30, o), (c2, k2), (37, o2), (132, tabObj #[])] hG (by simp [hc, ho, hc2, ho2, h132]) T X (by k_is) (by k_is) (by show dp < _; omega) (BindsTo.of_eq rfl) (locs rfl) ?_ rfl rfl rfl (by decide)
  intro L h₁ hL F N l0
  have K0 := B
  k_lt l0
  w_top on
  have hLs : G.objs.size ≤ L := by rw [hG, hideAll_size, hL]; exact Nat.le_refl _
  k_steps
  show wpAny _ _ _ _ _ _
  rename Fr _ _ _ _ => F1
  rename News _ _ _ _ => N1
  rename_i hr _
  refine kll_range rfl F1 N1 hr rfl (n := 256) rfl (by decide) ?_
  intro hv us e2 h2 tk2 F2 N2 l2 i2
  k_lt l2
  clear F1 N1 hr
  dsimp only
  k_steps
  show wpAny _ _ _ _ _ _
  refine For_hid ?_
  k_steps
  show wpAny _ _ _ _ _ _
  rename Fr _ _ _ _ => F1
  rename News _ _ _ _ => N1
  refine call_run (own := [(hv, _), (132, tabObj #[])]) B F1 rfl rfl rfl rfl (News_app (News_take 1 N1) (News_drop 5 N1)) (News_take 4 (News_drop 1 N1)) hTP ?_ C C2 X T ha ha1 hb hb1 (by show dp + _ < _; omega) (by show un + _ < _; omega) ?_
  · intro q hq
    simp only [List.mem_cons, List.not_mem_nil, or_false] at hq
    rcases hq with rfl | rfl
    · exact ⟨neN (by omega), neN (by omega), neN (by omega), neN (by omega)⟩
    · exact ⟨nc.symm, by decide, nc2.symm, by decide⟩
  intro h3 tk3 l lv e3 tl c' k' o' c2' k2' o2' F3 N3 NL3 hTP3 hra htl hown hcc hcc2 m1 m2 m3 m4 hlen
  simp only [AllLt, and_true] at hcc hcc2
  replace N3 := News_app N3 NL3
  clear NL3
  dsimp only [List.cons_append, List.nil_append] at N3
  clear F1 N1
  dsimp only
  k_steps
  show wpAny _ _ _ _ _ _
  rename Fr _ _ _ _ => F4
  rename News _ _ _ _ => N4
  cases hra with
  | cons ma hra =>
  cases hra with
  | @cons _ _ _ _ _ _ _ vs rs0 mb' hra =>
  refine kms_slice_lit F4 N4 (PySem.IsL.isList (N4.get (.head _))) (.int _ _) .none (pick2 _ _ _) ?_ (by with_unfolding_all rfl) (by intro _; rfl) (by rw [List.size_toArray]; exact Nat.le_trans hlen (by decide))
  intro D h5 F5 N5 l5
  clear F4 N4
  have ltl := ktn_ltOf (allLt_of l5)
  k_lt l5
  dsimp only
  k_steps
  show wpAny _ _ _ _ _ _
  rename Fr _ _ _ _ => F6
  rename News _ _ _ _ => N6
  refine wpAny_pyIter_list (PySem.IsL.isList (N6.get (.head _))) ?_
  have F7 := F6.push { cls := .type "list_iterator", data := .fields #[.ref D, .int 0 0] }
  have N7 := N6.push F6 { cls := .type "list_iterator", data := .fields #[.ref D, .int 0 0] }
  have lD := allLt_of fun q hq => Heap.lt_size (N6 q hq).1
  simp only [AllLt, and_true] at lD
  dsimp only at F7 N7 lD
  clear F6 N6
  have N8 := News_app (News_take 4 (News_drop 5 N7)) (News_app (News_take 1 N7) (News_app (News_take 1 (News_drop 4 N7)) (News_app (News_take 1 (News_drop 1 N7)) (News_app (News_take 1 (News_drop 3 N7)) (News_drop 9 N7)))))
  dsimp only [List.take, List.drop, List.cons_append, List.nil_append] at N8
  clear N7
  dsimp only
  generalize h5.objs.size = It at N8 lD ⊢
  refine ⟨fun n s' => ∀ P : Shared → Prop, (∀ i h tk m' oi o5 c' k' o' c2' k2' o2' tl, n + i = vs.length → Fr G L h m' →
    News G L h ((c', k') :: (30, o') :: (c2', k2') :: (37, o2') :: (It, oi) :: (132, o5) :: (D, listOf (List.toArray vs) 0) :: (hv, listOf (List.toArray us) e2) :: tl) → TP c' k' o' c2' k2' o2' →
    (oi.cls = .type "list_iterator" ∧ oi.data = .fields #[.ref D, .int i 0]) → RA tl vs (runL 60 (a, 1, 0) (b, 0, 1)) → secF a b ((runL 60 (a, 1, 0) (b, 0, 1)).drop i) = some ans →
    (o5 = tabObj #[] ∨ ∃ c5 k5, (c5, k5) ∈ (D, listOf (List.toArray vs) 0) :: (hv, listOf (List.toArray us) e2) :: tl ∧ TF lamPos.line lamPos.col q137 c5 k5 o5) →
    OT c' c2' ((It, oi) :: (132, o5) :: (D, listOf (List.toArray vs) 0) :: (hv, listOf (List.toArray us) e2) :: tl) →
    (∀ q ∈ (132, o5) :: (D, listOf (List.toArray vs) 0) :: (hv, listOf (List.toArray us) e2) :: tl, q.1 ≠ It) → (∀ q ∈ (D, listOf (List.toArray vs) 0) :: (hv, listOf (List.toArray us) e2) :: tl, q.1 ≠ 132) →
    (@Eq Nat c' c ∨ @LT.lt Nat _ L c') → (@Eq Nat c2' c2 ∨ @LT.lt Nat _ L c2') →
    m' (PySem.Str.ofString "product") = some (.int a ta) → m' (PySem.Str.ofString "exponent") = some (.int b tb) → m' (PySem.Str.ofString "halves") = some (.ref hv) → P { s with heap := h, toks := tk }) → P s', vs.length, ?_, ?_⟩
  · refine fun P hP => hP 0 _ _ _ _ _ c' k' o' c2' k2' o2' tl rfl F7 N8 hTP3 ⟨rfl, rfl⟩ hra hsec (.inl rfl) ?_ ?_ ?_ (hcc.imp id fun x => x.1) (hcc2.imp id fun x => x.1) rfl rfl rfl
    · refine .cons (by omega) (by omega) (by omega) (by omega) (.cons ?_ (by decide) ?_ (by decide) (.cons (by omega) (by omega) (by omega) (by omega) (.cons ?_ (by omega) ?_ (by omega) fun q hq => ⟨(htl q hq).2.1, (htl q hq).2.2.2.1, (htl q hq).2.2.1, (htl q hq).2.2.2.2⟩)))
      · exact fun e => hcc.elim (fun h => nc (h.symm.trans e.symm)) fun h => Nat.ne_of_lt h.2.2 e
      · exact fun e => hcc2.elim (fun h => nc2 (h.symm.trans e.symm)) fun h => Nat.ne_of_lt h.2.2 e
      · exact up_ne (c := c) (c3 := c') hcc (neN (by omega)) fun h => h.2.1
      · exact up_ne (c := c2) (c3 := c2') hcc2 (neN (by omega)) fun h => h.2.1
    · refine List.forall_mem_cons.mpr ⟨neN (by dsimp only; omega), List.forall_mem_cons.mpr ⟨neN (by dsimp only; omega), List.forall_mem_cons.mpr ⟨neN (by dsimp only; omega), fun q hq => Nat.ne_of_lt (ktn_ltOf lD.2.2.2.2.2.2.2.2 q hq)⟩⟩⟩
    · refine List.forall_mem_cons.mpr ⟨neN (by dsimp only; omega), List.forall_mem_cons.mpr ⟨neN (by dsimp only; omega), (hown _ (.tail _ (.head _))).2⟩⟩
  · clear F7 N8 hTP3 hra hsec htl hown hcc hcc2 m1 m2 m3 m4 ma mb' lD l5 ltl
    clear tl c' k' o' c2' k2' o2'
    intro n s' hI0 Qa hQa _ hRa
    refine hI0 _ fun i h tk m' oi o5 c' k' o' c2' k2' o2' tl hi F4 N4 hTP3 hoi hra hsec hS hO hI h132n hc' hc2' vp ve vh => ?_
    clear hI0
    have zI := N4 _ (.tail _ (.tail _ (.tail _ (.tail _ (.head _)))))
    cases hrr : (runL 60 (a, 1, 0) (b, 0, 1)).drop i with
    | nil => rw [hrr] at hsec; cases hsec
    | cons r rr =>
    rw [hrr] at hsec
    obtain ⟨r0, one, other⟩ := r
    obtain ⟨at_, t1, t2, t3, hv_, hm_⟩ := hra.get hrr
    dsimp only at hm_
    refine wpAny_pyNext_list_item ⟨_, zI.1, hoi.1, hoi.2⟩ (PySem.IsL.isList (N4.get (.tail _ (.tail _ (.tail _ (.tail _ (.tail _ (.tail _ (.head _)))))))))  ((List.getElem?_toArray ..).trans hv_) fun h5' hit hsb => ?_
    obtain ⟨oi', hoi1, hoi2, hoi3⟩ := id hit
    have F5 := F4.change hsb zI.2.1 zI.2.2
    have N4' := News_app (News_take 1 (News_drop 4 N4)) (News_app (News_take 4 N4) (News_drop 5 N4))
    dsimp only [List.take, List.drop, List.cons_append, List.nil_append] at N4'
    have N5 := News_set1 N4' hsb hoi1 (List.forall_mem_cons.mpr ⟨hO.head.1.symm, List.forall_mem_cons.mpr ⟨hO.head.2.1.symm, List.forall_mem_cons.mpr ⟨hO.head.2.2.1.symm, List.forall_mem_cons.mpr ⟨hO.head.2.2.2.symm, hI⟩⟩⟩⟩)
    have N6 := News_app (News_take 4 (News_drop 1 N5)) (News_app (News_take 1 N5) (News_drop 5 N5))
    dsimp only [List.take, List.drop, List.cons_append, List.nil_append] at N6
    have N7 := News_put (N6 _ (.tail _ (.tail _ (.tail _ (.tail _ (.tail _ (.tail _ (.tail _ (.tail _ hm_))))))))).2.1 (N6 _ (.tail _ (.tail _ (.tail _ (.tail _ (.tail _ (.tail _ (.tail _ (.tail _ hm_))))))))).2.2 (N6 _ (.tail _ (.tail _ (.tail _ (.tail _ (.tail _ (.tail _ (.tail _ (.tail _ hm_))))))))).1 N6
    clear F4 N4 N4' N5 N6 zI hsb
    dsimp only
    refine wpAny_letOwnedTupleGo_listiter hit ?_
    have hO' : OT c' c2' ((It, oi') :: (132, o5) :: (D, listOf (List.toArray vs) 0) :: (hv, listOf (List.toArray us) e2) :: tl) := .cons hO.head.1 hO.head.2.1 hO.head.2.2.1 hO.head.2.2.2 hO.tail
    rw [secF] at hsec
    by_cases hok : okR b (r0, one, other) = true
    case neg => rw [if_neg hok] at hsec; cases hsec
    rw [if_pos hok] at hsec
    obtain ⟨g1, g2, g3, g4, g5⟩ := okR_of hok
    dsimp only at N7 g1 g2 g3 g4 g5
    clear hok hO hit hoi
    k_steps
    show wpAny _ _ _ _ _ _
    rename Fr _ _ _ _ => F8
    rename News _ _ _ _ => N8
    simp only [abs_eq] at F8 ⊢
    generalize hvl : b * (other.natAbs : Int) - 1 = val at F8 ⊢ g4 g5
    generalize hab : (one.natAbs : Int) = ab at F8 ⊢
    have hab0 : 0 < ab := by omega
    have hab1 : ab < 2 ^ 40 := by omega
    have hval : val.natAbs < 2 ^ 190 := by
      rw [← hvl]
      have q1 : b * (other.natAbs : Int) ≤ 2 ^ 40 * (other.natAbs : Int) := Int.mul_le_mul_of_nonneg_right (by omega) (by omega)
      have q2 : 0 ≤ b * (other.natAbs : Int) := Int.mul_nonneg hb (by omega)
      omega
    refine call_dm2 (idm_c w) B F8 rfl rfl rfl rfl (News_drop 1 N8) hTP3 hO' C C2 X T (any_big hval hab0 (by omega)) (by show dp + _ < _; omega) (by show un + _ < _; omega) ?_
    intro h9 tk9 t9 v1 v2 c3 k3 o3 c4 k4 o4 F9 N9 hTP4 hO9 hc3 hc4
    (try clear F8 N8)
    clear hTP3
    have hkk : keptR b (r0, one, other) = val / ab := by unfold keptR; rw [← hvl, ← hab]
    have hll : leftR b (r0, one, other) = val % ab := by unfold leftR; rw [← hvl, ← hab]
    have e1 := Int.emod_add_mul_ediv val ab
    have e2' := Int.emod_nonneg val (show ab ≠ 0 by omega)
    have e3' := Int.emod_lt_of_pos val hab0
    rw [hkk] at g4 g5
    generalize val / ab = kept at F9 N9 hkk e1 g4 g5
    generalize val % ab = left at F9 N9 hll e1 e2' e3'
    rw [Int.mul_comm] at e1
    have i1 : Builtin.Int.intBits kept ≤ 64 := intBits_le_64 (by omega) (by omega)
    have i2' : Builtin.Int.intBits ab ≤ 64 := intBits_le_64 (by omega) (by omega)
    dsimp only
    k_steps
    show wpAny _ _ _ _ _ _
    rename Fr _ _ _ _ => F8
    rename News _ _ _ _ => N8
    refine call_dm2 (idm_c w) B F8 rfl rfl rfl rfl (News_drop 1 N8) hTP4 hO9 C C2 X T (any_big (by omega) (by decide) (by decide)) (by show dp + _ < _; omega) (by show un + _ < _; omega) ?_
    (try clear F9 N9)
    intro h10 tk10 t10 v3 v4 c5 k5 o5' c6 k6 o6 F9 N9 hTP5 hO10 hc5 hc6
    (try clear F8 N8)
    clear hTP4
    have hhh : halfR a b (r0, one, other) = (a + 1 - kept) / 2 := by unfold halfR; rw [hkk]
    have hoo : oddR a b (r0, one, other) = (a + 1 - kept) % 2 := by unfold oddR; rw [hkk]
    have e4 := Int.emod_add_mul_ediv (a + 1 - kept) 2
    have e5 := Int.emod_nonneg (a + 1 - kept) (show (2 : Int) ≠ 0 by decide)
    have e6 := Int.emod_lt_of_pos (a + 1 - kept) (show (0 : Int) < 2 by decide)
    generalize (a + 1 - kept) / 2 = half at F9 N9 hhh e4
    generalize (a + 1 - kept) % 2 = odd at F9 N9 hoo e4 e5 e6
    dsimp only
    have i3 : Builtin.Int.intBits half ≤ 64 := intBits_le_64 (by omega) (by omega)
    k_steps
    all_goals (try (exfalso; omega))
    rotate_left 1
    · exfalso
      rename ¬ (_ : List Int) = _ => hne
      apply hne
      simp only [abs_eq, hab]
      rw [show kept * ab + left = val by omega, show half * 2 + odd = a + 1 - kept by omega]
    show wpAny _ _ _ _ _ _
    rename Fr _ _ _ _ => F8
    rename News _ _ _ _ => N8
    have hsq : sqR a b (r0, one, other) = half * half - a := by unfold sqR; rw [hhh]
    refine kla_eval rfl ?_
    refine lam_any (pre := [(c5, k5), (30, o5'), (c6, k6), (37, o6), (It, oi')]) (post := (D, listOf (List.toArray vs) 0) :: (hv, listOf (List.toArray us) e2) :: tl) F8 (News_drop 3 N8) ?_ h132n T C3 rfl rfl ?_ ?_
    · refine List.forall_mem_cons.mpr ⟨hO10.tail.head.1.symm, List.forall_mem_cons.mpr ⟨(show @Ne Nat 30 132 by decide), List.forall_mem_cons.mpr ⟨hO10.tail.head.2.2.1.symm, List.forall_mem_cons.mpr ⟨(show @Ne Nat 37 132 by decide), List.forall_mem_cons.mpr ⟨(hI _ (.head _)).symm, fun _ h => nomatch h⟩⟩⟩⟩⟩
    · exact hS
    intro f cL oL ctv o7 h11 tk11 F10 N10 hTF hcc hff
    (try clear F8 N8)
    dsimp only [List.cons_append, List.nil_append] at N10
    dsimp only
    have hSq : SqC PySem.Challenge.rw_ta0029_01.row.prog w h11 f := lam_call (hK := rfl) (N10.get (.head _)) (codeRec_news N10 (.tail _ (.head _)) hTF.2.choose_spec.choose_spec.1 hTF.2.choose_spec.choose_spec.2) (T.keeps F10.keep) (X.keeps F10.keep)
    k_steps
    show wpAny _ _ _ _ _ _
    have hus := us_range i2
    refine call_bs (vs := us) B F10 rfl rfl rfl rfl N10 X T (PySem.IsL.isList (n := e2) (N10.get (by k_mem))) hus hSq (FnAt.of N10 (.head _)) (by show dp + _ < _; omega) (by show un + _ < _; omega) ?_
    clear hSq
    intro h12 tk12 t12 F11 N11
    (try clear F10 N10)
    have hpl : placeR a b (r0, one, other) = bs (half * half - a) 256 0 256 := by unfold placeR; rw [hsq]
    obtain ⟨b1, b2, b3, b4⟩ := bs_ok (half * half - a) 256 0 256 (by decide) (by decide)
    generalize bs (half * half - a) 256 0 256 = pl at F11 N11 hpl b1 b2 b3 b4 ⊢
    generalize half * half - a = sq at F11 N11 hsq b3 b4 ⊢
    have b5 : pl < 256 → sq ≤ sq2 pl := fun h => Int.not_lt.mp (b4 h)
    have b6 : 0 < pl → sq2 ((pl : Int) - 1) < sq := fun h => by
      have := b3 (pl - 1) (by omega) (by omega)
      rwa [show ((pl - 1 : Nat) : Int) = (pl : Int) - 1 by omega] at this
    clear b3 b4
    dsimp only
    k_steps
    show wpAny _ _ _ _ _ _
    rename Fr _ _ _ _ => F12
    rename News _ _ _ _ => N12
    have N13 := News_app (News_take 1 (News_drop 9 N12)) (News_app (News_take 9 N12) (News_drop 10 N12))
    dsimp only [List.take, List.drop, List.cons_append, List.nil_append] at N13
    clear N12
    have hhit : hitR a b (r0, one, other) = true ↔ (left = 0 ∧ odd = 0 ∧ 0 < half ∧ pl < 256 ∧ sq2 pl = sq) := by
      unfold hitR
      rw [hll, hoo, hhh, hpl, hsq]
      simp only [Bool.and_eq_true, beq_iff_eq, decide_eq_true_eq, sq2]
      constructor
      · rintro ⟨⟨⟨⟨a1, a2⟩, a3⟩, a4⟩, a5⟩; exact ⟨a1, a2, a3, a4, a5⟩
      · rintro ⟨a1, a2, a3, a4, a5⟩; exact ⟨⟨⟨⟨a1, a2⟩, a3⟩, a4⟩, a5⟩
    have hc7 : @Eq Nat c5 c ∨ @LT.lt Nat _ L c5 := by
      rcases hc5 with q | q
      · rw [show c5 = c3 from q]
        rcases hc3 with q | q
        · rw [show c3 = c' from q]; exact hc'
        · exact .inr q
      · exact .inr q
    have hc8 : @Eq Nat c6 c2 ∨ @LT.lt Nat _ L c6 := by
      rcases hc6 with q | q
      · rw [show c6 = c4 from q]
        rcases hc4 with q | q
        · rw [show c4 = c2' from q]; exact hc2'
        · exact .inr q
      · exact .inr q
    have hii : i < vs.length := by
      rcases Nat.lt_or_ge i vs.length with q | q
      · exact q
      · rw [List.getElem?_eq_none q] at hv_; cases hv_
    refine' wpAny_execs_cons (sec_t1 (pl := pl) (sq := sq) (half := half) (odd := odd) (left := left) (other := other) rfl rfl B X T F12 N13 hus ?v1 ?v2 ?v3 ?v4 ?v5 ?v6 ?v7 b2 b5 b6 ?_)
    case v1 => first | exact rfl | assumption
    case v2 => first | exact rfl | assumption
    case v3 => first | exact rfl | assumption
    case v4 => first | exact rfl | assumption
    case v5 => first | exact rfl | assumption
    case v6 => first | exact rfl | assumption
    case v7 => first | exact rfl | assumption
    clear F12 N13
    intro h13 tk13 F13 N13
    dsimp only
    refine' wpAny_execs_cons (sec_t2 (pl := pl) (sq := sq) (half := half) (odd := odd) (left := left) (other := other) rfl rfl B X T F13 N13 hus ?v1 ?v2 ?v3 ?v4 ?v5 ?v6 ?v7 b2 ?hit ?miss)
    case v1 => first | exact rfl | assumption
    case v2 => first | exact rfl | assumption
    case v3 => first | exact rfl | assumption
    case v4 => first | exact rfl | assumption
    case v5 => first | exact rfl | assumption
    case v6 => first | exact rfl | assumption
    case v7 => first | exact rfl | assumption
    case hit =>
      intro hh h14 tk14 l u1 u2 u3 F14 N14 ll
      rw [if_pos (hhit.mpr hh), hhh, hpl] at hsec
      cases hsec
      simp only [AllLt] at ll
      dsimp only
      refine hRa _ _ ?_
      refine hR _ _ l _ _ c5 k5 o5' c6 k6 o6 F14.keep (Nat.le_trans hLs (Nat.le_of_lt F14.ns.lt)) (N14 _ (.head _)).2.2 (N14.get (.head _)) (.cons _ _ (.cons _ _ (.cons _ _ .nil))) (N14.get (by k_mem)) (N14.get (by k_mem)) (N14.get (by k_mem)) (N14.get (by k_mem)) hTP5 (hc7.imp id fun x => by omega) (hc8.imp id fun x => by omega) (neN (by omega)) (neN (by omega)) (neN (by omega)) (neN (by omega)) _ ((N14.get (.tail _ (.tail _ (.tail _ (.tail _ (.tail _ (.tail _ (.tail _ (.tail _ (.tail _ (.head _))))))))))).trans (congrArg some hTF.1)) (neN (by omega)) hO10.tail.head.1.symm hO10.tail.head.2.2.1.symm
    case miss =>
      intro hh h14 tk14 F14 N14
      rw [if_neg (fun q => hh (hhit.mp q))] at hsec
      dsimp only
      refine wpAny_execs_nil ?_
      (try dsimp only)
      have N15 := News_app (News_take 4 (News_drop 3 N14)) (News_app (News_take 3 (News_drop 7 N14)) (News_app (News_take 1 N14) (News_app (News_take 1 (News_drop 2 N14)) (News_drop 10 N14))))
      dsimp only [List.take, List.drop, List.cons_append, List.nil_append] at N15
      have hOp := hO10.tail.tail
      have hcO : @Ne Nat cL c5 ∧ @Ne Nat cL 30 ∧ @Ne Nat cL c6 ∧ @Ne Nat cL 37 := by
        rcases hcc with q | q
        · exact hOp _ q
        · simp only [AllLt, List.cons_append, List.nil_append] at q
          exact ⟨neN (by omega), neN (by omega), neN (by omega), neN (by omega)⟩
      have hcI : @Ne Nat cL It ∧ @Ne Nat cL 132 := by
        rcases hcc with q | q
        · exact ⟨hI _ (.tail _ q), h132n _ q⟩
        · simp only [AllLt, List.cons_append, List.nil_append] at q
          exact ⟨neN (by omega), neN (by omega)⟩
      refine hQa _ (n - 1) (by omega) fun P hP => hP (i + 1) _ _ _ _ o7 c5 k5 o5' c6 k6 o6 ((cL, oL) :: tl) (by omega) F14 N15 hTP5 ⟨hoi2, hoi3⟩ (hra.mono fun q hq => .tail _ hq) ?_ (.inr ⟨cL, oL, .tail _ (.tail _ (.head _)), hTF⟩) ?_ ?_ ?_ hc7 hc8 ?_ ?_ ?_
      · rw [← List.drop_drop, hrr]; exact hsec
      · exact .cons hO10.head.1 hO10.head.2.1 hO10.head.2.2.1 hO10.head.2.2.2 (.cons hO10.tail.head.1 hO10.tail.head.2.1 hO10.tail.head.2.2.1 hO10.tail.head.2.2.2 (.cons hOp.head.1 hOp.head.2.1 hOp.head.2.2.1 hOp.head.2.2.2 (.cons hOp.tail.head.1 hOp.tail.head.2.1 hOp.tail.head.2.2.1 hOp.tail.head.2.2.2 (.cons hcO.1 hcO.2.1 hcO.2.2.1 hcO.2.2.2 hOp.tail.tail))))
      · have hI0 := hI
        refine List.forall_mem_cons.mpr ⟨(show @Ne Nat 132 It from hI0 _ (.head _)), List.forall_mem_cons.mpr ⟨hI0 _ (.tail _ (.head _)), List.forall_mem_cons.mpr ⟨hI0 _ (.tail _ (.tail _ (.head _))), List.forall_mem_cons.mpr ⟨hcI.1, fun q hq => hI0 q (.tail _ (.tail _ (.tail _ hq)))⟩⟩⟩⟩
      · refine List.forall_mem_cons.mpr ⟨h132n _ (.head _), List.forall_mem_cons.mpr ⟨h132n _ (.tail _ (.head _)), List.forall_mem_cons.mpr ⟨hcI.2, fun q hq => h132n q (.tail _ (.tail _ hq))⟩⟩⟩
      all_goals first | exact rfl | assumption
end Mine
end
section
open PySem PySem.Spec PySem.Calls PySem.W PyProof.Rows
open Builtin Builtin.Str Builtin.BaseException Builtin.Exceptions
set_option maxRecDepth 100000
namespace Mine
section
variable {prog : Program} {w : World} {A : Around} {E : Value → Shared → Prop} {s : Shared} {K : Frag} {C e t0 : Addr}
theorem xs_special {M : Model} {name : PySem.Str} {id : String} {args : List Value} {Q : Option Value → Shared → Prop} (X : K.In s.heap) (LT : Looks M s.heap (typeOf (.ref e)) (.ref C)) (hs : findIn K (.ref C) name = some (some (.builtin id)))
    (hb : ∀ self, bindSpecial (.builtin id) self = pure (.builtin id, [self])) (h : wpAny M A (call (.builtin id) (.ref e :: args)) (fun v => Q (some v)) E s) : wpAny M A (callSpecial? (.ref e) name args) Q E s :=
  wpAny_bind (wpAny_bind (LT.here ((looks_findIn X hs).here (wpAny_holding (wpAny_bind ((Looks.of_pure (hb _)).here (wpAny_bind (wpAny_mono h (fun _ _ z => wpAny_pure z) fun _ _ z => z))))))))
theorem xs_args {M : Model} {items : List Value} {Q : Value × List Value → Shared → Prop} {o ot : Obj} {vs : Array Value} {k : Nat} (ho : s.heap.get? e = some o) (hd : o.data = .fields vs) (h0 : vs[0]? = some (.ref t0)) (hto : s.heap.get? t0 = some ot) (htd : ot.data = .seq items.toArray k) (hq : Q (.ref t0, items) s) :
    wpAny M A (bexcArgs (.ref e)) Q E s := by
  unfold bexcArgs
  refine wpAny_bind (wpAny_field ho hd h0 (wpAny_bind (wpAny_seqItems hto htd ?_)))
  have : items.toArray.toList = items := by simp
  show wpAny M A (pure (Value.ref t0, items.toArray.toList)) Q E s
  rw [this]; exact wpAny_pure hq
theorem xs_entry {m : PySem.Str} {tk : Tok} {Q : Fin → Shared → Prop} {o ot : Obj} {vs : Array Value} {k : Nat} (ho : s.heap.get? e = some o) (hd : o.data = .fields vs) (h0 : vs[0]? = some (.ref t0)) (hto : s.heap.get? t0 = some ot) (htd : ot.data = .seq [Value.str m tk].toArray k) (hq : Q (.done (.ret (.str m tk))) s) :
    wpAny (model prog w) A (Builtin.«BaseException.__str__» ⟨[.ref e], []⟩) Q E s := by
  unfold Builtin.«BaseException.__str__»
  repeat (first | with_reducible refine xs_args ho hd h0 hto htd ?_ | wp_step)
  exact hq
theorem xs_bind : ∀ self, bindSpecial (.builtin "BaseException.__str__") self = pure (.builtin "BaseException.__str__", [self]) := (PySem.F.excStr_ValueError).str.bind
theorem xs_call {m : PySem.Str} {tk : Tok} {Q : Value → Shared → Prop} (hu : A.in1.in1.units < cLine) (X : K.In s.heap) {news : List (Addr × Obj)} {h₀ : Heap} {L : Addr} (N : News h₀ L s.heap news) (G : Got news e t0 (.ref C) [.str m tk])
    (hs : findIn K (.ref C) "__str__" = some (some (.builtin "BaseException.__str__"))) (hm : mroIn K C (.type "BaseException") = some true) (hq : Q (.str m tk) s) : wpAny (model prog w) A (call (.type "str") [.ref e]) Q E s := by
  obtain ⟨oe, ot, ws, nt, h1, h2, hc, hd, h0, htc, htd⟩ := G
  have he := N.get h1
  have ht := N.get h2
  have LT : Looks (model prog w) s.heap (typeOf (.ref e)) (.ref C) := by
    rw [← hc]; exact (Looks.ld he).andThen .now
  refine callType_codes (T := "str") (Bi := Builtin.«object.__init__») (Q₁ := fun r s₁ => r = .str m tk ∧ Q r s₁) PySem.F.called_str (PySem.F.typeCall_str_1 _) PySem.F.entry_object_init ?_ ?_
  · refine codeAny_of_tree ?_
    show wpAny _ A.in1.in1 (do checkBuiltinCall "str.__new__" ⟨[.type "str", .ref e], []⟩; again (.builtin "str.__new__" ⟨[.type "str", .ref e], []⟩)) _ _ s
    refine wpAny_bind (wpAny_of_eq (PySem.F.newCall_str_1 _) (wpAny_pure ⟨plainId_quiet (by decide +kernel) _, codeAny_builtin PySem.F.entry_str_new ?_⟩))
    rw [Around.under_plainId (by decide +kernel) _]
    rw [str_new_tree]
    refine wpAny_bind (wpAny_pure ?_)
    refine wpAny_bind (wpAny_of_eq isSubtype_str_str ?_)
    have key : wpAny (model prog w) A.in1.in1 (PySem.Builtin.Str.strOf (.ref e)) (fun r s₁ => r = .str m tk ∧ Q r s₁) E s := by
      unfold PySem.Builtin.Str.strOf
      rw [show isExactStr (.ref e) = false from rfl]
      refine wpAny_bind (m := cRoomFor _ _) (wpAny_cRoomFor hu ?_)
      refine wpAny_bind (m := callSpecial? (.ref e) (PySem.Str.ofString "__str__")) (xs_special X LT hs xs_bind ?_)
      refine wpAny_call (codeAny_call_builtin (PySem.F.excStr_ValueError).str.plain PySem.F.entry_bexc_str (check_slot (i := "BaseException.__str__") (owner := "BaseException") (n := "__str__") (by decide +kernel) (by decide +kernel) (LT.andThen (looks_mroIn X hm)) (PySem.F.args_bexc_str _) ?_))
      refine xs_entry he hd h0 ht htd ?_
      exact wpAny_pure ⟨rfl, hq⟩
    exact wpAny_bind (wpAny_mono key (fun r s₁ hr => wpAny_pure hr) fun _ _ y => y)
  · rintro obj s₁ ⟨rfl, hq⟩
    exact ⟨typeIs_str _ _ _, PySem.F.args_object_init_2 _ _, object_init_meets PySem.F.called_str.init.lookup PySem.F.called_str.made (by decide) prog w A.in1 _ s₁ ⟨typeIs_str _ _ _, rfl, hq⟩⟩
end
end Mine
end
section
open PySem PySem.Spec PySem.Calls PySem.W PyProof.Rows
set_option maxRecDepth 100000
set_option rowWalk.seconds 0
namespace Mine
section
variable {prog : Program} {w : World} {A : Around} {s : Shared} {base g : Heap} {outer : List Env} {K : Frag} {p : Program} {loose : List Str} {mean : ExcName → Option Value} {mg mb : Str → Option Value}
    {R : Result → Shared → Prop} {name qual : Str} {params : Arguments} {body : List Stmt} {scope : Scope} {dV kV doc pm cdv ct oc : Value} {an od : Option Addr} {osl : Array (Option Value)} {f : Addr} {args : Args} {binds : List (Str × Value)}
/-- what a def with a try leaves behind -/
def Left (fs : List Addr) (g : Heap) (R : Result → Shared → Prop) (v : Value) (s' : Shared) : Prop :=
  ∃ g' L' m' news', KtsTurn fs g g' ∧ Fr g' L' s'.heap m' ∧ News g' L' s'.heap news' ∧ R (.ok (.ret v)) s'
theorem enterT (X : K.In s.heap) (T : Top p loose mean mg mb s.heap)
    (ho : K.lookup f = some ⟨oc, od, .func (fnOf name qual params body scope dV kV doc pm an cdv ct), osl⟩) (hcd : codeIn K cdv qual = true) (hroom : A.depth < recursionLimit)
    (hbind : BindsTo s (fnOf name qual params body scope dV kV doc pm an cdv ct) args binds) (hloc : ∀ y ∈ binds, scope.names.lookup y.1 = some .local)
    (h : ∀ L' h₁, Fr s.heap L' h₁ (fun y => binds.reverse.lookup y) → News s.heap L' h₁ [] →
      wpAny (model prog w) (A.deeper (envOf qual scope L' f cdv)) (execs body (envOf qual scope L' f cdv))
        (fun fl s' => R (.ok (.ret (match fl with | .ret v => v | _ => .none))) s')
        (fun e s' => wpAny (model prog w) (A.deeper (envOf qual scope L' f cdv)) (leaving (envOf qual scope L' f cdv) e) (fun _ s'' => R (.error e) s'') (fun e' s'' => R (.error e') s'') s')
        { s with heap := h₁, toks := s.toks + binds.length })
    (hco : scope.isCoroutine = false) (hgen : scope.isGenerator = false) (hk : scope.kind = .function)
    (hcell : ∀ x ∈ scope.names, x.2 ≠ .cell) : codeAny (model prog w) A (.call (.ref f) args) R s := by
  refine codeAny_call_def (fd := fnOf name qual params body scope dV kV doc pm an cdv ct) (body := body) (binds := binds) hroom (X _ _ ho) rfl T.nolimit (codeRec_of X hcd) rfl hbind hcell hloc (fun h₁ hns hk₁ => ?_) hco hgen hk
  exact h s.heap.objs.size h₁ ⟨hns, hk₁, Nat.le_refl _⟩ (fun _ h => nomatch h)
end
section
variable {prog : Program} {w : World} {A : Around} {E : Value → Shared → Prop} {s : Shared} {h₀ : Heap} {L : Addr} {m : Str → Option Value} {news : List (Addr × Obj)} {x y : PySem.Str} {t : Tok} {Q : Value → Shared → Prop} {value slice : PySem.Expr}
theorem ps_ns {j : Int} {uj : Tok} (hF : Fr h₀ L s.heap m) (hN : News h₀ L s.heap news) (hx : x.length ≤ 1000) (e : Txt.slice x none (some j) = y) (h : ∀ h' t' k, Fr h₀ L h' m → News h₀ L h' news → Q (.str y t') { s with heap := h', toks := k })
    (hs : subscripted slice false (.str x t) (.ref s.heap.objs.size) = operate [.ref s.heap.objs.size, .str x t] (getItem (.str x t) (.ref s.heap.objs.size)) := by with_unfolding_all rfl)
    (ht : ∀ r, letTemporaryGo value (.str x t) r = pure () := by intro _; with_unfolding_all rfl) :
    wpAny (model prog w) A (subscriptTail value slice (.str x t) (.ref s.heap.objs.size)) Q E { s with heap := s.heap.push { cls := .type "slice", data := .fields #[.none, .int j uj, .none] } } :=
  slice_strN_ns hF hN (e ▸ h) hs ht (Nat.le_trans hx (by decide))
theorem ps_ss {i j : Int} {ui uj : Tok} (hF : Fr h₀ L s.heap m) (hN : News h₀ L s.heap news) (hx : x.length ≤ 1000) (e : Txt.slice x (some i) (some j) = y) (h : ∀ h' t' k, Fr h₀ L h' m → News h₀ L h' news → Q (.str y t') { s with heap := h', toks := k })
    (hs : subscripted slice false (.str x t) (.ref s.heap.objs.size) = operate [.ref s.heap.objs.size, .str x t] (getItem (.str x t) (.ref s.heap.objs.size)) := by with_unfolding_all rfl)
    (ht : ∀ r, letTemporaryGo value (.str x t) r = pure () := by intro _; with_unfolding_all rfl) :
    wpAny (model prog w) A (subscriptTail value slice (.str x t) (.ref s.heap.objs.size)) Q E { s with heap := s.heap.push { cls := .type "slice", data := .fields #[.int i ui, .int j uj, .none] } } :=
  slice_strN_ss hF hN (e ▸ h) hs ht (Nat.le_trans hx (by decide))
theorem ps_item {i : Int} {u : Tok} (e : Txt.item x i = y) (h0 : 0 ≤ i) (h1 : i < x.length) (hx : x.length ≤ 1000) (h : ∀ t' k, Q (.str y t') { s with toks := k })
    (hs : subscripted slice false (.str x t) (.int i u) = operate [.str x t, .int i u] (getItem (.str x t) (.int i u)) := by with_unfolding_all rfl)
    (ht : ∀ r, letTemporaryGo value (.str x t) r = pure () := by intro _; with_unfolding_all rfl) :
    wpAny (model prog w) A (subscriptTail value slice (.str x t) (.int i u)) Q E s :=
  item_str (fitsSsize_of (N := 9223372036854775808) (by omega) (by omega) (Int.le_refl _)) (by omega) h1 (fun _ => e ▸ h _ _) hs ht
theorem ps_split {a b c d e : PySem.Str} {u : Tok} (hF : Fr h₀ L s.heap m) (hN : News h₀ L s.heap news) (hx : x.length ≤ 1000) (hy : (y.length == 0) = false) (e5 : Txt.split x y = [a, b, c, d, e])
    (h : ∀ D t1 t2 t3 t4 t5 h' k, Fr h₀ L h' m → News h₀ L h' ((D, listOf #[.str a t1, .str b t2, .str c t3, .str d t4, .str e t5] 0) :: news) → AllLt D news → Q (.ref D) { s with heap := h', toks := k }) :
    wpAny (model prog w) A (call (.builtin "str.split") [.str x t, .str y u]) Q E s := by
  refine KSpl.split1 hF hN hy (fun D l h' k e' _ F N hl => ?_) (Nat.le_trans (Nat.add_le_add_right hx 2) (by decide))
  rw [e5] at e'
  obtain ⟨_, _, rfl, e1⟩ := KSpl.cons_of e'
  obtain ⟨_, _, rfl, e2⟩ := KSpl.cons_of e1
  obtain ⟨_, _, rfl, e3⟩ := KSpl.cons_of e2
  obtain ⟨_, _, rfl, e4⟩ := KSpl.cons_of e3
  obtain ⟨_, _, rfl, e6⟩ := KSpl.cons_of e4
  obtain rfl := KSpl.nil_of e6
  exact h D _ _ _ _ _ h' k F N (allLt_of hl)
theorem ps_find {z : PySem.Str} {u : Tok} {i : Int} (e : (Txt.find x z : Int) = i) (h : ∀ t' k, Q (.int i t') { s with toks := k }) : wpAny (model prog w) A (call (.builtin "str.find") [.str x t, .str z u]) Q E s := SC.find (by rw [e]; exact h _ _)
theorem ps_find3 {z : PySem.Str} {u v : Tok} {i j : Int} (e : (Txt.find3 x z j : Int) = i) (h : ∀ t' k, Q (.int i t') { s with toks := k }) : wpAny (model prog w) A (call (.builtin "str.find") [.str x t, .str z u, .int j v]) Q E s := SC.find3 (by rw [e]; exact h _ _)
end
local macro_rules | `(tactic| walk_at "subscriptTail Name Slice str ref") => `(tactic| ((with_reducible rename Fr _ _ _ _ => F'); (with_reducible rename News _ _ _ _ => N'); (first | refine ps_ns (s := ⟨_, _, _, _, _⟩) F' N' (by assumption) (by assumption) ?_ | refine ps_ss (s := ⟨_, _, _, _, _⟩) F' N' (by assumption) (by assumption) ?_); clear F' N'; intro h' t' k' F' N'))
local macro_rules | `(tactic| walk_at "call builtin:str.find") => `(tactic| (first | refine ps_find (by assumption) ?_ | refine ps_find3 (by assumption) ?_); intro _ _)
local macro_rules | `(tactic| walk_at "subscriptTail Name BinOp str int") => `(tactic| (refine ps_item (by assumption) (by omega) (by omega) (by assumption) ?_; intro _ _))
local macro_rules | `(tactic| walk_at "call builtin:str.split") => `(tactic| ((with_reducible rename Fr _ _ _ _ => F'); (with_reducible rename News _ _ _ _ => N'); refine ps_split F' N' (by assumption) (by assumption) (by assumption) ?_; clear F' N'; intro D' t1' t2' t3' t4' t5' h' k' F' N' l1; (try k_lt l1)))
local macro_rules | `(tactic| walk_at "call type:int") => `(tactic| (refine KIN.call_text (by assumption) (by assumption) ?_))
theorem units_mark (A : Around) (h : Option Value) : (A.mark h).units = A.units := rfl
local macro_rules | `(tactic| walk_at "call type:str") => `(tactic| (k_here; (with_reducible show wpAny _ _ (call (Value.type "str") [Value.ref _]) _ _ _); refine' xs_call ?u ?X ?N ?G ?s ?m ?_; (case G => assumption); (case X => k_in); (case N => assumption); (case s => k_is); (case m => k_is); (case u => (simp only [units_in1, units_mark, units_deeper]; omega)); k_whole))
local macro_rules | `(tactic| k_room) => `(tactic| ((try simp only [depth_mark, depth_under_make, depth_under_kw, depth_in1, depth_deeper]); (try dsimp only); omega))
/-- what the reply lacks -/
def Bad (x : PySem.Str) (kind : PySem.Str) : Prop :=
  (Txt.slice x none (some 3) = PySem.Str.ofString "227" ∧ kind = PySem.Str.ofString "reply") ∨
  (Txt.slice x none (some 3) = PySem.Str.ofString "229" ∧ Txt.find x (PySem.Str.ofString "(") = -1 ∧ kind = PySem.Str.ofString "proto") ∨
  (Txt.slice x none (some 3) = PySem.Str.ofString "229" ∧ Txt.find x (PySem.Str.ofString "(") = 4 ∧ Txt.find3 x (PySem.Str.ofString ")") (4 + 1) = -1 ∧ kind = PySem.Str.ofString "proto")
set_option maxHeartbeats 4000000 in
theorem port_bad {w : World} {s : Shared} {A : Around} {base : Heap} {outer : List Env} {p : Program} {loose : List Str} {mean : ExcName → Option Value} {mg mb : Str → Option Value}
    {x : PySem.Str} {tx : Tok} {R : Result → Shared → Prop}
    (hh : A.handled = none) (B : Below A base outer s.heap) (X : (pre.heap_1_39 w.params).In s.heap) (T : Top p loose mean mg mb s.heap) (XB : (pre.heap_1_39 w.params).In base) (TB : Top p loose mean mg mb base) (D : KtsDicts (outer.filterMap (·.frame)) s.heap)
    (hx : x.length ≤ 1000) {kind : PySem.Str} (hB : Bad x kind)
    (hdep : A.depth + 10 < recursionLimit) (hun : A.units + 100 < cLine)
    (hR : ∀ (h' g' : Heap) (tk : Nat) (l : Addr) (u1 u2 : Tok), KtsTurn (outer.filterMap (·.frame)) s.heap g' → g'.StaysIn h' → g'.objs.size ≤ h'.objs.size → g'.get? l = none → h'.get? l = some (listOf #[.str kind u1, .str x u2] 0) → R (.ok (.ret (.ref l))) { s with heap := h', toks := tk }) :
    codeAny (model PySem.Challenge.rw_ta0029_01.row.prog w) A (.call (.ref 123) ⟨[.str x tx], []⟩) R s := by
  obtain ⟨ah, dp, fr, gd, un⟩ := A
  cases hh
  dsimp only at hdep hun
  obtain rfl : fr = some outer := B.stack
  revert X XB; k_fill; intro X XB
  rcases hB with ⟨hs, rfl⟩ | ⟨hs, hf, rfl⟩ | ⟨hs, hf, hr, rfl⟩
  · refine enterT X T (by k_is) (by k_is) (by show dp < _; omega) (BindsTo.of_eq rfl) (locs rfl) ?_ rfl rfl rfl (by decide)
    intro L h₁ F N
    have K0 := B
    w_top on
    k_steps
    rename Fr _ _ _ _ => F9
    rename News _ _ _ _ => N9
    exact hR _ _ _ _ _ _ (by assumption) F9.keep (Nat.le_trans F9.above (Nat.le_of_lt F9.ns.lt)) (N9 _ (.head _)).2.2 (N9.get (.head _))
  · refine enterT X T (by k_is) (by k_is) (by show dp < _; omega) (BindsTo.of_eq rfl) (locs rfl) ?_ rfl rfl rfl (by decide)
    intro L h₁ F N
    have K0 := B
    w_top on
    k_steps
    rename Fr _ _ _ _ => F9
    rename News _ _ _ _ => N9
    exact hR _ _ _ _ _ _ (by assumption) F9.keep (Nat.le_trans F9.above (Nat.le_of_lt F9.ns.lt)) (N9 _ (.head _)).2.2 (N9.get (.head _))
  · refine enterT X T (by k_is) (by k_is) (by show dp < _; omega) (BindsTo.of_eq rfl) (locs rfl) ?_ rfl rfl rfl (by decide)
    intro L h₁ F N
    have K0 := B
    w_top on
    k_steps
    rename Fr _ _ _ _ => F9
    rename News _ _ _ _ => N9
    exact hR _ _ _ _ _ _ (by assumption) F9.keep (Nat.le_trans F9.above (Nat.le_of_lt F9.ns.lt)) (N9 _ (.head _)).2.2 (N9.get (.head _))
/-- what a reply tells -/
structure Good (x mk ins a b c d e : PySem.Str) (r n : Int) : Prop where
  hs : Txt.slice x none (some 3) = PySem.Str.ofString "229"
  hf : Txt.find x (PySem.Str.ofString "(") = 15
  hr : Txt.find3 x (PySem.Str.ofString ")") (15 + 1) = r
  r0 : 17 ≤ r
  r1 : r < x.length
  i1 : Txt.item x (15 + 1) = mk
  i2 : Txt.item x (r - 1) = mk
  sl : Txt.slice x (some (15 + 1)) (some r) = ins
  hi : ins.length ≤ 1000
  sp : Txt.split ins mk = [a, b, c, d, e]
  hm : (mk.length == 0) = false
  hn : PySem.intText? d = some n
  hd : d.length ≤ 640
set_option maxHeartbeats 4000000 in
theorem port_good {w : World} {s : Shared} {A : Around} {base : Heap} {outer : List Env} {p : Program} {loose : List Str} {mean : ExcName → Option Value} {mg mb : Str → Option Value}
    {x : PySem.Str} {tx : Tok} {R : Result → Shared → Prop}
    (hh : A.handled = none) (B : Below A base outer s.heap) (X : (pre.heap_1_39 w.params).In s.heap) (T : Top p loose mean mg mb s.heap) (XB : (pre.heap_1_39 w.params).In base) (TB : Top p loose mean mg mb base) (D : KtsDicts (outer.filterMap (·.frame)) s.heap)
    (hx : x.length ≤ 1000) {mk ins a b c d e : PySem.Str} {r n : Int} (hG : Good x mk ins a b c d e r n)
    (hdep : A.depth + 10 < recursionLimit) (hun : A.units + 100 < cLine)
    (hR : ∀ (h' g' : Heap) (tk : Nat) (l : Addr) (u1 u2 : Tok), KtsTurn (outer.filterMap (·.frame)) s.heap g' → g'.StaysIn h' → g'.objs.size ≤ h'.objs.size → g'.get? l = none → h'.get? l = some (tupOf #[.str (PySem.Str.ofString "peer") u1, .int n u2]) → R (.ok (.ret (.ref l))) { s with heap := h', toks := tk }) :
    codeAny (model PySem.Challenge.rw_ta0029_01.row.prog w) A (.call (.ref 123) ⟨[.str x tx], []⟩) R s := by
  obtain ⟨ah, dp, fr, gd, un⟩ := A
  cases hh
  dsimp only at hdep hun
  obtain rfl : fr = some outer := B.stack
  revert X XB; k_fill; intro X XB
  obtain ⟨hs, hf, hr, r0, r1, i1, i2, sl, hi, sp, hm, hn, hd⟩ := hG
  refine enterT X T (by k_is) (by k_is) (by show dp < _; omega) (BindsTo.of_eq rfl) (locs rfl) ?_ rfl rfl rfl (by decide)
  intro L h₁ F N
  have K0 := B
  w_top on
  k_steps
  rename Fr _ _ _ _ => F9
  rename News _ _ _ _ => N9
  exact hR _ _ _ _ _ _ KtsTurn.refl F9.keep (Nat.le_trans F9.above (Nat.le_of_lt F9.ns.lt)) (N9 _ (.head _)).2.2 (N9.get (.head _))
end Mine
end
section
open PySem PySem.Spec PySem.Calls PySem.W PyProof.Rows
set_option maxRecDepth 100000
namespace Mine
section
variable {w : World} {s : Shared} {A A' : Around} {base G : Heap} {outer : List Env} {p : Program} {loose : List Str} {mean : ExcName → Option Value} {mg mb : Str → Option Value} {L : Addr} {m : Str → Option Value} {env : Env}
  {c : Addr} {k o : Obj} {c2 : Addr} {k2 o2 : Obj} {own : List (Addr × Obj)} {E : Value → Shared → Prop} {Q : Value → Shared → Prop}
theorem call_sec {a b : Int} {ta tb : Tok} {ans : List Int} (B : Below A base outer G) (F : Fr G L s.heap m) (hA : A' = A.deeper env) (hf : env.frame = some L) (hk : env.scope.kind = .function) (hh : A.handled = none) (N : News G L s.heap ((c, k) :: (30, o) :: (c2, k2) :: (37, o2) :: (132, tabObj #[]) :: own))
    (hTP : TP c k o c2 k2 o2) (O : OT c c2 ((132, tabObj #[]) :: own)) (O132 : ∀ q ∈ own, @Ne Nat q.1 132) (C : CodeHd G 34 30) (C2 : CodeHd G 41 37) (C3 : CodeHd G 136 132) (X : (pre.heap_1_39 w.params).In G) (T : Top p loose mean mg mb G)
    (ha : 0 ≤ a) (ha1 : a < 2 ^ 40) (hb : 0 ≤ b) (hb1 : b < 2 ^ 40) (hsec : secF a b (runL 60 (a, 1, 0) (b, 0, 1)) = some ans) (hdep : A.depth + 422 < recursionLimit) (hun : A.units + 1710 < cLine)
    (h : ∀ (h' : Heap) (tk : Nat) (l : Addr) (us : List Value) (e : Nat) (c' : Addr) (k' o' : Obj) (c2' : Addr) (k2' o2' : Obj) (ps : Array Value), Fr G L h' m → News G L h' ((l, listOf (List.toArray us) e) :: (c', k') :: (30, o') :: (c2', k2') :: (37, o2') :: (132, tabObj ps) :: own) → IntsAre us ans → TP c' k' o' c2' k2' o2' →
      OT c' c2' ((l, listOf (List.toArray us) e) :: (132, tabObj ps) :: own) → (∀ q ∈ own, @Ne Nat q.1 l) → @Ne Nat l 132 → Q (.ref l) { s with heap := h', toks := tk }) :
    wpAny (model PySem.Challenge.rw_ta0029_01.row.prog w) A' (call (.ref 137) [.int a ta, .int b tb]) Q E s := by
  subst hA
  have NT := News_take 5 N
  dsimp only [List.take] at NT
  have NO := News_drop 5 N
  dsimp only [List.drop] at NO
  have z1 := NT (c, k) (by simp)
  have z2 := NT (30, o) (by simp)
  have z3 := NT (c2, k2) (by simp)
  have z4 := NT (37, o2) (by simp)
  have z5 := NT (132, tabObj #[]) (by simp)
  have hl : ∀ b ∈ [c, 30, c2, 37, 132], G.get? b = none := by
    intro b hb
    simp only [List.mem_cons, List.not_mem_nil, or_false] at hb
    rcases hb with rfl | rfl | rfl | rfl | rfl
    · exact z1.2.2
    · exact z2.2.2
    · exact z3.2.2
    · exact z4.2.2
    · exact z5.2.2
  have hL : L ∉ [c, 30, c2, 37, 132] := by
    intro hb
    simp only [List.mem_cons, List.not_mem_nil, or_false] at hb
    rcases hb with e | e | e | e | e
    · exact z1.2.1 e.symm
    · exact z2.2.1 e.symm
    · exact z3.2.1 e.symm
    · exact z4.2.1 e.symm
    · exact z5.2.1 e.symm
  have g := groundT B F _ NT hf hk
  have st := stays_hide F.keep hl
  have hsz : (hideAll s.heap [c, 30, c2, 37, 132]).objs.size = s.heap.objs.size := hideAll_size _ _
  have hoo : ∀ q ∈ own, q.1 ∉ [c, 30, c2, 37, 132] := by
    intro q hq hb
    have := O.tail q hq
    simp only [List.mem_cons, List.not_mem_nil, or_false] at hb
    rcases hb with e | e | e | e | e
    · exact this.1 e
    · exact this.2.1 e
    · exact this.2.2.1 e
    · exact this.2.2.2 e
    · exact O132 q hq e
  have hLG : ∃ oo, (hideAll s.heap [c, 30, c2, 37, 132]).get? L = some oo := by
    obtain ⟨oL, _, _, e, _⟩ := F.ns
    exact ⟨oL, hideAll_get _ e hL⟩
  have fr : ∀ {x : Addr}, (hideAll s.heap [c, 30, c2, 37, 132]).get? x = none → x ≠ L ∧ G.get? x = none := by
    intro x hx
    refine ⟨fun e => ?_, ?_⟩
    · obtain ⟨oo, ho⟩ := hLG
      rw [e, ho] at hx; cases hx
    · cases e : G.get? x with
      | none => rfl
      | some y => rw [st _ _ e] at hx; cases hx
  have fo : ∀ {x : Addr}, (hideAll s.heap [c, 30, c2, 37, 132]).get? x = none → ∀ r ∈ own, r.1 ≠ x := by
    intro x hx r hr e
    rw [← e, hideAll_get _ (NO r hr).1 (hoo r hr)] at hx; cases hx
  refine wpAny_call (sec_call (G := hideAll s.heap [c, 30, c2, 37, 132]) rfl z1.1 z2.1 z3.1 z4.1 z5.1 hTP O.head.1.symm O.head.2.2.1.symm (C.keeps st) (C2.keeps st) (C3.keeps st) hh g.2.1 (X.keeps st) (T.keeps st) ha ha1 hb hb1 hsec (by rw [depth_deeper]; omega) (by rw [units_deeper]; omega) ?_)
  intro h' tk l us e c' k' o' c2' k2' o2' ks sz hlG el ius ec eo ec2 eo2 hTP' hcc hcc2 hlc hlc2 hl30 hl37 ps e132 hl132 hc132 hc2132
  rw [hsz] at hcc hcc2
  have F' := Fr_back hl F hL ks
  have ft := fr hlG
  have fc : c' ≠ L ∧ G.get? c' = none := hcc.elim (fun e => (show c' = c from e) ▸ z1.2) (fresh_ne F)
  have fc2 : c2' ≠ L ∧ G.get? c2' = none := hcc2.elim (fun e => (show c2' = c2 from e) ▸ z3.2) (fresh_ne F)
  have big : ∀ {x : Addr}, @LE.le Nat _ s.heap.objs.size x → @LT.lt Nat _ L x ∧ AllLt x own := fun hx => ⟨Nat.lt_of_lt_of_le F.ns.lt hx, allLt_of fun q hq => Nat.lt_of_lt_of_le (Heap.lt_size (NO q hq).1) hx⟩
  have NF : News G L h' ((l, listOf (List.toArray us) e) :: (c', k') :: (30, o') :: (c2', k2') :: (37, o2') :: (132, tabObj ps) :: own) :=
    News_put ft.1 ft.2 el (News_put fc.1 fc.2 ec (News_put z2.2.1 z2.2.2 eo (News_put fc2.1 fc2.2 ec2 (News_put z4.2.1 z4.2.2 eo2 (News_put z5.2.1 z5.2.2 e132 (News_back NO hoo ks))))))
  exact h h' tk l us e c' k' o' c2' k2' o2' ps F' NF ius hTP' (.cons hlc hl30 hlc2 hl37 (.cons (Ne.symm hc132) (by decide) (Ne.symm hc2132) (by decide) (OT.next O.tail (hcc.imp id big) (hcc2.imp id big)))) (fo hlG) hl132

/-- a def with a try, called out of the law's frame -/
theorem port_frame {h g' h' : Heap} {news : List (Addr × Obj)} (F : Fr G L h m) (N : News G L h news) (hf : env.frame = some L) (KT : KtsTurn ([env].filterMap (·.frame)) h g') (st : g'.StaysIn h') :
    Fr G L h' m ∧ News G L h' news ∧ ∀ {x : Addr}, g'.get? x = none → x ≠ L ∧ G.get? x = none ∧ ∀ q ∈ news, q.1 ≠ x := by
  have hfs : [env].filterMap (·.frame) = [L] := by simp [hf]
  rw [hfs] at KT
  have nL : G.get? L = none := kts_self F
  obtain ⟨oL, es, ep, hL, hLd, hLk, hLf⟩ := F.ns
  obtain ⟨sl, hs⟩ := KT.up hL
  have nm : ∀ b o, G.get? b = some o → b ∉ [L] := fun b o e q => by rw [List.mem_singleton.mp q, nL] at e; cases e
  have kp : ∀ b o, G.get? b = some o → g'.get? b = some o := fun b o e => KT.other b o (F.keep b o e) (nm b o e)
  have kn : ∀ q ∈ news, g'.get? q.1 = some q.2 := fun q hq => KT.other _ _ (N q hq).1 fun e => (N q hq).2.1 (List.mem_singleton.mp e)
  refine ⟨⟨⟨_, es, ep, st _ _ hs, hLd, hLk, hLf⟩, fun b o e => st _ _ (kp b o e), F.above⟩, fun q hq => ⟨st _ _ (kn q hq), (N q hq).2⟩, fun {x} hx => ⟨fun e => ?_, ?_, fun q hq e => ?_⟩⟩
  · rw [e, hs] at hx; cases hx
  · cases e : G.get? x with
    | none => rfl
    | some y => rw [kp _ _ e] at hx; cases hx
  · rw [← e, kn q hq] at hx; cases hx
theorem dicts_one {h : Heap} (F : Fr G L h m) (hf : env.frame = some L) : KtsDicts ([env].filterMap (·.frame)) h := by
  have hfs : [env].filterMap (·.frame) = [L] := by simp [hf]
  rw [hfs]
  obtain ⟨oL, es, ep, hL, hLd, _⟩ := F.ns
  exact fun b hb => ⟨oL, es, ep, by rw [List.mem_singleton.mp hb]; exact hL, hLd⟩
theorem call_bad {x kind : PySem.Str} {tx : Tok} {news : List (Addr × Obj)} (B : Below A base [] G) (F : Fr G L s.heap m) (hA : A' = A.deeper env) (hf : env.frame = some L) (hk : env.scope.kind = .function) (hh : A.handled = none) (N : News G L s.heap news)
    (X : (pre.heap_1_39 w.params).In G) (T : Top p loose mean mg mb G) (XB : (pre.heap_1_39 w.params).In base) (TB : Top p loose mean mg mb base) (hx : x.length ≤ 1000) (hB : Bad x kind) (hdep : A.depth + 12 < recursionLimit) (hun : A.units + 110 < cLine)
    (h : ∀ (h' : Heap) (tk : Nat) (l : Addr) (u1 u2 : Tok), Fr G L h' m → News G L h' ((l, listOf #[.str kind u1, .str x u2] 0) :: news) → (∀ q ∈ news, @Ne Nat q.1 l) → Q (.ref l) { s with heap := h', toks := tk }) :
    wpAny (model PySem.Challenge.rw_ta0029_01.row.prog w) A' (call (.ref 123) [.str x tx]) Q E s := by
  subst hA
  refine wpAny_call (port_bad (outer := [env]) hh (pushX B F hf hk) (X.keeps F.keep) (T.keeps F.keep) XB TB (dicts_one F hf) hx hB (by rw [depth_deeper]; omega) (by rw [units_deeper]; omega) ?_)
  intro h' g' tk l u1 u2 KT st sz hl el
  obtain ⟨F', N', fr⟩ := port_frame F N hf KT st
  have f := fr hl
  exact h h' tk l u1 u2 F' (News_put f.1 f.2.1 el N') f.2.2
theorem call_good {x mk ins a b c d e : PySem.Str} {r n : Int} {tx : Tok} {news : List (Addr × Obj)} (B : Below A base [] G) (F : Fr G L s.heap m) (hA : A' = A.deeper env) (hf : env.frame = some L) (hk : env.scope.kind = .function) (hh : A.handled = none) (N : News G L s.heap news)
    (X : (pre.heap_1_39 w.params).In G) (T : Top p loose mean mg mb G) (XB : (pre.heap_1_39 w.params).In base) (TB : Top p loose mean mg mb base) (hx : x.length ≤ 1000) (hG : Good x mk ins a b c d e r n) (hdep : A.depth + 12 < recursionLimit) (hun : A.units + 110 < cLine)
    (h : ∀ (h' : Heap) (tk : Nat) (l : Addr) (u1 u2 : Tok), Fr G L h' m → News G L h' ((l, tupOf #[.str (PySem.Str.ofString "peer") u1, .int n u2]) :: news) → (∀ q ∈ news, @Ne Nat q.1 l) → Q (.ref l) { s with heap := h', toks := tk }) :
    wpAny (model PySem.Challenge.rw_ta0029_01.row.prog w) A' (call (.ref 123) [.str x tx]) Q E s := by
  subst hA
  refine wpAny_call (port_good (outer := [env]) hh (pushX B F hf hk) (X.keeps F.keep) (T.keeps F.keep) XB TB (dicts_one F hf) hx hG (by rw [depth_deeper]; omega) (by rw [units_deeper]; omega) ?_)
  intro h' g' tk l u1 u2 KT st sz hl el
  obtain ⟨F', N', fr⟩ := port_frame F N hf KT st
  have f := fr hl
  exact h h' tk l u1 u2 F' (News_put f.1 f.2.1 el N') f.2.2
end
end Mine
end
section
open PySem PySem.Spec PySem.Calls PySem.W PyProof.Rows
set_option maxRecDepth 100000
namespace Mine
section
variable {prog : Program} {w : World} {A : Around} {h₀ : Heap} {L : Addr} {m : Str → Option Value} {env : Env} {elt : PySem.Expr} {x : PySem.Str} {scope : Scope} {cl : List (PySem.Str × Addr)} {s : Shared} {S : List (Addr × Obj) → Prop} {P : Nat → Value → Prop} {Fin : List Value → List (Addr × Obj) → Prop} {news : List (Addr × Obj)}
/-- a comprehension whose turns leave nothing but their values -/
theorem comp_rest {n : Nat} (R : Nat → Value → Prop)
    (turn : ∀ i v I oI C oC D m₂ ys h tk (E' : Value → Shared → Prop), i < n → P i v → LCg.NsObj oC m₂ → m₂ x = some v → Fr h₀ L h m → News h₀ L h ((I, oI) :: (C, oC) :: (D, LCg.lst ys) :: news) → LCg.Off3 I C D news → ((@Ne Nat I C) ∧ (@Ne Nat I D) ∧ (@Ne Nat C D)) →
      wpAny (model prog w) A (eval elt (compEnvC scope cl C env)) (LCg.CompEnd h₀ L m { s with heap := h, toks := tk } I oI C oC D (LCg.lst ys) S (fun y news' => news' = news ∧ R i y)) E' { s with heap := h, toks := tk })
    (fin : ∀ ys : List Value, ys.length = n → (∀ i v, ys[i]? = some v → R i v) → Fin ys news) : LCg.CompRest prog w A h₀ L m env elt x scope cl s S P Fin n 0 [] news := by
  have key : ∀ (j i : Nat) (ys : List Value), i + j = n → ys.length = i → (∀ i v, ys[i]? = some v → R i v) → LCg.CompRest prog w A h₀ L m env elt x scope cl s S P Fin j i ys news := by
    intro j
    induction j with
    | zero =>
      intro i ys hi hy hR
      exact LCg.CompRest.zero (fin ys (by omega) hR)
    | succ j ih =>
      intro i ys hi hy hR
      refine LCg.CompRest.succ ?_
      intro v I oI C oC D m₂ h tk E' hv hC hx F N off ne
      refine wpAny_mono (turn i v I oI C oC D m₂ ys h tk E' (by omega) hv hC hx F N off ne) (fun y s₂ hq => ?_) fun _ _ e => e
      obtain ⟨h', tk', nw, e, F', N', off', hS, rfl, hy'⟩ := hq
      refine ⟨h', tk', _, e, F', N', off', hS, ?_⟩
      refine ih (i + 1) _ (by omega) (by rw [List.length_append]; simp [hy]) ?_
      intro k v hk
      rcases Nat.lt_or_ge k ys.length with q | q
      · rw [List.getElem?_append_left q] at hk; exact hR k v hk
      · rw [List.getElem?_append_right q] at hk
        have : k = i := by
          rcases Nat.lt_or_ge (k - ys.length) 1 with z | z
          · omega
          · rw [List.getElem?_eq_none (by simpa using z)] at hk; cases hk
        subst this
        rw [hy, Nat.sub_self] at hk
        cases hk
        exact hy'
  exact key n 0 [] (by omega) rfl (fun i v h => by simp at h)
/-- the end of a turn -/
theorem comp_end {y : Value} {I C D : Addr} {oI oC oD : Obj} {s₁ : Shared} {R : Value → Prop} {h' : Heap} {tk : Nat} {all : List (Addr × Obj)} (F : Fr h₀ L h' m) (N : News h₀ L h' all) (sub : ∀ p ∈ (I, oI) :: (C, oC) :: (D, oD) :: news, p ∈ all) (off : LCg.Off3 I C D news) (hS : S news) (r : R y) :
    LCg.CompEnd h₀ L m s₁ I oI C oC D oD S (fun y news' => news' = news ∧ R y) y { s₁ with heap := h', toks := tk } := ⟨h', tk, news, rfl, F, fun p hp => N p (sub p hp), off, hS, rfl, r⟩
end
theorem ints_of_get : ∀ {vs : List Value}, (∀ (i : Nat) v, vs[i]? = some v → ∃ (x : Int) (t : Tok), v = Value.int x t) → ∃ ns, IntsAre vs ns
  | [], _ => ⟨[], .nil⟩
  | v :: r, h => by
    obtain ⟨x, t, rfl⟩ := h 0 v rfl
    obtain ⟨ns, hn⟩ := ints_of_get (vs := r) fun i v hv => h (i + 1) v (by simpa using hv)
    exact ⟨x :: ns, .cons x t hn⟩
theorem ints_eq : ∀ {vs : List Value} {f : Nat → Int} {n : Nat}, vs.length = n → (∀ (i : Nat) v, vs[i]? = some v → ∃ t : Tok, v = Value.int (f i) t) → IntsAre vs ((List.range n).map f)
  | [], f, n, hl, _ => by subst hl; exact .nil
  | v :: r, f, n, hl, h => by
    obtain ⟨t, rfl⟩ := h 0 v rfl
    obtain ⟨k, rfl⟩ : ∃ k, n = k + 1 := ⟨r.length, by rw [← hl]; rfl⟩
    rw [List.range_succ_eq_map, List.map_cons, List.map_map]
    exact .cons _ t (ints_eq (f := fun i => f (i + 1)) (Nat.succ.inj hl) fun i v hv => h (i + 1) v hv)
theorem ints_pick {vs : List Value} {ns : List Int} (hi : IntsAre vs ns) (lo u st : Option Int) : ∃ ms, IntsAre (slicePick vs.toArray lo u st).toList ms := by
  refine ints_of_get fun i v hv => ?_
  have hm : v ∈ (slicePick vs.toArray lo u st).toList := List.mem_of_getElem? hv
  unfold slicePick at hm
  obtain ⟨j, _, hj⟩ := List.mem_filterMap.mp hm
  obtain ⟨k, t, e, _⟩ := IntsAre.at hi j v (by simpa using hj)
  exact ⟨k, t, e⟩
section
variable {prog : Program} {w : World} {A : Around} {E : Value → Shared → Prop} {s : Shared} {h₀ : Heap} {L l : Addr} {m : Str → Option Value} {news : List (Addr × Obj)} {vs : List Value} {ns : List Int} {Q : Value → Shared → Prop} {value slice : PySem.Expr} {vl vu vk : Value} {lo u st : Option Int}
theorem slice3_ints {ops : List Value} (F : Fr h₀ L s.heap m) (N : News h₀ L s.heap news) (hl : s.heap.IsList l vs.toArray) (hi : IntsAre vs ns) (hn : ns.length ≤ 1000) (pl : IsPart vl lo) (pu : IsPart vu u) (pk : IsPart vk st) (h0 : st ≠ some 0)
    (h : ∀ D zs ms h', Fr h₀ L h' m → News h₀ L h' ((D, listOf (List.toArray zs) 0) :: news) → IntsAre zs ms → AllLt D news → Q (.ref D) { s with heap := h' })
    (hs : subscripted slice false (.ref l) (.ref s.heap.objs.size) = operate ops (getItem (.ref l) (.ref s.heap.objs.size))) (ht : ∀ r, letTemporaryGo value (.ref l) r = pure ()) :
    wpAny (model prog w) A (subscriptTail value slice (.ref l) (.ref s.heap.objs.size)) Q E { s with heap := s.heap.push { cls := .type "slice", data := .fields #[vl, vu, vk] } } := by
  obtain ⟨ms, hm⟩ := ints_pick hi lo u st
  exact kmk_slice3_lit F N hl pl pu pk h0 rfl (fun D h' F' N' l1 => h D _ ms h' F' N' hm (allLt_of l1)) hs ht (by rw [List.size_toArray, hi.length]; exact Nat.le_trans hn (by decide))
end
end Mine
end
section
open PySem PySem.Spec PySem.Calls PySem.W PyProof.Rows PyProof.Rows.LCg PyProof.Rows.LCt
set_option maxRecDepth 100000
namespace Mine
section
variable {prog : Program} {w : World} {A : Around} {E : Value → Shared → Prop} {s : Shared} {h₀ : Heap} {L : Addr} {m : PySem.Str → Option Value} {env : Env}
def TupIn (ax : Addr) (its : Array Value) (news : List (Addr × Obj)) : Prop := (ax, tupOf its) ∈ news
theorem tup_of {h : Heap} {ax : Addr} {its : Array Value} {news : List (Addr × Obj)} (N : News h₀ L h news) (x : TupIn ax its news) : h.IsTuple ax its := ⟨_, (N _ x).1, rfl, 0, rfl⟩
theorem tup_st {ax I : Addr} {its : Array Value} : ∀ (i : Nat) (h h' : Heap) (o : Obj) (nw : List (Addr × Obj)), (h.IsTupleIter I ax i ∧ h.IsTuple ax its) → h.get? I = some o → h'.get? I = some o → (∀ b o, h₀.get? b = some o → h'.get? b = some o) → News h₀ L h' nw → TupIn ax its nw → (h'.IsTupleIter I ax i ∧ h'.IsTuple ax its) :=
  fun i h h' o nw st e e' k N S => ⟨by obtain ⟨o', q, r⟩ := st.1; rw [e] at q; cases q; exact ⟨o, e', r⟩, tup_of N S⟩
/-- over a written tuple of the ledger -/
theorem comp_tup {elt iter : PySem.Expr} {x : PySem.Str} {px : Pos} {scope : Scope} {cl : List (PySem.Str × Addr)} {pos : Pos} {Q : Value → Shared → Prop} (F₀ : Fr h₀ L s.heap m)
    (hclos : closureFor scope env = pure cl) (hcell : ∀ y ∈ scope.names, y.2 ≠ .cell) (hkind : scope.kind = .function)
    (hnames : ∀ y ∈ scope.names, y.2 = .local → scope.names.lookup y.1 = some .local) (hx : scope.names.lookup x = some .local)
    (h : wpAny (model prog w) A (eval iter env) (fun xv s₁ => ∃ ax its news, xv = .ref ax ∧ A.handled = none ∧ Fr h₀ L s₁.heap m ∧ News h₀ L s₁.heap news ∧ TupIn ax its news ∧ its.size ≤ sizeLine ∧
      ∀ s₂ : Shared, (∃ h, s₂ = { s₁ with heap := h }) → CompRest prog w A h₀ L m env elt x scope cl s₂ (TupIn ax its) (fun i v => its[i]? = some v) (FinE h₀ L m s₂ Q) its.size 0 [] news) E s)
    (hs : ∀ x, foldedSetIterable iter env x = pure x := by intro _; rfl) :
    wpAny (model prog w) A (eval (.ListComp elt [⟨.Name x px, iter, [], 0⟩] scope pos) env) Q E s := by
  rw [eval_ListComp]
  refine wpAny_comprehension_free (use := none) rfl hs hclos hkind hnames (wpAny_mono h (fun xv s₁ h₁ => ?_) fun _ _ e => e)
  obtain ⟨ax, its, news, rfl, hh, F, N, S, hsz, R⟩ := h₁
  have hl := tup_of N S
  have hlt : ax < s₁.heap.objs.size := by obtain ⟨_, e, _⟩ := hl; exact Heap.lt_size e
  refine wpAny_pyIter_tuple hl ?_
  have up : ∀ b o, s₁.heap.get? b = some o → (s₁.heap.push { cls := .type "tuple_iterator", data := .fields #[.ref ax, .int 0 0] }).get? b = some o := fun b o e => Heap.get?_push_of_some _ e
  refine block_U (Walks.tuple hh s₁.heap.objs.size ax (Nat.ne_of_lt hlt) its) hsz (fun i h st => by obtain ⟨o, e, _⟩ := st.1; exact ⟨o, e⟩) tup_st hcell hkind hx ⟨⟨_, Heap.get?_push_size _ rfl, rfl, rfl⟩, tup_of (N.grown up) S⟩ (fun b hb => ?_)
    (F.keeps up) (N.grown up) (Nat.ne_of_lt F.ns.lt) (next_is_new F) (fun p hp => Nat.ne_of_lt (Heap.lt_size (N p hp).1)) S (R _ ⟨_, rfl⟩) ?_
  · show b < (s₁.heap.push _).objs.size
    rw [Heap.size_push]
    rcases List.mem_cons.mp hb with rfl | hb
    · exact Nat.lt_succ_self _
    · rw [List.mem_singleton.mp hb]; exact Nat.lt_succ_of_lt hlt
  · intro D C h tk m' ys news' F' N' o1 hn hC₀ hD₀ hCL hDL hCD offC fin
    refine ⟨m', hn, fun h'' hs'' => fin D h'' tk (F'.change hs'' hCL hC₀) (fun p hp => ?_) o1⟩
    refine ⟨hs''.extBut _ _ ?_ (N' p hp).1, (N' p hp).2⟩
    rcases List.mem_cons.mp hp with rfl | hp
    · exact Ne.symm hCD
    · exact offC p hp
/-- .. with a test, stored to a local name -/
theorem assign_tupT {ct elt iter : PySem.Expr} {x y : PySem.Str} {px py : Pos} {scope : Scope} {cl : List (PySem.Str × Addr)} {pos spos : Pos} {Q : Flow → Shared → Prop} (F₀ : Fr h₀ L s.heap m) (hLe : env.locals = L)
    (hsw : swapsWith (.ListComp elt [⟨.Name x px, iter, [ct], 0⟩] scope pos) (some (.Name y py)) spos.line env = pure true)
    (hclos : closureFor scope env = pure cl) (hcell : ∀ z ∈ scope.names, z.2 ≠ .cell) (hkind : scope.kind = .function)
    (hnames : ∀ z ∈ scope.names, z.2 = .local → scope.names.lookup z.1 = some .local) (hx : scope.names.lookup x = some .local)
    (hy : env.kindOf y = some .local) (hp : (env.scope.kind == .class || (env.scope.kind == .module && env.locals != env.globals)) = false)
    (h : wpAny (model prog w) A (eval iter env) (fun xv s₁ => ∃ ax its news, xv = .ref ax ∧ A.handled = none ∧ Fr h₀ L s₁.heap m ∧ News h₀ L s₁.heap news ∧ TupIn ax its news ∧ its.size ≤ sizeLine ∧
      ∀ s₂ : Shared, (∃ h, s₂ = { s₁ with heap := h }) → CompRestT prog w A h₀ L m env ct elt x scope cl s₂ (TupIn ax its) (fun i v => its[i]? = some v) (FinA h₀ L m s₂ y Q) its.size 0 [] news) E s)
    (hs : ∀ x, foldedSetIterable iter env x = pure x := by intro _; rfl) :
    wpAny (model prog w) A (exec (.Assign [.Name y py] (.ListComp elt [⟨.Name x px, iter, [ct], 0⟩] scope pos) spos) env) Q E s := by
  subst hLe
  rw [exec_Assign_Name_used _ _ _ _ hsw]
  refine wpAny_bind (wpAny_standAt (wpAny_bind ?_))
  show wpAny _ A (do let _ ← comprehension (.ListComp elt [⟨.Name x px, iter, [ct], 0⟩] scope pos) scope env _ (newList []) false (eval iter env) (some (assign (.Name y py) env))) _ _ s
  refine wpAny_bind (wpAny_mono (wpAny_comprehension_free (use := some (assign (.Name y py) env)) (Q := fun _ s' => Q .next s') rfl hs hclos hkind hnames
    (wpAny_mono h (fun xv s₁ h₁ => ?_) fun _ _ e => e)) (fun _ s' hq => wpAny_pure (wpAny_pure hq)) fun _ _ e => e)
  obtain ⟨ax, its, news, rfl, hh, F, N, S, hsz, R⟩ := h₁
  have hl := tup_of N S
  have hlt : ax < s₁.heap.objs.size := by obtain ⟨_, e, _⟩ := hl; exact Heap.lt_size e
  refine wpAny_pyIter_tuple hl ?_
  have up : ∀ b o, s₁.heap.get? b = some o → (s₁.heap.push { cls := .type "tuple_iterator", data := .fields #[.ref ax, .int 0 0] }).get? b = some o := fun b o e => Heap.get?_push_of_some _ e
  refine block_T (Walks.tuple hh s₁.heap.objs.size ax (Nat.ne_of_lt hlt) its) hsz (fun i h st => by obtain ⟨o, e, _⟩ := st.1; exact ⟨o, e⟩) tup_st hcell hkind hx ⟨⟨_, Heap.get?_push_size _ rfl, rfl, rfl⟩, tup_of (N.grown up) S⟩ (fun b hb => ?_)
    (F.keeps up) (N.grown up) (Nat.ne_of_lt F.ns.lt) (next_is_new F) (fun p hp => Nat.ne_of_lt (Heap.lt_size (N p hp).1)) S (R _ ⟨_, rfl⟩) ?_
  · show b < (s₁.heap.push _).objs.size
    rw [Heap.size_push]
    rcases List.mem_cons.mp hb with rfl | hb
    · exact Nat.lt_succ_self _
    · rw [List.mem_singleton.mp hb]; exact Nat.lt_succ_of_lt hlt
  · intro D C h' tk m' ys news' F' N' o1 hn hC₀ hD₀ hCL hDL hCD offC fin
    show wpAny _ A (assign (.Name y py) env (.ref D)) _ _ _
    refine wpAny_assign_Name (wpAny_storeName_local hy F'.ns (fun h₂ hn₂ hs₂ => ?_) hp)
    have hL₀ : h₀.get? env.locals = none := Heap.get?_none_of_le F'.above
    have F₂ : Fr h₀ env.locals h₂ (fun z => if z = y then some (.ref D) else m z) := ⟨hn₂, fun b o e => hs₂.extBut b o (fun q => by rw [q, hL₀] at e; cases e) (F'.keep b o e), F'.above⟩
    refine ⟨m', hn.sameBut hs₂ hCL, fun h'' hs'' => fin D h'' _ (F₂.change hs'' hCL hC₀) (fun p hp => ?_) o1⟩
    have z : h₂.get? p.1 = some p.2 := hs₂.extBut _ _ (N' p hp).2.1 (N' p hp).1
    refine ⟨hs''.extBut _ _ ?_ z, (N' p hp).2⟩
    rcases List.mem_cons.mp hp with rfl | hp
    · exact Ne.symm hCD
    · exact offC p hp
/-- over a plain text -/
theorem comp_str {elt iter : PySem.Expr} {x : PySem.Str} {px : Pos} {scope : Scope} {cl : List (PySem.Str × Addr)} {pos : Pos} {Q : Value → Shared → Prop} (F₀ : Fr h₀ L s.heap m)
    (hclos : closureFor scope env = pure cl) (hcell : ∀ y ∈ scope.names, y.2 ≠ .cell) (hkind : scope.kind = .function)
    (hnames : ∀ y ∈ scope.names, y.2 = .local → scope.names.lookup y.1 = some .local) (hx : scope.names.lookup x = some .local)
    (h : wpAny (model prog w) A (eval iter env) (fun xv s₁ => ∃ txt t news, xv = .str txt t ∧ A.handled = none ∧ Fr h₀ L s₁.heap m ∧ News h₀ L s₁.heap news ∧ txt.cps.all (· < 128) = true ∧ txt.cps.size ≤ sizeLine ∧
      ∀ s₂ : Shared, (∃ h, s₂ = { s₁ with heap := h }) → CompRest prog w A h₀ L m env elt x scope cl s₂ (fun _ => True) (SignAt txt) (FinE h₀ L m s₂ Q) txt.cps.size 0 [] news) E s)
    (hs : ∀ x, foldedSetIterable iter env x = pure x := by intro _; rfl) :
    wpAny (model prog w) A (eval (.ListComp elt [⟨.Name x px, iter, [], 0⟩] scope pos) env) Q E s := by
  rw [eval_ListComp]
  refine wpAny_comprehension_free (use := none) rfl hs hclos hkind hnames (wpAny_mono h (fun xv s₁ h₁ => ?_) fun _ _ e => e)
  obtain ⟨txt, t, news, rfl, hh, F, N, ha, hsz, R⟩ := h₁
  refine wpAny_pyIter_ascii ha ?_
  refine block_U (Walks.strAscii hh s₁.heap.objs.size txt t) hsz (fun i h st => let ⟨o, e, _⟩ := st; ⟨o, e⟩) (fun i h h' o nw st e e' k N S => by obtain ⟨o', q, r⟩ := st; rw [e] at q; cases q; exact ⟨o, e', r⟩) hcell hkind hx ⟨_, Heap.get?_push_size _ rfl, rfl, rfl⟩ (fun b hb => ?_)
    (F.keeps fun _ _ e => Heap.get?_push_of_some _ e) (N.grown fun _ _ e => Heap.get?_push_of_some _ e) (Nat.ne_of_lt F.ns.lt) (next_is_new F) (fun p hp => Nat.ne_of_lt (Heap.lt_size (N p hp).1)) trivial (R _ ⟨_, rfl⟩) ?_
  · rw [List.mem_singleton.mp hb]
    show s₁.heap.objs.size < (s₁.heap.push _).objs.size
    rw [Heap.size_push]; exact Nat.lt_succ_self _
  · intro D C h tk m' ys news' F' N' o1 hn hC₀ hD₀ hCL hDL hCD offC fin
    refine ⟨m', hn, fun h'' hs'' => fin D h'' tk (F'.change hs'' hCL hC₀) (fun p hp => ?_) o1⟩
    refine ⟨hs''.extBut _ _ ?_ (N' p hp).1, (N' p hp).2⟩
    rcases List.mem_cons.mp hp with rfl | hp
    · exact Ne.symm hCD
    · exact offC p hp
end
end Mine
end
section
open PySem PySem.Spec PySem.Calls PySem.W PyProof.Rows PyProof.Rows.LCg PyProof.Rows.LCt
set_option maxRecDepth 100000
namespace Mine
section
variable {M : Model} {prog : Program} {w : World} {A : Around} {E : Value → Shared → Prop} {s : Shared} {h₀ : Heap} {L : Addr} {m : PySem.Str → Option Value} {env : Env}
theorem newEnv_cell {scope : Scope} {globals : Addr} {cl : List (PySem.Str × Addr)} {qual x : PySem.Str} {Q : Env → Shared → Prop}
    (hone : ∀ n acc, cellsFrom n scope.names acc = (x, n) :: acc) (hpush : ∀ h, pushCells h scope.names = h.push { cls := .type "cell", data := .cell none })
    (hQ : Q { scope := scope, locals := s.heap.objs.size, globals := globals, cells := (x, s.heap.objs.size + 1) :: cl, qual := qual, func := none, code := env.code, frame := env.frame, builtins := env.builtins }
      { s with heap := (s.heap.push { cls := .type "dict", data := .dict #[] }).push { cls := .type "cell", data := .cell none } }) :
    wpAny M A (newFunctionEnv scope globals cl [] qual none .none (some env)) Q E s := by
  simp only [newFunctionEnv, Option.isSome_some, if_true]
  refine wpAny_bind (wpAny_alloc ?_)
  refine wpAny_bind (wpAny_layCells _ (fun name kind cells => by cases hkc : kind == NameKind.cell <;> simp [hkc]) _ _ _ _ ?_)
  rw [hone, hpush]
  rw [List.forIn_nil]
  refine wpAny_bind (wpAny_pure (wpAny_pure ?_))
  have e : (s.heap.push { cls := .type "dict", data := .dict #[] }).objs.size = s.heap.objs.size + 1 := Heap.size_push ..
  rw [e]
  exact hQ
/-- over a written tuple, the name a cell; the turns leave nothing but their values -/
theorem comp_cell {elt iter : PySem.Expr} {x : PySem.Str} {px : Pos} {scope : Scope} {cl : List (PySem.Str × Addr)} {pos : Pos} {Q : Value → Shared → Prop} (R : Nat → Value → Prop) (F₀ : Fr h₀ L s.heap m)
    (hone : ∀ n acc, cellsFrom n scope.names acc = (x, n) :: acc) (hpush : ∀ h, pushCells h scope.names = h.push { cls := .type "cell", data := .cell none })
    (hclos : closureFor scope env = pure cl) (hkind : scope.kind = .function)
    (hnames : ∀ y ∈ scope.names, y.2 = .local → scope.names.lookup y.1 = some .local) (hx : (relabel scope env).names.lookup x = some .cell)
    (h : wpAny (model prog w) A (eval iter env) (fun xv s₁ => ∃ ax its news, xv = .ref ax ∧ A.handled = none ∧ Fr h₀ L s₁.heap m ∧ News h₀ L s₁.heap news ∧ TupIn ax its news ∧ its.size ≤ sizeLine ∧
      (∀ i v I oI C oC kc ok D ys h tk (E' : Value → Shared → Prop), i < its.size → its[i]? = some v → ok.data = .cell (some v) → Fr h₀ L h m → News h₀ L h ((kc, ok) :: (I, oI) :: (C, oC) :: (D, lst ys) :: news) →
        LCg.Off3 I C D news → (∀ p ∈ news, p.1 ≠ kc) → ((@Ne Nat I C) ∧ (@Ne Nat I D) ∧ (@Ne Nat C D)) → ((@Ne Nat kc I) ∧ (@Ne Nat kc C) ∧ (@Ne Nat kc D)) →
        wpAny (model prog w) A (eval elt (compEnvC scope ((x, kc) :: cl) C env)) (fun y s' => Hold (R i y ∧ ∃ h' tk', s' = { s₁ with heap := h', toks := tk' } ∧ Fr h₀ L h' m ∧ News h₀ L h' ((kc, ok) :: (I, oI) :: (C, oC) :: (D, lst ys) :: news))) E' { s₁ with heap := h, toks := tk }) ∧
      (∀ ys : List Value, ys.length = its.size → (∀ (i : Nat) v, ys[i]? = some v → R i v) → ∀ D h tk, Fr h₀ L h m → News h₀ L h ((D, lst ys) :: news) → Off1 D news → Q (.ref D) { s₁ with heap := h, toks := tk })) E s)
    (hs : ∀ x, foldedSetIterable iter env x = pure x := by intro _; rfl) :
    wpAny (model prog w) A (eval (.ListComp elt [⟨.Name x px, iter, [], 0⟩] scope pos) env) Q E s := by
  rw [eval_ListComp]
  refine wpAny_comprehension_free (use := none) rfl hs hclos hkind hnames (wpAny_mono h (fun xv s₁ h₁ => ?_) fun _ _ e => e)
  refine hideP fun PP hPP => ?_
  obtain ⟨ax, its, news, rfl, hh, F, N, S, hsz, turn, fin⟩ := h₁
  refine hPP ?_
  clear hPP
  have hl := tup_of N S
  have hlt : ax < s₁.heap.objs.size := by obtain ⟨_, e, _⟩ := hl; exact Heap.lt_size e
  refine wpAny_pyIter_tuple hl ?_
  refine wpAny_newObj_type (newEnv_cell hone hpush ?_)
  dsimp only
  -- the addresses
  generalize hI : s₁.heap.objs.size = I at *
  generalize hH1 : s₁.heap.push { cls := .type "tuple_iterator", data := .fields #[.ref ax, .int 0 0] } = H1
  have s1 : H1.objs.size = I + 1 := by rw [← hH1, Heap.size_push, hI]
  rw [s1]
  generalize hH2 : H1.push { cls := .type "list", dict := none, data := .seq ([] : List Value).toArray } = H2
  have s2 : H2.objs.size = I + 2 := by rw [← hH2, Heap.size_push, s1]
  rw [s2]
  generalize hH3 : H2.push { cls := .type "dict", data := .dict #[] } = H3
  have s3 : H3.objs.size = I + 3 := by rw [← hH3, Heap.size_push, s2]
  generalize hH4 : H3.push { cls := .type "cell", data := .cell none } = H4
  have up : ∀ b o, s₁.heap.get? b = some o → H4.get? b = some o := fun b o e => by
    rw [← hH4, ← hH3, ← hH2, ← hH1]
    exact Heap.get?_push_of_some _ (Heap.get?_push_of_some _ (Heap.get?_push_of_some _ (Heap.get?_push_of_some _ e)))
  have gI : H4.get? I = some { cls := .type "tuple_iterator", data := .fields #[.ref ax, .int 0 0] } := by
    rw [← hH4, ← hH3, ← hH2, ← hH1]
    refine Heap.get?_push_of_some _ (Heap.get?_push_of_some _ (Heap.get?_push_of_some _ ?_))
    rw [← hI]; exact Heap.get?_push_size _ rfl
  have gD : H4.get? (I + 1) = some (lst []) := by
    rw [← hH4, ← hH3, ← hH2]
    refine Heap.get?_push_of_some _ (Heap.get?_push_of_some _ ?_)
    rw [← s1]; exact Heap.get?_push_size _ rfl
  have gC : H4.get? (I + 2) = some { cls := .type "dict", data := .dict #[] } := by
    rw [← hH4, ← hH3]
    refine Heap.get?_push_of_some _ ?_
    rw [← s2]; exact Heap.get?_push_size _ rfl
  have gK : H4.get? (I + 3) = some { cls := .type "cell", data := .cell none } := by
    rw [← hH4, ← s3]; exact Heap.get?_push_size _ rfl
  have fr0 : ∀ a, I ≤ a → h₀.get? a = none := fun a ha => Heap.get?_none_of_le (Nat.le_trans F.above (Nat.le_trans (Nat.le_of_lt (hI ▸ F.ns.lt)) ha))
  have hLI : @LT.lt Nat _ L I := hI ▸ F.ns.lt
  have hnw : ∀ p ∈ news, @LT.lt Nat _ p.1 I := fun p hp => hI ▸ Heap.lt_size (N p hp).1
  have hns : H4.Ns (I + 2) (fun _ => none) := by
    have z := Heap.Ns.new H2 (.type "dict")
    rw [hH3, s2] at z
    exact z.keeps fun b o e => by rw [← hH4]; exact Heap.get?_push_of_some _ e
  have F4 : Fr h₀ L H4 m := F.keeps up
  have N4 : News h₀ L H4 news := N.grown up
  have loop : codeAny (model prog w) A (.compLoop (.ListComp elt [⟨.Name x px, iter, [], 0⟩] scope pos) 0 (.ref I) (.ref (I + 1)) (compEnvC scope ((x, I + 3) :: cl) (I + 2) env))
      (compPost (model prog w) A E none Q (.ref (I + 1)) (I + 2)) { s₁ with heap := H4 } := by
    refine codeAny_compLoop_tests
      (fun k s' => ∀ P : Shared → Prop, (∀ h' tk i ys ok c, i ≤ its.size → k = its.size + 1 - i → ys.length = i → (∀ (j : Nat) v, ys[j]? = some v → R j v) → h'.IsTupleIter I ax i → ok.data = .cell c → Fr h₀ L h' m → h'.Ns (I + 2) (fun _ => none) → News h₀ L h' ((I + 3, ok) :: (I + 1, lst ys) :: news) → P { s₁ with heap := h', toks := tk }) → P s') ?_ (its.size + 1)
      (fun P hP => hP H4 s₁.toks 0 [] { cls := .type "cell", data := .cell none } none (Nat.zero_le _) rfl rfl (fun j v hv => by simp at hv) ⟨_, gI, rfl, rfl⟩ rfl F4 hns ?_)
    · intro k s' hI
      refine hI _ fun h' tk i ys ok c hi hk hyl hR hit hok F' hn' N' => ?_
      clear hI
      have hnI : ∀ p ∈ ((I + 3, ok) :: (I + 1, lst ys) :: news), p.1 ≠ I := fun p hp => by
        rcases List.mem_cons.mp hp with rfl | hp
        · exact Nat.ne_of_gt (by omega)
        rcases List.mem_cons.mp hp with rfl | hp
        · exact Nat.ne_of_gt (by omega)
        · exact Nat.ne_of_lt (hnw p hp)
      have St : h'.IsTuple ax its := tup_of N' (.tail _ (.tail _ S))
      by_cases hlt' : i < its.size
      · refine wpAny_pyNext_tuple_item hit St (x := its[i]) (by simp [hlt']) fun h₂ hit₂ hs₂ => ?_
        have F₂ : Fr h₀ L h₂ m := F'.change hs₂ (Nat.ne_of_gt hLI) (fr0 I (Nat.le_refl _))
        have N₂ : News h₀ L h₂ ((I + 3, ok) :: (I + 1, lst ys) :: news) := fun p hp => ⟨hs₂.extBut _ _ (hnI p hp) (N' p hp).1, (N' p hp).2⟩
        have hn₂ : h₂.Ns (I + 2) (fun _ => none) := hn'.sameBut hs₂ (Nat.ne_of_gt (by omega))
        refine wpAny_assign_Name (wpAny_storeName_cell (c := I + 3) (v₀ := c) hkind hx (by simp [compEnvC]) ⟨ok, (N₂ _ (.head _)).1, hok⟩ fun h₃ hc₃ hs₃ => ?_)
        refine wpAny_tests_nil ?_
        simp only [if_true]
        obtain ⟨ok₃, ek₃, dk₃⟩ := hc₃
        have ne3 : ∀ p ∈ ((I + 1, lst ys) :: news), p.1 ≠ I + 3 := fun p hp => by
          rcases List.mem_cons.mp hp with rfl | hp
          · exact Nat.ne_of_lt (by omega)
          · exact Nat.ne_of_lt (by have := hnw p hp; omega)
        have F₃ : Fr h₀ L h₃ m := F₂.change hs₃ (Nat.ne_of_gt (by omega)) (fr0 _ (by omega))
        have hit₃ : h₃.IsTupleIter I ax (i + 1) := hit₂.extBut hs₃.extBut (Nat.ne_of_lt (by omega))
        obtain ⟨oI, eI, rI⟩ := id hit₃
        obtain ⟨oC, eC, hoC⟩ := ns_obj (hn₂.sameBut hs₃ (Nat.ne_of_lt (by omega)))
        have N₃ : News h₀ L h₃ ((I + 3, ok₃) :: (I, oI) :: (I + 2, oC) :: (I + 1, lst ys) :: news) := fun p hp => by
          rcases List.mem_cons.mp hp with rfl | hp
          · exact ⟨ek₃, Nat.ne_of_gt (by omega), fr0 _ (by omega)⟩
          rcases List.mem_cons.mp hp with rfl | hp
          · exact ⟨eI, Nat.ne_of_gt hLI, fr0 _ (Nat.le_refl _)⟩
          rcases List.mem_cons.mp hp with rfl | hp
          · exact ⟨eC, Nat.ne_of_gt (by omega), fr0 _ (by omega)⟩
          · exact ⟨hs₃.extBut _ _ (ne3 p hp) (N₂ p (.tail _ hp)).1, (N₂ p (.tail _ hp)).2⟩
        refine wpAny_mono (turn i its[i] I oI (I + 2) oC (I + 3) ok₃ (I + 1) ys h₃ tk _ hlt' (by simp [hlt']) dk₃ F₃ N₃ (Off3.of fun p hp => ⟨Nat.ne_of_lt (hnw p hp), Nat.ne_of_lt (by have := hnw p hp; omega), Nat.ne_of_lt (by have := hnw p hp; omega)⟩)
          (fun p hp => ne3 p (.tail _ hp)) ⟨Nat.ne_of_lt (by omega), Nat.ne_of_lt (by omega), Nat.ne_of_gt (by omega)⟩ ⟨Nat.ne_of_gt (by omega), Nat.ne_of_gt (by omega), Nat.ne_of_gt (by omega)⟩) (fun y s₄ h₄ => ?_) fun _ _ e => e
        obtain ⟨hRy, h₄, tk₄, rfl, F₄, N₄⟩ := h₄
        have zD := (N₄ (I + 1, lst ys) (.tail _ (.tail _ (.tail _ (.head _))))).1
        refine append_at (hsz := by show ys.toArray.size ≤ sizeLine; rw [List.size_toArray, hyl]; exact Nat.le_trans hi hsz) zD fun h₅ hs₅ hD₅ => ?_
        have zI := (N₄ (I, oI) (.tail _ (.head _))).1
        have zC := (N₄ (I + 2, oC) (.tail _ (.tail _ (.head _)))).1
        refine ⟨its.size + 1 - (i + 1), by omega, fun P hP => hP h₅ tk₄ (i + 1) (ys ++ [y]) ok₃ _ hlt' rfl (by rw [List.length_append, List.length_singleton, hyl]) (fun j v hv => ?_) ?_ dk₃ (F₄.change hs₅ (Nat.ne_of_gt (by omega)) (fr0 _ (by omega))) ?_ (fun p hp => ?_)⟩
        · rcases Nat.lt_or_ge j ys.length with q | q
          · rw [List.getElem?_append_left q] at hv; exact hR j v hv
          · rw [List.getElem?_append_right q] at hv
            have : j = i := by
              rcases Nat.lt_or_ge (j - ys.length) 1 with z | z
              · omega
              · rw [List.getElem?_eq_none (by simpa using z)] at hv; cases hv
            subst this
            rw [hyl, Nat.sub_self] at hv
            cases hv
            exact hRy
        · exact (show h₄.IsTupleIter I ax (i + 1) from ⟨oI, zI, rI⟩).extBut hs₅.extBut (Nat.ne_of_lt (by omega))
        · exact (hoC.ns zC).sameBut hs₅ (Nat.ne_of_gt (by omega))
        · rcases List.mem_cons.mp hp with rfl | hp
          · exact ⟨hs₅.extBut _ _ (Nat.ne_of_gt (by omega)) (N₄ _ (.head _)).1, (N₄ _ (.head _)).2⟩
          rcases List.mem_cons.mp hp with rfl | hp
          · exact ⟨hD₅.trans (congrArg some (lst_snoc ys y)), Nat.ne_of_gt (by omega), fr0 _ (by omega)⟩
          · have z := N₄ p (.tail _ (.tail _ (.tail _ (.tail _ hp))))
            exact ⟨hs₅.extBut _ _ (Nat.ne_of_lt (by have := hnw p hp; omega)) z.1, z.2⟩
      · obtain rfl : i = its.size := Nat.le_antisymm hi (Nat.not_lt.mp hlt')
        refine wpAny_pyNext_tuple_end hh hit St (by simp) fun h₂ he₂ => ?_
        have F₂ : Fr h₀ L h₂ m := Fr_but F' he₂ (Nat.ne_of_gt hLI) (fr0 I (Nat.le_refl _))
        have N₂ : News h₀ L h₂ ((I + 1, lst ys) :: news) := fun p hp => ⟨he₂ _ _ (hnI p (.tail _ hp)) (N' p (.tail _ hp)).1, (N' p (.tail _ hp)).2⟩
        refine ⟨_, hn'.at' fun o e => he₂ _ _ (Nat.ne_of_gt (by omega)) e, fun h'' hs'' => fin ys hyl hR (I + 1) h'' tk (F₂.change hs'' (Nat.ne_of_gt (by omega)) (fr0 _ (by omega))) (fun p hp => ?_) ?_⟩
        · refine ⟨hs''.extBut _ _ ?_ (N₂ p hp).1, (N₂ p hp).2⟩
          rcases List.mem_cons.mp hp with rfl | hp
          · exact Nat.ne_of_lt (by omega)
          · exact Nat.ne_of_lt (by have := hnw p hp; omega)
        · have : ∀ {l : List (Addr × Obj)}, (∀ p ∈ l, p.1 ≠ I + 1) → Off1 (I + 1) l := by
            intro l
            induction l with
            | nil => intro _; trivial
            | cons a r ih => intro hq; exact ⟨hq _ (.head _), ih fun p hp => hq p (.tail _ hp)⟩
          exact this fun p hp => Nat.ne_of_lt (by have := hnw p hp; omega)
    · intro p hp
      rcases List.mem_cons.mp hp with rfl | hp
      · exact ⟨gK, Nat.ne_of_gt (by omega), fr0 _ (by omega)⟩
      rcases List.mem_cons.mp hp with rfl | hp
      · exact ⟨gD, Nat.ne_of_gt (by omega), fr0 _ (by omega)⟩
      · exact N4 p hp
  refine codeAny_compStart_list loop ?_
  exact wpAny_pyIter_tupleiter ⟨_, gI, rfl, rfl⟩ loop
end
end Mine
end
section
open PySem PySem.Spec PySem.Calls PySem.W PyProof.Rows PyProof.Rows.LCg PyProof.Rows.LCt
set_option maxRecDepth 100000
namespace Mine
section
variable {prog : Program} {w : World} {A : Around} {h₀ : Heap} {L : Addr} {m : PySem.Str → Option Value} {env : Env} {ct elt : PySem.Expr} {x : PySem.Str} {scope : Scope} {cl : List (PySem.Str × Addr)} {s : Shared} {Fin : List Value → List (Addr × Obj) → Prop} {news : List (Addr × Obj)}
/-- what a comprehension's turn leaves as it was -/
def TurnIs (h₀ : Heap) (L : Addr) (m : PySem.Str → Option Value) (s : Shared) (all : List (Addr × Obj)) (s' : Shared) : Prop := ∃ h' tk', s' = { s with heap := h', toks := tk' } ∧ Fr h₀ L h' m ∧ News h₀ L h' all
theorem ints_snoc {vs : List Value} {ns : List Int} (h : IntsAre vs ns) (y : Int) (u : Tok) : IntsAre (vs ++ [.int y u]) (ns ++ [y]) := ints_app h y u
/-- over a range, with a test -/
theorem compT_range {n : Nat} {a : Int} (t : Int → Bool)
    (test : ∀ k tv I oI C oC D m₂ ys h tk (E' : Value → Shared → Prop), a ≤ k → k < a + (n : Int) → NsObj oC m₂ → m₂ x = some (.int k tv) → Fr h₀ L h m → News h₀ L h ((I, oI) :: (C, oC) :: (D, lst ys) :: news) → Off3 I C D news → ((@Ne Nat I C) ∧ (@Ne Nat I D) ∧ (@Ne Nat C D)) →
      wpAny (model prog w) A (isTrue ct (compEnvC scope cl C env) (eval ct (compEnvC scope cl C env))) (fun ok s' => Hold (ok = t k ∧ TurnIs h₀ L m s ((I, oI) :: (C, oC) :: (D, lst ys) :: news) s')) E' { s with heap := h, toks := tk })
    (el : ∀ k tv I oI C oC D m₂ ys h tk (E' : Value → Shared → Prop), a ≤ k → k < a + (n : Int) → NsObj oC m₂ → m₂ x = some (.int k tv) → Fr h₀ L h m → News h₀ L h ((I, oI) :: (C, oC) :: (D, lst ys) :: news) → Off3 I C D news → ((@Ne Nat I C) ∧ (@Ne Nat I D) ∧ (@Ne Nat C D)) →
      wpAny (model prog w) A (eval elt (compEnvC scope cl C env)) (fun y s' => Hold ((∃ u, y = .int k u) ∧ TurnIs h₀ L m s ((I, oI) :: (C, oC) :: (D, lst ys) :: news) s')) E' { s with heap := h, toks := tk })
    (fin : ∀ ys : List Value, IntsAre ys ((rangeKs a n).filter t) → Fin ys news) : CompRestT prog w A h₀ L m env ct elt x scope cl s (fun _ => True) (fun i v => ∃ u, v = .int (a + (i : Int)) u) Fin n 0 [] news := by
  have key : ∀ (j i : Nat) (ys : List Value), i + j = n → IntsAre ys (((rangeKs a n).take i).filter t) → CompRestT prog w A h₀ L m env ct elt x scope cl s (fun _ => True) (fun i v => ∃ u, v = .int (a + (i : Int)) u) Fin j i ys news := by
    intro j
    induction j with
    | zero =>
      intro i ys hi hy
      have e : i = (rangeKs a n).length := by rw [rangeKs_length]; omega
      rw [e, List.take_length] at hy
      exact CompRestT.zero (fin ys hy)
    | succ j ih =>
      intro i ys hi hy
      have hk : (rangeKs a n)[i]? = some (a + (i : Int)) := by simp [rangeKs, show i < n by omega]
      refine CompRestT.succ ?_
      rintro v I oI C oC D m₂ h tk E' ⟨u, rfl⟩ hC hx F N off ne
      have b1 : a ≤ a + (i : Int) := by omega
      have b2 : a + (i : Int) < a + (n : Int) := by omega
      refine wpAny_mono (test _ _ I oI C oC D m₂ ys h tk E' b1 b2 hC hx F N off ne) (fun ok s₂ hq => ?_) fun _ _ e => e
      obtain ⟨rfl, h2, tk2, rfl, F2, N2⟩ := hq
      cases hb : t (a + (i : Int)) with
      | true =>
        rw [if_pos rfl]
        refine wpAny_mono (el _ _ I oI C oC D m₂ ys h2 tk2 E' b1 b2 hC hx F2 N2 off ne) (fun y s₃ hq => ?_) fun _ _ e => e
        obtain ⟨⟨u3, rfl⟩, h3, tk3, rfl, F3, N3⟩ := hq
        refine ⟨h3, tk3, news, rfl, F3, N3, off, trivial, ih (i + 1) _ (by omega) ?_⟩
        rw [List.take_add_one, hk, List.filter_append]
        simp only [Option.toList_some, List.filter_cons, hb, if_true, List.filter_nil]
        exact ints_snoc hy _ _
      | false =>
        rw [if_neg (by decide)]
        refine ⟨h2, tk2, news, rfl, F2, N2, off, trivial, ih (i + 1) _ (by omega) ?_⟩
        rw [List.take_add_one, hk, List.filter_append]
        simp only [Option.toList_some, List.filter_cons, hb, List.filter_nil, List.append_nil, if_neg (show ¬ false = true by decide)]
        simpa using hy
  exact key n 0 [] (by omega) .nil
end
section
variable {prog : Program} {w : World} {A : Around} {s : Shared} {E : Value → Shared → Prop} {Q : Value → Shared → Prop}
/-- an item of a list of ints, at a place that is not known -/
theorem pick_mem {value slice : PySem.Expr} {l : Addr} {vs : List Value} {ns : List Int} {k : Int} {u : Tok} (hl : s.heap.IsList l vs.toArray) (hi : IntsAre vs ns) (h0 : 0 ≤ k) (h1 : k < ns.length) (hf : ns.length ≤ 1000) (h : ∀ t x, x ∈ ns → Q (.int x t) s)
    (hs : subscripted slice false (.ref l) (.int k u) = operate [.ref l, .int k u] (getItem (.ref l) (.int k u)) := by with_unfolding_all rfl) :
    wpAny (model prog w) A (subscriptTail value slice (.ref l) (.int k u)) Q E s := by
  refine item_anyK hl hi h0 h1 (by omega) (fun t => h t _ ?_) hs
  exact getD_mem (by omega)
end
end Mine
end
section
local macro_rules | `(tactic| walk_at "no such step") => `(tactic| skip)
open PySem PySem.Spec PySem.Calls PySem.W PyProof.Rows
set_option maxRecDepth 100000
set_option rowWalk.seconds 0
namespace Mine
local macro_rules | `(tactic| walk_at "eval Name") => `(tactic| (k_here; k_dflt (refine' nameLA ?F ?v ?_; (case F => k_asm); (case v => first | exact rfl | assumption); k_whole)))
local macro_rules | `(tactic| walk_at "eval ListComp") => `(tactic| (k_here; k_dflt (refine LCg.ListComp_U (F₀ := by k_asm) (by with_unfolding_all rfl) (by decide) (by rfl) (by decide) (by rfl) ?_)))
local macro_rules | `(tactic| walk_at "CompEnd") => `(tactic| (refine hold_of ?_))
local macro_rules | `(tactic| walk_at "CompSrc") => `(tactic| (refine hold_of ?_))
local macro_rules | `(tactic| walk_at "call builtin:sum") => `(tactic| (k_here; k_dflt (refine' LSm.sum_ints ?F ?N ?hh ?l ?i ?_; (case F => k_asm); (case N => k_asm); (case hh => exact rfl); (case l => exact PySem.IsL.isList (News.get (by k_asm) (by k_mem))); (case i => assumption); k_whole); intro h' tk' t' F' N'))
local macro_rules | `(tactic| walk_at "subscriptTail Name Slice ref ref") => `(tactic| (k_here; (with_reducible show wpAny _ _ (subscriptTail _ (PySem.Expr.Slice _ _ (some _) _) (Value.ref _) (Value.ref _)) _ _ _); k_dflt (refine' slice3_ints ?F ?N ?l ?i ?n ?p ?q ?k ?o ?_ ?s ?t; (case F => k_asm); (case N => k_asm); (case l => exact PySem.IsL.isList (News.get (by k_asm) (by k_mem))); (case i => assumption); (case n => omega); (case p => kmk_part); (case q => kmk_part); (case k => kmk_part); (case o => decide); (case s => with_unfolding_all rfl); (case t => kmk_pure)); intro D' zs' ms' h' F' N' hI' l1; (try k_lt l1); (try k_sweep)))
theorem off1_mem {D : Addr} : ∀ {l : List (Addr × Obj)}, LCg.Off1 D l → ∀ b ∈ l.map (·.1), @Ne Nat b D
  | [], _, b, h => nomatch h
  | p :: r, x, b, h => by
    rcases List.mem_cons.mp h with rfl | h
    · exact x.1
    · exact off1_mem x.2 b h
structure Keep (P : Prop) : Prop where
  out : P
set_option maxHeartbeats 4000000 in
theorem law_A {w : World} {s : Shared} {base G : Heap} {p : Program} {loose : List Str} {mean : ExcName → Option Value} {mg mb : Str → Option Value}
    {t0 t1 t2 : List PySem.Expr} {e0 e1 e2 : PySem.Expr} {p0 p1 p2 : Pos} {rest : List Stmt} (h0 : stm2 20 0 = .Assign t0 e0 p0) (h1 : stm2 20 1 = .Assign t1 e1 p1) (h2 : stm2 20 2 = .Assign t2 e2 p2) {name bind : Str} {params : Arguments} {body : List Stmt} {scope : Scope} {pos : Pos} (hK0 : stm 20 = .FunctionDef name params body [] none [] scope none bind pos) {L : Nat} {fa : Addr} {cd : Value}
    {m : Str → Option Value} {sl : Addr} {vs : List Value} {ns : List Int} {Q : Flow → Shared → Prop} {E : Value → Shared → Prop} {o1 o2 o3 o4 o5 o6 o7 o8 o9 : Obj} {c1 c2 c3 c4 c5 c6 c7 c8 c9 : Option Value} (d1 : o1.data = .cell c1) (d2 : o2.data = .cell c2) (d3 : o3.data = .cell c3) (d4 : o4.data = .cell c4) (d5 : o5.data = .cell c5) (d6 : o6.data = .cell c6) (d7 : o7.data = .cell c7) (d8 : o8.data = .cell c8) (d9 : o9.data = .cell c9)
    (B : Below callerA base [] G) (X : (pre.heap_1_39 w.params).In G) (T : Top p loose mean mg mb G)
    (F : Fr G L s.heap m) (N : News G L s.heap [(L+1+1+1+1+1+1+1+1+1, o9), (L+1+1+1+1+1+1+1+1, o8), (L+1+1+1+1+1+1+1, o7), (L+1+1+1+1+1+1, o6), (L+1+1+1+1+1, o5), (L+1+1+1+1, o4), (L+1+1+1, o3), (L+1+1, o2), (L+1, o1), (132, tabObj #[]), (37, tabObj #[]), (30, tabObj #[])])
    (l0 : 132 < L ∧ 37 < L ∧ 30 < L) (v1 : m (PySem.Str.ofString "script") = some (.ref sl)) (hl : G.IsList sl vs.toArray) (hi : IntsAre vs ns) (hn : ns.length ≤ 63)
    (hQ : ∀ (h' : Heap) (tk : Nat) (cl a1 a2 : Nat) (k1 k2 p1 p2 p3 : Obj) (ys : List Value) (zs : List Int), Fr G L h' m → News G L h' [(cl, LCg.lst ys), (a1, k1), (a2, k2), (L+1+1+1+1+1+1+1+1+1, o9), (L+1+1+1+1+1+1+1+1, o8), (L+1+1+1+1+1+1+1, o7), (L+1+1+1+1+1+1, o6), (L+1+1+1+1+1, o5), (L+1+1+1+1, o4), (L+1+1+1, p3), (L+1+1, p2), (L+1, p1), (132, tabObj #[]), (37, tabObj #[]), (30, tabObj #[])] →
      p3.data = .cell (some (.ref cl)) → (∃ v, p2.data = .cell v) → (∃ v, p1.data = .cell v) → IntsAre ys zs → zs.length = 5 → L + 9 < a2 → a2 < a1 → (∀ b ∈ ([a1, a2, L+1+1+1+1+1+1+1+1+1, L+1+1+1+1+1+1+1+1, L+1+1+1+1+1+1+1, L+1+1+1+1+1+1, L+1+1+1+1+1, L+1+1+1+1, L+1+1+1, L+1+1, L+1, 132, 37, 30] : List Nat), @Ne Nat b cl) →
      wpAny (model PySem.Challenge.rw_ta0029_01.row.prog w) (callerA.deeper (envOfC (PySem.Str.ofString "law") scope L fa cd)) (execs rest (envOfC (PySem.Str.ofString "law") scope L fa cd)) Q E { s with heap := h', toks := tk }) :
    wpAny (model PySem.Challenge.rw_ta0029_01.row.prog w) (callerA.deeper (envOfC (PySem.Str.ofString "law") scope L fa cd)) (execs (.Assign t0 e0 p0 :: .Assign t1 e1 p1 :: .Assign t2 e2 p2 :: rest) (envOfC (PySem.Str.ofString "law") scope L fa cd)) Q E s := by
  cases h0
  cases h1
  cases h2
  cases hK0
  revert X; k_fill; intro X
  have K0 := B
  w_top on
  k_steps
  rename Fr _ _ _ _ => F1
  rename News _ _ _ _ => N1
  rename IsRange _ _ _ _ _ _ _ _ => hr
  refine LCg.CompSrc.range (n := 5) rfl F1 N1 hr rfl rfl (by decide) ?_
  intro g
  refine comp_rest (fun _ v => ∃ (z : Int) (t : Tok), v = .int z t) ?_ ?_
  · rintro i v I oI C oC D m₂ ys h tk E' hi5 ⟨tv, rfl⟩ hC hx F2 N2 off ne
    have hk0 : 0 ≤ (0 : Int) + (i : Int) := by omega
    have hk5 : (0 : Int) + (i : Int) < 5 := by omega
    generalize (0 : Int) + (i : Int) = kk at hx hk0 hk5
    have off' := off
    simp only [LCg.Off3, and_true] at off'
    clear F1 N1 hr
    k_steps
    rename Fr _ _ _ _ => F3
    rename News _ _ _ _ => N3
    refine comp_end F3 N3 ?_ off trivial ⟨_, _, rfl⟩
    first | exact fun p hp => hp | exact fun p hp => .tail _ hp | exact fun p hp => .tail _ (.tail _ hp)
  · intro ys hy hR D h tk F2 N2 off
    obtain ⟨zs, hz⟩ := ints_of_get fun i v hv => hR i v hv
    have off' := off
    simp only [LCg.Off1, and_true] at off'
    have offb : Keep (∀ b ∈ ([_, _, L+1+1+1+1+1+1+1+1+1, L+1+1+1+1+1+1+1+1, L+1+1+1+1+1+1+1, L+1+1+1+1+1+1, L+1+1+1+1+1, L+1+1+1+1, L+1+1+1, L+1+1, L+1, 132, 37, 30] : List Nat), @Ne Nat b D) := ⟨off1_mem off⟩
    clear F1 N1 hr
    k_steps
    rename Fr _ _ _ _ => F3
    rename News _ _ _ _ => N3
    refine hQ _ _ _ _ _ _ _ _ _ _ _ zs F3 N3 (by assumption) ⟨_, by assumption⟩ ⟨_, by assumption⟩ hz (by rw [← hz.length, hy]) (by omega) (by omega) offb.out
end Mine
end
section
open PySem PySem.Spec PySem.Calls PySem.W PyProof.Rows
set_option maxRecDepth 100000
set_option rowWalk.seconds 0
namespace Mine
def primesL : List Int := [467, 479, 503, 563, 587, 719, 839, 863, 887]
def pairsL : List (Int × Int) := (List.range 9).flatMap fun i => (List.range 8).map fun j => (primesL.getD i 0, (primesL.eraseIdx i).getD j 0)
def PQ (p q : Int) : Prop := (p, q) ∈ pairsL
theorem pq_of {i j : Int} (h0 : 0 ≤ i) (h1 : i < 9) (h2 : 0 ≤ j) (h3 : j < 8) : PQ (primesL.getD i.toNat 0) ((primesL.eraseIdx i.toNat).getD j.toNat 0) :=
  List.mem_flatMap.mpr ⟨i.toNat, List.mem_range.mpr (by omega), List.mem_map.mpr ⟨j.toNat, List.mem_range.mpr (by omega), rfl⟩⟩
theorem kl_cut_at : ∀ {us : List Value} {k : Nat}, k < us.length → ∃ p y q, kl_cut us k = some (p, y, q) ∧ p ++ q = us.eraseIdx k ∧ us[k]? = some y
  | [], _, h => absurd h (Nat.not_lt_zero _)
  | x :: r, 0, _ => ⟨[], x, r, rfl, rfl, rfl⟩
  | x :: r, k + 1, h => by
    obtain ⟨p, y, q, e1, e2, e3⟩ := kl_cut_at (us := r) (k := k) (Nat.lt_of_succ_lt_succ h)
    refine ⟨x :: p, y, q, ?_, ?_, e3⟩
    · show (match kl_cut r k with | some (p, y, q) => some (x :: p, y, q) | none => none) = _
      rw [e1]
    · show x :: (p ++ q) = x :: r.eraseIdx k
      rw [e2]
theorem ints_erase : ∀ {us : List Value} {ns : List Int} (k : Nat), IntsAre us ns → IntsAre (us.eraseIdx k) (ns.eraseIdx k)
  | _, _, _, .nil => .nil
  | _, _, 0, .cons i t h => h
  | _, _, k + 1, .cons i t h => .cons i t (ints_erase k h)
section
variable {prog : Program} {w : World} {A : Around} {E : Value → Shared → Prop} {s : Shared} {h₀ : Heap} {L D : Addr} {m : Str → Option Value} {news news' : List (Addr × Obj)} {n : Nat}
theorem pop_pr {us : List Value} {ns : List Int} {i : Int} {u : Tok} {Q : Value → Shared → Prop} (F : Fr h₀ L s.heap m) (N : News h₀ L s.heap news) (U : Upd D (listOf us.toArray n) (listOf (us.eraseIdx i.toNat).toArray (n + 1)) news news') (hi : IntsAre us ns)
    (hb : ∀ y ∈ ns, 467 ≤ y ∧ y ≤ 887) {k : Nat} (hk : ns.length = k + 1) (h0 : 0 ≤ i) (h1 : i < ((k + 1 : Nat) : Int)) (hz : k ≤ 99)
    (h : ∀ h' t x, Fr h₀ L h' m → News h₀ L h' news' → IntsAre (us.eraseIdx i.toNat) (ns.eraseIdx i.toNat) → (∀ y ∈ ns.eraseIdx i.toNat, 467 ≤ y ∧ y ≤ 887) → (ns.eraseIdx i.toNat).length = k → x = ns.getD i.toNat 0 → 467 ≤ x → x ≤ 887 → Q (.int x t) { s with heap := h' }) :
    wpAny (model prog w) A (call (.builtin "list.pop") [.ref D, .int i u]) Q E s := by
  have hl := hi.length
  obtain ⟨p, y, q, e1, e2, e3⟩ := kl_cut_at (us := us) (k := i.toNat) (by omega)
  obtain ⟨t, e4⟩ := ints_get (i := i.toNat) hi (by omega)
  rw [e3] at e4
  cases e4
  have hm := hb _ (getD_mem (ds := ns) (i := i.toNat) (by omega))
  refine kl_popAt F N (k := i.toNat) (p := p) (q := q) (by unfold Builtin.List.listFitsIndex; simp; omega) ?_ (by simpa using e1) (e2 ▸ U) (by simp; exact Nat.le_trans (by omega) (show 100 ≤ sizeLine by decide)) ?_
  · unfold seqIndex?
    rw [List.size_toArray]
    simp
    omega
  · intro h' F' N'
    exact h h' t _ F' N' (ints_erase _ hi) (fun y hy => hb y (List.mem_of_mem_eraseIdx hy)) (by rw [List.length_eraseIdx_of_lt (by omega)]; omega) rfl hm.1 hm.2
end
theorem fm0 {x k : Int} (h : 0 < k) : 0 ≤ x.fmod k := by rw [Int.fmod_eq_emod_of_nonneg _ (Int.le_of_lt h)]; exact Int.emod_nonneg _ (by omega)
theorem fm1 {x k : Int} (h : 0 < k) : x.fmod k < k := by rw [Int.fmod_eq_emod_of_nonneg _ (Int.le_of_lt h)]; exact Int.emod_lt_of_pos _ h
end Mine
end
section
open PySem PySem.Spec PySem.Calls PySem.W PyProof.Rows
set_option maxRecDepth 100000
set_option rowWalk.seconds 0
namespace Mine
local macro_rules | `(tactic| walk_at "eval Name") => `(tactic| (k_here; k_dflt (refine' nameLA ?F ?v ?_; (case F => k_asm); (case v => first | exact rfl | assumption); k_whole)))
local macro_rules | `(tactic| walk_at "call builtin:list.pop") => `(tactic| (k_here; (show wpAny _ _ (call (Value.builtin _) [Value.ref _, Value.int _ _]) _ _ _); k_dflt (refine' pop_pr ?F ?N ?U ?i ?b ?kk ?a0 ?a1 ?z ?_; (case F => k_asm); (case N => k_asm); (case U => k_upd); (case i => first | assumption | repeat constructor); (case b => first | assumption | decide); (case kk => first | assumption | exact rfl); (case a0 => exact fm0 (by decide)); (case a1 => exact fm1 (by decide)); (case z => decide)); intro h' t' x' F' N' i' b' z' e' lo' hi'))
set_option maxHeartbeats 4000000 in
theorem law_B {w : World} {s : Shared} {base G : Heap} {p : Program} {loose : List Str} {mean : ExcName → Option Value} {mg mb : Str → Option Value}
    {t3 : List PySem.Expr} {e3 : PySem.Expr} {p3 : Pos} {t4 : List PySem.Expr} {e4 : PySem.Expr} {p4 : Pos} {t5 : List PySem.Expr} {e5 : PySem.Expr} {p5 : Pos} {rest : List Stmt} (h3 : stm2 20 3 = .Assign t3 e3 p3) (h4 : stm2 20 4 = .Assign t4 e4 p4) (h5 : stm2 20 5 = .Assign t5 e5 p5) {name bind : Str} {params : Arguments} {body : List Stmt} {scope : Scope} {pos : Pos} (hK0 : stm 20 = .FunctionDef name params body [] none [] scope none bind pos) {L : Nat} {fa : Addr} {cd : Value}
    {m : Str → Option Value} {Q : Flow → Shared → Prop} {E : Value → Shared → Prop} {cl a1 a2 : Nat} {k1 k2 o3 o4 o5 o6 o7 o8 o9 : Obj} {ys : List Value} {z0 z1 z2 z3 z4 : Int} {c4 c5 : Option Value}
    (B : Below callerA base [] G) (X : (pre.heap_1_39 w.params).In G) (T : Top p loose mean mg mb G) (F : Fr G L s.heap m)
    (N : News G L s.heap [(cl, LCg.lst ys), (a1, k1), (a2, k2), (L+1+1+1+1+1+1+1+1+1, o9), (L+1+1+1+1+1+1+1+1, o8), (L+1+1+1+1+1+1+1, o7), (L+1+1+1+1+1+1, o6), (L+1+1+1+1+1, o5), (L+1+1+1+1, o4), (L+1+1+1, o3), (132, tabObj #[]), (37, tabObj #[]), (30, tabObj #[])]) (l0 : 132 < L ∧ 37 < L ∧ 30 < L) (d3 : o3.data = .cell (some (.ref cl))) (d4 : o4.data = .cell c4) (d5 : o5.data = .cell c5) (hi : IntsAre ys [z0, z1, z2, z3, z4]) (la : L + 9 < a2 ∧ a2 < a1) (offb : ∀ b ∈ ([a1, a2, L+1+1+1+1+1+1+1+1+1, L+1+1+1+1+1+1+1+1, L+1+1+1+1+1+1+1, L+1+1+1+1+1+1, L+1+1+1+1+1, L+1+1+1+1, L+1+1+1, L+1+1, L+1, 132, 37, 30] : List Nat), @Ne Nat b cl)
    (hQ : ∀ (h' : Heap) (tk : Nat) (m' : Str → Option Value) (pr : Nat) (x y : Int) (u1 u2 : Tok) (q4 q5 : Obj), Fr G L h' m' → News G L h' [(pr, listOf #[.int x u1, .int y u2] 0), (cl, LCg.lst ys), (a1, k1), (a2, k2), (L+1+1+1+1+1+1+1+1+1, o9), (L+1+1+1+1+1+1+1+1, o8), (L+1+1+1+1+1+1+1, o7), (L+1+1+1+1+1+1, o6), (L+1+1+1+1+1, q5), (L+1+1+1+1, q4), (L+1+1+1, o3), (132, tabObj #[]), (37, tabObj #[]), (30, tabObj #[])] → m' (PySem.Str.ofString "pair") = some (.ref pr) → PQ x y → (∃ t, q4.data = .cell (some (.int (x * y) t))) → (∃ t, q5.data = .cell (some (.int ((x - 1) * (y - 1)) t))) → (a1 < pr ∧ cl < pr) →
      wpAny (model PySem.Challenge.rw_ta0029_01.row.prog w) (callerA.deeper (envOfC (PySem.Str.ofString "law") scope L fa cd)) (execs rest (envOfC (PySem.Str.ofString "law") scope L fa cd)) Q E { s with heap := h', toks := tk }) :
    wpAny (model PySem.Challenge.rw_ta0029_01.row.prog w) (callerA.deeper (envOfC (PySem.Str.ofString "law") scope L fa cd)) (execs (.Assign t3 e3 p3 :: .Assign t4 e4 p4 :: .Assign t5 e5 p5 :: rest) (envOfC (PySem.Str.ofString "law") scope L fa cd)) Q E s := by
  cases h3
  cases h4
  cases h5
  cases hK0
  revert X; k_fill; intro X
  have K0 := B
  w_top on
  simp only [List.forall_mem_cons, List.not_mem_nil, false_imp_iff, implies_true, and_true] at offb
  k_steps
  rename Fr _ _ _ _ => F3
  rename News _ _ _ _ => N3
  have N4 := News_app (News_take 1 (News_drop 1 N3)) (News_drop 3 N3)
  dsimp only [List.take, List.drop, List.cons_append, List.nil_append] at N4
  rename (_ : Int) = List.getD (List.eraseIdx _ _) _ _ => e2
  clear N3
  refine hQ _ _ _ _ _ _ _ _ _ _ F3 N4 rfl ?_ ⟨_, by assumption⟩ ⟨_, by assumption⟩ ⟨by omega, by omega⟩
  rw [e2]
  clear e2
  rename (_ : Int) = List.getD _ _ _ => e1
  rw [e1]
  exact pq_of (fm0 (by decide)) (fm1 (by decide)) (fm0 (by decide)) (fm1 (by decide))
end Mine
end
section
open PySem PySem.Spec PySem.Calls PySem.W PyProof.Rows
set_option maxRecDepth 100000
set_option rowWalk.seconds 0
namespace Mine
theorem hold_truthy {M : Model} {A : Around} {s : Shared} {E : Value → Shared → Prop} {Q : Bool → Shared → Prop} {b c : Bool} (e : b = c) (h : Q c s) : Hold (wpAny M A (truthy (.bool b)) Q E s) := by subst e; exact wpAny_truthy_bool h
theorem if_true_of {p q : Prop} (h : p) : if true = true then p else q := by rw [if_pos rfl]; exact h
theorem if_false_of {p q : Prop} (h : q) : if false = true then p else q := by rw [if_neg (by decide)]; exact h
theorem pow_four {prog : Program} {w : World} {A : Around} {s : Shared} {E : Value → Shared → Prop} {Q : Value → Shared → Prop} {a z : Int} {t u : Tok} (e : a ^ (4 : Int).toNat = z) (ha : a.natAbs < 2 ^ 64) (h : Q (.int z s.toks) { s with toks := s.toks + 1 }) : wpAny (model prog w) A (binaryOp .Pow (.int a t) (.int 4 u)) Q E s :=
  pow_int_small (by decide) (by decide) ha (e ▸ h)
/-- the secret exponents that are small enough -/
def chL (n : Int) : List Int := if 81 * 9 ^ 4 < n then [3, 5, 7, 9] else [3, 5, 7]
def tstF (od d k : Int) : Bool := (k * od + 1).fmod d == 0
def eOf (od d : Int) : Int := match (rangeKs 1 (d - 1).toNat).filter (tstF od d) with
  | k :: _ => (k * od + 1).fdiv d
  | [] => 0
local macro_rules | `(tactic| walk_at "eval Name") => `(tactic| (k_here; k_dflt (refine' nameLA ?F ?v ?_; (case F => k_asm); (case v => first | exact rfl | assumption); k_whole)))
local macro_rules | `(tactic| walk_at "exec Assign cons ListComp") => `(tactic| (k_here; k_dflt (refine assign_tupT (F₀ := by k_asm) (by rfl) (by with_unfolding_all rfl) (by with_unfolding_all rfl) (by decide) (by rfl) (by decide) (by rfl) (by rfl) (by rfl) ?_)))
local macro_rules | `(tactic| walk_at "binaryOp Pow int int") => `(tactic| (k_here; first | refine pow_four (a := 3) (z := 81) rfl (by decide) ?_ | refine pow_four (a := 5) (z := 625) rfl (by decide) ?_ | refine pow_four (a := 7) (z := 2401) rfl (by decide) ?_ | refine pow_four (a := 9) (z := 6561) rfl (by decide) ?_))
local macro_rules | `(tactic| walk_at "truthy bool") => `(tactic| (refine hold_of ?_))
local macro_rules | `(tactic| walk_at "CompEnd") => `(tactic| (refine hold_of ?_))
local macro_rules | `(tactic| walk_at "Exists") => `(tactic| (refine hold_of ?_))
set_option maxHeartbeats 4000000 in
theorem law_C1 {w : World} {s : Shared} {base G : Heap} {p : Program} {loose : List Str} {mean : ExcName → Option Value} {mg mb : Str → Option Value}
    {t6 : List PySem.Expr} {e6 : PySem.Expr} {p6 : Pos} {rest : List Stmt} (h6 : stm2 20 6 = .Assign t6 e6 p6) {name bind : Str} {params : Arguments} {body : List Stmt} {scope : Scope} {pos : Pos} (hK0 : stm 20 = .FunctionDef name params body [] none [] scope none bind pos) {L : Nat} {fa : Addr} {cd : Value}
    {m : Str → Option Value} {Q : Flow → Shared → Prop} {E : Value → Shared → Prop} {pr cl a1 a2 : Nat} {k1 k2 o3 o4 o5 o6 o7 o8 o9 : Obj} {ys : List Value} {x y n : Int} {u1 u2 tn : Tok}
    (B : Below callerA base [] G) (X : (pre.heap_1_39 w.params).In G) (T : Top p loose mean mg mb G) (F : Fr G L s.heap m)
    (N : News G L s.heap [(pr, listOf #[.int x u1, .int y u2] 0), (cl, LCg.lst ys), (a1, k1), (a2, k2), (L+1+1+1+1+1+1+1+1+1, o9), (L+1+1+1+1+1+1+1+1, o8), (L+1+1+1+1+1+1+1, o7), (L+1+1+1+1+1+1, o6), (L+1+1+1+1+1, o5), (L+1+1+1+1, o4), (L+1+1+1, o3), (132, tabObj #[]), (37, tabObj #[]), (30, tabObj #[])]) (l0 : 132 < L ∧ 37 < L ∧ 30 < L) (d4 : o4.data = .cell (some (.int n tn)))
    (vpr : m (PySem.Str.ofString "pair") = some (.ref pr)) (n0 : 223000 < n) (n1 : n < 800000)
    (hQ : ∀ (h' : Heap) (tk : Nat) (m' : Str → Option Value) (ch : Nat) (yc : List Value), Fr G L h' m' → News G L h' [(ch, LCg.lst yc), (pr, listOf #[.int x u1, .int y u2] 0), (cl, LCg.lst ys), (a1, k1), (a2, k2), (L+1+1+1+1+1+1+1+1+1, o9), (L+1+1+1+1+1+1+1+1, o8), (L+1+1+1+1+1+1+1, o7), (L+1+1+1+1+1+1, o6), (L+1+1+1+1+1, o5), (L+1+1+1+1, o4), (L+1+1+1, o3), (132, tabObj #[]), (37, tabObj #[]), (30, tabObj #[])] → IntsAre yc (chL n) → m' (PySem.Str.ofString "choice") = some (.ref ch) → m' (PySem.Str.ofString "pair") = some (.ref pr) → (∀ b ∈ ([pr, cl, a1, a2, L+1+1+1+1+1+1+1+1+1, L+1+1+1+1+1+1+1+1, L+1+1+1+1+1+1+1, L+1+1+1+1+1+1, L+1+1+1+1+1, L+1+1+1+1, L+1+1+1, 132, 37, 30] : List Nat), @Ne Nat b ch) →
      wpAny (model PySem.Challenge.rw_ta0029_01.row.prog w) (callerA.deeper (envOfC (PySem.Str.ofString "law") scope L fa cd)) (execs rest (envOfC (PySem.Str.ofString "law") scope L fa cd)) Q E { s with heap := h', toks := tk }) :
    wpAny (model PySem.Challenge.rw_ta0029_01.row.prog w) (callerA.deeper (envOfC (PySem.Str.ofString "law") scope L fa cd)) (execs (.Assign t6 e6 p6 :: rest) (envOfC (PySem.Str.ofString "law") scope L fa cd)) Q E s := by
  cases h6
  cases hK0
  revert X; k_fill; intro X
  have K0 := B
  w_top on
  k_steps
  rename Fr _ _ _ _ => F1
  rename News _ _ _ _ => N1
  refine ⟨_, _, _, rfl, rfl, F1, N1, .head _, Nat.le_of_ble_eq_true rfl, ?_⟩
  rintro s₂ ⟨g, rfl⟩
  show LCt.CompRestT _ _ _ _ _ _ _ _ _ _ _ _ _ _ _ _ 4 0 [] _
  clear F1 N1
  refine LCt.CompRestT.succ ?_
  intro v I oI C oC D m₂ h tk E' hv hC hx F2 N2 off ne
  obtain ⟨tv, rfl⟩ : ∃ t : Tok, v = Value.int 3 t := ⟨_, (Option.some.inj hv).symm⟩
  clear hv
  have off' := off
  simp only [LCg.Off3, and_true] at off'
  k_steps
  refine hold_truthy (c := true) (decide_eq_true (by omega)) ?_
  refine if_true_of ?_
  k_steps
  rename Fr _ _ _ _ => F1
  rename News _ _ _ _ => N1
  refine ⟨_, _, _, rfl, F1, N1, off, .head _, ?_⟩
  clear F1 N1 off off' ne hC hx
  clear oI oC m₂
  refine LCt.CompRestT.succ ?_
  intro v I oI C oC D m₂ h tk E' hv hC hx F2 N2 off ne
  obtain ⟨tv, rfl⟩ : ∃ t : Tok, v = Value.int 5 t := ⟨_, (Option.some.inj hv).symm⟩
  clear hv
  have off' := off
  simp only [LCg.Off3, and_true] at off'
  k_steps
  refine hold_truthy (c := true) (decide_eq_true (by omega)) ?_
  refine if_true_of ?_
  k_steps
  rename Fr _ _ _ _ => F1
  rename News _ _ _ _ => N1
  refine ⟨_, _, _, rfl, F1, N1, off, .head _, ?_⟩
  clear F1 N1 off off' ne hC hx
  clear oI oC m₂
  refine LCt.CompRestT.succ ?_
  intro v I oI C oC D m₂ h tk E' hv hC hx F2 N2 off ne
  obtain ⟨tv, rfl⟩ : ∃ t : Tok, v = Value.int 7 t := ⟨_, (Option.some.inj hv).symm⟩
  clear hv
  have off' := off
  simp only [LCg.Off3, and_true] at off'
  k_steps
  refine hold_truthy (c := true) (decide_eq_true (by omega)) ?_
  refine if_true_of ?_
  k_steps
  rename Fr _ _ _ _ => F1
  rename News _ _ _ _ => N1
  refine ⟨_, _, _, rfl, F1, N1, off, .head _, ?_⟩
  clear F1 N1 off off' ne hC hx
  clear oI oC m₂
  by_cases h9 : 81 * 6561 < n
  · refine LCt.CompRestT.succ ?_
    intro v I oI C oC D m₂ h tk E' hv hC hx F2 N2 off ne
    obtain ⟨tv, rfl⟩ : ∃ t : Tok, v = Value.int 9 t := ⟨_, (Option.some.inj hv).symm⟩
    clear hv
    have off' := off
    simp only [LCg.Off3, and_true] at off'
    k_steps
    refine hold_truthy (c := true) (decide_eq_true (by omega)) ?_
    refine if_true_of ?_
    k_steps
    rename Fr _ _ _ _ => F1
    rename News _ _ _ _ => N1
    refine ⟨_, _, _, rfl, F1, N1, off, .head _, ?_⟩
    clear F1 N1 off off' ne hC hx
    clear oI oC m₂
    refine LCt.CompRestT.zero ?_
    intro D h tk F1 N1 off
    have N2 := News_app (News_take 1 N1) (News_drop 2 N1)
    dsimp only [List.take, List.drop, List.cons_append, List.nil_append] at N2
    clear N1
    dsimp only
    refine hQ _ _ _ _ _ F1 N2 ?_ rfl vpr (fun b hb => off1_mem off b (.tail _ hb))
    unfold chL
    rw [if_pos (by omega)]
    repeat constructor
  · refine LCt.CompRestT.succ ?_
    intro v I oI C oC D m₂ h tk E' hv hC hx F2 N2 off ne
    obtain ⟨tv, rfl⟩ : ∃ t : Tok, v = Value.int 9 t := ⟨_, (Option.some.inj hv).symm⟩
    clear hv
    have off' := off
    simp only [LCg.Off3, and_true] at off'
    k_steps
    refine hold_truthy (c := false) (decide_eq_false (by omega)) ?_
    refine if_false_of ?_
    rename Fr _ _ _ _ => F1
    rename News _ _ _ _ => N1
    refine ⟨_, _, _, rfl, F1, N1, off, .head _, ?_⟩
    clear F1 N1 off off' ne hC hx
    clear oI oC m₂
    refine LCt.CompRestT.zero ?_
    intro D h tk F1 N1 off
    have N2 := News_app (News_take 1 N1) (News_drop 2 N1)
    dsimp only [List.take, List.drop, List.cons_append, List.nil_append] at N2
    clear N1
    dsimp only
    refine hQ _ _ _ _ _ F1 N2 ?_ rfl vpr (fun b hb => off1_mem off b (.tail _ hb))
    unfold chL
    rw [if_neg (by omega)]
    repeat constructor
end Mine
end
section
open PySem PySem.Spec PySem.Calls PySem.W PyProof.Rows
set_option maxRecDepth 100000
set_option rowWalk.seconds 0
namespace Mine
theorem chl_bnd {n d : Int} (h : d ∈ chL n) : d = 3 ∨ d = 5 ∨ d = 7 ∨ d = 9 := by
  unfold chL at h
  split at h <;> simp at h <;> omega
theorem item_head {prog : Program} {w : World} {A : Around} {s : Shared} {E : Value → Shared → Prop} {Q : Value → Shared → Prop} {value slice : PySem.Expr} {l : Addr} {vs : List Value} {k : Int} {r : List Int} {u : Tok} (hl : s.heap.IsList l vs.toArray) (hi : IntsAre vs (k :: r)) (h : ∀ t, Q (.int k t) s)
    (hs : subscripted slice false (.ref l) (.int 0 u) = operate [.ref l, .int 0 u] (getItem (.ref l) (.int 0 u)) := by with_unfolding_all rfl) :
    wpAny (model prog w) A (subscriptTail value slice (.ref l) (.int 0 u)) Q E s := item_anyK hl hi (by decide) (by rw [List.length_cons]; omega) (by decide) h hs
theorem chl_small {n d : Int} (h : d ∈ chL n) : Builtin.Range.small 1 d 1 = true := by rcases chl_bnd h with rfl | rfl | rfl | rfl <;> decide
theorem chl_size {n d : Int} (h : d ∈ chL n) : Builtin.Range.rangeSize 1 d 1 = (((d - 1).toNat : Nat) : Int) := by rcases chl_bnd h with rfl | rfl | rfl | rfl <;> rfl
local macro_rules | `(tactic| walk_at "eval Name") => `(tactic| (k_here; k_dflt (refine' nameLA ?F ?v ?_; (case F => k_asm); (case v => first | exact rfl | assumption); k_whole)))
local macro_rules | `(tactic| walk_at "eval ListComp") => `(tactic| (k_here; k_dflt (refine LCt.ListComp_T (F₀ := by k_asm) (by with_unfolding_all rfl) (by decide) (by rfl) (by decide) (by rfl) ?_)))
local macro_rules | `(tactic| walk_at "binaryOp Mod int int") => `(tactic| (k_here; refine mod_int' (by omega) ?_))
local macro_rules | `(tactic| walk_at "subscriptTail ListComp Constant ref int") => `(tactic| (k_here; k_dflt (refine' item_head ?k1 (by assumption) ?_ ?k6; (case k1 => exact PySem.IsL.isList (News.get (by k_asm) (by k_mem))); (case k6 => with_unfolding_all rfl); k_whole); intro t'))
local macro_rules | `(tactic| walk_at "inplaceOp FloorDiv int int") => `(tactic| (k_here; refine ifloordiv_int (by omega) ?_ (Or.inl (pyl (by omega) (by omega)))))
local macro_rules | `(tactic| walk_at "CompSrcT") => `(tactic| (refine hold_of ?_))
local macro_rules | `(tactic| walk_at "Or") => `(tactic| (refine hold_of ?_))
local macro_rules | `(tactic| walk_at "subscriptTail Name BinOp ref int") => `(tactic| (refine hold_of ?_))
set_option maxHeartbeats 4000000 in
theorem law_C2 {w : World} {s : Shared} {base G : Heap} {p : Program} {loose : List Str} {mean : ExcName → Option Value} {mg mb : Str → Option Value}
    {t7 : List PySem.Expr} {e7 : PySem.Expr} {p7 : Pos} {t8 : List PySem.Expr} {e8 : PySem.Expr} {p8 : Pos} {t9 : PySem.Expr} {op9 : Operator} {e9 : PySem.Expr} {p9 : Pos} {rest : List Stmt} (h7 : stm2 20 7 = .Assign t7 e7 p7) (h8 : stm2 20 8 = .Assign t8 e8 p8) (h9 : stm2 20 9 = .AugAssign t9 op9 e9 p9) {name bind : Str} {params : Arguments} {body : List Stmt} {scope : Scope} {pos : Pos} (hK0 : stm 20 = .FunctionDef name params body [] none [] scope none bind pos) {L : Nat} {fa : Addr} {cd : Value}
    {m : Str → Option Value} {Q : Flow → Shared → Prop} {E : Value → Shared → Prop} {ch pr cl a1 a2 : Nat} {k1 k2 o3 o4 o5 o6 o7 o8 o9 : Obj} {ys yc : List Value} {z0 z1 z2 z3 z4 x y n od : Int} {u1 u2 tn tod : Tok} {c6 : Option Value}
    (B : Below callerA base [] G) (X : (pre.heap_1_39 w.params).In G) (T : Top p loose mean mg mb G) (F : Fr G L s.heap m)
    (N : News G L s.heap [(ch, LCg.lst yc), (pr, listOf #[.int x u1, .int y u2] 0), (cl, LCg.lst ys), (a1, k1), (a2, k2), (L+1+1+1+1+1+1+1+1+1, o9), (L+1+1+1+1+1+1+1+1, o8), (L+1+1+1+1+1+1+1, o7), (L+1+1+1+1+1+1, o6), (L+1+1+1+1+1, o5), (L+1+1+1+1, o4), (L+1+1+1, o3), (132, tabObj #[]), (37, tabObj #[]), (30, tabObj #[])]) (l0 : 132 < L ∧ 37 < L ∧ 30 < L) (d3 : o3.data = .cell (some (.ref cl))) (d5 : o5.data = .cell (some (.int od tod))) (d6 : o6.data = .cell c6) (hi : IntsAre ys [z0, z1, z2, z3, z4]) (hc : IntsAre yc (chL n)) (la : L + 9 < a2 ∧ a2 < a1) (lb : a1 < pr ∧ cl < pr) (offb : ∀ b ∈ ([a1, a2, L+1+1+1+1+1+1+1+1+1, L+1+1+1+1+1+1+1+1, L+1+1+1+1+1+1+1, L+1+1+1+1+1+1, L+1+1+1+1+1, L+1+1+1+1, L+1+1+1, L+1+1, L+1, 132, 37, 30] : List Nat), @Ne Nat b cl) (offc : ∀ b ∈ ([pr, cl, a1, a2, L+1+1+1+1+1+1+1+1+1, L+1+1+1+1+1+1+1+1, L+1+1+1+1+1+1+1, L+1+1+1+1+1+1, L+1+1+1+1+1, L+1+1+1+1, L+1+1+1, 132, 37, 30] : List Nat), @Ne Nat b ch)
    (vch : m (PySem.Str.ofString "choice") = some (.ref ch)) (vpr : m (PySem.Str.ofString "pair") = some (.ref pr)) (od0 : 0 ≤ od) (od1 : od < 800000) (hne : ∀ d ∈ chL n, ∃ k r, (rangeKs 1 (d - 1).toNat).filter (tstF od d) = k :: r ∧ 0 ≤ k ∧ k < 9)
    (hQ : ∀ (h' : Heap) (tk : Nat) (m' : Str → Option Value) (d : Int) (q6 : Obj), Fr G L h' m' → News G L h' [(pr, listOf #[.int x u1, .int y u2] 0), (cl, LCg.lst ys), (a1, k1), (a2, k2), (L+1+1+1+1+1+1+1+1+1, o9), (L+1+1+1+1+1+1+1+1, o8), (L+1+1+1+1+1+1+1, o7), (L+1+1+1+1+1+1, q6), (L+1+1+1+1+1, o5), (L+1+1+1+1, o4), (L+1+1+1, o3), (132, tabObj #[]), (37, tabObj #[]), (30, tabObj #[])] → m' (PySem.Str.ofString "pair") = some (.ref pr) → d ∈ chL n → (∃ t, q6.data = .cell (some (.int d t))) → (∃ t, m' (PySem.Str.ofString "exponent") = some (.int (eOf od d) t)) →
      wpAny (model PySem.Challenge.rw_ta0029_01.row.prog w) (callerA.deeper (envOfC (PySem.Str.ofString "law") scope L fa cd)) (execs rest (envOfC (PySem.Str.ofString "law") scope L fa cd)) Q E { s with heap := h', toks := tk }) :
    wpAny (model PySem.Challenge.rw_ta0029_01.row.prog w) (callerA.deeper (envOfC (PySem.Str.ofString "law") scope L fa cd)) (execs (.Assign t7 e7 p7 :: .Assign t8 e8 p8 :: .AugAssign t9 op9 e9 p9 :: rest) (envOfC (PySem.Str.ofString "law") scope L fa cd)) Q E s := by
  cases h7
  cases h8
  cases h9
  cases hK0
  revert X; k_fill; intro X
  have K0 := B
  w_top on
  have hcl : 3 ≤ (chL n).length ∧ (chL n).length ≤ 4 := by unfold chL; split <;> decide
  have hyl : yc.length = (chL n).length := hc.length
  simp only [List.forall_mem_cons, List.not_mem_nil, false_imp_iff, implies_true, and_true] at offb offc
  k_steps
  show wpAny _ _ _ _ _ _
  rename Fr _ _ _ _ => F1
  rename News _ _ _ _ => N1
  refine pick_mem (PySem.IsL.isList (N1.get (by k_mem))) hc (fm0 (by omega)) (Int.lt_of_lt_of_le (fm1 (by omega)) (by omega)) (by omega) ?_
  intro td d hd
  k_steps
  have hd9 : 3 ≤ d ∧ d ≤ 9 := by have := chl_bnd hd; omega
  rename Fr _ _ _ _ => F1
  rename News _ _ _ _ => N1
  rename IsRange _ _ _ _ _ _ _ _ => hr
  refine LCt.CompSrcT.range rfl F1 N1 hr (chl_small hd) (chl_size hd) (Nat.le_trans (show _ ≤ 100 by omega) (by decide)) ?_
  intro g
  clear F1 N1 hr
  refine compT_range (tstF od d) ?test ?el ?fin
  case test =>
    intro k tv I oI C oC D m₂ ys h tk E' b0 b1 hC hx F2 N2 off ne
    clear offb offc
    k_steps
    rename Fr _ _ _ _ => F1
    rename News _ _ _ _ => N1
    exact ⟨rfl, _, _, rfl, F1, N1⟩
  case el =>
    intro k tv I oI C oC D m₂ ys h tk E' b0 b1 hC hx F2 N2 off ne
    clear offb offc
    k_steps
    rename Fr _ _ _ _ => F1
    rename News _ _ _ _ => N1
    exact ⟨⟨_, rfl⟩, _, _, rfl, F1, N1⟩
  case fin =>
    intro yk hk D h tk F1 N1 off
    obtain ⟨k0, r0, e, k00, k01⟩ := hne d hd
    rw [e] at hk
    have q1 : 0 ≤ k0 * od := Int.mul_nonneg k00 od0
    have q2 : k0 * od ≤ 9 * 800000 := Int.le_trans (Int.mul_le_mul_of_nonneg_right (show k0 ≤ 9 by omega) od0) (by omega)
    clear offb offc
    k_steps
    rename Fr _ _ _ _ => F3
    rename News _ _ _ _ => N3
    have ee : ∀ t : Tok, some (Value.int ((k0 * od + 1).fdiv d) t) = some (Value.int (eOf od d) t) := fun t => by unfold eOf; rw [e]
    dsimp only
    refine hQ _ _ _ d _ F3 (News_drop 2 N3) vpr hd ⟨_, by assumption⟩ ⟨_, ee _⟩
end Mine
end
section
open PySem PySem.Spec PySem.Calls PySem.W PyProof.Rows PyProof.Rows.LCg
set_option maxRecDepth 100000
namespace Mine
def signsS : PySem.Str := PySem.Str.ofString " \"abcdefghijklm("
def signsL : List Nat := [32, 34, 97, 98, 99, 100, 101, 102, 103, 104, 105, 106, 107, 108, 109, 40]
def sgn (i : Nat) : Nat := signsL.getD i 0
def one (c : Nat) : PySem.Str := ⟨#[c]⟩
def txt (l : List Nat) : PySem.Str := ⟨l.toArray⟩
theorem signs_len : signsS.length = 16 := by decide +kernel
theorem signs_item_n : ∀ i : Fin 16, Txt.item signsS (i.val : Int) = one (sgn i.val) := by decide +kernel
theorem signs_item {i : Int} (h0 : 0 ≤ i) (h1 : i < 16) : Txt.item signsS i = one (sgn i.toNat) := by
  have := signs_item_n ⟨i.toNat, by omega⟩
  rwa [show ((⟨i.toNat, by omega⟩ : Fin 16).val : Int) = i by simp; omega] at this
theorem txt_append (a b : List Nat) : txt a ++ txt b = txt (a ++ b) := by
  show (⟨a.toArray ++ b.toArray⟩ : PySem.Str) = ⟨(a ++ b).toArray⟩
  simp
theorem txt_length (a : List Nat) : (txt a).length = a.length := by
  show a.toArray.size = _
  simp
theorem join_ones : ∀ l : List Nat, PySem.Str.join PySem.Str.empty (l.map one) = txt l
  | [] => rfl
  | [c] => rfl
  | c :: d :: r => by
    rw [List.map_cons, List.map_cons, PySem.Str.join, ← List.map_cons, join_ones (d :: r)]
    · show (txt [c] ++ txt [] : PySem.Str) ++ txt (d :: r) = _
      rw [txt_append, txt_append]; rfl
    · simp
theorem strs_get : ∀ {ys : List Value} {f : Nat → PySem.Str}, (∀ (i : Nat) v, ys[i]? = some v → ∃ t : Tok, v = Value.str (f i) t) → ∃ l : List (PySem.Str × Tok), ys = strValues l ∧ l.map (·.1) = (List.range ys.length).map f
  | [], f, _ => ⟨[], rfl, rfl⟩
  | v :: r, f, h => by
    obtain ⟨t, rfl⟩ := h 0 v rfl
    obtain ⟨l, e1, e2⟩ := strs_get (ys := r) (f := fun i => f (i + 1)) fun i v hv => h (i + 1) v hv
    refine ⟨(f 0, t) :: l, ?_, ?_⟩
    · rw [e1]; rfl
    · rw [List.map_cons, e2, List.length_cons, List.range_succ_eq_map, List.map_cons, List.map_map]; rfl
/-- names of objects are only ever counted up -/
theorem exec_toks {M : Model} {A : Around} {s : Shared} {env : Env} {E : Value → Shared → Prop} {Q : Flow → Shared → Prop} {st : Stmt} {rest : List Stmt} (hn : 0 < s.toks)
    (h : wpAny M A (exec st env) (fun f s' => 0 < s'.toks → (match f with | .next => wpAny M A (execs rest env) Q E s' | f => Q f s')) E s) : wpAny M A (execs (st :: rest) env) Q E s := by
  refine wpAny_execs_cons ?_
  intro Γ p hΓ
  have := Sem.wp_toks M Γ 1 _ _ _ p s hn (h Γ p hΓ)
  exact Sem.wp_mono M Γ _ (fun f p' s' h' => h'.2 h'.1) (fun _ _ _ h' => h'.2) _ _ this
section
variable {prog : Program} {w : World} {A : Around} {E : Value → Shared → Prop} {s : Shared} {h₀ : Heap} {L : Addr} {m : PySem.Str → Option Value} {news : List (Addr × Obj)} {t : Tok} {Q : Value → Shared → Prop}
theorem join_list {D : Addr} {e : Nat} {ys : List Value} {f : Nat → Nat} (N : News h₀ L s.heap ((D, listOf ys.toArray e) :: news)) (hy : ∀ (i : Nat) v, ys[i]? = some v → ∃ t : Tok, v = Value.str (one (f i)) t) (hn : ys.length ≤ 100)
    (hq : ∀ t' k, Q (.str (txt ((List.range ys.length).map f)) t') { s with toks := k }) : wpAny (model prog w) A (call (.builtin "str.join") [.str PySem.Str.empty t, .ref D]) Q E s := by
  obtain ⟨l, e1, e2⟩ := strs_get hy
  refine SC.join (l := l) (by rw [← e1]; exact PySem.IsL.isList (N.get (.head _))) e2 ?_ ?_
  · refine joinOk_of_weight ?_ (by decide)
    have : ∀ n : Nat, (((List.range n).map fun i => one (f i)).map (·.length)).sum = n := by
      intro n
      induction n with
      | zero => rfl
      | succ n ih =>
        rw [List.range_succ, List.map_append, List.map_append, List.sum_append, ih]; rfl
    rw [this, List.length_map, List.length_range]
    omega
  · intro t' k
    have e3 : Txt.join PySem.Str.empty ((List.range ys.length).map fun i => one (f i)) = txt ((List.range ys.length).map f) := by
      have := join_ones ((List.range ys.length).map f)
      rw [List.map_map] at this
      exact (StrLaws.glued_eq_join _ _).trans this
    rw [e3]
    exact hq t' k
theorem pow15 {k : Int} {t u : Tok} (h0 : 0 ≤ k) (h1 : k < 4) (h : ∀ b : Int, b = 15 ^ k.toNat → 1 ≤ b → b ≤ 3375 → Q (.int b s.toks) { s with toks := s.toks + 1 }) : wpAny (model prog w) A (binaryOp .Pow (.int 15 t) (.int k u)) Q E s := by
  refine pow_int_small h0 (by omega) (by decide) (h _ rfl ?_ ?_)
  · have : k = 0 ∨ k = 1 ∨ k = 2 ∨ k = 3 := by omega
    rcases this with rfl | rfl | rfl | rfl <;> decide
  · have : k = 0 ∨ k = 1 ∨ k = 2 ∨ k = 3 := by omega
    rcases this with rfl | rfl | rfl | rfl <;> decide
/-- a sign of the table -/
theorem item_sign {value slice : PySem.Expr} {i : Int} {u : Tok} (h0 : 0 ≤ i) (h1 : i < 16) (h : ∀ t' k, Q (.str (one (sgn i.toNat)) t') { s with toks := k })
    (hs : subscripted slice false (.str signsS t) (.int i u) = operate [.str signsS t, .int i u] (getItem (.str signsS t) (.int i u)) := by with_unfolding_all rfl)
    (ht : ∀ r, letTemporaryGo value (.str signsS t) r = pure () := by intro _; with_unfolding_all rfl) :
    wpAny (model prog w) A (subscriptTail value slice (.str signsS t) (.int i u)) Q E s :=
  ps_item (signs_item h0 h1) h0 (by rw [signs_len]; exact h1) (by rw [signs_len]; decide) h hs ht
end
end Mine
end
section
open PySem PySem.Spec PySem.Calls PySem.W PyProof.Rows
set_option maxRecDepth 100000
set_option rowWalk.seconds 0
namespace Mine
theorem r4_small {b : Int} (h0 : 1 ≤ b) (h1 : b ≤ 4) : Builtin.Range.small 0 b 1 = true ∧ Builtin.Range.rangeSize 0 b 1 = ((b.toNat : Nat) : Int) := by
  have : b = 1 ∨ b = 2 ∨ b = 3 ∨ b = 4 := by omega
  rcases this with rfl | rfl | rfl | rfl <;> exact ⟨by decide, rfl⟩
/-- the sign's place in the table -/
def ix (z : Int) (i : Nat) : Nat := (1 + (z.fdiv (15 ^ i)).fmod 15).toNat
theorem ix_bnd (z : Int) (i : Nat) : 1 ≤ ix z i ∧ ix z i ≤ 15 := by
  unfold ix
  have h0 := fm0 (x := z.fdiv (15 ^ i)) (k := 15) (by decide)
  have h1 := fm1 (x := z.fdiv (15 ^ i)) (k := 15) (by decide)
  omega
local macro_rules | `(tactic| walk_at "eval Name") => `(tactic| (k_here; k_dflt (refine' nameLA ?F ?v ?_; (case F => k_asm); (case v => first | exact rfl | assumption); k_whole)))
local macro_rules | `(tactic| walk_at "eval ListComp") => `(tactic| (k_here; k_dflt (refine LCg.ListComp_U (F₀ := by k_asm) (by with_unfolding_all rfl) (by decide) (by rfl) (by decide) (by rfl) ?_)))
local macro_rules | `(tactic| walk_at "CompSrc") => `(tactic| (refine hold_of ?_))
local macro_rules | `(tactic| walk_at "CompEnd") => `(tactic| (refine hold_of ?_))
local macro_rules | `(tactic| walk_at "call builtin:str.join") => `(tactic| (refine hold_of ?_))
local macro_rules | `(tactic| walk_at "binaryOp Mod int int") => `(tactic| (k_here; refine mod_int' (by decide) ?_))
local macro_rules | `(tactic| walk_at "binaryOp FloorDiv int int") => `(tactic| (k_here; refine floordiv_int (by omega) ?_ (Or.inl (pyl (by omega) (by omega)))))
local macro_rules | `(tactic| walk_at "binaryOp Pow int int") => `(tactic| (k_here; refine pow15 (by omega) (by omega) ?_; intro b' e' b1' b2'))
local macro_rules | `(tactic| walk_at "subscriptTail Name BinOp str int") => `(tactic| (refine hold_of ?_))
set_option maxHeartbeats 1000000 in
theorem law_D1a {w : World} {s : Shared} {base G : Heap} {p : Program} {loose : List Str} {mean : ExcName → Option Value} {mg mb : Str → Option Value}
    {t10 : List PySem.Expr} {e10 : PySem.Expr} {p10 : Pos} {rest : List Stmt} (h10 : stm2 20 10 = .Assign t10 e10 p10) {name bind : Str} {params : Arguments} {body : List Stmt} {scope : Scope} {pos : Pos} (hK0 : stm 20 = .FunctionDef name params body [] none [] scope none bind pos) {L : Nat} {fa : Addr} {cd : Value}
    {m : Str → Option Value} {Q : Flow → Shared → Prop} {E : Value → Shared → Prop} {pr cl a1 a2 : Nat} {k1 k2 o3 o4 o5 o6 o7 o8 o9 : Obj} {ys : List Value} {x y : Int} {u1 u2 : Tok} {c7 : Option Value}
    (B : Below callerA base [] G) (X : (pre.heap_1_39 w.params).In G) (T : Top p loose mean mg mb G) (F : Fr G L s.heap m)
    (N : News G L s.heap [(pr, listOf #[.int x u1, .int y u2] 0), (cl, LCg.lst ys), (a1, k1), (a2, k2), (L+1+1+1+1+1+1+1+1+1, o9), (L+1+1+1+1+1+1+1+1, o8), (L+1+1+1+1+1+1+1, o7), (L+1+1+1+1+1+1, o6), (L+1+1+1+1+1, o5), (L+1+1+1+1, o4), (L+1+1+1, o3), (132, tabObj #[]), (37, tabObj #[]), (30, tabObj #[])]) (l0 : 132 < L ∧ 37 < L ∧ 30 < L) (d7 : o7.data = .cell c7) (la : L + 9 < a2 ∧ a2 < a1) (lb : a1 < pr ∧ cl < pr) (nc7 : L+1+1+1+1+1+1+1 ≠ cl)
    (hQ : ∀ (h' : Heap) (tk : Nat) (q7 : Obj), Fr G L h' m → News G L h' [(pr, listOf #[.int x u1, .int y u2] 0), (cl, LCg.lst ys), (a1, k1), (a2, k2), (L+1+1+1+1+1+1+1+1+1, o9), (L+1+1+1+1+1+1+1+1, o8), (L+1+1+1+1+1+1+1, q7), (L+1+1+1+1+1+1, o6), (L+1+1+1+1+1, o5), (L+1+1+1+1, o4), (L+1+1+1, o3), (132, tabObj #[]), (37, tabObj #[]), (30, tabObj #[])] → (∃ t, q7.data = .cell (some (.str signsS t))) → 0 < tk →
      wpAny (model PySem.Challenge.rw_ta0029_01.row.prog w) (callerA.deeper (envOfC (PySem.Str.ofString "law") scope L fa cd)) (execs rest (envOfC (PySem.Str.ofString "law") scope L fa cd)) Q E { s with heap := h', toks := tk }) :
    wpAny (model PySem.Challenge.rw_ta0029_01.row.prog w) (callerA.deeper (envOfC (PySem.Str.ofString "law") scope L fa cd)) (execs (.Assign t10 e10 p10 :: rest) (envOfC (PySem.Str.ofString "law") scope L fa cd)) Q E s := by
  cases h10
  cases hK0
  revert X; k_fill; intro X
  have K0 := B
  w_top on
  k_steps
  rename Fr _ _ _ _ => F3
  rename News _ _ _ _ => N3
  exact hQ _ _ _ F3 N3 ⟨_, by assumption⟩ (Nat.succ_pos _)
set_option maxHeartbeats 1000000 in
theorem law_D1 {w : World} {s : Shared} {base G : Heap} {p : Program} {loose : List Str} {mean : ExcName → Option Value} {mg mb : Str → Option Value}
    {t11 : List PySem.Expr} {e11 : PySem.Expr} {p11 : Pos} {rest : List Stmt} (h11 : stm2 20 11 = .Assign t11 e11 p11) {name bind : Str} {params : Arguments} {body : List Stmt} {scope : Scope} {pos : Pos} (hK0 : stm 20 = .FunctionDef name params body [] none [] scope none bind pos) {L : Nat} {fa : Addr} {cd : Value}
    {m : Str → Option Value} {Q : Flow → Shared → Prop} {E : Value → Shared → Prop} {pr cl a1 a2 : Nat} {k1 k2 o3 o4 o5 o6 o7 o8 o9 : Obj} {ys : List Value} {z0 z1 z2 z3 z4 x y : Int} {u1 u2 t7 : Tok} {ve vp : Value}
    (B : Below callerA base [] G) (X : (pre.heap_1_39 w.params).In G) (T : Top p loose mean mg mb G) (F : Fr G L s.heap m)
    (htk : 0 < s.toks) (N : News G L s.heap [(pr, listOf #[.int x u1, .int y u2] 0), (cl, LCg.lst ys), (a1, k1), (a2, k2), (L+1+1+1+1+1+1+1+1+1, o9), (L+1+1+1+1+1+1+1+1, o8), (L+1+1+1+1+1+1+1, o7), (L+1+1+1+1+1+1, o6), (L+1+1+1+1+1, o5), (L+1+1+1+1, o4), (L+1+1+1, o3), (132, tabObj #[]), (37, tabObj #[]), (30, tabObj #[])]) (d3 : o3.data = .cell (some (.ref cl))) (d7 : o7.data = .cell (some (.str signsS t7))) (hi : IntsAre ys [z0, z1, z2, z3, z4])
    (vpr : m (PySem.Str.ofString "pair") = some vp) (vex : m (PySem.Str.ofString "exponent") = some ve)
    (hQ : ∀ (h' : Heap) (tk : Nat) (m' : Str → Option Value) (nm : List Nat) (tn : Tok), Fr G L h' m' → News G L h' [(pr, listOf #[.int x u1, .int y u2] 0), (cl, LCg.lst ys), (a1, k1), (a2, k2), (L+1+1+1+1+1+1+1+1+1, o9), (L+1+1+1+1+1+1+1+1, o8), (L+1+1+1+1+1+1+1, o7), (L+1+1+1+1+1+1, o6), (L+1+1+1+1+1, o5), (L+1+1+1+1, o4), (L+1+1+1, o3), (132, tabObj #[]), (37, tabObj #[]), (30, tabObj #[])] → m' (PySem.Str.ofString "pair") = some vp → m' (PySem.Str.ofString "exponent") = some ve → m' (PySem.Str.ofString "name") = some (.str (txt (nm.map sgn)) tn) → 1 ≤ nm.length → nm.length ≤ 4 → (∀ i ∈ nm, 1 ≤ i ∧ i ≤ 15) → 0 < tk →
      wpAny (model PySem.Challenge.rw_ta0029_01.row.prog w) (callerA.deeper (envOfC (PySem.Str.ofString "law") scope L fa cd)) (execs rest (envOfC (PySem.Str.ofString "law") scope L fa cd)) Q E { s with heap := h', toks := tk }) :
    wpAny (model PySem.Challenge.rw_ta0029_01.row.prog w) (callerA.deeper (envOfC (PySem.Str.ofString "law") scope L fa cd)) (execs (.Assign t11 e11 p11 :: rest) (envOfC (PySem.Str.ofString "law") scope L fa cd)) Q E s := by
  cases h11
  cases hK0
  revert X; k_fill; intro X
  have K0 := B
  w_top on
  refine exec_toks htk ?_
  k_steps
  rename Fr _ _ _ _ => F1
  rename News _ _ _ _ => N1
  rename IsRange _ _ _ _ _ _ _ _ => hr
  have f0 := fm0 (x := z3) (k := 4) (by decide)
  have f1 := fm1 (x := z3) (k := 4) (by decide)
  have hs4 := r4_small (b := 1 + z3.fmod 4) (by omega) (by omega)
  refine LCg.CompSrc.range (n := (1 + z3.fmod 4).toNat) rfl F1 N1 hr hs4.1 hs4.2 (Nat.le_trans (show _ ≤ 100 by omega) (by decide)) ?_
  intro g
  clear F1 N1 hr hs4
  refine comp_rest (fun i v => ∃ t : Tok, v = Value.str (one (sgn (ix z3 i))) t) ?_ ?_
  · rintro i v I oI C oC D m₂ ys h tk E' hi5 ⟨tv, rfl⟩ hC hx F2 N2 off ne
    have hk : (0 : Int) + (i : Int) = i := by omega
    rw [hk] at hx
    have hi4 : (i : Int) < 4 := by omega
    clear hk
    k_steps
    show wpAny _ _ _ _ _ _
    rename (_ : Int) = 15 ^ _ => hb
    rw [Int.toNat_natCast] at hb
    subst hb
    have hz := ix_bnd z3 i
    have hz' : 1 + (z3.fdiv (15 ^ i)).fmod 15 = (ix z3 i : Int) := by
      have h0 := fm0 (x := z3.fdiv (15 ^ i)) (k := 15) (by decide)
      unfold ix
      omega
    refine item_sign (i := 1 + (z3.fdiv (15 ^ i)).fmod 15) (by omega) (by omega) ?_
    intro t' k'
    rename Fr _ _ _ _ => F3
    rename News _ _ _ _ => N3
    k_steps
    refine comp_end F3 N3 ?_ off trivial ⟨_, rfl⟩
    first | exact fun p hp => hp | exact fun p hp => .tail _ hp | exact fun p hp => .tail _ (.tail _ hp)
  · intro yn hy hR D h tk F2 N2 off
    k_steps
    show wpAny _ _ _ _ _ _
    rename Fr _ _ _ _ => F3
    rename News _ _ _ _ => N3
    refine join_list (f := fun i => sgn (ix z3 i)) N3 hR (by omega) ?_
    intro t' k'
    rw [hy]
    k_steps
    rename Fr _ _ _ _ => F4
    rename News _ _ _ _ => N4
    have e1 : ∀ t : Tok, some (Value.str (txt ((List.range (1 + z3.fmod 4).toNat).map fun i => sgn (ix z3 i))) t) = some (Value.str (txt (((List.range (1 + z3.fmod 4).toNat).map (ix z3)).map sgn)) t) := fun t => by rw [List.map_map]; rfl
    dsimp only
    refine hQ _ _ _ ((List.range (1 + z3.fmod 4).toNat).map (ix z3)) _ F4 (News_drop 1 N4) vpr vex (e1 _) (by rw [List.length_map, List.length_range]; omega) (by rw [List.length_map, List.length_range]; omega) ?_ (by assumption)
    intro i hi
    obtain ⟨j, _, rfl⟩ := List.mem_map.mp hi
    exact ix_bnd z3 j
end Mine
end
section
open PySem PySem.Spec PySem.Calls PySem.W PyProof.Rows PyProof.Rows.LCg
set_option maxRecDepth 100000
namespace Mine
/-- the marks doubled -/
def dbn : List Nat → List Nat
  | [] => []
  | i :: r => if i = 1 then i :: i :: dbn r else i :: dbn r
theorem sgn_mark : ∀ i : Fin 16, sgn i.val = 34 ↔ i.val = 1 := by decide
theorem dbl_sgn : ∀ nm : List Nat, (∀ i ∈ nm, 1 ≤ i ∧ i ≤ 15) → StrLaws.dbl 34 (nm.map sgn) = (dbn nm).map sgn
  | [], _ => rfl
  | i :: r, h => by
    have ih := dbl_sgn r fun j hj => h j (.tail _ hj)
    have hi := h i (.head _)
    have hm := sgn_mark ⟨i, by omega⟩
    rw [List.map_cons, StrLaws.dbl, dbn]
    by_cases e : i = 1
    · rw [if_pos e, if_pos (hm.mpr e), ih]; rfl
    · rw [if_neg e, if_neg (fun q => e (hm.mp q)), ih]; rfl
theorem dbn_mem : ∀ nm : List Nat, (∀ i ∈ nm, 1 ≤ i ∧ i ≤ 15) → ∀ i ∈ dbn nm, 1 ≤ i ∧ i ≤ 15
  | [], _, _, h => nomatch h
  | j :: r, h, i, hi => by
    have ih := dbn_mem r fun j hj => h j (.tail _ hj)
    have hj := h j (.head _)
    rw [dbn] at hi
    split at hi
    · rcases List.mem_cons.mp hi with rfl | hi
      · exact hj
      rcases List.mem_cons.mp hi with rfl | hi
      · exact hj
      · exact ih i hi
    · rcases List.mem_cons.mp hi with rfl | hi
      · exact hj
      · exact ih i hi
theorem dbn_len : ∀ nm : List Nat, nm.length ≤ (dbn nm).length ∧ (dbn nm).length ≤ 2 * nm.length
  | [] => ⟨Nat.le_refl _, Nat.le_refl _⟩
  | i :: r => by
    have ih := dbn_len r
    rw [dbn]
    split <;> simp only [List.length_cons] <;> omega
theorem repl_txt {nm : List Nat} (h : ∀ i ∈ nm, 1 ≤ i ∧ i ≤ 15) : Txt.replace (txt (nm.map sgn)) (PySem.Str.ofString "\"") (PySem.Str.ofString "\"\"") = txt ((dbn nm).map sgn) := by
  have e1 : PySem.Str.ofString "\"" = ⟨#[34]⟩ := by decide +kernel
  have e2 : PySem.Str.ofString "\"\"" = ⟨#[34, 34]⟩ := by decide +kernel
  rw [e1, e2]
  have := StrLaws.replace_double (txt (nm.map sgn)) 34
  rw [show (txt (nm.map sgn)).cps.toList = nm.map sgn by simp [txt], dbl_sgn nm h] at this
  show _ = (⟨((dbn nm).map sgn).toArray⟩ : PySem.Str)
  rw [← this]
theorem find_sgn : ∀ i : Fin 16, Txt.find signsS (one (sgn i.val)) = (i.val : Int) := by decide +kernel
theorem txt_ascii (l : List Nat) : (txt (l.map sgn)).cps.all (· < 128) = true := by
  have hs : ∀ i : Nat, sgn i < 128 := fun i => by
    rcases Nat.lt_or_ge i 16 with h | h
    · have : ∀ i : Fin 16, sgn i.val < 128 := by decide
      exact this ⟨i, h⟩
    · unfold sgn
      rw [List.getD_eq_getElem?_getD, List.getElem?_eq_none (by simpa [signsL] using h)]
      decide
  show (l.map sgn).toArray.all (· < 128) = true
  simp [hs]
section
variable {prog : Program} {w : World} {A : Around} {E : Value → Shared → Prop} {s : Shared} {t u : Tok} {Q : Value → Shared → Prop}
theorem index_sgn {j : Nat} (hj : j < 16) (hA : A.handled = none) (h : Q (.int j s.toks) { s with toks := s.toks + 1 }) : wpAny (model prog w) A (call (.builtin "str.index") [.str signsS t, .str (one (sgn j)) u]) Q E s := by
  have e := find_sgn ⟨j, hj⟩
  obtain ⟨hp, g, d, tk, os⟩ := s
  refine index_or hA (fun h0 => ?_) (fun _ _ => ?_)
  · rw [e] at h0; omega
  · rw [e]; exact h
end
end Mine
end
section
open PySem PySem.Spec PySem.Calls PySem.W PyProof.Rows
set_option maxRecDepth 100000
set_option rowWalk.seconds 0
namespace Mine
local macro_rules | `(tactic| walk_at "eval Name") => `(tactic| (k_here; k_dflt (refine' nameLA ?F ?v ?_; (case F => k_asm); (case v => first | exact rfl | assumption); k_whole)))
local macro_rules | `(tactic| walk_at "eval ListComp") => `(tactic| (k_here; k_dflt (refine comp_str (F₀ := by k_asm) (by with_unfolding_all rfl) (by decide) (by rfl) (by decide) (by rfl) ?_)))
local macro_rules | `(tactic| walk_at "Exists") => `(tactic| (refine hold_of ?_))
local macro_rules | `(tactic| walk_at "CompEnd") => `(tactic| (refine hold_of ?_))
local macro_rules | `(tactic| walk_at "call builtin:str.replace") => `(tactic| (refine hold_of ?_))
local macro_rules | `(tactic| walk_at "call builtin:str.index") => `(tactic| (refine hold_of ?_))
set_option maxHeartbeats 1000000 in
theorem law_D2 {w : World} {s : Shared} {base G : Heap} {p : Program} {loose : List Str} {mean : ExcName → Option Value} {mg mb : Str → Option Value}
    {t12 : List PySem.Expr} {e12 : PySem.Expr} {p12 : Pos} {rest : List Stmt} (h12 : stm2 20 12 = .Assign t12 e12 p12) {name bind : Str} {params : Arguments} {body : List Stmt} {scope : Scope} {pos : Pos} (hK0 : stm 20 = .FunctionDef name params body [] none [] scope none bind pos) {L : Nat} {fa : Addr} {cd : Value}
    {m : Str → Option Value} {Q : Flow → Shared → Prop} {E : Value → Shared → Prop} {pr cl a1 a2 : Nat} {k1 k2 o3 o4 o5 o6 o7 o8 o9 : Obj} {ys : List Value} {x y : Int} {u1 u2 t7 tn : Tok} {ve vp : Value} {c8 : Option Value} {nm : List Nat}
    (B : Below callerA base [] G) (X : (pre.heap_1_39 w.params).In G) (T : Top p loose mean mg mb G) (F : Fr G L s.heap m)
    (htk : 0 < s.toks) (N : News G L s.heap [(pr, listOf #[.int x u1, .int y u2] 0), (cl, LCg.lst ys), (a1, k1), (a2, k2), (L+1+1+1+1+1+1+1+1+1, o9), (L+1+1+1+1+1+1+1+1, o8), (L+1+1+1+1+1+1+1, o7), (L+1+1+1+1+1+1, o6), (L+1+1+1+1+1, o5), (L+1+1+1+1, o4), (L+1+1+1, o3), (132, tabObj #[]), (37, tabObj #[]), (30, tabObj #[])]) (l0 : 132 < L ∧ 37 < L ∧ 30 < L) (d7 : o7.data = .cell (some (.str signsS t7))) (d8 : o8.data = .cell c8) (la : L + 9 < a2 ∧ a2 < a1) (lb : a1 < pr ∧ cl < pr) (nc8 : L+1+1+1+1+1+1+1+1 ≠ cl)
    (vpr : m (PySem.Str.ofString "pair") = some vp) (vex : m (PySem.Str.ofString "exponent") = some ve) (vnm : m (PySem.Str.ofString "name") = some (.str (txt (nm.map sgn)) tn)) (b1 : 1 ≤ nm.length) (b2 : nm.length ≤ 4) (b3 : ∀ i ∈ nm, 1 ≤ i ∧ i ≤ 15)
    (hQ : ∀ (h' : Heap) (tk : Nat) (fl : Nat) (yf : List Value) (q8 : Obj), Fr G L h' m → News G L h' [(fl, LCg.lst yf), (pr, listOf #[.int x u1, .int y u2] 0), (cl, LCg.lst ys), (a1, k1), (a2, k2), (L+1+1+1+1+1+1+1+1+1, o9), (L+1+1+1+1+1+1+1+1, q8), (L+1+1+1+1+1+1+1, o7), (L+1+1+1+1+1+1, o6), (L+1+1+1+1+1, o5), (L+1+1+1+1, o4), (L+1+1+1, o3), (132, tabObj #[]), (37, tabObj #[]), (30, tabObj #[])] → q8.data = .cell (some (.ref fl)) → IntsAre yf ((dbn nm).map fun (i : Nat) => (i : Int)) → (∀ b ∈ ([pr, cl, a1, a2, L+1+1+1+1+1+1+1+1+1, L+1+1+1+1+1+1+1+1, L+1+1+1+1+1+1+1, L+1+1+1+1+1+1, L+1+1+1+1+1, L+1+1+1+1, L+1+1+1, 132, 37, 30] : List Nat), @Ne Nat b fl) →
      wpAny (model PySem.Challenge.rw_ta0029_01.row.prog w) (callerA.deeper (envOfC (PySem.Str.ofString "law") scope L fa cd)) (execs rest (envOfC (PySem.Str.ofString "law") scope L fa cd)) Q E { s with heap := h', toks := tk }) :
    wpAny (model PySem.Challenge.rw_ta0029_01.row.prog w) (callerA.deeper (envOfC (PySem.Str.ofString "law") scope L fa cd)) (execs (.Assign t12 e12 p12 :: rest) (envOfC (PySem.Str.ofString "law") scope L fa cd)) Q E s := by
  cases h12
  cases hK0
  revert X; k_fill; intro X
  have K0 := B
  w_top on
  k_steps
  show wpAny _ _ _ _ _ _
  have h15 : (txt (nm.map sgn)).length = nm.length := by rw [txt_length, List.length_map]
  refine SC.replaceW (Nat.ne_of_gt htk) (Nat.succ_ne_zero _) (Nat.ne_of_lt (Nat.lt_succ_self _)) (by decide +kernel) (by omega) (by decide +kernel) ?_
  intro t' k'
  rw [repl_txt b3]
  rename Fr _ _ _ _ => F1
  rename News _ _ _ _ => N1
  have hm := dbn_mem nm b3
  have hl := dbn_len nm
  refine ⟨_, _, _, rfl, rfl, F1, N1, txt_ascii _, ?_, ?_⟩
  · show ((dbn nm).map sgn).toArray.size ≤ _
    rw [List.size_toArray, List.length_map]
    exact Nat.le_trans (show _ ≤ 8 by omega) (by decide)
  rintro s₂ ⟨g, rfl⟩
  clear F1 N1
  refine comp_rest (fun i v => ∃ t : Tok, v = Value.int (((dbn nm).getD i 0 : Nat) : Int) t) ?_ ?_
  · rintro i v I oI C oC D m₂ ys h tk E' hi5 ⟨cc, uu, hc, rfl⟩ hC hx F2 N2 off ne
    have hi8 : i < (dbn nm).length := by
      have : i < ((dbn nm).map sgn).toArray.size := hi5
      simpa using this
    have hcc : cc = sgn ((dbn nm).getD i 0) := by
      have : ((dbn nm).map sgn).toArray[i]? = some cc := hc
      rw [List.getElem?_toArray, List.getElem?_map, List.getElem?_eq_getElem hi8] at this
      rw [List.getD_eq_getElem?_getD, List.getElem?_eq_getElem hi8]
      exact (Option.some.inj this).symm
    have hj : (dbn nm).getD i 0 < 16 := by
      rw [List.getD_eq_getElem?_getD, List.getElem?_eq_getElem hi8]
      have := hm _ (List.getElem_mem hi8)
      simp only [Option.getD_some]
      omega
    subst hcc
    clear nc8 hi5 hc
    k_steps
    show wpAny _ _ _ _ _ _
    refine index_sgn hj rfl ?_
    k_steps
    rename Fr _ _ _ _ => F3
    rename News _ _ _ _ => N3
    refine comp_end F3 N3 ?_ off trivial ⟨_, rfl⟩
    first | exact fun p hp => hp | exact fun p hp => .tail _ hp | exact fun p hp => .tail _ (.tail _ hp)
  · intro yf hy hR D h tk F2 N2 off
    have offb : Keep (∀ b ∈ ([pr, cl, a1, a2, L+1+1+1+1+1+1+1+1+1, L+1+1+1+1+1+1+1+1, L+1+1+1+1+1+1+1, L+1+1+1+1+1+1, L+1+1+1+1+1, L+1+1+1+1, L+1+1+1, 132, 37, 30] : List Nat), @Ne Nat b D) := ⟨off1_mem off⟩
    have off' := off
    simp only [LCg.Off1, and_true] at off'
    have hyf : IntsAre yf ((dbn nm).map fun (i : Nat) => (i : Int)) := by
      have e : yf.length = (dbn nm).length := by
        rw [hy]
        show ((dbn nm).map sgn).toArray.size = _
        simp
      have := ints_eq (f := fun i => (((dbn nm).getD i 0 : Nat) : Int)) e hR
      rw [show (List.range (dbn nm).length).map (fun i => (((dbn nm).getD i 0 : Nat) : Int)) = (dbn nm).map (fun (i : Nat) => (i : Int)) from ?_] at this
      · exact this
      · apply List.ext_getElem
        · simp
        · intro i h1 h2
          simp at h1
          simp [h1]
    k_steps
    rename Fr _ _ _ _ => F3
    rename News _ _ _ _ => N3
    exact hQ _ _ _ _ _ F3 N3 (by assumption) hyf offb.out
end Mine
end
section
open PySem PySem.Spec PySem.Calls PySem.W PyProof.Rows
set_option maxRecDepth 100000
set_option rowWalk.seconds 0
namespace Mine
theorem flat_rep {α : Type} (x : α) : ∀ n : Nat, (List.replicate n [x]).flatten = List.replicate n x
  | 0 => rfl
  | n + 1 => by rw [List.replicate_succ, List.flatten_cons, flat_rep x n]; rfl
theorem ints_cat : ∀ {vs ws : List Value} {ns ms : List Int}, IntsAre vs ns → IntsAre ws ms → IntsAre (vs ++ ws) (ns ++ ms)
  | _, _, _, _, .nil, k => k
  | _, _, _, _, .cons i t h, k => .cons i t (ints_cat h k)
theorem extend_ints {prog : Program} {w : World} {A : Around} {E : Value → Shared → Prop} {s : Shared} {h₀ : Heap} {L fl b : Addr} {m : Str → Option Value} {rest : List (Addr × Obj)} {yf zs : List Value} {fs ns : List Int} {e : Nat} {Q : Value → Shared → Prop}
    (F : Fr h₀ L s.heap m) (N : News h₀ L s.heap ((fl, listOf (List.toArray yf) e) :: rest)) (hb : (b, listOf (List.toArray zs) 0) ∈ rest) (hne : ∀ q ∈ rest, q.1 ≠ fl) (hz : IntsAre zs ns) (hf : IntsAre yf fs) (l1 : fs.length ≤ 100) (l2 : ns.length ≤ 100)
    (h : ∀ h' e', Fr h₀ L h' m → News h₀ L h' ((fl, listOf (List.toArray (yf ++ zs)) e') :: rest) → IntsAre (yf ++ zs) (fs ++ ns) → Q .none { s with heap := h' }) : wpAny (model prog w) A (call (.builtin "list.extend") [.ref fl, .ref b]) Q E s := by
  have e1 := hf.length
  have e2 := hz.length
  have s1 : (List.toArray yf).size = fs.length := by rw [List.size_toArray, e1]
  have s2 : (List.toArray zs).size = ns.length := by rw [List.size_toArray, e2]
  have big : ∀ k : Nat, k ≤ 200 → k ≤ sizeLine := fun k h => Nat.le_trans h (by decide)
  have hd : ¬(!(List.toArray yf).isEmpty && Builtin.List.listTooLong ((List.toArray yf).size + (List.toArray zs).size)) = true := extend_door (big _ (by omega))
  cases zs with
  | nil =>
    refine kxn_extend F N (.tail _ hb) rfl (.head hne) hd (big _ (by rw [Array.length_toList]; omega)) (Nat.le_succ_of_le (big _ (by omega))) fun h' F' N' => h h' e F' ?_ (ints_cat hf hz)
    rw [List.append_nil]; exact N'
  | cons z r =>
    exact kl_extend F N (.tail _ hb) (l := yf ++ z :: r) (by simp) (by simp) (.head hne) hd (big _ (by rw [Array.length_toList]; omega)) (Nat.le_succ_of_le (big _ (by omega))) fun h' F' N' => h h' (e + 1) F' N' (ints_cat hf hz)
local macro_rules | `(tactic| walk_at "eval Name") => `(tactic| (k_here; k_dflt (refine' nameLA ?F ?v ?_; (case F => k_asm); (case v => first | exact rfl | assumption); k_whole)))
local macro_rules | `(tactic| walk_at "call builtin:list.extend") => `(tactic| (refine hold_of ?_))
set_option maxHeartbeats 1000000 in
theorem law_D3 {w : World} {s : Shared} {base G : Heap} {p : Program} {loose : List Str} {mean : ExcName → Option Value} {mg mb : Str → Option Value}
    {e13 : PySem.Expr} {p13 : Pos} {rest : List Stmt} (h13 : stm2 20 13 = .Expr e13 p13) {name bind : Str} {params : Arguments} {body : List Stmt} {scope : Scope} {pos : Pos} (hK0 : stm 20 = .FunctionDef name params body [] none [] scope none bind pos) {L : Nat} {fa : Addr} {cd : Value}
    {m : Str → Option Value} {Q : Flow → Shared → Prop} {E : Value → Shared → Prop} {fl pr cl a1 a2 ee : Nat} {k1 k2 o3 o4 o5 o6 o7 o8 o9 : Obj} {ys yf : List Value} {x y : Int} {u1 u2 : Tok} {fs : List Int}
    (B : Below callerA base [] G) (X : (pre.heap_1_39 w.params).In G) (T : Top p loose mean mg mb G) (F : Fr G L s.heap m)
    (N : News G L s.heap [(fl, listOf (List.toArray yf) ee), (pr, listOf #[.int x u1, .int y u2] 0), (cl, LCg.lst ys), (a1, k1), (a2, k2), (L+1+1+1+1+1+1+1+1+1, o9), (L+1+1+1+1+1+1+1+1, o8), (L+1+1+1+1+1+1+1, o7), (L+1+1+1+1+1+1, o6), (L+1+1+1+1+1, o5), (L+1+1+1+1, o4), (L+1+1+1, o3), (132, tabObj #[]), (37, tabObj #[]), (30, tabObj #[])]) (d8 : o8.data = .cell (some (.ref fl))) (hf : IntsAre yf fs) (b1 : 1 ≤ fs.length) (b2 : fs.length ≤ 8) (off : ∀ b ∈ ([pr, cl, a1, a2, L+1+1+1+1+1+1+1+1+1, L+1+1+1+1+1+1+1+1, L+1+1+1+1+1+1+1, L+1+1+1+1+1+1, L+1+1+1+1+1, L+1+1+1+1, L+1+1+1, 132, 37, 30] : List Nat), @Ne Nat b fl)
    (hQ : ∀ (h' : Heap) (tk : Nat) (yg : List Value) (e2 : Nat), Fr G L h' m → News G L h' [(fl, listOf (List.toArray yg) e2), (pr, listOf #[.int x u1, .int y u2] 0), (cl, LCg.lst ys), (a1, k1), (a2, k2), (L+1+1+1+1+1+1+1+1+1, o9), (L+1+1+1+1+1+1+1+1, o8), (L+1+1+1+1+1+1+1, o7), (L+1+1+1+1+1+1, o6), (L+1+1+1+1+1, o5), (L+1+1+1+1, o4), (L+1+1+1, o3), (132, tabObj #[]), (37, tabObj #[]), (30, tabObj #[])] → IntsAre yg (fs ++ List.replicate (8 - fs.length) 0) →
      wpAny (model PySem.Challenge.rw_ta0029_01.row.prog w) (callerA.deeper (envOfC (PySem.Str.ofString "law") scope L fa cd)) (execs rest (envOfC (PySem.Str.ofString "law") scope L fa cd)) Q E { s with heap := h', toks := tk }) :
    wpAny (model PySem.Challenge.rw_ta0029_01.row.prog w) (callerA.deeper (envOfC (PySem.Str.ofString "law") scope L fa cd)) (execs (.Expr e13 p13 :: rest) (envOfC (PySem.Str.ofString "law") scope L fa cd)) Q E s := by
  cases h13
  cases hK0
  revert X; k_fill; intro X
  have K0 := B
  w_top on
  have hyl : yf.length = fs.length := hf.length
  simp only [List.forall_mem_cons, List.not_mem_nil, false_imp_iff, implies_true, and_true] at off
  k_steps
  show wpAny _ _ _ _ _ _
  rename Fr _ _ _ _ => F1
  rename News _ _ _ _ => N1
  rename IntsAre (List.flatten _) _ => i1
  have hk : (8 - (fs.length : Int)).toNat = 8 - fs.length := by omega
  generalize (List.replicate (8 - (fs.length : Int)).toNat [Value.int 0 s.toks]).flatten = zs at N1 i1
  rw [hk, flat_rep] at i1
  have N2 := News_app (News_take 1 (News_drop 2 N1)) (News_app (News_take 1 N1) (News_drop 3 N1))
  dsimp only [List.take, List.drop, List.cons_append, List.nil_append] at N2
  clear N1
  refine extend_ints F1 N2 (.head _) ?_ i1 hf (by omega) (by rw [List.length_replicate]; omega) ?_
  · simp only [List.forall_mem_cons, List.not_mem_nil, false_imp_iff, implies_true, and_true]
    refine ⟨neN (by omega), ?_⟩
    simpa using off
  intro h' e' F3 N3 i3
  k_steps
  exact hQ _ _ _ _ F3 (News_app (News_take 1 N3) (News_drop 2 N3)) i3
end Mine
end
section
local macro_rules | `(tactic| walk_at "no such step") => `(tactic| skip)
open PySem PySem.Spec PySem.Calls PySem.W PyProof.Rows
set_option maxRecDepth 100000
set_option rowWalk.seconds 0
namespace Mine
local macro_rules | `(tactic| walk_at "eval Name") => `(tactic| (k_here; k_dflt (refine' nameLA ?F ?v ?_; (case F => k_asm); (case v => first | exact rfl | assumption); k_whole)))
local macro_rules | `(tactic| walk_at "call ref") => `(tactic| ((with_reducible show wpAny _ _ (call (Value.ref 42) _) _ _ _); refine hold_of ?_))
theorem ho_of {G h : Heap} {L c : Nat} {l : List (Addr × Obj)} (_ : News G L h l) (H : ∀ q ∈ l, @Ne Nat q.1 c ∧ @Ne Nat q.1 37) : ∀ q ∈ l, @Ne Nat q.1 c ∧ @Ne Nat q.1 37 := H
set_option maxHeartbeats 1000000 in
theorem law_E1 {w : World} {s : Shared} {base G : Heap} {p : Program} {loose : List Str} {mean : ExcName → Option Value} {mg mb : Str → Option Value}
    {t14 : List PySem.Expr} {e14 : PySem.Expr} {p14 : Pos} {rest : List Stmt} (h14 : stm2 20 14 = .Assign t14 e14 p14) {name bind : Str} {params : Arguments} {body : List Stmt} {scope : Scope} {pos : Pos} (hK0 : stm 20 = .FunctionDef name params body [] none [] scope none bind pos) {L : Nat} {fa : Addr} {cd : Value}
    {m : Str → Option Value} {Q : Flow → Shared → Prop} {E : Value → Shared → Prop} {fl pr cl a1 a2 e2 : Nat} {k1 k2 o3 o4 o5 o6 o7 o8 o9 : Obj} {ys yg : List Value} {x y g0 g1 g2 g3 g4 g5 g6 g7 : Int} {u1 u2 : Tok} {ve vp vn : Value}
    (B : Below callerA base [] G) (X : (pre.heap_1_39 w.params).In G) (T : Top p loose mean mg mb G) (F : Fr G L s.heap m)
    (CH : CodeHd G 41 37) (N : News G L s.heap [(fl, listOf (List.toArray yg) e2), (pr, listOf #[.int x u1, .int y u2] 0), (cl, LCg.lst ys), (a1, k1), (a2, k2), (L+1+1+1+1+1+1+1+1+1, o9), (L+1+1+1+1+1+1+1+1, o8), (L+1+1+1+1+1+1+1, o7), (L+1+1+1+1+1+1, o6), (L+1+1+1+1+1, o5), (L+1+1+1+1, o4), (L+1+1+1, o3), (132, tabObj #[]), (37, tabObj #[]), (30, tabObj #[])]) (l0 : 132 < L ∧ 37 < L ∧ 30 < L) (d8 : o8.data = .cell (some (.ref fl))) (hf : IntsAre yg [g0, g1, g2, g3, g4, g5, g6, g7]) (gb : ∀ g ∈ [g0, g1, g2, g3, g4, g5, g6, g7], 0 ≤ g ∧ g ≤ 15) (la : L + 9 < a2 ∧ a2 < a1) (lb : a1 < pr ∧ cl < pr) (n2 : a2 ≠ cl ∧ 37 ≠ cl ∧ 30 ≠ cl) (off : ∀ b ∈ ([pr, cl, a1, a2, L+1+1+1+1+1+1+1+1+1, L+1+1+1+1+1+1+1+1, L+1+1+1+1+1+1+1, L+1+1+1+1+1+1, L+1+1+1+1+1, L+1+1+1+1, L+1+1+1, 132, 37, 30] : List Nat), @Ne Nat b fl)
    (vpr : m (PySem.Str.ofString "pair") = some vp) (vex : m (PySem.Str.ofString "exponent") = some ve) (vnm : m (PySem.Str.ofString "name") = some vn)
    (hQ : ∀ (h' : Heap) (tk : Nat) (m' : Str → Option Value) (bl a2 : Nat) (k2 p2 : Obj) (w1 w2 : Tok), Fr G L h' m' → News G L h' [(bl, listOf #[.int (dv 4 [g0, g1, g2, g3]) w1, .int (dv 4 [g4, g5, g6, g7]) w2] 0), (fl, listOf (List.toArray yg) e2), (pr, listOf #[.int x u1, .int y u2] 0), (cl, LCg.lst ys), (a1, k1), (L+1+1+1+1+1+1+1+1+1, o9), (L+1+1+1+1+1+1+1+1, o8), (L+1+1+1+1+1+1+1, o7), (L+1+1+1+1+1+1, o6), (L+1+1+1+1+1, o5), (L+1+1+1+1, o4), (L+1+1+1, o3), (a2, k2), (37, p2), (132, tabObj #[]), (30, tabObj #[])] → m' (PySem.Str.ofString "pair") = some vp → m' (PySem.Str.ofString "exponent") = some ve → m' (PySem.Str.ofString "name") = some vn → m' (PySem.Str.ofString "blocks") = some (.ref bl) →
      TF 47 4 q37 a2 k2 p2 → L + 9 < a2 → (∀ b ∈ ([fl, pr, cl, a1, L+1+1+1+1+1+1+1+1+1, L+1+1+1+1+1+1+1+1, L+1+1+1+1+1+1+1, L+1+1+1+1+1+1, L+1+1+1+1+1, L+1+1+1+1, L+1+1+1, 132, 37, 30] : List Nat), @Ne Nat b a2) → @LT.lt Nat _ a2 bl → (∀ b ∈ ([pr, cl, a1] : List Nat), @LT.lt Nat _ b bl) → fl < bl →
      wpAny (model PySem.Challenge.rw_ta0029_01.row.prog w) (callerA.deeper (envOfC (PySem.Str.ofString "law") scope L fa cd)) (execs rest (envOfC (PySem.Str.ofString "law") scope L fa cd)) Q E { s with heap := h', toks := tk }) :
    wpAny (model PySem.Challenge.rw_ta0029_01.row.prog w) (callerA.deeper (envOfC (PySem.Str.ofString "law") scope L fa cd)) (execs (.Assign t14 e14 p14 :: rest) (envOfC (PySem.Str.ofString "law") scope L fa cd)) Q E s := by
  cases h14
  cases hK0
  revert X; k_fill; intro X
  have K0 := B
  w_top on
  k_steps
  show wpAny _ _ _ _ _ _
  rename Fr _ _ _ _ => F1
  rename News _ _ _ _ => N1
  rename IntsAre _ (List.take _ _) => hI1
  have NO := News_app (News_take 5 N1) (News_app (News_take 8 (News_drop 6 N1)) (News_drop 15 N1))
  have NT := News_app (News_take 1 (News_drop 5 N1)) (News_take 1 (News_drop 14 N1))
  dsimp only [List.take, List.drop, List.cons_append, List.nil_append] at NO NT
  clear N1
  have hval : ∀ g ∈ [g0, g1, g2, g3, g4, g5, g6, g7], 0 ≤ g ∧ g < 2 ^ 64 := fun g hg => ⟨(gb g hg).1, Int.lt_of_le_of_lt (gb g hg).2 (by decide)⟩
  rename @LT.lt Nat _ fl _ ∧ _ => lD
  have l9a1 : L + 9 < a1 := Nat.lt_trans la.1 la.2
  have l9pr : L + 9 < pr := Nat.lt_trans l9a1 lb.1
  have hO1 := ho_of NO (c := a2) (List.forall_mem_cons.mpr ⟨⟨Nat.ne_of_gt lD.2.2.2.2.1, Nat.ne_of_gt lD.2.2.2.2.2.2.2.2.2.2.2.2.2.1⟩, List.forall_mem_cons.mpr ⟨⟨(off a2 (by k_mem)).symm, (off 37 (by k_mem)).symm⟩, List.forall_mem_cons.mpr ⟨⟨Nat.ne_of_gt (Nat.lt_trans la.2 lb.1), Nat.ne_of_gt (Nat.lt_trans (lt_Lk (k := 9) l0.2.1) l9pr)⟩, List.forall_mem_cons.mpr ⟨⟨n2.1.symm, n2.2.1.symm⟩, List.forall_mem_cons.mpr ⟨⟨Nat.ne_of_gt la.2, Nat.ne_of_gt (Nat.lt_trans (lt_Lk (k := 9) l0.2.1) l9a1)⟩, List.forall_mem_cons.mpr ⟨⟨Nat.ne_of_lt (Lk_lt (k := 9) (by decide) la.1), Nat.ne_of_gt (lt_Lk (k := 9) l0.2.1)⟩, List.forall_mem_cons.mpr ⟨⟨Nat.ne_of_lt (Lk_lt (k := 8) (by decide) la.1), Nat.ne_of_gt (lt_Lk (k := 8) l0.2.1)⟩, List.forall_mem_cons.mpr ⟨⟨Nat.ne_of_lt (Lk_lt (k := 7) (by decide) la.1), Nat.ne_of_gt (lt_Lk (k := 7) l0.2.1)⟩, List.forall_mem_cons.mpr ⟨⟨Nat.ne_of_lt (Lk_lt (k := 6) (by decide) la.1), Nat.ne_of_gt (lt_Lk (k := 6) l0.2.1)⟩, List.forall_mem_cons.mpr ⟨⟨Nat.ne_of_lt (Lk_lt (k := 5) (by decide) la.1), Nat.ne_of_gt (lt_Lk (k := 5) l0.2.1)⟩, List.forall_mem_cons.mpr ⟨⟨Nat.ne_of_lt (Lk_lt (k := 4) (by decide) la.1), Nat.ne_of_gt (lt_Lk (k := 4) l0.2.1)⟩, List.forall_mem_cons.mpr ⟨⟨Nat.ne_of_lt (Lk_lt (k := 3) (by decide) la.1), Nat.ne_of_gt (lt_Lk (k := 3) l0.2.1)⟩, List.forall_mem_cons.mpr ⟨⟨Nat.ne_of_lt (Nat.lt_trans (lt_Lk (k := 9) l0.1) la.1), (by decide)⟩, List.forall_mem_cons.mpr ⟨⟨Nat.ne_of_lt (Nat.lt_trans (lt_Lk (k := 9) l0.2.2) la.1), (by decide)⟩, fun _ h => nomatch h⟩⟩⟩⟩⟩⟩⟩⟩⟩⟩⟩⟩⟩⟩)
  clear off lD
  refine call_d2i (rest := []) B F1 rfl rfl rfl NO NT (.inl rfl) (by rw [List.append_nil]; exact hO1) CH X T (.head _) hI1 (by decide) (Nat.le_of_ble_eq_true rfl) (fun d hd => hval d (List.mem_of_mem_take hd)) (by decide) (by decide) ?_
  clear NO NT
  intro h2 tk2 t2 c' k' o' F2 N2 hTF hcc
  rw [List.append_nil] at hcc
  have hO2 := up_all hcc hO1
  have h9c := up_gt hcc la.1 fun p => ktn_ltOf p (L+1+1+1+1+1+1+1+1+1, o9) (by k_mem)
  clear hcc hO1
  dsimp only [List.cons_append, List.nil_append] at N2
  dsimp only
  k_steps
  show wpAny _ _ _ _ _ _
  rename Fr _ _ _ _ => F1
  rename News _ _ _ _ => N1
  rename IntsAre _ (List.drop _ _) => hI2
  have NO := News_take 15 N1
  have NT := News_drop 15 N1
  dsimp only [List.take, List.drop, List.cons_append, List.nil_append] at NO NT
  clear N1
  rename @LT.lt Nat _ _ _ ∧ @LT.lt Nat _ fl _ ∧ _ => lD
  have hO3 := ho_of NO (c := c') (List.forall_mem_cons.mpr ⟨⟨Nat.ne_of_gt lD.2.2.2.2.2.2.2.2.2.2.2.2.2.2.1, Nat.ne_of_gt lD.2.2.2.2.2.2.2.2.2.2.2.2.2.2.2⟩, hO2⟩)
  clear hO2 lD
  refine call_d2i (rest := []) B F1 rfl rfl rfl NO NT (.inr hTF) (by rw [List.append_nil]; exact hO3) CH X T (.head _) hI2 (by decide) (Nat.le_of_ble_eq_true rfl) (fun d hd => hval d (List.mem_of_mem_drop hd)) (by decide) (by decide) ?_
  clear NO NT
  intro h3 tk3 t3 c9 k9 p9 F3 N3 hTF9 hcc9
  rw [List.append_nil] at hcc9
  have hO4 := up_all hcc9 hO3
  have h9 := up_gt hcc9 h9c fun p => ktn_ltOf p (L+1+1+1+1+1+1+1+1+1, o9) (by k_mem)
  clear hcc9 hO3 h9c
  dsimp only [List.cons_append, List.nil_append] at N3
  have hn9 : Keep (L + 9 < c9 ∧ ∀ b ∈ ([fl, pr, cl, a1, L+1+1+1+1+1+1+1+1+1, L+1+1+1+1+1+1+1+1, L+1+1+1+1+1+1+1, L+1+1+1+1+1+1, L+1+1+1+1+1, L+1+1+1+1, L+1+1+1, 132, 37, 30] : List Nat), @Ne Nat b c9) := by
    exact ⟨h9, List.forall_mem_cons.mpr ⟨(hO4 (fl, _) (by k_mem)).1, List.forall_mem_cons.mpr ⟨(hO4 (pr, _) (by k_mem)).1, List.forall_mem_cons.mpr ⟨(hO4 (cl, _) (by k_mem)).1, List.forall_mem_cons.mpr ⟨(hO4 (a1, _) (by k_mem)).1, List.forall_mem_cons.mpr ⟨(hO4 (L+1+1+1+1+1+1+1+1+1, _) (by k_mem)).1, List.forall_mem_cons.mpr ⟨(hO4 (L+1+1+1+1+1+1+1+1, _) (by k_mem)).1, List.forall_mem_cons.mpr ⟨(hO4 (L+1+1+1+1+1+1+1, _) (by k_mem)).1, List.forall_mem_cons.mpr ⟨(hO4 (L+1+1+1+1+1+1, _) (by k_mem)).1, List.forall_mem_cons.mpr ⟨(hO4 (L+1+1+1+1+1, _) (by k_mem)).1, List.forall_mem_cons.mpr ⟨(hO4 (L+1+1+1+1, _) (by k_mem)).1, List.forall_mem_cons.mpr ⟨(hO4 (L+1+1+1, _) (by k_mem)).1, List.forall_mem_cons.mpr ⟨(hO4 (132, _) (by k_mem)).1, List.forall_mem_cons.mpr ⟨Nat.ne_of_lt (Nat.lt_trans (lt_Lk (k := 9) l0.2.1) h9), List.forall_mem_cons.mpr ⟨(hO4 (30, _) (by k_mem)).1, fun _ h => nomatch h⟩⟩⟩⟩⟩⟩⟩⟩⟩⟩⟩⟩⟩⟩⟩
  clear hO4
  dsimp only
  k_steps
  rename Fr _ _ _ _ => F4
  rename News _ _ _ _ => N4
  have N5 := News_app (News_take 1 N4) (News_app (News_take 11 (News_drop 3 N4)) (News_app (News_drop 16 N4) (News_take 2 (News_drop 14 N4))))
  dsimp only [List.take, List.drop, List.cons_append, List.nil_append] at N5
  dsimp only
  refine hQ _ _ _ _ _ _ _ _ _ F4 N5 vpr vex vnm rfl hTF9 hn9.out.1 hn9.out.2 (by omega) ?_ (by omega)
  simp only [List.forall_mem_cons, List.not_mem_nil, false_imp_iff, implies_true, and_true]
  omega
end Mine
end
section
open PySem PySem.Spec PySem.Calls PySem.W PyProof.Rows
set_option maxRecDepth 100000
set_option rowWalk.seconds 0
namespace Mine
theorem dv_sum (a b c d : Int) : a * 1 + (b * 16 + (c * 256 + (d * 4096 + 0))) = dv 4 [a, b, c, d] := by
  show _ = a + 16 * (b + 16 * (c + 16 * (d + 16 * 0)))
  omega
theorem pow16 {prog : Program} {w : World} {A : Around} {s : Shared} {E : Value → Shared → Prop} {Q : Value → Shared → Prop} {k : Int} {t u : Tok} (h0 : 0 ≤ k) (h1 : k < 4) (h : ∀ b : Int, b = 16 ^ k.toNat → 1 ≤ b → b ≤ 4096 → Q (.int b s.toks) { s with toks := s.toks + 1 }) : wpAny (model prog w) A (binaryOp .Pow (.int 16 t) (.int k u)) Q E s := by
  refine pow_int_small h0 (by omega) (by decide) (h _ rfl ?_ ?_)
  · have : k = 0 ∨ k = 1 ∨ k = 2 ∨ k = 3 := by omega
    rcases this with rfl | rfl | rfl | rfl <;> decide
  · have : k = 0 ∨ k = 1 ∨ k = 2 ∨ k = 3 := by omega
    rcases this with rfl | rfl | rfl | rfl <;> decide
local macro_rules | `(tactic| walk_at "eval Name") => `(tactic| (k_here; k_dflt (refine' nameLA ?F ?v ?_; (case F => k_asm); (case v => first | exact rfl | assumption); k_whole)))
local macro_rules | `(tactic| walk_at "eval ListComp") => `(tactic| (refine hold_of ?_))
local macro_rules | `(tactic| walk_at "call builtin:sum") => `(tactic| (refine hold_of ?_))
local macro_rules | `(tactic| walk_at "CompSrc") => `(tactic| (refine hold_of ?_))
local macro_rules | `(tactic| walk_at "CompEnd") => `(tactic| (refine hold_of ?_))
local macro_rules | `(tactic| walk_at "Exists") => `(tactic| (refine hold_of ?_))
local macro_rules | `(tactic| walk_at "subscriptTail Name BinOp ref int") => `(tactic| (refine hold_of ?_))
local macro_rules | `(tactic| walk_at "binaryOp Pow int int") => `(tactic| (k_here; refine pow16 (by omega) (by omega) ?_; intro b' e' b1' b2'))
set_option maxHeartbeats 1000000 in
theorem law_E2 {w : World} {s : Shared} {base G : Heap} {p : Program} {loose : List Str} {mean : ExcName → Option Value} {mg mb : Str → Option Value}
    {e15 : PySem.Expr} {b15 : List Stmt} {f15 : List Stmt} {p15 : Pos} {rest : List Stmt} (h15 : stm2 20 15 = .If e15 b15 f15 p15) {name bind : Str} {params : Arguments} {body : List Stmt} {scope : Scope} {pos : Pos} (hK0 : stm 20 = .FunctionDef name params body [] none [] scope none bind pos) {L : Nat} {fa : Addr} {cd : Value}
    {m : Str → Option Value} {Q : Flow → Shared → Prop} {E : Value → Shared → Prop} {fl bl e2 : Nat} {o8 : Obj} {yg : List Value} {g0 g1 g2 g3 g4 g5 g6 g7 : Int} {w1 w2 : Tok} {rest0 : List (Addr × Obj)}
    (B : Below callerA base [] G) (X : (pre.heap_1_39 w.params).In G) (T : Top p loose mean mg mb G) (F : Fr G L s.heap m)
    (N : News G L s.heap ((bl, listOf #[.int (dv 4 [g0, g1, g2, g3]) w1, .int (dv 4 [g4, g5, g6, g7]) w2] 0) :: (fl, listOf (List.toArray yg) e2) :: (L+1+1+1+1+1+1+1+1, o8) :: rest0)) (d8 : o8.data = .cell (some (.ref fl))) (hf : IntsAre yg [g0, g1, g2, g3, g4, g5, g6, g7]) (gb : ∀ g ∈ [g0, g1, g2, g3, g4, g5, g6, g7], 0 ≤ g ∧ g ≤ 15)
    (vbl : m (PySem.Str.ofString "blocks") = some (.ref bl))
    (hQ : ∀ (h' : Heap) (tk : Nat), Fr G L h' m → News G L h' ((bl, listOf #[.int (dv 4 [g0, g1, g2, g3]) w1, .int (dv 4 [g4, g5, g6, g7]) w2] 0) :: (fl, listOf (List.toArray yg) e2) :: (L+1+1+1+1+1+1+1+1, o8) :: rest0) →
      wpAny (model PySem.Challenge.rw_ta0029_01.row.prog w) (callerA.deeper (envOfC (PySem.Str.ofString "law") scope L fa cd)) (execs rest (envOfC (PySem.Str.ofString "law") scope L fa cd)) Q E { s with heap := h', toks := tk }) :
    wpAny (model PySem.Challenge.rw_ta0029_01.row.prog w) (callerA.deeper (envOfC (PySem.Str.ofString "law") scope L fa cd)) (execs (.If e15 b15 f15 p15 :: rest) (envOfC (PySem.Str.ofString "law") scope L fa cd)) Q E s := by
  cases h15
  cases hK0
  revert X; k_fill; intro X
  have K0 := B
  w_top on
  k_steps
  show wpAny _ _ _ _ _ _

  refine comp_cell (fun i v => ∃ t : Tok, v = Value.int (if i = 0 then dv 4 [g0, g1, g2, g3] else dv 4 [g4, g5, g6, g7]) t) (F₀ := by k_asm) (fun _ _ => rfl) (fun _ => rfl) (by with_unfolding_all rfl) (by rfl) (by decide) (by rfl) ?_
  k_steps
  rename Fr _ _ _ _ => F1
  rename News _ _ _ _ => N1
  refine ⟨_, _, _, rfl, rfl, F1, N1, .head _, Nat.le_of_ble_eq_true rfl, ?_, ?_⟩
  · intro i v I oI C oC kc ok D ys h tk E' hi2 hv dk F2 N2 off offk ne nek
    clear F1 N1
    have hi3 : i = 0 ∨ i = 1 := by
      have : i < 2 := hi2
      omega
    have hv4 : ∃ (z : Int) (t : Tok), v = .int z t ∧ (z = if i = 0 then 0 else 4) := by
      rcases hi3 with rfl | rfl
      · exact ⟨0, _, (Option.some.inj hv).symm, rfl⟩
      · exact ⟨4, _, (Option.some.inj hv).symm, rfl⟩
    obtain ⟨z, tz, rfl, hz⟩ := hv4
    have hz0 : 0 ≤ z ∧ z ≤ 4 := by rw [hz]; split <;> decide
    clear hv hi2
    k_steps
    show wpAny _ _ _ _ _ _
    refine LCg.ListComp_U (F₀ := F2) (by with_unfolding_all rfl) (by decide) (by rfl) (by decide) (by rfl) ?_
    k_steps
    rename Fr _ _ _ _ => F1
    rename News _ _ _ _ => N1
    rename IsRange _ _ _ _ _ _ _ _ => hr
    refine LCg.CompSrc.range (n := 4) rfl F1 N1 hr rfl rfl (by decide) ?_
    intro g
    clear F1 N1 hr
    refine comp_rest (fun j v => ∃ t : Tok, v = Value.int (([g0, g1, g2, g3, g4, g5, g6, g7] : List Int).getD (z + (j : Int)).toNat 0 * 16 ^ j) t) ?_ ?_
    · rintro j v I2 oI2 C2 oC2 D2 m₂ ys2 h tk E' hj4 ⟨tv, rfl⟩ hC hx F3 N3 off2 ne2
      have hk : (0 : Int) + (j : Int) = j := by omega
      rw [hk] at hx
      have hj5 : (j : Int) < 4 := by omega
      clear hk
      k_steps
      show wpAny _ _ _ _ _ _
      rename Fr _ _ _ _ => F1
      rename News _ _ _ _ => N1
      refine item_anyK (PySem.IsL.isList (N1.get (by k_mem))) (show IntsAre yg [g0, g1, g2, g3, g4, g5, g6, g7] by assumption) (by omega) (show z + (j : Int) < 8 by omega) (by omega) ?_
      intro tx
      have hgm := gb _ (getD_mem (ds := [g0, g1, g2, g3, g4, g5, g6, g7]) (i := (z + (j : Int)).toNat) (show (z + (j : Int)).toNat < 8 by omega))
      generalize hgx : ([g0, g1, g2, g3, g4, g5, g6, g7] : List Int).getD (z + (j : Int)).toNat 0 = gx at hgm ⊢
      k_steps
      rename (_ : Int) = 16 ^ _ => hb
      rw [Int.toNat_natCast] at hb
      subst hb hgx
      rename Fr _ _ _ _ => F4
      rename News _ _ _ _ => N4
      refine comp_end F4 N4 ?_ off2 trivial ⟨_, rfl⟩
      first | exact fun p hp => hp | exact fun p hp => .tail _ hp | exact fun p hp => .tail _ (.tail _ hp)
    · intro ys2 hy2 hR2 D2 h tk F3 N3 off2
      have hi2 := ints_eq (f := fun j => ([g0, g1, g2, g3, g4, g5, g6, g7] : List Int).getD (z + (j : Int)).toNat 0 * 16 ^ j) hy2 hR2
      k_steps
      show wpAny _ _ _ _ _ _
      rename Fr _ _ _ _ => F4
      rename News _ _ _ _ => N4
      refine LSm.sum_ints F4 N4 rfl (PySem.IsL.isList (N4.get (.head _))) hi2 ?_
      clear F4 N4
      intro h5 tk5 t5 F5 N5
      have es : ((List.range 4).map fun (j : Nat) => ([g0, g1, g2, g3, g4, g5, g6, g7] : List Int).getD (z + (j : Int)).toNat 0 * 16 ^ j).sum = if i = 0 then dv 4 [g0, g1, g2, g3] else dv 4 [g4, g5, g6, g7] := by
        rcases hi3 with rfl | rfl
        · obtain rfl : z = 0 := hz
          exact dv_sum g0 g1 g2 g3
        · obtain rfl : z = 4 := hz
          exact dv_sum g4 g5 g6 g7
      rw [es]
      refine ⟨⟨_, rfl⟩, _, _, rfl, F5, ?_⟩
      first | exact N5 | exact News_drop 1 N5 | exact News_drop 2 N5
  · intro ys hy hR D h tk F2 N2 off
    have hi2 : IntsAre ys [dv 4 [g0, g1, g2, g3], dv 4 [g4, g5, g6, g7]] := ints_eq (f := fun i => if i = 0 then dv 4 [g0, g1, g2, g3] else dv 4 [g4, g5, g6, g7]) hy hR
    clear F1 N1
    k_steps
    rename Fr _ _ _ _ => F4
    rename News _ _ _ _ => N4
    dsimp only
    first | exact hQ _ _ F4 (News_drop 1 N4) | exact hQ _ _ F4 (News_drop 2 N4) | exact hQ _ _ F4 (News_drop 3 N4)
end Mine
end
section
local macro_rules | `(tactic| walk_at "no such step") => `(tactic| skip)
open PySem PySem.Spec PySem.Calls PySem.W PyProof.Rows
set_option maxRecDepth 100000
set_option rowWalk.seconds 0
namespace Mine
/-- a power by squares, by the product -/
def pstep (n e : Int) (k : Nat) (st : Int × Int) : Int × Int := (if (e.fdiv (2 ^ k)).fmod 2 = 1 then (st.1 * st.2).fmod n else st.1, (st.2 * st.2).fmod n)
def pst (n e b : Int) : Nat → Int × Int
  | 0 => (1, b)
  | k + 1 => pstep n e k (pst n e b k)
theorem pst_bnd {n e b : Int} (n0 : 0 < n) (n1 : n < 800000) (hb : 0 ≤ b ∧ b < 65536) : ∀ k, (0 ≤ (pst n e b k).1 ∧ (pst n e b k).1 < 800000) ∧ (0 ≤ (pst n e b k).2 ∧ (pst n e b k).2 < 800000)
  | 0 => ⟨⟨show (0:Int) ≤ 1 by decide, show (1:Int) < 800000 by decide⟩, hb.1, Int.lt_trans hb.2 (by decide)⟩
  | k + 1 => by
    have ih := pst_bnd (e := e) n0 n1 hb k
    rw [pst, pstep]
    have h1 := fm0 (x := (pst n e b k).1 * (pst n e b k).2) n0
    have h2 := fm1 (x := (pst n e b k).1 * (pst n e b k).2) n0
    have h3 := fm0 (x := (pst n e b k).2 * (pst n e b k).2) n0
    have h4 := fm1 (x := (pst n e b k).2 * (pst n e b k).2) n0
    dsimp only
    split <;> omega
theorem pow2b {prog : Program} {w : World} {A : Around} {s : Shared} {E : Value → Shared → Prop} {Q : Value → Shared → Prop} {k : Int} {t u : Tok} (h0 : 0 ≤ k) (h1 : k < 20) (h : ∀ b : Int, b = 2 ^ k.toNat → 1 ≤ b → b ≤ 524288 → Q (.int b s.toks) { s with toks := s.toks + 1 }) : wpAny (model prog w) A (binaryOp .Pow (.int 2 t) (.int k u)) Q E s := by
  refine pow_int_small h0 (by omega) (by decide) (h _ rfl ?_ ?_)
  · have := Int.pow_pos (n := 2) (m := k.toNat) (by decide)
    omega
  · have : (2 : Nat) ^ k.toNat ≤ 2 ^ 19 := Nat.pow_le_pow_right (by decide) (by omega)
    have h2 : (2 : Int) ^ k.toNat = ((2 ^ k.toNat : Nat) : Int) := by rw [Int.natCast_pow]; rfl
    rw [h2]
    generalize (2 : Nat) ^ k.toNat = q at this ⊢
    have h3 : (2 : Nat) ^ 19 = 524288 := by decide
    omega
def encF (n e b : Int) : Int := (pst n e b 20).1
local macro_rules | `(tactic| walk_at "eval Name") => `(tactic| (k_here; k_dflt (refine' nameLA ?F ?v ?_; (case F => k_asm); (case v => first | exact rfl | assumption); k_whole)))
local macro_rules | `(tactic| walk_at "exec For") => `(tactic| (refine hold_of ?_))
local macro_rules | `(tactic| walk_at "exec For Name Name cons nil") => `(tactic| (refine hold_of ?_))
local macro_rules | `(tactic| walk_at "pyIter ref") => `(tactic| (refine hold_of ?_))
local macro_rules | `(tactic| walk_at "binaryOp Mod int int") => `(tactic| (k_here; refine mod_int' (by omega) ?_))
local macro_rules | `(tactic| walk_at "binaryOp FloorDiv int int") => `(tactic| (k_here; refine floordiv_int (by omega) ?_ (Or.inl (pyl (by omega) (by omega)))))
local macro_rules | `(tactic| walk_at "binaryOp Pow int int") => `(tactic| (k_here; refine pow2b (by omega) (by omega) ?_; intro b' e' b1' b2'))
local macro_rules | `(tactic| walk_at "exec For Name Call cons nil") => `(tactic| (refine hold_of ?_))
local macro_rules | `(tactic| k_all) => `(tactic| first | assumption | exact ktn_ltOf (by assumption))
set_option maxHeartbeats 1000000 in
theorem law_F {w : World} {s : Shared} {base G : Heap} {p : Program} {loose : List Str} {mean : ExcName → Option Value} {mg mb : Str → Option Value}
    {t16 : List PySem.Expr} {e16 : PySem.Expr} {p16 : Pos} {t17 : PySem.Expr} {e17 : PySem.Expr} {b17 : List Stmt} {f17 : List Stmt} {p17 : Pos} {rest : List Stmt} (h16 : stm2 20 16 = .Assign t16 e16 p16) (h17 : stm2 20 17 = .For t17 e17 b17 f17 p17) {name bind : Str} {params : Arguments} {body : List Stmt} {scope : Scope} {pos : Pos} (hK0 : stm 20 = .FunctionDef name params body [] none [] scope none bind pos) {L : Nat} {fa : Addr} {cd : Value}
    {m : Str → Option Value} {Q : Flow → Shared → Prop} {E : Value → Shared → Prop} {bl : Nat} {o4 : Obj} {b0 b1 n e : Int} {w1 w2 tn te : Tok} {rest0 : List (Addr × Obj)} {vp vn : Value}
    (B : Below callerA base [] G) (X : (pre.heap_1_39 w.params).In G) (T : Top p loose mean mg mb G) (F : Fr G L s.heap m)
    (N : News G L s.heap ((bl, listOf #[.int b0 w1, .int b1 w2] 0) :: (L+1+1+1+1, o4) :: rest0)) (d4 : o4.data = .cell (some (.int n tn))) (n0 : 0 < n) (n1 : n < 800000) (e0 : 0 ≤ e) (e1 : e < 800000) (hb0 : 0 ≤ b0 ∧ b0 < 65536) (hb1 : 0 ≤ b1 ∧ b1 < 65536)
    (vbl : m (PySem.Str.ofString "blocks") = some (.ref bl)) (vpr : m (PySem.Str.ofString "pair") = some vp) (vex : m (PySem.Str.ofString "exponent") = some (.int e te)) (vnm : m (PySem.Str.ofString "name") = some vn)
    (hQ : ∀ (h' : Heap) (tk : Nat) (m' : Str → Option Value) (tl : Nat) (us : List Value) (ee : Nat), Fr G L h' m' → News G L h' ((tl, listOf (List.toArray us) ee) :: (bl, listOf #[.int b0 w1, .int b1 w2] 0) :: (L+1+1+1+1, o4) :: rest0) → IntsAre us [n, e, encF n e b0, encF n e b1] → AllLt tl ((bl, listOf #[.int b0 w1, .int b1 w2] 0) :: (L+1+1+1+1, o4) :: rest0) →
      m' (PySem.Str.ofString "told") = some (.ref tl) → m' (PySem.Str.ofString "pair") = some vp → m' (PySem.Str.ofString "name") = some vn →
      wpAny (model PySem.Challenge.rw_ta0029_01.row.prog w) (callerA.deeper (envOfC (PySem.Str.ofString "law") scope L fa cd)) (execs rest (envOfC (PySem.Str.ofString "law") scope L fa cd)) Q E { s with heap := h', toks := tk }) :
    wpAny (model PySem.Challenge.rw_ta0029_01.row.prog w) (callerA.deeper (envOfC (PySem.Str.ofString "law") scope L fa cd)) (execs (.Assign t16 e16 p16 :: .For t17 e17 b17 f17 p17 :: rest) (envOfC (PySem.Str.ofString "law") scope L fa cd)) Q E s := by
  cases h16
  cases h17
  cases hK0
  revert X; k_fill; intro X
  have K0 := B
  w_top on
  k_steps
  show wpAny _ _ _ _ _ _
  refine For_hid ?_
  k_steps
  show wpAny _ _ _ _ _ _
  rename Fr _ _ _ _ => F1
  rename News _ _ _ _ => N1
  rename_i tl hx ltl hy
  refine wpAny_pyIter_list (PySem.IsL.isList (N1.get (.tail _ (.head _)))) ?_
  have F2 := F1.push { cls := .type "list_iterator", data := .fields #[.ref bl, .int 0 0] }
  have N2 := N1.push F1 { cls := .type "list_iterator", data := .fields #[.ref bl, .int 0 0] }
  have lD := allLt_of fun q hq => Heap.lt_size (N1 q hq).1
  simp only [AllLt] at ltl lD
  (try dsimp only at F2 N2 lD)
  clear F1 N1
  generalize hy.objs.size = It at N2 lD ⊢
  have l1 := fun q hq => ktn_ltOf ltl.2.2 q hq
  have l2 := fun q hq => ktn_ltOf lD.2.2.2 q hq
  refine ⟨fun n2 s' => ∀ P : Shared → Prop, (∀ (i : Nat) (h : Heap) (tk : Nat) (m' : Str → Option Value) (oi : Obj) (us : List Value) (ee : Nat), n2 + i = 2 → Fr G L h m' → News G L h ((It, oi) :: (tl, listOf (List.toArray us) ee) :: (bl, listOf #[.int b0 w1, .int b1 w2] 0) :: (L+1+1+1+1, o4) :: rest0) → (oi.cls = .type "list_iterator" ∧ oi.data = .fields #[.ref bl, .int i 0]) → IntsAre us ([n, e] ++ [encF n e b0, encF n e b1].take i) → m' (PySem.Str.ofString "told") = some (.ref tl) → m' (PySem.Str.ofString "pair") = some vp → m' (PySem.Str.ofString "exponent") = some (.int e te) → m' (PySem.Str.ofString "name") = some vn → P { s with heap := h, toks := tk }) → P s', 2, ?_, ?_⟩
  · exact fun P hP => hP 0 _ _ _ _ _ _ rfl F2 N2 ⟨rfl, rfl⟩ (.cons _ _ (.cons _ _ .nil)) rfl vpr vex vnm
  · clear F2 N2
    intro n2 s' hI Qa hQa _ _
    refine hI _ fun i h tk m' oi us ee hi F4 N4 hoi hus vt vpr' vex' vnm' => ?_
    clear hI
    have zI := N4 _ (.head _)
    by_cases hi2 : i = 2
    · cases hi2
      refine wpAny_pyNext_list_end rfl ⟨_, zI.1, hoi.1, hoi.2⟩ (PySem.IsL.isList (N4.get (.tail _ (.tail _ (.head _))))) (by simp) fun h5 hx => ?_
      have F5 := Fr_but F4 hx zI.2.1 zI.2.2
      have N5 := News_but N4 hx (List.forall_mem_cons.mpr ⟨neN (by dsimp only; omega), List.forall_mem_cons.mpr ⟨neN (by dsimp only; omega), List.forall_mem_cons.mpr ⟨neN (by dsimp only; omega), fun q hq => Nat.ne_of_lt (l2 q hq)⟩⟩⟩)
      clear F4 N4
      dsimp only
      k_steps
      rename Fr _ _ _ _ => F8
      rename News _ _ _ _ => N8
      exact hQ _ _ _ _ _ _ F8 N8 hus (by simp only [AllLt]; exact ⟨ltl.1, ltl.2.1, ltl.2.2⟩) vt vpr' vnm'
    obtain ⟨bb, wb, hget, hbb, hnext⟩ : ∃ bb wb, (#[.int b0 w1, .int b1 w2] : Array Value)[i]? = some (.int bb wb) ∧ (0 ≤ bb ∧ bb < 65536) ∧ [encF n e b0, encF n e b1].take (i + 1) = [encF n e b0, encF n e b1].take i ++ [encF n e bb] := by
      rcases (show i = 0 ∨ i = 1 by omega) with rfl | rfl
      · exact ⟨b0, w1, rfl, hb0, rfl⟩
      · exact ⟨b1, w2, rfl, hb1, rfl⟩
    refine wpAny_pyNext_list_item ⟨_, zI.1, hoi.1, hoi.2⟩ (PySem.IsL.isList (N4.get (.tail _ (.tail _ (.head _))))) hget fun h5 hit hsb => ?_
    obtain ⟨oi', hoi1, hoi2, hoi3⟩ := id hit
    have F5 := F4.change hsb zI.2.1 zI.2.2
    have N5 := News_set1 N4 hsb hoi1 (List.forall_mem_cons.mpr ⟨neN (by dsimp only; omega), List.forall_mem_cons.mpr ⟨neN (by dsimp only; omega), List.forall_mem_cons.mpr ⟨neN (by dsimp only; omega), fun q hq => Nat.ne_of_lt (l2 q hq)⟩⟩⟩)
    clear F4 N4 zI hsb hoi1
    dsimp only
    refine wpAny_of_eq (a := ()) rfl ?_
    k_steps
    show wpAny _ _ _ _ _ _
    refine For_hid ?_
    k_steps
    show wpAny _ _ _ _ _ _
    rename Fr _ _ _ _ => F6
    rename News _ _ _ _ => N6
    rename_i _ _ _ hr _
    refine wpAny_pyIter_range hr rfl ?_
    have F7 := F6.push (rangeIt 0 20)
    have N7 := N6.push F6 (rangeIt 0 20)
    have lC := allLt_of fun q hq => Heap.lt_size (N6 q hq).1
    simp only [AllLt] at lC
    clear F6 N6
    have N8 := News_app (News_take 1 N7) (News_drop 2 N7)
    dsimp only [List.take, List.drop, List.cons_append, List.nil_append] at N8
    dsimp only at F7 N8 lC ⊢
    rename_i hz _ _ _ _ _
    generalize hz.objs.size = I2 at N8 lC ⊢
    clear N7 hr
    refine ⟨fun j s' => ∀ P : Shared → Prop, (∀ (k : Nat) (h : Heap) (tk : Nat) (m' : Str → Option Value) (t1 t2 : Tok), j + k = 20 → Fr G L h m' → News G L h ((I2, rangeIt (k : Int) (j : Int)) :: (It, oi') :: (tl, listOf (List.toArray us) ee) :: (bl, listOf #[.int b0 w1, .int b1 w2] 0) :: (L+1+1+1+1, o4) :: rest0) → m' (PySem.Str.ofString "power") = some (.int (pst n e bb k).1 t1) → m' (PySem.Str.ofString "base") = some (.int (pst n e bb k).2 t2) → m' (PySem.Str.ofString "told") = some (.ref tl) → m' (PySem.Str.ofString "pair") = some vp → m' (PySem.Str.ofString "exponent") = some (.int e te) → m' (PySem.Str.ofString "name") = some vn → P { s with heap := h, toks := tk }) → P s', 20, ?_, ?_⟩
    · exact fun P hP => hP 0 _ _ _ _ _ rfl F7 N8 rfl rfl vt vpr' vex' vnm'
    clear F7 N8 vt vpr' vex' vnm'
    intro j s' hI Qb hQb _ _
    refine hI _ fun k h tk m' t1 t2 hj F4 N4 vpo vba vt vpr' vex' vnm' => ?_
    clear hI
    have zI := N4 _ (.head _)
    obtain ⟨⟨p1, p2⟩, p3, p4⟩ := pst_bnd (e := e) n0 n1 hbb k
    cases j with
    | zero =>
      refine wpAny_pyNext_range_end rfl (N4.get (.head _)) (Int.le_refl _) fun h6 hx => ?_
      have F5 := Fr_but F4 hx zI.2.1 zI.2.2
      have N5 := News_but N4 hx (List.forall_mem_cons.mpr ⟨neN (by dsimp only; omega), List.forall_mem_cons.mpr ⟨neN (by dsimp only; omega), List.forall_mem_cons.mpr ⟨neN (by dsimp only; omega), List.forall_mem_cons.mpr ⟨neN (by dsimp only; omega), fun q hq => Nat.ne_of_lt (ktn_ltOf lC.2.2.2.2.2 q hq)⟩⟩⟩⟩)
      clear F4 N4
      dsimp only
      k_steps
      rename Fr _ _ _ _ => F6
      rename News _ _ _ _ => N6
      rename IntsAre us _ => hus'
      have hlen := hus'.length
      k_dflt (refine' append_K F6 N6 ?U ?_ ?z)
      case U => k_upd
      case z => rw [List.size_toArray, hlen, List.length_append, List.length_take]; exact Nat.le_trans (show 2 + min i 2 ≤ 100 by omega) (by decide)
      intro h9 F9 N9
      clear F6 N6
      dsimp only
      k_steps
      rename Fr _ _ _ _ => F8
      rename News _ _ _ _ => N8
      rw [List.push_toArray] at N8
      have hk : k = 20 := by omega
      subst hk
      refine hQa _ (1 - i) (by omega) fun P hP => hP (i + 1) _ _ _ _ _ _ (by omega) F8 N8 ⟨hoi2, hoi3⟩ ?_ vt vpr' vex' vnm'
      rw [hnext, ← List.append_assoc]
      exact ints_snoc hus' _ _
    | succ j =>
      have h2k : (0 : Int) < 2 ^ k := Int.pow_pos (by decide)
      refine wpAny_pyNext_range_item (N4.get (.head _)) (by omega) fun h6 hit hsb => ?_
      dsimp only
      refine wpAny_of_eq (a := ()) rfl ?_
      have F5 := F4.change hsb zI.2.1 zI.2.2
      have N5 := News_set1 N4 hsb hit (List.forall_mem_cons.mpr ⟨neN (by dsimp only; omega), List.forall_mem_cons.mpr ⟨neN (by dsimp only; omega), List.forall_mem_cons.mpr ⟨neN (by dsimp only; omega), List.forall_mem_cons.mpr ⟨neN (by dsimp only; omega), fun q hq => Nat.ne_of_lt (ktn_ltOf lC.2.2.2.2.2 q hq)⟩⟩⟩⟩)
      rw [show ((k : Int) + 1) = ((k + 1 : Nat) : Int) by omega, show (((j + 1 : Nat) : Int) - 1) = (j : Int) by omega] at N5
      clear F4 N4 hsb hit
      k_steps
      · rename Fr _ _ _ _ => F8
        rename News _ _ _ _ => N8
        rename Int.fmod _ _ = 1 => hbit
        rename _ = 2 ^ Int.toNat _ => hbb'
        rw [hbb', Int.toNat_natCast] at hbit
        have hst : pst n e bb (k + 1) = (((pst n e bb k).1 * (pst n e bb k).2).fmod n, ((pst n e bb k).2 * (pst n e bb k).2).fmod n) := by rw [pst, pstep, if_pos hbit]
        refine hQb _ j (Nat.lt_succ_self _) fun P hP => hP (k + 1) _ _ _ _ _ (by omega) F8 N8 (congrArg (fun z : Int × Int => some (Value.int z.1 _)) hst.symm) (congrArg (fun z : Int × Int => some (Value.int z.2 _)) hst.symm) vt vpr' vex' vnm'
      · rename Fr _ _ _ _ => F8
        rename News _ _ _ _ => N8
        rename Int.fmod _ _ ≠ 1 => hbit
        rename _ = 2 ^ Int.toNat _ => hbb'
        rw [hbb', Int.toNat_natCast] at hbit
        have hst : pst n e bb (k + 1) = ((pst n e bb k).1, ((pst n e bb k).2 * (pst n e bb k).2).fmod n) := by rw [pst, pstep, if_neg hbit]
        have hp : ∀ t : Tok, some (Value.int (pst n e bb k).1 t) = some (Value.int (pst n e bb (k + 1)).1 t) := fun t => by rw [hst]
        refine hQb _ j (Nat.lt_succ_self _) fun P hP => hP (k + 1) _ _ _ _ _ (by omega) F8 N8 (hp _) (congrArg (fun z : Int × Int => some (Value.int z.2 _)) hst.symm) vt vpr' vex' vnm'
end Mine
end
section
open PySem PySem.Spec PySem.Calls PySem.W PyProof.Rows PyProof.Rows.LCg
set_option maxRecDepth 100000
namespace Mine
def markS : PySem.Str := PySem.Str.ofString "|!;~"
def markL : List Nat := [124, 33, 59, 126]
def mkc (i : Nat) : Nat := markL.getD i 0
theorem mark_item_n : ∀ i : Fin 4, Txt.item markS (i.val : Int) = one (mkc i.val) := by decide +kernel
theorem mark_item {i : Int} (h0 : 0 ≤ i) (h1 : i < 4) : Txt.item markS i = one (mkc i.toNat) := by
  have := mark_item_n ⟨i.toNat, by omega⟩
  rwa [show ((⟨i.toNat, by omega⟩ : Fin 4).val : Int) = i by simp; omega] at this
theorem mark_len : markS.length = 4 := by decide +kernel
section
variable {prog : Program} {w : World} {A : Around} {E : Value → Shared → Prop} {s : Shared} {t : Tok} {Q : Value → Shared → Prop}
theorem item_mark {value slice : PySem.Expr} {i : Int} {u : Tok} (h0 : 0 ≤ i) (h1 : i < 4) (h : ∀ t' k, Q (.str (one (mkc i.toNat)) t') { s with toks := k })
    (hs : subscripted slice false (.str markS t) (.int i u) = operate [.str markS t, .int i u] (getItem (.str markS t) (.int i u)) := by with_unfolding_all rfl)
    (ht : ∀ r, letTemporaryGo value (.str markS t) r = pure () := by intro _; with_unfolding_all rfl) :
    wpAny (model prog w) A (subscriptTail value slice (.str markS t) (.int i u)) Q E s :=
  ps_item (mark_item h0 h1) h0 (by rw [mark_len]; exact h1) (by rw [mark_len]; decide) h hs ht
theorem item_at {value slice : PySem.Expr} {l : Addr} {vs : List Value} {k : Int} {u : Tok} {v : Value} (hl : s.heap.IsList l vs.toArray) (h0 : 0 ≤ k) (h1 : k < 1000) (hx : vs[k.toNat]? = some v) (h : Q v s)
    (hs : subscripted slice false (.ref l) (.int k u) = operate [.ref l, .int k u] (getItem (.ref l) (.int k u)) := by with_unfolding_all rfl) :
    wpAny (model prog w) A (subscriptTail value slice (.ref l) (.int k u)) Q E s := by
  refine tail_any hl.typeIs slot_list_getitem.lookup ?_ hs
  exact wpAny_getItem_list hl h0 (Int.lt_trans h1 (by decide)) (by rw [List.getElem?_toArray]; exact hx) h
end
section
variable {prog : Program} {w : World} {A : Around} {E : Value → Shared → Prop} {s : Shared} {Q : Value → Shared → Prop}
theorem txt_self (x : PySem.Str) : x = txt x.cps.toList := by
  show x = ⟨x.cps.toList.toArray⟩
  rw [Array.toArray_toList]
theorem add_txt {x y : PySem.Str} {a b : List Nat} {t u : Tok} (hx : x = txt a) (hy : y = txt b) (h1 : a.length ≤ 500) (h2 : b.length ≤ 500) (h : ∀ t' k, Q (.str (txt (a ++ b)) t') { s with toks := k }) :
    wpAny (model prog w) A (binaryOp .Add (.str x t) (.str y u)) Q E s := by
  subst hx hy
  refine KXadd.add (K := 500) (L := 500) (by rw [txt_length]; exact h1) (by rw [txt_length]; exact h2) (by decide) fun t' k _ => ?_
  rw [txt_append]
  exact h t' k
theorem mul_one {c : Nat} {t u : Tok} (h : ∀ t' k, Q (.str (txt [c, c]) t') { s with toks := k }) :
    wpAny (model prog w) A (binaryOp .Mult (.str (one c) t) (.int 2 u)) Q E s := by
  refine KXi.mul (n := 1) rfl (by decide) (by decide) (by decide) fun t' k _ _ => ?_
  have e : Txt.mul (one c) 2 = txt [c, c] := by
    show (if (2:Int) < 1 then PySem.Str.empty else if ((2:Int) == 1 || (one c).length == 0) = true then one c else ⟨(List.replicate (2:Int).toNat (one c).cps).foldl (· ++ ·) #[]⟩) = _
    rfl
  rw [e]
  exact h t' k
/-- a number's digits -/
def dgs (n : Int) : List Nat := (Nat.toDigits 10 n.toNat).map Char.toNat
theorem dgs_txt {n : Int} (h0 : 0 ≤ n) : PySem.Str.ofString (toString n) = txt (dgs n) := by
  rw [txt_self (PySem.Str.ofString (toString n))]
  obtain ⟨m, rfl⟩ := Int.eq_ofNat_of_zero_le h0
  exact congrArg txt (KIN.signs_num m)
theorem dgs_len {n : Int} (h0 : 0 ≤ n) (h1 : n < 10 ^ 10) : (dgs n).length ≤ 10 := by
  have := KT.len_num h0 h1
  rw [dgs_txt h0, txt_length] at this
  exact this
theorem str_txt {n : Int} {t : Tok} (h0 : 0 ≤ n) (h1 : n < 800000) (h : ∀ t' k, Q (.str (txt (dgs n)) t') { s with toks := k }) : wpAny (model prog w) A (call (.type "str") [.int n t]) Q E s := by
  refine P.str_of_int ?_ ?_
  · have : n.natAbs.log2 < 20 := by
      rcases Nat.eq_zero_or_pos n.natAbs with e | e
      · rw [e]; decide
      · exact (Nat.log2_lt (by omega)).mpr (by omega)
    omega
  · have e : (Value.str (toString n) s.toks) = Value.str (txt (dgs n)) s.toks := congrArg (fun x => Value.str x s.toks) (dgs_txt h0)
    rw [e]
    exact h _ _
end
def dressS (i : Nat) : PySem.Str := if i = 0 then PySem.Str.ofString "" else if i = 1 then PySem.Str.ofString "1" else PySem.Str.ofString "h"
def dressL (i : Nat) : List Nat := if i = 0 then [] else if i = 1 then [49] else [104]
theorem dress_txt : ∀ i : Nat, dressS i = txt (dressL i) := fun i => by
  unfold dressS dressL
  split
  · decide +kernel
  split
  · decide +kernel
  · decide +kernel
end Mine
end
section
open PySem PySem.Spec PySem.Calls PySem.W PyProof.Rows PyProof.Rows.LCg
set_option maxRecDepth 100000
namespace Mine
theorem txt_getD (l : List Nat) (v : Nat) : (txt l).cps.getD v 0 = l.getD v 0 := by
  show l.toArray.getD v 0 = _
  simp [Array.getD, List.getD_eq_getElem?_getD]
  split
  · rename_i h; simp [h]
  · rename_i h; simp [Nat.le_of_not_lt h]
theorem from_nat {n i : Nat} (h : i ≤ n) : fromIndex n (i : Int) = i := by
  unfold fromIndex
  split <;> omega
theorem find3_at {p q : List Nat} {c i : Nat} (hi : i ≤ p.length) (hp : ∀ v, i ≤ v → v < p.length → p.getD v 0 ≠ c) : Txt.find3 (txt (p ++ c :: q)) (one c) (i : Int) = (p.length : Int) := by
  have hn : (txt (p ++ c :: q)).length = p.length + (q.length + 1) := by rw [txt_length]; simp
  have hf : fromIndex (txt (p ++ c :: q)).length (i : Int) = i := from_nat (by omega)
  have hc : (p ++ c :: q).getD p.length 0 = c := by simp [List.getD_eq_getElem?_getD]
  have hq : ∀ v, v < p.length → (p ++ c :: q).getD v 0 = p.getD v 0 := fun v hv => by rw [List.getD_eq_getElem?_getD, List.getD_eq_getElem?_getD, List.getElem?_append_left hv]
  rcases StrLaws.find3_spec (txt (p ++ c :: q)) c (i : Int) with ⟨_, h⟩ | ⟨k, e, h1, h2, h3, h4⟩
  · rw [hf] at h
    exact absurd ((txt_getD _ _).trans hc) (h p.length hi (by omega))
  · refine e.trans ?_
    rw [hf] at h1 h4
    rw [txt_getD] at h3
    rcases Nat.lt_trichotomy k p.length with g | g | g
    · rw [hq k g] at h3
      exact absurd h3 (hp k h1 g)
    · rw [g]
    · exact absurd ((txt_getD _ _).trans hc) (h4 p.length hi g)
theorem find3_no {l : List Nat} {c i : Nat} (hi : i ≤ l.length) (h : ∀ v, i ≤ v → v < l.length → l.getD v 0 ≠ c) : Txt.find3 (txt l) (one c) (i : Int) = -1 := by
  have hf : fromIndex (txt l).length (i : Int) = i := from_nat (by rw [txt_length]; exact hi)
  rcases StrLaws.find3_spec (txt l) c (i : Int) with ⟨e, _⟩ | ⟨k, e, h1, h2, h3, h4⟩
  · exact e
  · rw [hf] at h1
    rw [txt_getD] at h3
    rw [txt_length] at h2
    exact absurd h3 (h k h1 h2)
theorem find_find3 (x y : PySem.Str) : Txt.find x y = Txt.find3 x y 0 := by
  unfold Txt.find Txt.find3
  have : fromIndex x.length 0 = 0 := from_nat (n := x.length) (i := 0) (Nat.zero_le _)
  rw [this]
  cases Builtin.Str.occurrences x y 0 x.length 1 <;> rfl
end Mine
end
section
open PySem PySem.Spec PySem.Calls PySem.W PyProof.Rows PyProof.Rows.LCg
set_option maxRecDepth 100000
namespace Mine
/-- pieces, put together with a sign between them -/
def J (c : Nat) : List (List Nat) → List Nat
  | [] => []
  | [p] => p
  | p :: q :: r => p ++ c :: J c (q :: r)
theorem cut_one {c : Nat} : ∀ {p q r s : List Nat}, c ∉ p → c ∉ q → p ++ c :: r = q ++ c :: s → p = q ∧ r = s
  | [], [], r, s, _, _, e => ⟨rfl, by simpa using e⟩
  | [], x :: q, r, s, _, h2, e => by
    simp at e; exact absurd (e.1 ▸ List.mem_cons_self) h2
  | x :: p, [], r, s, h1, _, e => by
    simp at e; exact absurd (e.1 ▸ List.mem_cons_self) h1
  | x :: p, y :: q, r, s, h1, h2, e => by
    simp only [List.cons_append, List.cons.injEq] at e
    have ih := cut_one (fun h => h1 (.tail _ h)) (fun h => h2 (.tail _ h)) e.2
    exact ⟨by rw [e.1, ih.1], ih.2⟩
theorem J_uniq {c : Nat} : ∀ {ps qs : List (List Nat)}, ps ≠ [] → qs ≠ [] → (∀ p ∈ ps, c ∉ p) → (∀ q ∈ qs, c ∉ q) → J c ps = J c qs → ps = qs
  | [], _, h, _, _, _, _ => absurd rfl h
  | _ :: _, [], _, h, _, _, _ => absurd rfl h
  | [p], [q], _, _, _, _, e => by rw [show p = q from e]
  | [p], q :: q' :: r, _, _, hp, _, e => by
    have e' : p = q ++ c :: J c (q' :: r) := e
    exact absurd (e' ▸ List.mem_append_right _ (.head _)) (hp p (.head _))
  | p :: p' :: r, [q], _, _, _, hq, e => by
    have e' : p ++ c :: J c (p' :: r) = q := e
    exact absurd (e' ▸ List.mem_append_right _ (.head _)) (hq q (.head _))
  | p :: p' :: r, q :: q' :: r', _, _, hp, hq, e => by
    have e' : p ++ c :: J c (p' :: r) = q ++ c :: J c (q' :: r') := e
    have k := cut_one (hp p (.head _)) (hq q (.head _)) e'
    have ih := J_uniq (ps := p' :: r) (qs := q' :: r') (by simp) (by simp) (fun x hx => hp x (.tail _ hx)) (fun x hx => hq x (.tail _ hx)) k.2
    rw [k.1, ih]
theorem J_join (c : Nat) : ∀ ps : List PySem.Str, (PySem.Str.join (one c) ps) = txt (J c (ps.map (·.cps.toList)))
  | [] => rfl
  | [p] => by
    show PySem.Str.join (one c) [p] = txt p.cps.toList
    rw [← txt_self]; rfl
  | p :: q :: r => by
    have ih := J_join c (q :: r)
    have e : PySem.Str.join (one c) (p :: q :: r) = p ++ one c ++ PySem.Str.join (one c) (q :: r) := rfl
    rw [e, ih]
    show p ++ one c ++ txt _ = txt (p.cps.toList ++ c :: J c ((q :: r).map (·.cps.toList)))
    rw [txt_self p, show one c = txt [c] from rfl, txt_append, txt_append]
    simp [txt]
theorem split_txt {c : Nat} {ps : List (List Nat)} (hne : J c ps ≠ []) (h0 : ps ≠ []) (hp : ∀ p ∈ ps, c ∉ p) : Txt.split (txt (J c ps)) (one c) = ps.map txt := by
  have h1 := StrLaws.join_split (txt (J c ps)) (one c)
  have h2 := StrLaws.split_free (txt (J c ps)) c
  rw [J_join] at h1
  have h3 : J c ((Txt.split (txt (J c ps)) (one c)).map (·.cps.toList)) = J c ps := by
    have := congrArg (fun x : PySem.Str => x.cps.toList) h1
    simpa [txt] using this
  have h4 : (Txt.split (txt (J c ps)) (one c)).map (·.cps.toList) = ps := by
    refine J_uniq ?_ h0 ?_ hp h3
    · intro e; rw [e] at h3; exact hne h3.symm
    · intro q hq
      obtain ⟨z, hz, rfl⟩ := List.mem_map.mp hq
      exact h2 z hz
  conv => rhs; rw [← h4, List.map_map]
  conv => lhs; rw [← List.map_id (Txt.split (txt (J c ps)) (one c))]
  exact List.map_congr_left fun z _ => txt_self z
theorem slice_to3 (a b d : Nat) (l : List Nat) : Txt.slice (txt (a :: b :: d :: l)) none (some 3) = txt [a, b, d] := by
  have h := slice_closes_toL (x := txt (a :: b :: d :: l)) (j := 3) (by decide) (by rw [txt_length]; simp only [List.length_cons]; omega)
  rw [eq_of_beq h]
  rfl
theorem slice_mid (p q r : List Nat) {i j : Int} (hi : i = p.length) (hj : j = p.length + q.length) : Txt.slice (txt (p ++ q ++ r)) (some i) (some j) = txt q := by
  have h := slice_closesL (x := txt (p ++ q ++ r)) (i := i) (j := j) (by omega) (by omega) (by rw [txt_length]; simp only [List.length_append]; omega)
  rw [eq_of_beq h]
  show txt (((p ++ q ++ r).toArray.toList.drop i.toNat).take (j - i).toNat) = txt q
  rw [hi, hj, show ((p.length : Int)).toNat = p.length from rfl, show ((p.length : Int) + q.length - p.length).toNat = q.length by omega, List.append_assoc]
  simp
theorem item_txt (p r : List Nat) (c : Nat) {i : Int} (hi : i = p.length) : Txt.item (txt (p ++ c :: r)) i = one c := by
  have h := item_meets (x := txt (p ++ c :: r)) (i := i) ⟨by omega, by rw [txt_length]; simp only [List.length_append, List.length_cons]; omega⟩
  rw [h, hi]
  show (⟨#[(txt (p ++ c :: r)).cps.getD p.length 0]⟩ : PySem.Str) = one c
  rw [txt_getD]
  simp [one, List.getD_eq_getElem?_getD]
end Mine
end
section
open PySem PySem.Spec PySem.Calls PySem.W PyProof.Rows PyProof.Rows.LCg
set_option maxRecDepth 100000
namespace Mine
abbrev Wt (c : Nat) (dl dg : List Nat) : List Nat := [c] ++ dl ++ [c, c] ++ dg ++ [c]
def NoB (l : List Nat) : Prop := ∀ e ∈ l, e ≠ 40 ∧ e ≠ 41
theorem NoB_getD {l : List Nat} (h : NoB l) {v : Nat} (hv : v < l.length) : l.getD v 0 ≠ 40 ∧ l.getD v 0 ≠ 41 := by
  rw [List.getD_eq_getElem?_getD, List.getElem?_eq_getElem hv]
  exact h _ (List.getElem_mem hv)
theorem NoB_W {c : Nat} {dl dg : List Nat} (hc : c ≠ 40 ∧ c ≠ 41) (hl : NoB dl) (hg : NoB dg) : NoB (Wt c dl dg) := by
  intro e he
  simp only [Wt, List.mem_append, List.mem_cons, List.not_mem_nil, or_false] at he
  rcases he with (((rfl | h) | (rfl | rfl)) | h) | rfl
  · exact hc
  · exact hl e h
  · exact hc
  · exact hc
  · exact hg e h
  · exact hc
theorem op_one : PySem.Str.ofString "(" = one 40 := by decide +kernel
theorem cl_one : PySem.Str.ofString ")" = one 41 := by decide +kernel
theorem t227 : PySem.Str.ofString "227" = txt [50, 50, 55] := by decide +kernel
theorem t229 : PySem.Str.ofString "229" = txt [50, 50, 57] := by decide +kernel
theorem bad0 (l k : List Nat) : Bad (txt ([50, 50, 55, 32, 40] ++ l ++ k)) (PySem.Str.ofString "reply") := .inl ⟨(slice_to3 50 50 55 _).trans t227.symm, rfl⟩
theorem bad2 : Bad (PySem.Str.ofString "229 272)") (PySem.Str.ofString "proto") := .inr (.inl ⟨by decide +kernel, by decide +kernel, rfl⟩)
theorem bad1 {c : Nat} {dl dg : List Nat} (h : NoB (Wt c dl dg)) : Bad (txt ([50, 50, 57, 32] ++ Wt c dl dg ++ [41])) (PySem.Str.ofString "proto") := by
  refine .inr (.inl ⟨(slice_to3 50 50 57 _).trans t229.symm, ?_, rfl⟩)
  rw [find_find3, op_one]
  refine find3_no (i := 0) (Nat.zero_le _) fun v _ hv => ?_
  generalize Wt c dl dg = l at h hv ⊢
  have hm : ∀ e ∈ [50, 50, 57, 32] ++ l ++ [41], e ≠ 40 := by
    intro e he
    simp only [List.mem_append, List.mem_cons, List.not_mem_nil, or_false] at he
    rcases he with ((rfl | rfl | rfl | rfl) | he) | rfl
    all_goals first | decide | exact (h e he).1
  rw [List.getD_eq_getElem?_getD, List.getElem?_eq_getElem hv]
  exact hm _ (List.getElem_mem hv)
theorem bad3 {c : Nat} {dl dg : List Nat} (hc : c ≠ 40 ∧ c ≠ 41) (h : NoB (Wt c dl dg)) : Bad (txt ([50, 50, 57, 32, 40] ++ Wt c dl dg ++ [c])) (PySem.Str.ofString "proto") := by
  refine .inr (.inr ⟨(slice_to3 50 50 57 _).trans t229.symm, ?_, ?_, rfl⟩)
  · rw [find_find3, op_one]
    refine find3_at (p := [50, 50, 57, 32]) (i := 0) (Nat.zero_le _) fun v _ hv => ?_
    have : v = 0 ∨ v = 1 ∨ v = 2 ∨ v = 3 := by simp at hv; omega
    rcases this with rfl | rfl | rfl | rfl <;> decide
  · rw [cl_one]
    refine find3_no (i := 5) (by simp) fun v _ hv => ?_
    generalize Wt c dl dg = l at h hv ⊢
    have hm : ∀ e ∈ [50, 50, 57, 32, 40] ++ l ++ [c], e ≠ 41 := by
      intro e he
      simp only [List.mem_append, List.mem_cons, List.not_mem_nil, or_false] at he
      rcases he with ((rfl | rfl | rfl | rfl | rfl) | he) | rfl
      all_goals first | decide | exact (h e he).2 | exact hc.2
    rw [List.getD_eq_getElem?_getD, List.getElem?_eq_getElem hv]
    exact hm _ (List.getElem_mem hv)
abbrev Pt : List Nat := [50, 50, 57, 32, 69, 110, 116, 101, 114, 105, 110, 103, 32, 41, 32, 40]
theorem good_is {c : Nat} {dl : List Nat} {n : Int} (hc : c ≠ 40 ∧ c ≠ 41) (hl : NoB dl) (hg : NoB (dgs n)) (cl : c ∉ dl) (cg : c ∉ dgs n) (h0 : 0 ≤ n) (h1 : n < 800000) (ll : dl.length ≤ 1) :
    Good (txt (Pt ++ Wt c dl (dgs n) ++ [41, 32, 40, 97, 41])) (one c) (txt (Wt c dl (dgs n))) (txt []) (txt dl) (txt []) (txt (dgs n)) (txt []) (16 + ((Wt c dl (dgs n)).length : Int)) n := by
  have hlen := dgs_len h0 (Int.lt_trans h1 (by decide))
  have hW := NoB_W hc hl hg
  have hwl : (Wt c dl (dgs n)).length = dl.length + (dgs n).length + 4 := by simp only [Wt, List.length_append, List.length_cons, List.length_nil]; omega
  refine ⟨?_, ?_, ?_, ?_, ?_, ?_, ?_, ?_, ?_, ?_, rfl, ?_, ?_⟩
  · exact (slice_to3 50 50 57 _).trans t229.symm
  · rw [find_find3, op_one]
    refine find3_at (p := [50, 50, 57, 32, 69, 110, 116, 101, 114, 105, 110, 103, 32, 41, 32]) (i := 0) (Nat.zero_le _) fun v _ hv => ?_
    have : ∀ v : Fin 15, [50, 50, 57, 32, 69, 110, 116, 101, 114, 105, 110, 103, 32, 41, 32].getD v.val 0 ≠ 40 := by decide
    exact this ⟨v, hv⟩
  · rw [cl_one]
    have e := find3_at (p := Pt ++ Wt c dl (dgs n)) (q := [32, 40, 97, 41]) (c := 41) (i := 16) (by simp) fun v hi hv => ?_
    · refine e.trans ?_
      rw [List.length_append]
      show ((16 + (Wt c dl (dgs n)).length : Nat) : Int) = _
      omega
    · rw [List.getD_eq_getElem?_getD, List.getElem?_append_right hi, ← List.getD_eq_getElem?_getD]
      refine (NoB_getD hW ?_).2
      rw [List.length_append] at hv
      have : Pt.length = 16 := rfl
      omega
  · omega
  · rw [txt_length]
    simp only [List.length_append, List.length_cons, List.length_nil]
    omega
  · exact item_txt Pt _ c rfl
  · have e : Pt ++ Wt c dl (dgs n) ++ [41, 32, 40, 97, 41] = (Pt ++ ([c] ++ dl ++ [c, c] ++ dgs n)) ++ c :: [41, 32, 40, 97, 41] := by simp only [Wt, List.append_assoc, List.cons_append, List.nil_append]
    rw [e]
    refine item_txt _ _ c ?_
    simp only [List.length_append, List.length_cons, List.length_nil]
    omega
  · exact slice_mid Pt _ _ rfl rfl
  · rw [txt_length]; omega
  · have e : Wt c dl (dgs n) = J c [[], dl, [], dgs n, []] := by simp only [Wt, J, List.append_assoc, List.cons_append, List.nil_append]
    rw [e, split_txt (by simp [J]) (by simp) ?_]
    · rfl
    · intro p hp
      simp only [List.mem_cons, List.not_mem_nil, or_false] at hp
      rcases hp with rfl | rfl | rfl | rfl | rfl <;> first | assumption | simp
  · rw [← dgs_txt h0]
    exact KIN.num_reads h0 (Int.lt_trans h1 (by decide))
  · rw [txt_length]; omega
theorem W_len {c : Nat} {dl dg p q : List Nat} (h1 : dl.length ≤ 1) (h2 : dg.length ≤ 10) (hp : p.length ≤ 20) (hq : q.length ≤ 20) : (txt (p ++ Wt c dl dg ++ q)).length ≤ 1000 := by
  rw [txt_length]
  simp only [List.length_append, List.length_cons, List.length_nil]
  omega
/-- a turn's end that leaves an object of its own -/
theorem comp_obj {h₀ : Heap} {L l I C D : Addr} {m : PySem.Str → Option Value} {s₁ : Shared} {ob oI oC oD : Obj} {S : List (Addr × Obj) → Prop} {rest : Value → List (Addr × Obj) → Prop} {y : Value} {h' : Heap} {tk : Nat} {news : List (Addr × Obj)}
    (F : Fr h₀ L h' m) (N : News h₀ L h' ((l, ob) :: (I, oI) :: (C, oC) :: (D, oD) :: news)) (f : ∀ q ∈ (I, oI) :: (C, oC) :: (D, oD) :: news, @Ne Nat q.1 l) (off : LCg.Off3 I C D news) (hS : S ((l, ob) :: news)) (r : rest y ((l, ob) :: news)) :
    LCg.CompEnd h₀ L m s₁ I oI C oC D oD S rest y { s₁ with heap := h', toks := tk } := by
  refine LCg.CompEnd.intro F N ((l, ob) :: news) ?_ ⟨⟨(f _ (.head _)).symm, (f _ (.tail _ (.head _))).symm, (f _ (.tail _ (.tail _ (.head _)))).symm⟩, off⟩ hS r
  intro p hp
  rcases List.mem_cons.mp hp with rfl | hp
  · exact .tail _ (.head _)
  rcases List.mem_cons.mp hp with rfl | hp
  · exact .tail _ (.tail _ (.head _))
  rcases List.mem_cons.mp hp with rfl | hp
  · exact .tail _ (.tail _ (.tail _ (.head _)))
  rcases List.mem_cons.mp hp with rfl | hp
  · exact .head _
  · exact .tail _ (.tail _ (.tail _ (.tail _ hp)))
theorem dgs_range {n : Int} : ∀ c ∈ dgs n, 48 ≤ c ∧ c ≤ 57 := by
  intro c hc
  obtain ⟨ch, hch, e⟩ := List.mem_map.mp hc
  have r := digit_range (Nat.isDigit_of_mem_toDigits (by decide) (by decide) hch)
  rw [← e]
  exact r
end Mine
end
section
open PySem PySem.Spec PySem.Calls PySem.W PyProof.Rows PyProof.Rows.LCg
set_option maxRecDepth 100000
namespace Mine
/-- the objects that a comprehension's turns leave, the last one first -/
inductive Objs (R : Nat → Obj → Prop) (Z0 : List (Addr × Obj)) : Nat → List Value → List (Addr × Obj) → Prop
  | nil : Objs R Z0 0 [] Z0
  | snoc {n : Nat} {ys : List Value} {Z : List (Addr × Obj)} {l : Addr} {o : Obj} : Objs R Z0 n ys Z → R n o → Objs R Z0 (n + 1) (ys ++ [.ref l]) ((l, o) :: Z)
theorem Objs.four {R : Nat → Obj → Prop} {Z0 Z : List (Addr × Obj)} {ys : List Value} (h : Objs R Z0 4 ys Z) : ∃ (l0 l1 l2 l3 : Addr) (o0 o1 o2 o3 : Obj), ys = [.ref l0, .ref l1, .ref l2, .ref l3] ∧ Z = (l3, o3) :: (l2, o2) :: (l1, o1) :: (l0, o0) :: Z0 ∧ R 0 o0 ∧ R 1 o1 ∧ R 2 o2 ∧ R 3 o3 := by
  cases h with
  | snoc h r3 => cases h with
    | snoc h r2 => cases h with
      | snoc h r1 => cases h with
        | snoc h r0 => cases h; exact ⟨_, _, _, _, _, _, _, _, rfl, rfl, r0, r1, r2, r3⟩
section
variable {prog : Program} {w : World} {A : Around} {h₀ : Heap} {L : Addr} {m : PySem.Str → Option Value} {env : Env} {elt : PySem.Expr} {x : PySem.Str} {scope : Scope} {cl : List (PySem.Str × Addr)} {s : Shared} {S : List (Addr × Obj) → Prop} {P : Nat → Value → Prop} {Fin : List Value → List (Addr × Obj) → Prop}
/-- a comprehension whose turns leave an object each -/
theorem comp_objs {n : Nat} (R : Nat → Obj → Prop) (K Z0 : List (Addr × Obj))
    (turn : ∀ i v I oI C oC D m₂ ys h tk Z (E' : Value → Shared → Prop), i < n → P i v → NsObj oC m₂ → m₂ x = some v → Fr h₀ L h m → News h₀ L h ((I, oI) :: (C, oC) :: (D, lst ys) :: (K ++ Z)) → Off3 I C D (K ++ Z) → ((@Ne Nat I C) ∧ (@Ne Nat I D) ∧ (@Ne Nat C D)) →
      wpAny (model prog w) A (eval elt (compEnvC scope cl C env)) (CompEnd h₀ L m { s with heap := h, toks := tk } I oI C oC D (lst ys) S (fun y news' => ∃ l o, y = .ref l ∧ R i o ∧ news' = K ++ ((l, o) :: Z))) E' { s with heap := h, toks := tk })
    (fin : ∀ ys Z, Objs R Z0 n ys Z → Fin ys (K ++ Z)) : CompRest prog w A h₀ L m env elt x scope cl s S P Fin n 0 [] (K ++ Z0) := by
  have key : ∀ (j i : Nat) (ys : List Value) (Z : List (Addr × Obj)), i + j = n → Objs R Z0 i ys Z → CompRest prog w A h₀ L m env elt x scope cl s S P Fin j i ys (K ++ Z) := by
    intro j
    induction j with
    | zero =>
      intro i ys Z hi hO
      obtain rfl : i = n := by omega
      exact CompRest.zero (fin ys Z hO)
    | succ j ih =>
      intro i ys Z hi hO
      refine CompRest.succ ?_
      intro v I oI C oC D m₂ h tk E' hv hC hx F N off ne
      refine wpAny_mono (turn i v I oI C oC D m₂ ys h tk Z E' (by omega) hv hC hx F N off ne) (fun y s₂ hq => ?_) fun _ _ e => e
      obtain ⟨h', tk', nw, e, F', N', off', hS, l, o, rfl, hR, rfl⟩ := hq
      exact ⟨h', tk', _, e, F', N', off', hS, ih (i + 1) _ _ (by omega) (.snoc hO hR)⟩
  exact key n 0 [] Z0 (by omega) .nil
/-- for four turns that leave a pair of texts each -/
theorem comp_objs4 {n : Nat} {f g : Nat → PySem.Str} (hn : n = 4) (K Z0 : List (Addr × Obj))
    (turn : ∀ i v I oI C oC D m₂ ys h tk Z (E' : Value → Shared → Prop), i < n → P i v → NsObj oC m₂ → m₂ x = some v → Fr h₀ L h m → News h₀ L h ((I, oI) :: (C, oC) :: (D, lst ys) :: (K ++ Z)) → Off3 I C D (K ++ Z) → ((@Ne Nat I C) ∧ (@Ne Nat I D) ∧ (@Ne Nat C D)) →
      wpAny (model prog w) A (eval elt (compEnvC scope cl C env)) (CompEnd h₀ L m { s with heap := h, toks := tk } I oI C oC D (lst ys) S (fun y news' => ∃ l o, y = .ref l ∧ (∃ u1 u2, o = listOf #[.str (f i) u1, .str (g i) u2] 0) ∧ news' = K ++ ((l, o) :: Z))) E' { s with heap := h, toks := tk })
    (fin : ∀ (l0 l1 l2 l3 : Addr) (a0 c0 a1 c1 a2 c2 a3 c3 : Tok), Fin [.ref l0, .ref l1, .ref l2, .ref l3] (K ++ ((l3, listOf #[.str (f 3) a3, .str (g 3) c3] 0) :: (l2, listOf #[.str (f 2) a2, .str (g 2) c2] 0) :: (l1, listOf #[.str (f 1) a1, .str (g 1) c1] 0) :: (l0, listOf #[.str (f 0) a0, .str (g 0) c0] 0) :: Z0))) : CompRest prog w A h₀ L m env elt x scope cl s S P Fin n 0 [] (K ++ Z0) := by
  subst hn
  refine comp_objs (fun i o => ∃ u1 u2, o = listOf #[.str (f i) u1, .str (g i) u2] 0) K Z0 turn fun ys Z hO => ?_
  obtain ⟨l0, l1, l2, l3, o0, o1, o2, o3, rfl, rfl, ⟨a0, c0, rfl⟩, ⟨a1, c1, rfl⟩, ⟨a2, c2, rfl⟩, ⟨a3, c3, rfl⟩⟩ := hO.four
  exact fin _ _ _ _ _ _ _ _ _ _ _ _
/-- the end of such a turn -/
theorem comp_obj2 {s₁ : Shared} {I C D l : Addr} {oI oC oD ob : Obj} {k1 k2 : Addr × Obj} {Z : List (Addr × Obj)} {R : Obj → Prop} {h' : Heap} {tk : Nat}
    (F : Fr h₀ L h' m) (N : News h₀ L h' ((l, ob) :: (I, oI) :: (C, oC) :: (D, oD) :: k1 :: k2 :: Z)) (f : @Ne Nat I l ∧ @Ne Nat C l ∧ @Ne Nat D l) (off : Off3 I C D (k1 :: k2 :: Z)) (hS : S (k1 :: k2 :: (l, ob) :: Z)) (r : R ob) :
    CompEnd h₀ L m s₁ I oI C oC D oD S (fun y news' => ∃ l o, y = .ref l ∧ R o ∧ news' = [k1, k2] ++ ((l, o) :: Z)) (.ref l) { s₁ with heap := h', toks := tk } := by
  refine CompEnd.intro F N (k1 :: k2 :: (l, ob) :: Z) ?_ ⟨off.1, off.2.1, ⟨f.1.symm, f.2.1.symm, f.2.2.symm⟩, off.2.2⟩ hS ⟨l, ob, rfl, r, rfl⟩
  intro p hp
  simp only [List.mem_cons] at hp ⊢
  rcases hp with h | h | h | h | h | h | h
  · exact .inr (.inl h)
  · exact .inr (.inr (.inl h))
  · exact .inr (.inr (.inr (.inl h)))
  · exact .inr (.inr (.inr (.inr (.inl h))))
  · exact .inr (.inr (.inr (.inr (.inr (.inl h)))))
  · exact .inl h
  · exact .inr (.inr (.inr (.inr (.inr (.inr h)))))
end
end Mine
end
section
open PySem PySem.Spec PySem.Calls PySem.W PyProof.Rows
set_option maxRecDepth 100000
set_option rowWalk.seconds 0
namespace Mine
def loopBody : Stmt → List Stmt
  | .For _ _ b _ _ => b
  | _ => []
def knd (i : Nat) : PySem.Str := if i = 0 then PySem.Str.ofString "reply" else PySem.Str.ofString "proto"
def rr4 (r0 r1 r2 r3 : PySem.Str) (i : Nat) : PySem.Str := if i = 0 then r0 else if i = 1 then r1 else if i = 2 then r2 else r3
theorem rr_get (r0 r1 r2 r3 : PySem.Str) (t0 t1 t2 t3 : Tok) {i : Nat} (hi : i < 4) : ∃ t, [Value.str r0 t0, Value.str r1 t1, Value.str r2 t2, Value.str r3 t3][((i : Int)).toNat]? = some (.str (rr4 r0 r1 r2 r3 i) t) := by
  rcases (show i = 0 ∨ i = 1 ∨ i = 2 ∨ i = 3 by omega) with rfl | rfl | rfl | rfl
  · exact ⟨_, rfl⟩
  · exact ⟨_, rfl⟩
  · exact ⟨_, rfl⟩
  · exact ⟨_, rfl⟩
theorem knd_ok (i : Nat) : PyData.strOk (knd i) = true := by
  unfold knd
  split <;> decide +kernel
theorem txt_ok {l : List Nat} (h : ∀ c ∈ l, c < 1114112) : PyData.strOk (txt l) = true := by
  show l.toArray.all (fun c => decide (c < 1114112)) = true
  rw [List.all_toArray]
  exact List.all_eq_true.mpr fun c hc => decide_eq_true (h c hc)
theorem shaped4 {a b c d e f g h : PySem.Str} (ha : PyData.strOk a = true) (hb : PyData.strOk b = true) (hc : PyData.strOk c = true) (hd : PyData.strOk d = true) (he : PyData.strOk e = true) (hf : PyData.strOk f = true) (hg : PyData.strOk g = true) (hh : PyData.strOk h = true) : SeqAt.shaped (PyData.list [.list [.str a, .str b], .list [.str c, .str d], .list [.str e, .str f], .list [.str g, .str h]]) = true := by simp [SeqAt.shaped, PyData.canLay0, PyData.canLayAll0, PyData.depth, PyData.depthAll, ha, hb, hc, hd, he, hf, hg, hh]
theorem eqv4 (a b c d e f g h : PySem.Str) : PyData.eqv (PyData.list [.list [.str a, .str b], .list [.str c, .str d], .list [.str e, .str f], .list [.str g, .str h]]) (PyData.list [.list [.str a, .str b], .list [.str c, .str d], .list [.str e, .str f], .list [.str g, .str h]]) = true := by simp [PyData.eqv, PyData.eqvAll]
def stm3 (i j k : Nat) : Stmt := (loopBody (stm2 i j)).getD k (.Pass ⟨0,0,0,0⟩)
local macro_rules | `(tactic| walk_at "eval Name") => `(tactic| (k_here; k_dflt (refine' nameLA ?F ?v ?_; (case F => k_asm); (case v => first | exact rfl | assumption); k_whole)))
local macro_rules | `(tactic| walk_at "CompSrc") => `(tactic| (refine hold_of ?_))
local macro_rules | `(tactic| walk_at "subscriptTail Name Name ref int") => `(tactic| (refine hold_of ?_))
local macro_rules | `(tactic| walk_at "CompRest") => `(tactic| (refine hold_of ?_))
local macro_rules | `(tactic| walk_at "CompEnd") => `(tactic| (refine hold_of ?_))
local macro_rules | `(tactic| k_all) => `(tactic| first | assumption | exact ktn_ltOf (by assumption))
local macro_rules | `(tactic| k_ne) => `(tactic| ((try dsimp only); first | assumption | (refine Ne.symm ?_; assumption) | (refine neN ?_; omega)))
local macro_rules | `(tactic| walk_at "call ref") => `(tactic| ((with_reducible show wpAny _ _ (call (Value.ref 123) _) _ _ _); refine hold_of ?_))
set_option maxHeartbeats 1000000 in
theorem law_G3 {w : World} {s : Shared} {base G : Heap} {p : Program} {loose : List Str} {mean : ExcName → Option Value} {mg mb : Str → Option Value}
   {e3 : PySem.Expr} {b3 f3 : List Stmt} {p3 : Pos} (h3 : stm3 20 19 3 = .If e3 b3 f3 p3) {name bind : Str} {params : Arguments} {body : List Stmt} {scope : Scope} {pos : Pos} (hK0 : stm 20 = .FunctionDef name params body [] none [] scope none bind pos) {L : Nat} {fa : Addr} {cd : Value}
    {m : Str → Option Value} {Q : Flow → Shared → Prop} {E : Value → Shared → Prop} {od : Nat} {q9 : Obj} {r0 r1 r2 r3 : PySem.Str} {t0 t1 t2 t3 : Tok} {rest0 : List (Addr × Obj)}
    (B : Below callerA base [] G) (X : (pre.heap_1_39 w.params).In G) (T : Top p loose mean mg mb G) (F : Fr G L s.heap m) (XB : (pre.heap_1_39 w.params).In base) (TB : Top p loose mean mg mb base)
    (N : News G L s.heap ((od, listOf #[.str r0 t0, .str r1 t1, .str r2 t2, .str r3 t3] 0) :: (L+1+1+1+1+1+1+1+1+1, q9) :: rest0)) (d9 : q9.data = .cell (some (.ref od)))
    (B0 : Bad r0 (PySem.Str.ofString "reply")) (B1 : Bad r1 (PySem.Str.ofString "proto")) (B2 : Bad r2 (PySem.Str.ofString "proto")) (B3 : Bad r3 (PySem.Str.ofString "proto"))
    (n0 : r0.length ≤ 1000) (n1 : r1.length ≤ 1000) (n2 : r2.length ≤ 1000) (n3 : r3.length ≤ 1000) (S0 : PyData.strOk r0 = true) (S1 : PyData.strOk r1 = true) (S2 : PyData.strOk r2 = true) (S3 : PyData.strOk r3 = true)
    (hQ : ∀ (h' : Heap) (tk : Nat), Fr G L h' m → News G L h' ((od, listOf #[.str r0 t0, .str r1 t1, .str r2 t2, .str r3 t3] 0) :: (L+1+1+1+1+1+1+1+1+1, q9) :: rest0) → Q .next { s with heap := h', toks := tk }) :
    wpAny (model PySem.Challenge.rw_ta0029_01.row.prog w) (callerA.deeper (envOfC (PySem.Str.ofString "law") scope L fa cd)) (exec (.If e3 b3 f3 p3) (envOfC (PySem.Str.ofString "law") scope L fa cd)) Q E s := by
  cases h3
  cases hK0
  revert X; k_fill; intro X
  have K0 := B
  w_top on
  have hr : ∀ i v, i < 4 → #[Value.str r0 t0, .str r1 t1, .str r2 t2, .str r3 t3][i]? = some v → (∃ t, v = .str (rr4 r0 r1 r2 r3 i) t) ∧ (rr4 r0 r1 r2 r3 i).length ≤ 1000 ∧ Bad (rr4 r0 r1 r2 r3 i) (knd i) := by
    intro i v hi hv
    rcases (show i = 0 ∨ i = 1 ∨ i = 2 ∨ i = 3 by omega) with rfl | rfl | rfl | rfl <;> cases hv
    · exact ⟨⟨_, rfl⟩, n0, B0⟩
    · exact ⟨⟨_, rfl⟩, n1, B1⟩
    · exact ⟨⟨_, rfl⟩, n2, B2⟩
    · exact ⟨⟨_, rfl⟩, n3, B3⟩
  have hr' := Keep.mk hr
  clear hr B0 B1 B2 B3 n0 n1 n2 n3
  k_steps
  rename Fr _ _ _ _ => F1
  rename News _ _ _ _ => N1
  refine LCg.CompSrc.ledger rfl F1 N1 (.head _) (Nat.le_of_ble_eq_true rfl) ?_
  intro g
  clear F1 N1
  refine comp_objs4 (f := knd) (g := rr4 r0 r1 r2 r3) rfl [(od, _), (_, q9)] _ ?turn ?fin
  case turn =>
    intro i v I oI C oC D m₂ ys h tk Z E' hi hv hC hx F2 N2 off ne
    obtain ⟨⟨tv, rfl⟩, hlen, hB⟩ := hr'.out i v hi hv
    dsimp only [List.cons_append, List.nil_append] at N2 off
    k_steps
    show wpAny _ _ _ _ _ _
    rename Fr _ _ _ _ => F1
    rename News _ _ _ _ => N1
    refine call_bad B F1 rfl rfl rfl rfl N1 X T XB TB hlen hB (by decide) (by decide) ?_
    intro h9 tk9 l u1 u2 F3 N3 f3
    k_steps
    exact comp_obj2 F3 N3 ⟨f3 _ (.head _), f3 _ (.tail _ (.head _)), f3 _ (.tail _ (.tail _ (.head _)))⟩ off (.inr ⟨_, .head _, rfl, _, rfl⟩) ⟨_, _, rfl⟩
  case fin =>
    intro l0 l1 l2 l3 a0 c0 a1 c1 a2 c2 a3 c3
    intro D h tk F2 N2 off
    dsimp only [List.cons_append, List.nil_append] at N2 off
    k_steps
    rename Fr _ _ _ _ => F1
    rename News _ _ _ _ => N1
    rename IsRange _ _ _ _ _ _ _ _ => hrg
    have N3 := News_app (News_take 2 (News_drop 1 N1)) (News_app (News_take 1 N1) (News_drop 3 N1))
    dsimp only [List.take, List.drop, List.cons_append, List.nil_append] at N3
    refine LCg.CompSrc.range (n := 4) rfl F1 N3 hrg rfl rfl (by decide) ?_
    intro g2
    clear F1 N1 N3 hrg
    refine comp_objs4 (f := knd) (g := rr4 r0 r1 r2 r3) rfl [(od, _), (_, q9)] _ ?turn2 ?fin2
    case turn2 =>
      rintro i v I oI C oC D2 m₂ ys h3 tk3 Z E' hi ⟨tv, rfl⟩ hC hx F2 N2 off2 ne2
      rw [show (0 : Int) + (i : Int) = i by omega] at hx
      dsimp only [List.cons_append, List.nil_append] at N2 off2
      clear off
      obtain ⟨tt, hit⟩ := rr_get r0 r1 r2 r3 t0 t1 t2 t3 hi
      k_steps
      · show wpAny _ _ _ _ _ _
        rename News _ _ _ _ => N1
        refine item_at (vs := [Value.str r0 t0, .str r1 t1, .str r2 t2, .str r3 t3]) (PySem.IsL.isList (N1.get (.tail _ (.tail _ (.tail _ (.head _)))))) (by omega) (by omega) hit ?_
        k_steps
        rename Fr _ _ _ _ => F3
        rename News _ _ _ _ => N3
        rename _ < _ ∧ _ ∧ _ => hl1
        have hk : knd i = PySem.Str.ofString "proto" := if_neg (by omega)
        exact comp_obj2 F3 N3 ⟨neN (by omega), neN (by omega), neN (by omega)⟩ off2 trivial (hk ▸ ⟨_, _, rfl⟩)
      · show wpAny _ _ _ _ _ _
        rename News _ _ _ _ => N1
        refine item_at (vs := [Value.str r0 t0, .str r1 t1, .str r2 t2, .str r3 t3]) (PySem.IsL.isList (N1.get (.tail _ (.tail _ (.tail _ (.head _)))))) (by omega) (by omega) hit ?_
        k_steps
        rename Fr _ _ _ _ => F3
        rename News _ _ _ _ => N3
        rename _ < _ ∧ _ ∧ _ => hl1
        have hk : knd i = PySem.Str.ofString "reply" := if_pos (by omega)
        exact comp_obj2 F3 N3 ⟨neN (by omega), neN (by omega), neN (by omega)⟩ off2 trivial (hk ▸ ⟨_, _, rfl⟩)
    case fin2 =>
      intro j0 j1 j2 j3 d0 e0 d1 e1 d2 e2 d3 e3
      intro D2 h3 tk3 F2 N2 off2
      dsimp only [List.cons_append, List.nil_append] at N2 off2
      clear hr'
      k_steps
      refine ne_dataH (by ked_read) (by ked_read) (shaped4 (knd_ok 0) S0 (knd_ok 1) S1 (knd_ok 2) S2 (knd_ok 3) S3) (shaped4 (knd_ok 0) S0 (knd_ok 1) S1 (knd_ok 2) S2 (knd_ok 3) S3) (by ke_room) ?_
      rw [eqv4]
      k_steps
      rename Fr _ _ _ _ => F8
      rename News _ _ _ _ => N8
      exact hQ _ _ F8 (News_app (News_take 2 (News_drop 1 N8)) (News_drop 12 N8))
end Mine
end
section
open PySem PySem.Spec PySem.Calls PySem.W PyProof.Rows
set_option maxRecDepth 100000
set_option rowWalk.seconds 0
namespace Mine
theorem lit1 : PySem.Str.ofString "227 (" = txt [50, 50, 55, 32, 40] := by decide +kernel
theorem lit2 : PySem.Str.ofString ")" = txt [41] := by decide +kernel
theorem lit3 : PySem.Str.ofString "229 " = txt [50, 50, 57, 32] := by decide +kernel
theorem lit4 : PySem.Str.ofString "229 (" = txt [50, 50, 57, 32, 40] := by decide +kernel
theorem lit5 : PySem.Str.ofString "229 Entering ) (" = txt [50, 50, 57, 32, 69, 110, 116, 101, 114, 105, 110, 103, 32, 41, 32, 40] := by decide +kernel
theorem lit6 : PySem.Str.ofString ") (a)" = txt [41, 32, 40, 97, 41] := by decide +kernel
theorem mark_new {mq : Nat} (h : mq < 4) (dn : Nat) (n : Int) : mkc mq ∉ dressL dn ∧ mkc mq ∉ dgs n := by
  have h1 : ∀ q : Fin 4, mkc q.val ≠ 49 ∧ mkc q.val ≠ 104 ∧ (mkc q.val < 48 ∨ 57 < mkc q.val) := by decide
  obtain ⟨a, b, c⟩ : mkc mq ≠ 49 ∧ mkc mq ≠ 104 ∧ (mkc mq < 48 ∨ 57 < mkc mq) := h1 ⟨mq, h⟩
  refine ⟨?_, fun hm => ?_⟩
  · unfold dressL
    split
    · simp
    split
    · simpa using a
    · simpa using b
  · have := dgs_range _ hm
    omega
theorem W_ok {c dn : Nat} {n : Int} {p q : List Nat} (hc : c < 128) (hp : ∀ e ∈ p, e < 128) (hq : ∀ e ∈ q, e < 128) : ∀ e ∈ p ++ Wt c (dressL dn) (dgs n) ++ q, e < 1114112 := by
  have hd : ∀ e ∈ dressL dn, e < 128 := by
    unfold dressL
    split
    · simp
    split
    · simp
    · simp
  have hg : ∀ e ∈ dgs n, e < 128 := fun e he => by have := dgs_range e he; omega
  intro e he
  simp only [Wt, List.mem_append, List.mem_cons, List.not_mem_nil, or_false] at he
  have : e < 128 := by
    rcases he with (h | (((h | h) | (h | h)) | h) | h) | h
    · exact hp e h
    · omega
    · exact hd e h
    · omega
    · omega
    · exact hg e h
    · omega
    · exact hq e h
  omega
theorem take_snoc {ts : List Int} {k : Nat} (h : k < ts.length) : ts.take (k + 1) = ts.take k ++ [ts.getD k 0] := by
  rw [List.take_add_one, List.getElem?_eq_getElem h, List.getD_eq_getElem?_getD, List.getElem?_eq_getElem h]
  rfl
theorem one_txt (c : Nat) : one c = txt [c] := rfl
local macro_rules | `(tactic| walk_at "eval Name") => `(tactic| (k_here; k_dflt (refine' nameLA ?F ?v ?_; (case F => k_asm); (case v => first | exact rfl | assumption); k_whole)))
local macro_rules | `(tactic| k_all) => `(tactic| first | assumption | exact ktn_ltOf (by assumption))
local macro_rules | `(tactic| k_ne) => `(tactic| ((try dsimp only); first | assumption | (refine Ne.symm ?_; assumption) | (refine neN ?_; omega)))
local macro_rules | `(tactic| walk_at "exec If") => `(tactic| ((with_reducible show wpAny _ _ (exec (Stmt.If (PySem.Expr.Compare _ _ _ _) _ _ _) _) _ _ _); refine hold_of ?_))
local macro_rules | `(tactic| walk_at "exec For") => `(tactic| (refine hold_of ?_))
local macro_rules | `(tactic| walk_at "exec For Name Call cons nil") => `(tactic| (refine hold_of ?_))
local macro_rules | `(tactic| walk_at "binaryOp Mod int int") => `(tactic| (k_here; refine mod_int' (by omega) ?_))
local macro_rules | `(tactic| walk_at "binaryOp FloorDiv int int") => `(tactic| (k_here; refine floordiv_int (by omega) ?_ (Or.inl (pyl (by omega) (by omega)))))
local macro_rules | `(tactic| walk_at "subscriptTail Name BinOp ref int") => `(tactic| (refine hold_of ?_))
local macro_rules | `(tactic| walk_at "subscriptTail") => `(tactic| ((with_reducible show wpAny _ _ (subscriptTail _ _ (Value.str _ _) (Value.int _ _)) _ _ _); refine hold_of ?_))
local macro_rules | `(tactic| walk_at "subscriptTail") => `(tactic| ((with_reducible show wpAny _ _ (subscriptTail _ _ (Value.ref _) (Value.int (Int.fmod _ _) _)) _ _ _); refine hold_of ?_))
local macro_rules | `(tactic| walk_at "binaryOp Add str str") => `(tactic| (k_here; refine add_txt (by with_reducible first | exact rfl | exact one_txt _ | exact lit1 | exact lit2 | exact lit3 | exact lit4 | exact lit5 | exact lit6) (by with_reducible first | exact rfl | exact one_txt _ | exact lit1 | exact lit2 | exact lit3 | exact lit4 | exact lit5 | exact lit6) (by (try simp only [List.length_append, List.length_cons, List.length_nil]); (try omega)) (by (try simp only [List.length_append, List.length_cons, List.length_nil]); (try omega)) ?_; intro _ _; (try dsimp only)))
local macro_rules | `(tactic| walk_at "call ref") => `(tactic| ((with_reducible show wpAny _ _ (call (Value.ref 123) _) _ _ _); refine hold_of ?_))
local macro_rules | `(tactic| walk_at "binaryOp Mult str int") => `(tactic| (k_here; refine mul_one ?_; intro _ _))
local macro_rules | `(tactic| walk_at "call type:str") => `(tactic| (refine hold_of ?_))
local macro_rules | `(tactic| walk_at "subscriptTail Name BinOp str int") => `(tactic| (refine hold_of ?_))
set_option maxHeartbeats 16000000 in
theorem law_G {w : World} {s : Shared} {base G : Heap} {p : Program} {loose : List Str} {mean : ExcName → Option Value} {mg mb : Str → Option Value}
    {t18 : List PySem.Expr} {e18 : PySem.Expr} {p18 : Pos} {t19 : PySem.Expr} {e19 : PySem.Expr} {b19 : List Stmt} {f19 : List Stmt} {p19 : Pos} {rest : List Stmt} (h18 : stm2 20 18 = .Assign t18 e18 p18) (h19 : stm2 20 19 = .For t19 e19 b19 f19 p19) {name bind : Str} {params : Arguments} {body : List Stmt} {scope : Scope} {pos : Pos} (hK0 : stm 20 = .FunctionDef name params body [] none [] scope none bind pos) {L : Nat} {fa : Addr} {cd : Value}
    {m : Str → Option Value} {Q : Flow → Shared → Prop} {E : Value → Shared → Prop} {tl cl ee : Nat} {o3 o9 : Obj} {c9 : Option Value} {us ys : List Value} {z0 z1 z2 z3 z4 : Int} {ts : List Int} {rest0 : List (Addr × Obj)} {vp vn : Value}
    (B : Below callerA base [] G) (X : (pre.heap_1_39 w.params).In G) (T : Top p loose mean mg mb G) (F : Fr G L s.heap m)
    (XB : (pre.heap_1_39 w.params).In base) (TB : Top p loose mean mg mb base) (N : News G L s.heap ((tl, listOf (List.toArray us) ee) :: (cl, LCg.lst ys) :: (L+1+1+1, o3) :: (L+1+1+1+1+1+1+1+1+1, o9) :: rest0)) (d3 : o3.data = .cell (some (.ref cl))) (d9 : o9.data = .cell c9) (hi : IntsAre ys [z0, z1, z2, z3, z4]) (ht : IntsAre us ts) (hl : ts.length = 4) (nc9 : L+1+1+1+1+1+1+1+1+1 ≠ cl) (h9 : ∀ q ∈ rest0, q.1 ≠ L+1+1+1+1+1+1+1+1+1) (hb : ∀ y ∈ ts, 0 ≤ y ∧ y < 800000) (tlt : AllLt tl ((cl, LCg.lst ys) :: (L+1+1+1, o3) :: (L+1+1+1+1+1+1+1+1+1, o9) :: rest0))
    (vtl : m (PySem.Str.ofString "told") = some (.ref tl)) (vpr : m (PySem.Str.ofString "pair") = some vp) (vnm : m (PySem.Str.ofString "name") = some vn)
    (hQ : ∀ (h' : Heap) (tk : Nat) (m' : Str → Option Value) (hl : Nat) (vs : List Value) (ee : Nat) (q9 : Obj), Fr G L h' m' → News G L h' ((hl, listOf (List.toArray vs) ee) :: (cl, LCg.lst ys) :: (L+1+1+1, o3) :: (L+1+1+1+1+1+1+1+1+1, q9) :: rest0) → IntsAre vs ts → @LT.lt Nat _ tl hl →
      m' (PySem.Str.ofString "heard") = some (.ref hl) → m' (PySem.Str.ofString "pair") = some vp → m' (PySem.Str.ofString "name") = some vn →
      wpAny (model PySem.Challenge.rw_ta0029_01.row.prog w) (callerA.deeper (envOfC (PySem.Str.ofString "law") scope L fa cd)) (execs rest (envOfC (PySem.Str.ofString "law") scope L fa cd)) Q E { s with heap := h', toks := tk }) :
    wpAny (model PySem.Challenge.rw_ta0029_01.row.prog w) (callerA.deeper (envOfC (PySem.Str.ofString "law") scope L fa cd)) (execs (.Assign t18 e18 p18 :: .For t19 e19 b19 f19 p19 :: rest) (envOfC (PySem.Str.ofString "law") scope L fa cd)) Q E s := by
  cases h18
  cases h19
  cases hK0
  revert X; k_fill; intro X
  have K0 := B
  w_top on
  k_steps
  show wpAny _ _ _ _ _ _
  refine For_hid ?_
  k_steps
  show wpAny _ _ _ _ _ _
  rename Fr _ _ _ _ => F1
  rename News _ _ _ _ => N1
  rename_i hL _ lh _ _ _ _ hz _ _ _ _ hr _
  refine wpAny_pyIter_range hr rfl ?_
  have F7 := F1.push (rangeIt 0 4)
  have N7 := N1.push F1 (rangeIt 0 4)
  have lC := allLt_of fun q hq => Heap.lt_size (N1 q hq).1
  simp only [AllLt] at lC lh tlt
  clear F1 N1
  dsimp only at F7 N7 lC ⊢
  generalize hz.objs.size = It at N7 lC ⊢
  clear hr
  have lC' := Keep.mk lC
  have lh' := Keep.mk lh
  have tlt' := Keep.mk tlt
  refine ⟨fun j s' => ∀ P : Shared → Prop, (∀ (k : Nat) (h : Heap) (tk : Nat) (m' : Str → Option Value) (ws : List Value) (e2 : Nat) (q9 : Obj) (c9 : Option Value), j + k = 4 → Fr G L h m' → News G L h ((It, rangeIt (k : Int) (j : Int)) :: (hL, listOf (List.toArray ws) e2) :: (tl, listOf (List.toArray us) ee) :: (cl, LCg.lst ys) :: (L+1+1+1, o3) :: (L+1+1+1+1+1+1+1+1+1, q9) :: rest0) → q9.data = .cell c9 → IntsAre ws (ts.take k) → m' (PySem.Str.ofString "heard") = some (.ref hL) → m' (PySem.Str.ofString "told") = some (.ref tl) → m' (PySem.Str.ofString "pair") = some vp → m' (PySem.Str.ofString "name") = some vn → P { s with heap := h, toks := tk }) → P s', 4, ?_, ?_⟩
  · exact fun P hP => hP 0 _ _ _ _ _ _ _ rfl F7 N7 d9 .nil rfl vtl vpr vnm
  clear F7 N7 vtl vpr vnm d9 lC lh tlt
  intro j s' hI Qa hQa _ _
  refine hI _ fun k h tk m' ws e2 q9 c9 hj F4 N4 d9 hws vh vt vp' vn' => ?_
  clear hI
  have zI := N4 _ (.head _)
  have hIt : ∀ q ∈ ((hL, listOf (List.toArray ws) e2) :: (tl, listOf (List.toArray us) ee) :: (cl, LCg.lst ys) :: (L+1+1+1, o3) :: (L+1+1+1+1+1+1+1+1+1, q9) :: rest0 : List (Addr × Obj)), q.1 ≠ It := by
    have lC := lC'.out
    exact List.forall_mem_cons.mpr ⟨neN (by dsimp only; omega), List.forall_mem_cons.mpr ⟨neN (by dsimp only; omega), List.forall_mem_cons.mpr ⟨neN (by dsimp only; omega), List.forall_mem_cons.mpr ⟨neN (by dsimp only; omega), List.forall_mem_cons.mpr ⟨neN (by dsimp only; omega), fun q hq => Nat.ne_of_lt (ktn_ltOf lC.2.2.2.2.2 q hq)⟩⟩⟩⟩⟩
  cases j with
  | zero =>
    refine wpAny_pyNext_range_end rfl (N4.get (.head _)) (Int.le_refl _) fun h6 hx => ?_
    have F5 := Fr_but F4 hx zI.2.1 zI.2.2
    have N5 := News_but N4 hx hIt
    clear F4 N4
    dsimp only
    k_steps
    rename Fr _ _ _ _ => F8
    rename News _ _ _ _ => N8
    rename IntsAre ws _ => hws'
    rw [show k = 4 by omega, List.take_of_length_le (by omega)] at hws'
    have N9 := News_app (News_take 1 N8) (News_drop 2 N8)
    exact hQ _ _ _ _ _ _ _ F8 N9 hws' lh'.out.1 vh vp' vn'
  | succ j =>
    refine wpAny_pyNext_range_item (N4.get (.head _)) (by omega) fun h6 hit hsb => ?_
    dsimp only
    refine wpAny_of_eq (a := ()) rfl ?_
    have F5 := F4.change hsb zI.2.1 zI.2.2
    have N5 := News_set1 N4 hsb hit hIt
    rw [show ((k : Int) + 1) = ((k + 1 : Nat) : Int) by omega, show (((j + 1 : Nat) : Int) - 1) = (j : Int) by omega] at N5
    clear F4 N4 hsb hit hIt
    k_steps
    show wpAny _ _ _ _ _ _
    refine item_mark (fm0 (by decide)) (fm1 (by decide)) ?_
    generalize ht' : (Int.fmod _ 4).toNat = mq
    have hmq : mq < 4 := by
      rw [← ht']
      have h0 := fm0 (x := [z0, z1, z2, z3, z4].getD (Int.toNat 4) 0 + (k : Int)) (k := 4) (by decide)
      have h1 := fm1 (x := [z0, z1, z2, z3, z4].getD (Int.toNat 4) 0 + (k : Int)) (k := 4) (by decide)
      omega
    clear ht'
    intro t2 tk2
    k_steps
    show wpAny _ _ _ _ _ _
    rename Fr _ _ _ _ => F1
    rename News _ _ _ _ => N1
    have h30 := fm0 (x := ([z0, z1, z2, z3, z4].getD (Int.toNat 4) 0).fdiv 4) (k := 3) (by decide)
    have h31 := fm1 (x := ([z0, z1, z2, z3, z4].getD (Int.toNat 4) 0).fdiv 4) (k := 3) (by decide)
    generalize Int.fmod (Int.fdiv _ 4) 3 = dq at h30 h31 ⊢
    have hdq : ∀ w1 w2 w3 : Tok, ∃ w4 : Tok, [Value.str (PySem.Str.ofString "") w1, Value.str (PySem.Str.ofString "1") w2, Value.str (PySem.Str.ofString "h") w3][dq.toNat]? = some (.str (dressS dq.toNat) w4) := by
      intro w1 w2 w3
      have : dq = 0 ∨ dq = 1 ∨ dq = 2 := by omega
      rcases this with rfl | rfl | rfl
      · exact ⟨w1, rfl⟩
      · exact ⟨w2, rfl⟩
      · exact ⟨w3, rfl⟩
    obtain ⟨w4, hx⟩ := hdq _ _ _
    refine item_at (PySem.IsL.isList (N1.get (.head _))) h30 (by omega) hx ?_
    clear hx hdq
    have N2 := News_drop 1 N1
    clear N1
    dsimp only [List.drop] at N2
    generalize hds : dressS dq.toNat = ds
    rw [dress_txt] at hds
    generalize hlen_ : dq.toNat = dn at hds
    subst hds
    have hdl : (dressL dn).length ≤ 1 := by unfold dressL; split; exact Nat.zero_le _; split <;> exact Nat.le_refl _
    have hk4 : (k : Int) < 4 := by omega
    dsimp only
    k_steps
    show wpAny _ _ _ _ _ _
    have hval : 0 ≤ ts.getD k 0 ∧ ts.getD k 0 < 800000 := hb _ (getD_mem (by omega))
    rw [Int.toNat_natCast]
    have htv : ∃ tv, tv = ts.getD k 0 := ⟨_, rfl⟩
    obtain ⟨tv, htv⟩ := htv
    rw [← htv] at hval ⊢
    refine str_txt hval.1 hval.2 ?_
    have hgl := dgs_len hval.1 (Int.lt_trans hval.2 (by decide))
    intro t3 tk3
    have hc : mkc mq ≠ 40 ∧ mkc mq ≠ 41 := by
      have : ∀ q : Fin 4, mkc q.val ≠ 40 ∧ mkc q.val ≠ 41 := by decide
      exact this ⟨mq, hmq⟩
    have hdb : NoB (dressL dn) := by
      unfold dressL
      split
      · exact fun _ h => nomatch h
      split
      · intro e he; rw [List.mem_singleton.mp he]; decide
      · intro e he; rw [List.mem_singleton.mp he]; decide
    have hgb : NoB (dgs tv) := fun e he => by have := dgs_range e he; omega
    have hW := NoB_W hc hdb hgb
    have hW' := Keep.mk hW
    have hc' := Keep.mk hc
    clear hW hc
    have lC := lC'.out
    have lh := lh'.out
    have tlt := tlt'.out
    k_steps
    show wpAny _ _ _ _ _ _
    rename Fr _ _ _ _ => F1
    rename News _ _ _ _ => N1
    have N3 := News_app (News_take 1 N1) (News_app (News_take 1 (News_drop 6 N1)) (News_app (News_take 5 (News_drop 1 N1)) (News_drop 7 N1)))
    dsimp only [List.take, List.drop, List.cons_append, List.nil_append] at N3
    have hcl : mkc mq < 128 := by
      have : ∀ q : Fin 4, mkc q.val < 128 := by decide
      exact this ⟨mq, hmq⟩
    clear N1
    refine law_G3 rfl rfl B X T F1 XB TB N3 (by assumption) (bad0 (Wt (mkc mq) (dressL dn) (dgs tv)) [41]) (bad1 hW'.out) bad2 (bad3 hc'.out hW'.out) (W_len (p := [50, 50, 55, 32, 40]) (q := [41]) (c := mkc mq) hdl hgl (by decide) (by decide)) (W_len (p := [50, 50, 57, 32]) (q := [41]) (c := mkc mq) hdl hgl (by decide) (by decide)) (by decide +kernel) (W_len (p := [50, 50, 57, 32, 40]) (q := [mkc mq]) (c := mkc mq) hdl hgl (by decide) (Nat.le_of_ble_eq_true rfl)) (txt_ok (W_ok (p := [50, 50, 55, 32, 40]) (q := [41]) hcl (by decide) (by decide))) (txt_ok (W_ok (p := [50, 50, 57, 32]) (q := [41]) hcl (by decide) (by decide))) (by decide +kernel) (txt_ok (W_ok (p := [50, 50, 57, 32, 40]) (q := [mkc mq]) hcl (by decide) (by intro e he; rw [List.mem_singleton.mp he]; omega))) ?_
    intro h7 tk7 F7 N7
    clear F1 N3
    k_steps
    show wpAny _ _ _ _ _ _
    rename Fr _ _ _ _ => F1
    rename News _ _ _ _ => N1
    have hcn := mark_new hmq dn tv
    refine call_good B F1 rfl rfl rfl rfl N1 X T XB TB (W_len (p := Pt) (q := [41, 32, 40, 97, 41]) (c := mkc mq) hdl hgl (by decide) (by decide)) (good_is hc'.out hdb hgb hcn.1 hcn.2 hval.1 hval.2 hdl) (by decide) (by decide) ?_
    intro h8 tk8 lr u1 u2 F2 N2 f2
    have hlr : @Ne Nat hL lr := f2 (hL, _) (.tail _ (.tail _ (.tail _ (.head _))))
    clear F1 N1
    dsimp only
    k_steps
    rotate_left
    · exfalso
      rename tv ≠ _ => hbad
      exact hbad htv
    rename Fr _ _ _ _ => F6
    rename News _ _ _ _ => N6
    rename IntsAre ws _ => hws'
    have hlen := hws'.length
    k_dflt (refine' append_K F6 N6 ?U ?_ ?z)
    case U => k_upd
    case z => rw [List.size_toArray, hlen, List.length_take]; exact Nat.le_trans (show min k ts.length ≤ 100 by omega) (by decide)
    intro h9 F9 N9
    clear F6 N6
    dsimp only
    k_steps
    rename Fr _ _ _ _ => F8
    rename News _ _ _ _ => N8
    rw [List.push_toArray] at N8
    have N10 := News_app (News_take 5 (News_drop 4 N8)) (News_app (News_take 1 (News_drop 3 N8)) (News_drop 9 N8))
    dsimp only [List.take, List.drop, List.cons_append, List.nil_append] at N10
    have hin : ∀ t : Tok, IntsAre (ws ++ [Value.int tv t]) (ts.take (k + 1)) := fun t => by
      rw [take_snoc (by omega), ← htv]
      exact ints_snoc hws' _ _
    exact hQa _ j (Nat.lt_succ_self _) fun P hP => hP (k + 1) _ _ _ _ _ _ _ (by omega) F8 N10 (by assumption) (hin _) vh vt vp' vn'
end Mine
end
section
open PySem PySem.Spec PySem.Calls PySem.W PyProof.Rows
set_option maxRecDepth 100000
set_option rowWalk.seconds 0
namespace Mine
local macro_rules | `(tactic| walk_at "eval Name") => `(tactic| (k_here; k_dflt (refine' nameLA ?F ?v ?_; (case F => k_asm); (case v => first | exact rfl | assumption); k_whole)))
local macro_rules | `(tactic| walk_at "call ref") => `(tactic| ((with_reducible show wpAny _ _ (call (Value.ref 137) _) _ _ _); refine hold_of ?_))
set_option maxHeartbeats 4000000 in
theorem law_H {w : World} {s : Shared} {base G : Heap} {p : Program} {loose : List Str} {mean : ExcName → Option Value} {mg mb : Str → Option Value}
    {t20 : List PySem.Expr} {e20 : PySem.Expr} {p20 : Pos} {e21 : PySem.Expr} {b21 : List Stmt} {f21 : List Stmt} {p21 : Pos} {rest : List Stmt} (h20 : stm2 20 20 = .Assign t20 e20 p20) (h21 : stm2 20 21 = .If e21 b21 f21 p21) {name bind : Str} {params : Arguments} {body : List Stmt} {scope : Scope} {pos : Pos} (hK0 : stm 20 = .FunctionDef name params body [] none [] scope none bind pos) {L : Nat} {fa : Addr} {cd : Value}
    {m : Str → Option Value} {Q : Flow → Shared → Prop} {E : Value → Shared → Prop} {hl pr c c2 ee : Nat} {k o k2 o2 o6 : Obj} {vs : List Value} {n e b0 b1 d mn mx x y : Int} {u1 u2 td : Tok} {rest0 : List (Addr × Obj)} {vn : Value}
    (B : Below callerA base [] G) (X : (pre.heap_1_39 w.params).In G) (T : Top p loose mean mg mb G) (F : Fr G L s.heap m)
    (N : News G L s.heap ((c, k) :: (30, o) :: (c2, k2) :: (37, o2) :: (132, tabObj #[]) :: (hl, listOf (List.toArray vs) ee) :: (pr, listOf #[.int x u1, .int y u2] 0) :: (L+1+1+1+1+1+1, o6) :: rest0)) (hTP : TP c k o c2 k2 o2) (O : OT c c2 ((132, tabObj #[]) :: (hl, listOf (List.toArray vs) ee) :: (pr, listOf #[.int x u1, .int y u2] 0) :: (L+1+1+1+1+1+1, o6) :: rest0)) (O132 : ∀ q ∈ ((hl, listOf (List.toArray vs) ee) :: (pr, listOf #[.int x u1, .int y u2] 0) :: (L+1+1+1+1+1+1, o6) :: rest0 : List (Addr × Obj)), @Ne Nat q.1 132) (C34 : CodeHd G 34 30) (C41 : CodeHd G 41 37) (C136 : CodeHd G 136 132)
    (d6 : o6.data = .cell (some (.int d td))) (hvs : IntsAre vs [n, e, b0, b1]) (n0 : 0 ≤ n ∧ n < 800000) (e0 : 0 ≤ e ∧ e < 800000) (hsec : secF n e (runL 60 (n, 1, 0) (e, 0, 1)) = some [d, mn, mx]) (hmn : (mn = x ∨ mn = y) ∧ mn ≤ x ∧ mn ≤ y) (hmx : (mx = x ∨ mx = y) ∧ x ≤ mx ∧ y ≤ mx)
    (vh : m (PySem.Str.ofString "heard") = some (.ref hl)) (vpr : m (PySem.Str.ofString "pair") = some (.ref pr)) (vnm : m (PySem.Str.ofString "name") = some vn)
    (hQ : ∀ (h' : Heap) (tk : Nat) (m' : Str → Option Value) (l : Nat) (us : List Value) (e2 : Nat) (c' : Addr) (k' o' : Obj) (c2' : Addr) (k2' o2' : Obj) (ps : Array Value), Fr G L h' m' → News G L h' ((l, listOf (List.toArray us) e2) :: (c', k') :: (30, o') :: (c2', k2') :: (37, o2') :: (132, tabObj ps) :: (hl, listOf (List.toArray vs) ee) :: (pr, listOf #[.int x u1, .int y u2] 0) :: (L+1+1+1+1+1+1, o6) :: rest0) → IntsAre us [d, mn, mx] → TP c' k' o' c2' k2' o2' → OT c' c2' ((l, listOf (List.toArray us) e2) :: (132, tabObj ps) :: (hl, listOf (List.toArray vs) ee) :: (pr, listOf #[.int x u1, .int y u2] 0) :: (L+1+1+1+1+1+1, o6) :: rest0) → (∀ q ∈ ((hl, listOf (List.toArray vs) ee) :: (pr, listOf #[.int x u1, .int y u2] 0) :: (L+1+1+1+1+1+1, o6) :: rest0 : List (Addr × Obj)), @Ne Nat q.1 l) → @Ne Nat l 132 →
      m' (PySem.Str.ofString "heard") = some (.ref hl) → m' (PySem.Str.ofString "found") = some (.ref l) → m' (PySem.Str.ofString "name") = some vn →
      wpAny (model PySem.Challenge.rw_ta0029_01.row.prog w) (callerA.deeper (envOfC (PySem.Str.ofString "law") scope L fa cd)) (execs rest (envOfC (PySem.Str.ofString "law") scope L fa cd)) Q E { s with heap := h', toks := tk }) :
    wpAny (model PySem.Challenge.rw_ta0029_01.row.prog w) (callerA.deeper (envOfC (PySem.Str.ofString "law") scope L fa cd)) (execs (.Assign t20 e20 p20 :: .If e21 b21 f21 p21 :: rest) (envOfC (PySem.Str.ofString "law") scope L fa cd)) Q E s := by
  cases h20
  cases h21
  cases hK0
  revert X; k_fill; intro X
  have K0 := B
  w_top on
  k_steps
  show wpAny _ _ _ _ _ _
  rename Fr _ _ _ _ => F1
  rename News _ _ _ _ => N1
  show wpAny _ _ (call (.ref 137) [.int n _, .int e _]) _ _ _
  refine call_sec B F1 rfl rfl rfl rfl N1 hTP O O132 C34 C41 C136 X T n0.1 (by omega) e0.1 (by omega) hsec (by decide) (by decide) ?_
  intro h1 tk1 l us e2 c' k' o' c2' k2' o2' ps F2 N2 hus hTP2 O2 hl2 hl132
  clear F1 N1 hTP O O132
  dsimp only
  k_steps
  · rename Fr _ _ _ _ => F3
    rename News _ _ _ _ => N3
    exact hQ _ _ _ l us e2 c' k' o' c2' k2' o2' ps F3 (News_drop 1 N3) hus hTP2 O2 hl2 hl132 vh rfl vnm
  · exfalso
    rename ¬ _ = _ => hne
    apply hne
    congr 1
    congr 1
    · omega
    congr 1
    omega
end Mine
end
section
open PySem PySem.Spec PySem.Calls PySem.W PyProof.Rows
set_option maxRecDepth 100000
set_option rowWalk.seconds 0
namespace Mine
/-- a name with its marks doubled -/
def dblC : List Nat → List Nat
  | [] => []
  | c :: r => if c = 34 then 34 :: 34 :: dblC r else c :: dblC r
abbrev P5 : List Nat := [50, 53, 55, 32, 34]
abbrev S7 : List Nat := [34, 32, 40, 34, 120, 34, 41]
theorem t257 : PySem.Str.ofString "257" = txt [50, 53, 55] := by decide +kernel
theorem tq2 : PySem.Str.ofString " \"" = txt [32, 34] := by decide +kernel
theorem q_one : PySem.Str.ofString "\"" = one 34 := by decide +kernel
theorem q_txt : PySem.Str.ofString "\"" = txt [34] := q_one
theorem b_one : PySem.Str.ofString " " = one 32 := by decide +kernel
theorem e_txt : PySem.Str.ofString "" = txt [] := by decide +kernel
theorem o_txt (c : Nat) : one c = txt [c] := rfl
theorem dbl_app : ∀ a b : List Nat, dblC (a ++ b) = dblC a ++ dblC b
  | [], _ => rfl
  | c :: r, b => by
    rw [List.cons_append, dblC, dblC, dbl_app r b]
    split <;> rfl
theorem dbl_len : ∀ a : List Nat, (dblC a).length ≤ 2 * a.length
  | [] => Nat.le_refl _
  | c :: r => by
    have := dbl_len r
    rw [dblC]
    split <;> simp only [List.length_cons] <;> omega
theorem s257a (l : List Nat) : Txt.slice (txt (P5 ++ l ++ S7)) none (some 3) = PySem.Str.ofString "257" := (slice_to3 50 53 55 _).trans t257.symm
theorem s257b (l : List Nat) : Txt.slice (txt (P5 ++ l ++ S7)) (some 3) (some 5) = PySem.Str.ofString " \"" := by
  have e : P5 ++ l ++ S7 = [50, 53, 55] ++ [32, 34] ++ (l ++ S7) := by simp
  rw [e]
  exact (slice_mid [50, 53, 55] [32, 34] _ rfl rfl).trans tq2.symm
theorem l257 (l : List Nat) : (txt (P5 ++ l ++ S7)).length = 12 + l.length := by
  rw [txt_length]
  simp only [List.length_append, List.length_cons, List.length_nil]
  omega
/-- the text at a place -/
theorem i257 {l p : List Nat} {c : Nat} {r : List Nat} {i : Int} (e : l = p ++ c :: r) (hi : i = 5 + p.length) : Txt.item (txt (P5 ++ l ++ S7)) i = one c := by
  subst e
  have e : P5 ++ (p ++ c :: r) ++ S7 = (P5 ++ p) ++ c :: (r ++ S7) := by simp
  rw [e]
  refine item_txt _ _ c ?_
  rw [hi, List.length_append]
  show _ = ((5 + p.length : Nat) : Int)
  omega
theorem i257e {l : List Nat} {i : Int} (hi : i = 5 + l.length) : Txt.item (txt (P5 ++ l ++ S7)) i = PySem.Str.ofString "\"" := by
  refine (item_txt _ _ 34 ?_).trans q_one.symm
  rw [hi, List.length_append]
  show _ = ((5 + l.length : Nat) : Int)
  omega
theorem i257f {l : List Nat} {i : Int} (hi : i = 6 + l.length) : Txt.item (txt (P5 ++ l ++ S7)) i = PySem.Str.ofString " " := by
  have e : P5 ++ l ++ S7 = (P5 ++ l ++ [34]) ++ 32 :: [40, 34, 120, 34, 41] := by simp
  rw [e]
  refine (item_txt _ _ 32 ?_).trans b_one.symm
  rw [hi, List.length_append, List.length_append]
  show _ = ((5 + l.length + 1 : Nat) : Int)
  omega
theorem one_ne {c : Nat} (h : c ≠ 34) : (one c == PySem.Str.ofString "\"") = false := by
  rw [q_one]
  refine beq_eq_false_iff_ne.mpr fun e => h ?_
  have := congrArg (fun s : PySem.Str => s.cps.getD 0 0) e
  exact this
local macro_rules | `(tactic| walk_at "subscriptTail Name Slice str ref") => `(tactic| ((with_reducible rename Fr _ _ _ _ => F'); (with_reducible rename News _ _ _ _ => N'); (first | refine ps_ns (s := ⟨_, _, _, _, _⟩) F' N' (by assumption) (by assumption) ?_ | refine ps_ss (s := ⟨_, _, _, _, _⟩) F' N' (by assumption) (by assumption) ?_); clear F' N'; intro h' t' k' F' N'))
local macro_rules | `(tactic| walk_at "subscriptTail Name Name str int") => `(tactic| (refine ps_item (by assumption) (by omega) (by omega) (by assumption) ?_; intro _ _))
local macro_rules | `(tactic| walk_at "binaryOp Add str str") => `(tactic| (k_here; refine add_txt (by with_reducible first | exact rfl | exact o_txt _ | exact q_txt | exact e_txt) (by with_reducible first | exact rfl | exact o_txt _ | exact q_txt | exact e_txt) (by (try simp only [List.length_append, List.length_cons, List.length_nil]); (try omega)) (by (try simp only [List.length_append, List.length_cons, List.length_nil]); (try omega)) ?_; intro _ _))
local macro_rules | `(tactic| walk_at "eval Name") => `(tactic| (k_here; k_dflt (refine' nameLA ?F ?v ?_; (case F => k_asm); (case v => first | exact rfl | assumption); k_whole)))
local macro_rules | `(tactic| walk_at "exec While Compare cons nil") => `(tactic| (refine hold_of ?_))
local macro_rules | `(tactic| walk_at "exec While") => `(tactic| (refine hold_of ?_))
set_option maxHeartbeats 4000000 in
theorem p257_call {w : World} {s : Shared} {A : Around} {base : Heap} {outer : List Env} {p : Program} {loose : List Str} {mean : ExcName → Option Value} {mg mb : Str → Option Value}
    {cs : List Nat} {tx : Tok} {R : Result → Shared → Prop}
    (hh : A.handled = none) (B : Below A base outer s.heap) (X : (pre.heap_1_39 w.params).In s.heap) (T : Top p loose mean mg mb s.heap) (hcs : cs.length ≤ 8)
    (hdep : A.depth + 10 < recursionLimit) (hun : A.units + 100 < cLine)
    (hR : ∀ h' tk t, s.heap.StaysIn h' → s.heap.objs.size ≤ h'.objs.size → R (.ok (.ret (.str (txt cs) t))) { s with heap := h', toks := tk }) :
    codeAny (model PySem.Challenge.rw_ta0029_01.row.prog w) A (.call (.ref 116) ⟨[.str (txt (P5 ++ dblC cs ++ S7)) tx], []⟩) R s := by
  obtain ⟨ah, dp, fr, gd, un⟩ := A
  cases hh
  dsimp only at hdep hun
  revert X; k_fill; intro X
  have hlen := dbl_len cs
  have a1 := s257a (dblC cs)
  have a2 := s257b (dblC cs)
  have a3 := l257 (dblC cs)
  have a5 := fun p c r i (e : dblC cs = p ++ c :: r) (hi : i = 5 + (p.length : Int)) => i257 e hi
  have a6 := i257e (l := dblC cs) rfl
  have a7 := i257f (l := dblC cs) rfl
  generalize hx : txt (P5 ++ dblC cs ++ S7) = x at a1 a2 a3 a5 a6 a7 ⊢
  clear hx
  have a4 : x.length ≤ 1000 := by omega
  refine enterG (G := s.heap) [] rfl (by simp) T X (by k_is) (by k_is) (by show dp < _; omega) (BindsTo.of_eq rfl) (locs rfl) ?_ rfl rfl rfl (by decide)
  intro L h₁ hL F N l0
  have K0 := B
  w_top on
  have hLs : s.heap.objs.size ≤ L := Nat.le_of_eq hL.symm
  k_steps
  show wpAny _ _ _ _ _ _
  rename Fr _ _ _ _ => F1
  refine While_hid (fun n s' => ∀ P : Shared → Prop, (∀ (done todo : List Nat) (h : Heap) (tk : Nat) (m' : Str → Option Value) (ti tn td : Tok), n = todo.length + 1 → done ++ todo = cs → Fr s.heap L h m' → m' (PySem.Str.ofString "resp") = some (.str x tx) → m' (PySem.Str.ofString "i") = some (.int (5 + ((dblC done).length : Int)) ti) → m' (PySem.Str.ofString "n") = some (.int ((12 + (dblC cs).length : Nat) : Int) tn) → m' (PySem.Str.ofString "dirname") = some (.str (txt done) td) → P { s with heap := h, toks := tk }) → P s') (cs.length + 1) ?_ ?_
  · have en : ∀ t : Tok, some (Value.int ((x.length : Nat) : Int) t) = some (.int ((12 + (dblC cs).length : Nat) : Int) t) := fun t => by rw [a3]
    have ed : ∀ t : Tok, some (Value.str (PySem.Str.ofString "") t) = some (.str (txt []) t) := fun t => by rw [e_txt]
    exact fun P hP => hP [] cs _ _ _ _ _ _ rfl rfl F1 rfl rfl (en _) (ed _)
  · clear F1
    intro n s' hI Qa hQa hBr _
    refine hI _ fun done todo h tk m' ti tn td hn hdt F3 vr vi vn vd => ?_
    clear hI
    have N3 : News s.heap L h [] := News_nil
    have hdl := dbl_len done
    have hd8 : done.length ≤ 8 := by rw [← hdt, List.length_append] at hcs; omega
    cases todo with
    | nil =>
      rw [List.append_nil] at hdt
      subst hdt
      have a8 : Txt.item x (5 + ((dblC done).length : Int) + 1) = PySem.Str.ofString " " := by
        rw [← a7]; congr 1; omega
      clear a5 a7
      k_steps
      refine hBr _ ?_
      k_steps
      rename Fr _ _ _ _ => F4
      exact hR _ _ _ F4.keep (Nat.le_trans hLs (Nat.le_of_lt F4.ns.lt))
    | cons c r =>
      have hcd : dblC cs = dblC done ++ dblC (c :: r) := by rw [← hdt, dbl_app]
      have hcl : (dblC cs).length = (dblC done).length + (dblC (c :: r)).length := by rw [hcd, List.length_append]
      have hd8 : done.length + 1 ≤ 8 := by rw [← hdt, List.length_append, List.length_cons] at hcs; omega
      clear a6 a7
      by_cases hc : c = 34
      · subst hc
        have hd2 : dblC (34 :: r) = 34 :: 34 :: dblC r := rfl
        rw [hd2] at hcd hcl
        rw [List.length_cons, List.length_cons] at hcl
        have e1 : Txt.item x (5 + ((dblC done).length : Int)) = PySem.Str.ofString "\"" := (a5 _ _ _ _ hcd rfl).trans q_one.symm
        have e2 : Txt.item x (5 + ((dblC done).length : Int) + 1) = PySem.Str.ofString "\"" := (a5 (dblC done ++ [34]) 34 (dblC r) _ (by rw [hcd]; simp) (by rw [List.length_append]; show _ = (5 : Int) + (((dblC done).length + 1 : Nat) : Int); omega)).trans q_one.symm
        clear a5
        k_steps
        have ei : ∀ t : Tok, some (Value.int (5 + ((dblC done).length : Int) + 1 + 1) t) = some (.int (5 + ((dblC (done ++ [34])).length : Int)) t) := fun t => by
          have : (dblC (done ++ [34])).length = (dblC done).length + 2 := by rw [dbl_app, List.length_append]; rfl
          rw [this]; rfl
        rename Fr _ _ _ _ => F4
        exact hQa _ (r.length + 1) (by rw [hn, List.length_cons]; exact Nat.lt_succ_self _) fun P hP => hP (done ++ [34]) r _ _ _ _ tn _ rfl (by rw [List.append_assoc]; exact hdt) F4 vr (ei _) vn rfl
      · have hd2 : dblC (c :: r) = c :: dblC r := by rw [dblC, if_neg hc]
        rw [hd2] at hcd hcl
        rw [List.length_cons] at hcl
        have e1 : Txt.item x (5 + ((dblC done).length : Int)) = one c := a5 _ _ _ _ hcd rfl
        have e3 := one_ne hc
        clear a5
        k_steps
        have ei : ∀ t : Tok, some (Value.int (5 + ((dblC done).length : Int) + 1) t) = some (.int (5 + ((dblC (done ++ [c])).length : Int)) t) := fun t => by
          have : (dblC (done ++ [c])).length = (dblC done).length + 1 := by rw [dbl_app, List.length_append, dblC, if_neg hc]; rfl
          rw [this]; rfl
        rename Fr _ _ _ _ => F4
        exact hQa _ (r.length + 1) (by rw [hn, List.length_cons]; exact Nat.lt_succ_self _) fun P hP => hP (done ++ [c]) r _ _ _ _ tn _ rfl (by rw [List.append_assoc]; exact hdt) F4 vr (ei _) vn rfl
section
variable {w : World} {s : Shared} {A A' : Around} {base G : Heap} {outer : List Env} {p : Program} {loose : List Str} {mean : ExcName → Option Value} {mg mb : Str → Option Value} {L : Addr} {m : Str → Option Value} {env : Env} {E : Value → Shared → Prop} {Q : Value → Shared → Prop}
theorem call_257 {x : PySem.Str} {cs : List Nat} {tx : Tok} {news : List (Addr × Obj)} (B : Below A base outer G) (F : Fr G L s.heap m) (hA : A' = A.deeper env) (hf : env.frame = some L) (hk : env.scope.kind = .function) (hh : A.handled = none) (N : News G L s.heap news)
    (X : (pre.heap_1_39 w.params).In G) (T : Top p loose mean mg mb G) (hx : x = txt (P5 ++ dblC cs ++ S7)) (hcs : cs.length ≤ 8) (hdep : A.depth + 12 < recursionLimit) (hun : A.units + 110 < cLine)
    (h : ∀ h' tk t, Fr G L h' m → News G L h' news → Q (.str (txt cs) t) { s with heap := h', toks := tk }) :
    wpAny (model PySem.Challenge.rw_ta0029_01.row.prog w) A' (call (.ref 116) [.str x tx]) Q E s := by
  subst hA hx
  refine wpAny_call (p257_call hh (pushX B F hf hk) (X.keeps F.keep) (T.keeps F.keep) hcs (by rw [depth_deeper]; omega) (by rw [units_deeper]; omega) ?_)
  intro h' tk t ks sz
  exact h h' tk t (Fr_on F ks) (News_on N ks)
end
end Mine
end
section
open PySem PySem.Spec PySem.Calls PySem.W PyProof.Rows PyProof.Rows.LCg
set_option maxRecDepth 100000
namespace Mine
theorem bl_one : PySem.Str.ofString " " = one 32 := by decide +kernel
theorem mul_small {c : Nat} : ∀ k : Fin 5, Txt.mul (one c) (k.val : Int) = txt (List.replicate k.val c)
  | ⟨0, _⟩ => rfl
  | ⟨1, _⟩ => rfl
  | ⟨2, _⟩ => rfl
  | ⟨3, _⟩ => rfl
  | ⟨4, _⟩ => rfl
section
variable {prog : Program} {w : World} {A : Around} {E : Value → Shared → Prop} {s : Shared} {Q : Value → Shared → Prop}
theorem mul_blank {k : Int} {t u : Tok} (h0 : 0 ≤ k) (h1 : k ≤ 4) (h : ∀ t' k', Q (.str (txt (List.replicate k.toNat 32)) t') { s with toks := k' }) :
    wpAny (model prog w) A (binaryOp .Mult (.str (PySem.Str.ofString " ") t) (.int k u)) Q E s := by
  rw [bl_one]
  refine KXi.mul (n := 1) rfl (by decide) (by omega) (by omega) fun t' k' _ _ => ?_
  have e := mul_small (c := 32) ⟨k.toNat, by omega⟩
  rw [show ((⟨k.toNat, by omega⟩ : Fin 5).val : Int) = k by simp; omega] at e
  rw [e]
  exact h t' k'
theorem iadd_txt {a b : List Nat} {t u : Tok} (h1 : a.length ≤ 500) (h2 : b.length ≤ 500) (h : ∀ t' k, Q (.str (txt (a ++ b)) t') { s with toks := k }) :
    wpAny (model prog w) A (inplaceOp .Add (.str (txt a) t) (.str (txt b) u)) Q E s := by
  refine SBL.iadd (fun t' k _ => ?_) (by rw [txt_length, txt_length]; exact Nat.le_trans (Nat.add_le_add h1 h2) (by decide))
  rw [txt_append]
  exact h t' k
end
/-- the figures of a rest -/
def rowN (r : Int) : List Nat := (dg 4 (dlen 4 r) r).map Int.toNat
def piece (r : Int) : List Nat := (rowN r).map sgn ++ List.replicate (4 - (rowN r).length) 32
theorem rowN_len (r : Int) : (rowN r).length = dlen 4 r := by rw [rowN, List.length_map, dg_length]
theorem bitsN_le {r : Int} (h0 : 0 ≤ r) {k : Nat} (h1 : r < 2 ^ k) : Builtin.Int.intBits r ≤ k := by
  refine intBits_le ?_
  have : ((r.natAbs : Nat) : Int) < ((2 ^ k : Nat) : Int) := by
    rw [Int.natCast_pow]
    show (r.natAbs : Int) < 2 ^ k
    omega
  exact Int.ofNat_lt.mp this
theorem dlen4 {r : Int} (h0 : 0 ≤ r) (h1 : r < 65536) : dlen 4 r ≤ 4 := by
  have := bitsN_le h0 (k := 16) h1
  unfold dlen
  omega
/-- the highest figure is no nought -/
theorem row_last {r : Int} (h0 : 0 ≤ r) (hne : r ≠ 0) : ∃ l z, dg 4 (dlen 4 r) r = l ++ [z] ∧ z ≠ 0 := by
  have hp := dlen_pos (n := 4) (by decide) h0 hne
  obtain ⟨k, hk⟩ : ∃ k, dlen 4 r = k + 1 := ⟨dlen 4 r - 1, by omega⟩
  have hlt := dlen_lt (n := 4) (by decide) h0
  rw [hk, Nat.sub_zero] at hlt
  refine ⟨dg 4 k (r % 2 ^ (4 * k)), r / 2 ^ (4 * k) % 2 ^ 4, ?_, ?_⟩
  · rw [hk, dg_add 4 1 k r h0]
    rfl
  · have hb : 4 * k < Builtin.Int.intBits r := by
      unfold dlen at hk
      omega
    have hge : 2 ^ (4 * k) ≤ r := by
      apply Int.not_lt.mp
      intro hh
      have := bitsN_le h0 hh
      omega
    have hp2 : (0 : Int) < 2 ^ (4 * k) := Int.pow_pos (by decide)
    have h2 : r / 2 ^ (4 * k) < 2 ^ 4 := by
      refine Int.ediv_lt_of_lt_mul hp2 ?_
      rw [← Int.pow_add, show 4 + 4 * k = 4 * (k + 1) by omega]
      exact hlt
    have h3 : 1 ≤ r / 2 ^ (4 * k) := Int.le_ediv_of_mul_le hp2 (by rw [Int.one_mul]; exact hge)
    rw [Int.emod_eq_of_lt (by omega) h2]
    omega
theorem piece_len {r : Int} (h0 : 0 ≤ r) (h1 : r < 65536) : (piece r).length ≤ 4 := by
  have := dlen4 h0 h1
  rw [piece, List.length_append, List.length_map, List.length_replicate, rowN_len]
  omega
theorem negdiv2 {v n q r : Int} (hn : 0 < n) (hq : q = v / n) (hr : v % n = r) : (0 < r ∧ -v / n = -q - 1 ∧ -v % n = n - r) ∨ (r = 0 ∧ -v / n = -q ∧ -v % n = 0) := by
  obtain ⟨h1, h2, h3⟩ := (Int.ediv_emod_unique hn).mp ⟨hq.symm, hr⟩
  by_cases h : r = 0
  · refine .inr ⟨h, (Int.ediv_emod_unique hn).mpr ⟨?_, by omega, by omega⟩⟩
    rw [Int.mul_neg]; omega
  · refine .inl ⟨by omega, (Int.ediv_emod_unique hn).mpr ⟨?_, by omega, by omega⟩⟩
    rw [Int.mul_sub, Int.mul_neg, Int.mul_one]; omega
theorem dg_mem4 {k : Nat} {r z : Int} (h : z ∈ dg 4 k r) : 0 ≤ z ∧ z < 16 := dg_mem 4 k r z h
end Mine
end
section
open PySem PySem.Spec PySem.Calls PySem.W PyProof.Rows
set_option maxRecDepth 100000
set_option rowWalk.seconds 0
namespace Mine
theorem pow_d {prog : Program} {w : World} {A : Around} {s : Shared} {E : Value → Shared → Prop} {Q : Value → Shared → Prop} {a d : Int} {t u : Tok} (ha : 0 ≤ a ∧ a < 800000) (h0 : 3 ≤ d ∧ d ≤ 9) (h : ∀ z : Int, z = a ^ d.toNat → 0 ≤ z → z < 2 ^ 190 → Q (.int z s.toks) { s with toks := s.toks + 1 }) : wpAny (model prog w) A (binaryOp .Pow (.int a t) (.int d u)) Q E s := by
  refine pow_int_small (by omega) (by omega) (by omega) (h _ rfl (Int.pow_nonneg ha.1) ?_)
  obtain ⟨b, rfl⟩ := Int.eq_ofNat_of_zero_le ha.1
  have hb : b ≤ 800000 := by omega
  have h1 : b ^ d.toNat ≤ 800000 ^ 9 := Nat.le_trans (Nat.pow_le_pow_left hb _) (Nat.pow_le_pow_right (by decide) (by omega))
  have h2 : (800000 : Nat) ^ 9 < 2 ^ 190 := by decide
  have h3 : ((b ^ d.toNat : Nat) : Int) < ((2 ^ 190 : Nat) : Int) := Int.ofNat_lt.mpr (Nat.lt_of_le_of_lt h1 h2)
  rw [Int.natCast_pow] at h3
  exact h3
theorem row_drop {r : Int} (h0 : 0 ≤ r) : ¬ List.drop ((dg 4 (dlen 4 r) r).length - 1) (dg 4 (dlen 4 r) r) = [0] := by
  by_cases hr : r = 0
  · subst hr
    rw [dlen_zero (by decide)]
    exact fun h => nomatch h
  · obtain ⟨l, z, e, hz⟩ := row_last h0 hr
    rw [e, List.length_append, List.length_singleton, Nat.add_sub_cancel, List.drop_left]
    intro h
    exact hz (List.head_eq_of_cons_eq h)
theorem loadLA {M : Model} {A : Around} {s : Shared} {h₀ : Heap} {E : Value → Shared → Prop} {cn : Str} {cs : Scope} {L a : Addr} {ccd : Value} {cl : List (Str × Addr)} {m : Str → Option Value} {x : Str} {v : Value} {Q : Value → Shared → Prop}
    (F : Fr h₀ L s.heap m) (hv : m x = some v) (h : Q v s)
    (hk : cs.kind = .function := by rfl) (hx : (envX cn cs L a ccd cl).kindOf x = some .local := by rfl) :
    wpAny M A (loadName (envX cn cs L a ccd cl) x) Q E s := wpAny_loadName_local hk hx F.ns hv h
theorem row_at {vs : List Value} {r : Int} {i : Nat} {v : Value} (hi : IntsAre vs (dg 4 (dlen 4 r) r)) (hv : vs.toArray[i]? = some v) : ∃ (z : Int) (t : Tok), v = .int z t ∧ z.toNat = (rowN r).getD i 0 ∧ 0 ≤ z ∧ z < 16 := by
  rw [List.getElem?_toArray] at hv
  have hl : i < vs.length := (List.getElem?_eq_some_iff.mp hv).1
  have hl2 : i < (dg 4 (dlen 4 r) r).length := by rw [← hi.length]; exact hl
  obtain ⟨t, e⟩ := ints_get (i := i) hi hl2
  rw [hv] at e
  cases e
  have hm := dg_mem4 (getD_mem (ds := dg 4 (dlen 4 r) r) hl2)
  refine ⟨_, t, rfl, ?_, hm.1, hm.2⟩
  rw [rowN, List.getD_eq_getElem?_getD, List.getD_eq_getElem?_getD, List.getElem?_map, List.getElem?_eq_getElem hl2]
  rfl
theorem range_getD (l : List Nat) : (List.range l.length).map (fun i => sgn (l.getD i 0)) = l.map sgn := by
  apply List.ext_getElem
  · simp
  · intro i h1 h2
    simp at h1
    simp [h1]
theorem e_txt2 : PySem.Str.ofString "" = txt [] := by decide +kernel
local macro_rules | `(tactic| walk_at "eval Name") => `(tactic| (k_here; k_dflt (refine' nameLA ?F ?v ?_; (case F => k_asm); (case v => first | exact rfl | assumption); k_whole)))
local macro_rules | `(tactic| walk_at "exec For") => `(tactic| (refine hold_of ?_))
local macro_rules | `(tactic| walk_at "exec For Name Subscript cons nil") => `(tactic| (refine hold_of ?_))
local macro_rules | `(tactic| walk_at "pyIter ref") => `(tactic| (refine hold_of ?_))
local macro_rules | `(tactic| walk_at "binaryOp Pow int int") => `(tactic| (refine hold_of ?_))
local macro_rules | `(tactic| walk_at "loadName") => `(tactic| (k_here; k_dflt (refine' loadLA ?F ?v ?_; (case F => k_asm); (case v => first | exact rfl | assumption); k_whole)))
local macro_rules | `(tactic| walk_at "CompSrc") => `(tactic| (refine hold_of ?_))
local macro_rules | `(tactic| walk_at "CompEnd") => `(tactic| (refine hold_of ?_))
local macro_rules | `(tactic| walk_at "subscriptTail Name Name str int") => `(tactic| (refine hold_of ?_))
local macro_rules | `(tactic| walk_at "call builtin:str.join") => `(tactic| (refine hold_of ?_))
local macro_rules | `(tactic| walk_at "binaryOp Mult int int") => `(tactic| (refine hold_of ?_))
local macro_rules | `(tactic| walk_at "binaryOp Mult str int") => `(tactic| (refine hold_of ?_))
local macro_rules | `(tactic| walk_at "binaryOp Add str str") => `(tactic| (refine hold_of ?_))
local macro_rules | `(tactic| walk_at "inplaceOp Add str str") => `(tactic| (refine hold_of ?_))
local macro_rules | `(tactic| walk_at "call ref") => `(tactic| ((with_reducible show wpAny _ _ (call (Value.ref 56) _) _ _ _); refine hold_of ?_))
local macro_rules | `(tactic| walk_at "call ref") => `(tactic| ((with_reducible show wpAny _ _ (call (Value.ref 35) _) _ _ _); refine hold_of ?_))
set_option maxHeartbeats 4000000 in
theorem law_I2 {w : World} {s : Shared} {base G : Heap} {p : Program} {loose : List Str} {mean : ExcName → Option Value} {mg mb : Str → Option Value}
   {e3 : PySem.Expr} {b3 f3 : List Stmt} {p3 : Pos} {t4 : List PySem.Expr} {e4 : PySem.Expr} {p4 : Pos} {e5 : PySem.Expr} {b5 f5 : List Stmt} {p5 : Pos} {t6 : PySem.Expr} {op6 : Operator} {e6 : PySem.Expr} {p6 : Pos} (h3 : stm3 20 23 3 = .If e3 b3 f3 p3) (h4 : stm3 20 23 4 = .Assign t4 e4 p4) (h5 : stm3 20 23 5 = .If e5 b5 f5 p5) (h6 : stm3 20 23 6 = .AugAssign t6 op6 e6 p6)
   {name bind : Str} {params : Arguments} {body : List Stmt} {scope : Scope} {pos : Pos} (hK0 : stm 20 = .FunctionDef name params body [] none [] scope none bind pos) {L : Nat} {fa : Addr} {cd : Value}
    {m : Str → Option Value} {Q : Flow → Shared → Prop} {E : Value → Shared → Prop} {lt hl c c2 ee : Nat} {k o k2 o2 o7 : Obj} {vs : List Value} {n e b0 b1 v q rr la lb : Int} {ua ub t7 tq tr tv tt : Tok} {tx : List Nat} {rest0 : List (Addr × Obj)} {vn fv : Value}
    (B : Below callerA base [] G) (X : (pre.heap_1_39 w.params).In G) (T : Top p loose mean mg mb G) (F : Fr G L s.heap m)
    (N : News G L s.heap ((lt, tupOf #[.int la ua, .int lb ub]) :: (c, k) :: (30, o) :: (c2, k2) :: (37, o2) :: (hl, listOf (List.toArray vs) ee) :: (L+1+1+1+1+1+1+1, o7) :: rest0)) (hTP : TP c k o c2 k2 o2) (O : OT c c2 ((lt, tupOf #[.int la ua, .int lb ub]) :: (hl, listOf (List.toArray vs) ee) :: (L+1+1+1+1+1+1+1, o7) :: rest0)) (C34 : CodeHd G 34 30) (C41 : CodeHd G 41 37)
    (d7 : o7.data = .cell (some (.str signsS t7))) (hvs : IntsAre vs [n, e, b0, b1]) (n0 : 0 < n ∧ n < 800000) (hsum : q * n + rr = v) (v0 : 0 ≤ v) (v1 : v < 2 ^ 190) (hrb : 0 ≤ rr) (hrrb : rr < 65536) (hA : -v / n = la) (hB : -v % n = lb) (htl : tx.length ≤ 4)
    (vq : m (PySem.Str.ofString "turn") = some (.int q tq)) (vr : m (PySem.Str.ofString "rest") = some (.int rr tr)) (vv : m (PySem.Str.ofString "value") = some (.int v tv)) (vl : m (PySem.Str.ofString "less") = some (.ref lt)) (vt : m (PySem.Str.ofString "text") = some (.str (txt tx) tt)) (vh : m (PySem.Str.ofString "heard") = some (.ref hl)) (vf : m (PySem.Str.ofString "found") = some fv) (vnm : m (PySem.Str.ofString "name") = some vn)
    (hQ : ∀ (h' : Heap) (tk : Nat) (m' : Str → Option Value) (c' : Addr) (k' o' : Obj) (c2' : Addr) (k2' o2' : Obj) (tt : Tok), Fr G L h' m' → News G L h' ((c', k') :: (30, o') :: (c2', k2') :: (37, o2') :: (hl, listOf (List.toArray vs) ee) :: (L+1+1+1+1+1+1+1, o7) :: rest0) → TP c' k' o' c2' k2' o2' → OT c' c2' ((hl, listOf (List.toArray vs) ee) :: (L+1+1+1+1+1+1+1, o7) :: rest0) →
      m' (PySem.Str.ofString "text") = some (.str (txt (tx ++ piece rr)) tt) → m' (PySem.Str.ofString "heard") = some (.ref hl) → m' (PySem.Str.ofString "found") = some fv → m' (PySem.Str.ofString "name") = some vn → Q .next { s with heap := h', toks := tk }) :
    wpAny (model PySem.Challenge.rw_ta0029_01.row.prog w) (callerA.deeper (envOfC (PySem.Str.ofString "law") scope L fa cd)) (execs [.If e3 b3 f3 p3, .Assign t4 e4 p4, .If e5 b5 f5 p5, .AugAssign t6 op6 e6 p6] (envOfC (PySem.Str.ofString "law") scope L fa cd)) Q E s := by
  cases h3
  cases h4
  cases h5
  cases h6
  cases hK0
  revert X; k_fill; intro X
  have K0 := B
  w_top on
  k_steps
  show wpAny _ _ (binaryOp .Mult (.int q _) (.int n _)) _ _ _
  refine P.mul_int ?_ (IntMulOk.of_right (intBits_le_64 (by omega) (by omega)))
  generalize q * n = qn at hsum ⊢
  dsimp only
  k_steps
  show wpAny _ _ (call (.ref 56) [.int (-v) _, .int n _]) _ _ _
  rename Fr _ _ _ _ => F1
  rename News _ _ _ _ => N1
  have N4 := News_app (News_take 4 (News_drop 1 N1)) (News_app (News_take 1 N1) (News_drop 5 N1))
  dsimp only [List.take, List.drop, List.cons_append, List.nil_append] at N4
  refine call_dm2 (idm_c w) B F1 rfl rfl rfl rfl N4 hTP O C34 C41 X T (any_big (by omega) n0.1 (by omega)) (by decide) (by decide) ?_
  intro h2 tk2 t6 t7 t8 c9 k9 o9 c29 k29 o29 F3 N3 hTP3 O5 hcc5 hcc6
  clear F1 N1 N4 hTP O
  rw [hA, hB] at N3
  have O6 := O5.tail
  clear O5 hcc5 hcc6
  dsimp only
  k_steps
  show wpAny _ _ (call (.ref 35) [.int rr _, .int (4 : Nat) _]) _ _ _
  rename Fr _ _ _ _ => F1
  rename News _ _ _ _ => N1
  have N4 := News_app (News_take 4 (News_drop 1 N1)) (News_drop 6 N1)
  dsimp only [List.take, List.drop, List.cons_append, List.nil_append] at N4
  refine call_i2d (own := []) B F1 rfl rfl rfl News_nil N4 hTP3.hT ?_ C34 X T hrb (by decide) (by decide) (Nat.le_trans (dlen4 hrb hrrb) (by decide)) (by decide) (by decide) ?_
  · exact List.forall_mem_cons.mpr ⟨⟨hTP3.n1.symm, hTP3.n3⟩, List.forall_mem_cons.mpr ⟨⟨hTP3.n2.symm, show @Ne Nat 37 30 by decide⟩, fun q hq => ⟨(O6 q hq).1, (O6 q hq).2.1⟩⟩⟩
  intro h3 tk3 D vr e3 c8 k8 o8 F3 N3 hvi hTF lLD hcc8 hDc
  clear F1 N1 N4
  dsimp only [List.nil_append, List.cons_append] at N3
  have hdl := dlen4 hrb hrrb
  have hvl : vr.length = dlen 4 rr := by rw [hvi.length, dg_length]
  have hTP4 : TP c8 k8 o8 c29 k29 o29 := ⟨.inr hTF, hTP3.hT2, (up_ne hcc8 hTP3.n1.symm fun p => p.2.1).symm, (up_ne hcc8 hTP3.n2.symm fun p => p.2.2.1).symm, hTP3.n3⟩
  have O7 := OT.next O6 (hcc8.imp id fun p => ⟨p.1, p.2.2.2⟩) (.inl rfl)
  clear hTP3 O6
  dsimp only
  k_steps
  · exfalso
    rename List.drop _ _ = _ => hbad
    exact row_drop hrb hbad
  rename Fr _ _ _ _ => F1
  rename News _ _ _ _ => N1
  have N5 := News_drop 2 N1
  dsimp only [List.drop] at N5
  clear N1
  refine LCg.CompSrc.ledger (its := vr.toArray) rfl F1 N5 (.head _) (by rw [List.size_toArray, hvl]; exact Nat.le_trans hdl (by decide)) ?_
  intro g
  clear F1 N5
  have hrl : (rowN rr).length = dlen 4 rr := rowN_len rr
  refine comp_rest (fun i v => ∃ t : Tok, v = Value.str (one (sgn ((rowN rr).getD i 0))) t) ?turn ?fin
  case turn =>
    intro i v I oI C oC D2 m₂ ys h4 tk4 E' hi hv hC hx F2 N2 off ne
    obtain ⟨z, tz, rfl, hz, hz0, hz1⟩ := row_at hvi hv
    rw [← hz]
    k_steps
    show wpAny _ _ _ _ _ _
    refine item_sign hz0 hz1 ?_
    intro t9 k9'
    k_steps
    rename Fr _ _ _ _ => F3
    rename News _ _ _ _ => N3
    refine comp_end F3 N3 ?_ off (.inr ⟨_, .head _, rfl, _, rfl⟩) ⟨_, rfl⟩
    first | exact fun p hp => hp | exact fun p hp => .tail _ hp | exact fun p hp => .tail _ (.tail _ hp)
  case fin =>
    intro ys hy hR D3 h4 tk4 F2 N2 off
    k_steps
    show wpAny _ _ _ _ _ _
    rename Fr _ _ _ _ => F3
    rename News _ _ _ _ => N3
    refine join_list (f := fun i => sgn ((rowN rr).getD i 0)) N3 hR (by rw [hy, List.size_toArray, hvl]; omega) ?_
    intro t9 k9'
    rw [hy, List.size_toArray, hvl, ← hrl, range_getD]
    k_steps
    show wpAny _ _ _ _ _ _
    rename Fr _ _ _ _ => F4
    rename News _ _ _ _ => N4
    refine Calls.call_len_list (PySem.IsL.isList (N4.get (.tail _ (.head _)))) (by rw [List.size_toArray, hvl]; omega) ?_
    rw [List.size_toArray, hvl]
    k_steps
    show wpAny _ _ _ _ _ _
    refine mul_blank (by omega) (by omega) ?_
    intro t10 k10
    k_steps
    show wpAny _ _ _ _ _ _
    refine add_txt rfl rfl (by rw [List.length_map]; omega) (by rw [List.length_replicate]; omega) ?_
    intro t11 k11
    k_steps
    show wpAny _ _ _ _ _ _
    have hk : ((4 : Int) - ((dlen 4 rr : Nat) : Int)).toNat = 4 - (rowN rr).length := by rw [hrl]; omega
    rw [hk]
    refine iadd_txt (by omega) (by rw [List.length_append, List.length_map, List.length_replicate]; omega) ?_
    intro t12 k12
    k_steps
    rename Fr _ _ _ _ => F8
    rename News _ _ _ _ => N8
    exact hQ _ _ _ c8 k8 o8 c29 k29 o29 _ F8 (News_drop 2 N8) hTP4 O7 rfl vh vf vnm
local macro_rules | `(tactic| walk_at "execs cons If cons") => `(tactic| (refine hold_of ?_))
set_option maxHeartbeats 4000000 in
theorem law_I {w : World} {s : Shared} {base G : Heap} {p : Program} {loose : List Str} {mean : ExcName → Option Value} {mg mb : Str → Option Value}
    {t22 : List PySem.Expr} {e22 : PySem.Expr} {p22 : Pos} {t23 : PySem.Expr} {e23 : PySem.Expr} {b23 : List Stmt} {f23 : List Stmt} {p23 : Pos} {rest : List Stmt} (h22 : stm2 20 22 = .Assign t22 e22 p22) (h23 : stm2 20 23 = .For t23 e23 b23 f23 p23) {name bind : Str} {params : Arguments} {body : List Stmt} {scope : Scope} {pos : Pos} (hK0 : stm 20 = .FunctionDef name params body [] none [] scope none bind pos) {L : Nat} {fa : Addr} {cd : Value}
    {m : Str → Option Value} {Q : Flow → Shared → Prop} {E : Value → Shared → Prop} {hl l c c2 ee e2 : Nat} {k o k2 o2 o7 : Obj} {vs us : List Value} {n e b0 b1 d mn mx r0 r1 : Int} {t7 : Tok} {rest0 : List (Addr × Obj)} {vn : Value}
    (B : Below callerA base [] G) (X : (pre.heap_1_39 w.params).In G) (T : Top p loose mean mg mb G) (F : Fr G L s.heap m)
    (N : News G L s.heap ((c, k) :: (30, o) :: (c2, k2) :: (37, o2) :: (hl, listOf (List.toArray vs) ee) :: (l, listOf (List.toArray us) e2) :: (L+1+1+1+1+1+1+1, o7) :: rest0)) (hTP : TP c k o c2 k2 o2) (O : OT c c2 ((hl, listOf (List.toArray vs) ee) :: (l, listOf (List.toArray us) e2) :: (L+1+1+1+1+1+1+1, o7) :: rest0)) (C34 : CodeHd G 34 30) (C41 : CodeHd G 41 37)
    (d7 : o7.data = .cell (some (.str signsS t7))) (hvs : IntsAre vs [n, e, b0, b1]) (hus : IntsAre us [d, mn, mx]) (n0 : 0 < n ∧ n < 800000) (hd : 3 ≤ d ∧ d ≤ 9) (hb0 : 0 ≤ b0 ∧ b0 < 800000) (hb1 : 0 ≤ b1 ∧ b1 < 800000) (hr0 : b0 ^ d.toNat % n = r0) (hr1 : b1 ^ d.toNat % n = r1) (hr0b : r0 < 65536) (hr1b : r1 < 65536) (ll : 30 < L ∧ 37 < L)
    (vh : m (PySem.Str.ofString "heard") = some (.ref hl)) (vf : m (PySem.Str.ofString "found") = some (.ref l)) (vnm : m (PySem.Str.ofString "name") = some vn)
    (hQ : ∀ (h' : Heap) (tk : Nat) (m' : Str → Option Value) (c' : Addr) (k' o' : Obj) (c2' : Addr) (k2' o2' : Obj) (tt : Tok), Fr G L h' m' → News G L h' ((c', k') :: (30, o') :: (c2', k2') :: (37, o2') :: (hl, listOf (List.toArray vs) ee) :: (l, listOf (List.toArray us) e2) :: (L+1+1+1+1+1+1+1, o7) :: rest0) → TP c' k' o' c2' k2' o2' → OT c' c2' ((hl, listOf (List.toArray vs) ee) :: (l, listOf (List.toArray us) e2) :: (L+1+1+1+1+1+1+1, o7) :: rest0) →
      m' (PySem.Str.ofString "text") = some (.str (txt (piece r0 ++ piece r1)) tt) → m' (PySem.Str.ofString "name") = some vn →
      wpAny (model PySem.Challenge.rw_ta0029_01.row.prog w) (callerA.deeper (envOfC (PySem.Str.ofString "law") scope L fa cd)) (execs rest (envOfC (PySem.Str.ofString "law") scope L fa cd)) Q E { s with heap := h', toks := tk }) :
    wpAny (model PySem.Challenge.rw_ta0029_01.row.prog w) (callerA.deeper (envOfC (PySem.Str.ofString "law") scope L fa cd)) (execs (.Assign t22 e22 p22 :: .For t23 e23 b23 f23 p23 :: rest) (envOfC (PySem.Str.ofString "law") scope L fa cd)) Q E s := by
  cases h22
  cases h23
  cases hK0
  revert X; k_fill; intro X
  have K0 := B
  w_top on
  k_steps
  show wpAny _ _ _ _ _ _
  refine For_hid ?_
  k_steps
  show wpAny _ _ _ _ _ _
  rename Fr _ _ _ _ => F1
  rename News _ _ _ _ => N1
  rename IntsAre _ (List.drop 2 _) => hws
  rename_i hA hp ws hB hC hL lhp
  clear hC hL
  obtain ⟨w1, w2, rfl⟩ : ∃ w1 w2, ws = [.int b0 w1, .int b1 w2] := by
    cases hws with
    | cons _ w1 h => cases h with
      | cons _ w2 h => cases h; exact ⟨_, _, rfl⟩
  clear hws
  refine wpAny_pyIter_list (PySem.IsL.isList (N1.get (.head _))) ?_
  have F2 := F1.push { cls := .type "list_iterator", data := .fields #[.ref hp, .int 0 0] }
  have N2 := N1.push F1 { cls := .type "list_iterator", data := .fields #[.ref hp, .int 0 0] }
  have lD := allLt_of fun q hq => Heap.lt_size (N1 q hq).1
  simp only [AllLt] at lhp lD
  (try dsimp only at F2 N2 lD)
  clear F1 N1
  generalize hB.objs.size = It at N2 lD ⊢
  have O1 : OT c c2 ((hp, listOf (List.toArray [.int b0 w1, .int b1 w2]) 0) :: (hl, listOf (List.toArray vs) ee) :: (l, listOf (List.toArray us) e2) :: (L+1+1+1+1+1+1+1, o7) :: rest0) := O.cons (by refine neN ?_; omega) (by refine neN ?_; omega) (by refine neN ?_; omega) (by refine neN ?_; omega)
  have hIt1 : @Ne Nat It c ∧ @Ne Nat It 30 ∧ @Ne Nat It c2 ∧ @Ne Nat It 37 := ⟨by refine neN ?_; omega, by refine neN ?_; omega, by refine neN ?_; omega, by refine neN ?_; omega⟩
  have hItB : ∀ q ∈ ((hp, listOf (List.toArray [.int b0 w1, .int b1 w2]) 0) :: (hl, listOf (List.toArray vs) ee) :: (l, listOf (List.toArray us) e2) :: (L+1+1+1+1+1+1+1, o7) :: rest0 : List (Addr × Obj)), @Ne Nat q.1 It := List.forall_mem_cons.mpr ⟨neN (by dsimp only; omega), List.forall_mem_cons.mpr ⟨neN (by dsimp only; omega), List.forall_mem_cons.mpr ⟨neN (by dsimp only; omega), List.forall_mem_cons.mpr ⟨neN (by dsimp only; omega), fun q hq => Nat.ne_of_lt (ktn_ltOf lD.2.2.2.2.2.2.2.2 q hq)⟩⟩⟩⟩
  have N3 := News_app (News_take 1 N2) (News_app (News_take 4 (News_drop 2 N2)) (News_app (News_take 1 (News_drop 1 N2)) (News_drop 6 N2)))
  dsimp only [List.take, List.drop, List.cons_append, List.nil_append] at N3
  have et : ∀ t : Tok, some (Value.str (PySem.Str.ofString "") t) = some (.str (txt (([piece r0, piece r1].take 0).flatten)) t) := fun t => by rw [e_txt2]; rfl
  clear N2 lD lhp
  refine ⟨fun n2 s' => ∀ P : Shared → Prop, (∀ (i : Nat) (h : Heap) (tk : Nat) (m' : Str → Option Value) (oi : Obj) (c : Addr) (k o : Obj) (c2 : Addr) (k2 o2 : Obj) (tt : Tok), n2 + i = 2 → Fr G L h m' → News G L h ((It, oi) :: (c, k) :: (30, o) :: (c2, k2) :: (37, o2) :: (hp, listOf (List.toArray [.int b0 w1, .int b1 w2]) 0) :: (hl, listOf (List.toArray vs) ee) :: (l, listOf (List.toArray us) e2) :: (L+1+1+1+1+1+1+1, o7) :: rest0) → (oi.cls = .type "list_iterator" ∧ oi.data = .fields #[.ref hp, .int i 0]) → TP c k o c2 k2 o2 → OT c c2 ((hp, listOf (List.toArray [.int b0 w1, .int b1 w2]) 0) :: (hl, listOf (List.toArray vs) ee) :: (l, listOf (List.toArray us) e2) :: (L+1+1+1+1+1+1+1, o7) :: rest0) → (@Ne Nat It c ∧ @Ne Nat It 30 ∧ @Ne Nat It c2 ∧ @Ne Nat It 37) → m' (PySem.Str.ofString "text") = some (.str (txt (([piece r0, piece r1].take i).flatten)) tt) → m' (PySem.Str.ofString "heard") = some (.ref hl) → m' (PySem.Str.ofString "found") = some (.ref l) → m' (PySem.Str.ofString "name") = some vn → P { s with heap := h, toks := tk }) → P s', 2, ?_, ?_⟩
  · exact fun P hP => hP 0 _ _ _ _ _ _ _ _ _ _ _ rfl F2 N3 ⟨rfl, rfl⟩ hTP O1 hIt1 (et _) vh vf vnm
  clear F2 N3 hTP O1 hIt1 O et vh vf vnm
  intro n2 s' hI Qa hQa _ _
  refine hI _ fun i h tk m' oi c k o c2 k2 o2 tt hi F4 N4 hoi hTP O1 hIt vt vh vf vnm => ?_
  clear hI
  have zI := N4 _ (.head _)
  have hIt4 : ∀ q ∈ ((c, k) :: (30, o) :: (c2, k2) :: (37, o2) :: (hp, listOf (List.toArray [.int b0 w1, .int b1 w2]) 0) :: (hl, listOf (List.toArray vs) ee) :: (l, listOf (List.toArray us) e2) :: (L+1+1+1+1+1+1+1, o7) :: rest0 : List (Addr × Obj)), @Ne Nat q.1 It := List.forall_mem_cons.mpr ⟨hIt.1.symm, List.forall_mem_cons.mpr ⟨hIt.2.1.symm, List.forall_mem_cons.mpr ⟨hIt.2.2.1.symm, List.forall_mem_cons.mpr ⟨hIt.2.2.2.symm, hItB⟩⟩⟩⟩
  by_cases hi2 : i = 2
  · cases hi2
    refine wpAny_pyNext_list_end rfl ⟨_, zI.1, hoi.1, hoi.2⟩ (PySem.IsL.isList (N4.get (.tail _ (.tail _ (.tail _ (.tail _ (.tail _ (.head _)))))))) (by simp) fun h5 hx => ?_
    have F5 := Fr_but F4 hx zI.2.1 zI.2.2
    have N5 := News_but N4 hx hIt4
    clear F4 N4
    dsimp only
    k_steps
    rename Fr _ _ _ _ => F8
    rename News _ _ _ _ => N8
    have N9 := News_app (News_take 4 N8) (News_drop 5 N8)
    dsimp only [List.take, List.drop, List.cons_append, List.nil_append] at N9
    have e9 : ([piece r0, piece r1].take 2).flatten = piece r0 ++ piece r1 := by simp
    rw [e9] at vt
    exact hQ _ _ _ _ _ _ _ _ _ _ F8 N9 hTP O1.tail vt vnm
  obtain ⟨bb, wb, rr, hget, hbb, hrr0, hrrb, hnext⟩ : ∃ bb wb rr, ([.int b0 w1, .int b1 w2] : List Value).toArray[i]? = some (.int bb wb) ∧ (0 ≤ bb ∧ bb < 800000) ∧ bb ^ d.toNat % n = rr ∧ rr < 65536 ∧ ([piece r0, piece r1].take (i + 1)).flatten = ([piece r0, piece r1].take i).flatten ++ piece rr := by
    rcases (show i = 0 ∨ i = 1 by omega) with rfl | rfl
    · exact ⟨b0, w1, r0, rfl, hb0, hr0, hr0b, by simp⟩
    · exact ⟨b1, w2, r1, rfl, hb1, hr1, hr1b, by simp⟩
  have htl : (([piece r0, piece r1].take i).flatten).length ≤ 4 := by
    have h1 : 0 ≤ r0 := by rw [← hr0]; exact Int.emod_nonneg _ (by omega)
    rcases (show i = 0 ∨ i = 1 by omega) with rfl | rfl
    · simp
    · simp only [List.take_succ_cons, List.take_zero, List.flatten_cons, List.flatten_nil, List.append_nil]; exact piece_len h1 hr0b
  generalize htx : ([piece r0, piece r1].take i).flatten = tx at vt hnext htl
  refine wpAny_pyNext_list_item ⟨_, zI.1, hoi.1, hoi.2⟩ (PySem.IsL.isList (N4.get (.tail _ (.tail _ (.tail _ (.tail _ (.tail _ (.head _)))))))) hget fun h5 hit hsb => ?_
  obtain ⟨oi', hoi1, hoi2, hoi3⟩ := id hit
  have F5 := F4.change hsb zI.2.1 zI.2.2
  have N5 := News_set1 N4 hsb hoi1 hIt4
  clear F4 N4 zI hsb hoi1 hIt4
  have N6 := News_app (News_take 4 (News_drop 1 N5)) (News_app (News_take 1 N5) (News_drop 5 N5))
  dsimp only [List.take, List.drop, List.cons_append, List.nil_append] at N6
  clear N5
  have O2 : OT c c2 ((It, oi') :: (hp, listOf (List.toArray [.int b0 w1, .int b1 w2]) 0) :: (hl, listOf (List.toArray vs) ee) :: (l, listOf (List.toArray us) e2) :: (L+1+1+1+1+1+1+1, o7) :: rest0) := O1.cons hIt.1 hIt.2.1 hIt.2.2.1 hIt.2.2.2
  clear O1 hIt
  dsimp only
  refine wpAny_of_eq (a := ()) rfl ?_
  k_steps
  show wpAny _ _ (binaryOp .Pow (.int bb _) (.int d _)) _ _ _
  refine pow_d hbb hd ?_
  intro v hv v0 v1
  dsimp only
  k_steps
  show wpAny _ _ (call (.ref 56) [.int v _, .int n _]) _ _ _
  rename Fr _ _ _ _ => F1
  rename News _ _ _ _ => N1
  have hvr : v % n = rr := by rw [hv]; exact hrr0
  clear hrr0
  obtain ⟨q, hq⟩ : ∃ q, q = v / n := ⟨_, rfl⟩
  have hrb : 0 ≤ rr ∧ rr < n := by rw [← hvr]; exact ⟨Int.emod_nonneg _ (by omega), Int.emod_lt_of_pos _ n0.1⟩
  have hsum : q * n + rr = v := by rw [hq, ← hvr]; exact Int.ediv_mul_add_emod v n
  have hneg := negdiv2 n0.1 hq hvr
  clear hv
  refine call_dm2 (idm_c w) B F1 rfl rfl rfl rfl N1 hTP O2 C34 C41 X T (any_big (by omega) n0.1 (by omega)) (by decide) (by decide) ?_
  intro h1 tk1 t3 t4 t5 c' k' o' c2' k2' o2' F2 N2 hTP2 O3 hcc hcc2
  clear F1 N1 hTP O2
  rw [← hq, hvr] at N2
  dsimp only
  have hmap : ∀ {a a2 : Addr} {x : Addr × Obj}, OT a a2 (x :: (It, oi') :: (hp, listOf (List.toArray [.int b0 w1, .int b1 w2]) 0) :: (hl, listOf (List.toArray vs) ee) :: (l, listOf (List.toArray us) e2) :: (L+1+1+1+1+1+1+1, o7) :: rest0) → OT a a2 (x :: (hl, listOf (List.toArray vs) ee) :: (L+1+1+1+1+1+1+1, o7) :: (It, oi') :: (hp, listOf (List.toArray [.int b0 w1, .int b1 w2]) 0) :: (l, listOf (List.toArray us) e2) :: rest0) := fun O q hq => O q (by
    simp only [List.mem_cons] at hq ⊢
    rcases hq with h | h | h | h | h | h | h
    · exact .inl h
    · exact .inr (.inr (.inr (.inl h)))
    · exact .inr (.inr (.inr (.inr (.inr (.inl h)))))
    · exact .inr (.inl h)
    · exact .inr (.inr (.inl h))
    · exact .inr (.inr (.inr (.inr (.inl h))))
    · exact .inr (.inr (.inr (.inr (.inr (.inr h))))))
  have hback : ∀ {a a2 : Addr}, OT a a2 ((hl, listOf (List.toArray vs) ee) :: (L+1+1+1+1+1+1+1, o7) :: (It, oi') :: (hp, listOf (List.toArray [.int b0 w1, .int b1 w2]) 0) :: (l, listOf (List.toArray us) e2) :: rest0) → OT a a2 ((It, oi') :: (hp, listOf (List.toArray [.int b0 w1, .int b1 w2]) 0) :: (hl, listOf (List.toArray vs) ee) :: (l, listOf (List.toArray us) e2) :: (L+1+1+1+1+1+1+1, o7) :: rest0) := fun O q hq => O q (by
    simp only [List.mem_cons] at hq ⊢
    rcases hq with h | h | h | h | h | h
    · exact .inr (.inr (.inl h))
    · exact .inr (.inr (.inr (.inl h)))
    · exact .inl h
    · exact .inr (.inr (.inr (.inr (.inl h))))
    · exact .inr (.inl h)
    · exact .inr (.inr (.inr (.inr (.inr h)))))
  have fin : ∀ (h' : Heap) (tk : Nat) (mm : Str → Option Value) (c' : Addr) (k' o' : Obj) (c2' : Addr) (k2' o2' : Obj) (tt : Tok), Fr G L h' mm → News G L h' ((c', k') :: (30, o') :: (c2', k2') :: (37, o2') :: (hl, listOf (List.toArray vs) ee) :: (L+1+1+1+1+1+1+1, o7) :: (It, oi') :: (hp, listOf (List.toArray [.int b0 w1, .int b1 w2]) 0) :: (l, listOf (List.toArray us) e2) :: rest0) → TP c' k' o' c2' k2' o2' → OT c' c2' ((hl, listOf (List.toArray vs) ee) :: (L+1+1+1+1+1+1+1, o7) :: (It, oi') :: (hp, listOf (List.toArray [.int b0 w1, .int b1 w2]) 0) :: (l, listOf (List.toArray us) e2) :: rest0) →
      mm (PySem.Str.ofString "text") = some (.str (txt (tx ++ piece rr)) tt) → mm (PySem.Str.ofString "heard") = some (.ref hl) → mm (PySem.Str.ofString "found") = some (.ref l) → mm (PySem.Str.ofString "name") = some vn → (fun n2 s' => ∀ P : Shared → Prop, (∀ (i : Nat) (h : Heap) (tk : Nat) (m' : Str → Option Value) (oi : Obj) (c : Addr) (k o : Obj) (c2 : Addr) (k2 o2 : Obj) (tt : Tok), n2 + i = 2 → Fr G L h m' → News G L h ((It, oi) :: (c, k) :: (30, o) :: (c2, k2) :: (37, o2) :: (hp, listOf (List.toArray [.int b0 w1, .int b1 w2]) 0) :: (hl, listOf (List.toArray vs) ee) :: (l, listOf (List.toArray us) e2) :: (L+1+1+1+1+1+1+1, o7) :: rest0) → (oi.cls = .type "list_iterator" ∧ oi.data = .fields #[.ref hp, .int i 0]) → TP c k o c2 k2 o2 → OT c c2 ((hp, listOf (List.toArray [.int b0 w1, .int b1 w2]) 0) :: (hl, listOf (List.toArray vs) ee) :: (l, listOf (List.toArray us) e2) :: (L+1+1+1+1+1+1+1, o7) :: rest0) → (@Ne Nat It c ∧ @Ne Nat It 30 ∧ @Ne Nat It c2 ∧ @Ne Nat It 37) → m' (PySem.Str.ofString "text") = some (.str (txt (([piece r0, piece r1].take i).flatten)) tt) → m' (PySem.Str.ofString "heard") = some (.ref hl) → m' (PySem.Str.ofString "found") = some (.ref l) → m' (PySem.Str.ofString "name") = some vn → P { s with heap := h, toks := tk }) → P s') (n2 - 1) { s with heap := h', toks := tk } := by
    intro h' tk mm c' k' o' c2' k2' o2' tt F N hTP O vt vh vf vnm
    have O7 := hback O
    have N9 := News_app (News_take 1 (News_drop 6 N)) (News_app (News_take 4 N) (News_app (News_take 1 (News_drop 7 N)) (News_app (News_take 1 (News_drop 4 N)) (News_app (News_take 1 (News_drop 8 N)) (News_app (News_take 1 (News_drop 5 N)) (News_drop 9 N))))))
    dsimp only [List.take, List.drop, List.cons_append, List.nil_append] at N9
    rw [← hnext] at vt
    exact fun P hP => hP (i + 1) _ _ _ oi' c' k' o' c2' k2' o2' _ (by omega) F N9 ⟨hoi2, hoi3⟩ hTP O7.tail O7.head vt vh vf vnm
  rcases hneg with ⟨hr1, hn1, hn2⟩ | ⟨hr1, hn1, hn2⟩
  all_goals k_steps
  · show wpAny _ _ _ _ _ _
    rename Fr _ _ _ _ => F1
    rename News _ _ _ _ => N1
    rename t3 < _ ∧ _ => lx
    have N4 := News_app (News_take 1 N1) (News_app (News_take 4 (News_drop 2 N1)) (News_app (News_take 1 (News_drop 8 N1)) (News_app (News_take 1 (News_drop 10 N1)) (News_app (News_take 2 (News_drop 6 N1)) (News_app (News_take 1 (News_drop 9 N1)) (News_drop 11 N1))))))
    dsimp only [List.take, List.drop, List.cons_append, List.nil_append] at N4
    refine law_I2 rfl rfl rfl rfl rfl B X T F1 N4 hTP2 (hmap (O3.cons (by refine neN ?_; omega) (by refine neN ?_; omega) (by refine neN ?_; omega) (by refine neN ?_; omega))) C34 C41 d7 hvs n0 hsum v0 v1 hrb.1 hrrb hn1 hn2 htl rfl rfl rfl rfl vt vh vf vnm ?_
    intro h8 tk8 m8 c8 k8 o8 c9 k9 o9 t8 F8 N8 hTP8 O8 vt8 vh8 vf8 vn8
    exact hQa _ (n2 - 1) (by omega) (fin _ _ _ _ _ _ _ _ _ _ F8 N8 hTP8 O8 vt8 vh8 vf8 vn8)
  · show wpAny _ _ _ _ _ _
    rename Fr _ _ _ _ => F1
    rename News _ _ _ _ => N1
    rename t3 < _ ∧ _ => lx
    have N4 := News_app (News_take 1 N1) (News_app (News_take 4 (News_drop 2 N1)) (News_app (News_take 1 (News_drop 8 N1)) (News_app (News_take 1 (News_drop 10 N1)) (News_app (News_take 2 (News_drop 6 N1)) (News_app (News_take 1 (News_drop 9 N1)) (News_drop 11 N1))))))
    dsimp only [List.take, List.drop, List.cons_append, List.nil_append] at N4
    refine law_I2 rfl rfl rfl rfl rfl B X T F1 N4 hTP2 (hmap (O3.cons (by refine neN ?_; omega) (by refine neN ?_; omega) (by refine neN ?_; omega) (by refine neN ?_; omega))) C34 C41 d7 hvs n0 hsum v0 v1 hrb.1 hrrb hn1 hn2 htl rfl rfl rfl rfl vt vh vf vnm ?_
    intro h8 tk8 m8 c8 k8 o8 c9 k9 o9 t8 F8 N8 hTP8 O8 vt8 vh8 vf8 vn8
    exact hQa _ (n2 - 1) (by omega) (fin _ _ _ _ _ _ _ _ _ _ F8 N8 hTP8 O8 vt8 vh8 vf8 vn8)
end Mine
end
section
open PySem PySem.Spec PySem.Calls PySem.W PyProof.Rows
set_option maxRecDepth 100000
set_option rowWalk.seconds 0
namespace Mine
theorem nat_at {vs : List Value} {gn : List Nat} {i : Nat} {v : Value} (hi : IntsAre vs (gn.map fun (j : Nat) => (j : Int))) (hv : vs.toArray[i]? = some v) (gb : ∀ g ∈ gn, g < 16) : ∃ (z : Int) (t : Tok), v = .int z t ∧ z.toNat = gn.getD i 0 ∧ 0 ≤ z ∧ z < 16 := by
  rw [List.getElem?_toArray] at hv
  have hl : i < vs.length := (List.getElem?_eq_some_iff.mp hv).1
  have hl2 : i < gn.length := by
    have := hi.length
    rw [List.length_map] at this
    omega
  obtain ⟨z, t, rfl, e⟩ := IntsAre.at hi i v hv
  rw [List.getElem?_map, List.getElem?_eq_getElem hl2] at e
  have hz : z = ((gn[i] : Nat) : Int) := (Option.some.inj e).symm
  subst hz
  have := gb _ (List.getElem_mem hl2)
  refine ⟨_, t, rfl, ?_, by omega, by omega⟩
  rw [List.getD_eq_getElem?_getD, List.getElem?_eq_getElem hl2]
  rfl
theorem lit257 : PySem.Str.ofString "257 \"" = txt P5 := by decide +kernel
theorem litS7 : PySem.Str.ofString "\" (\"x\")" = txt S7 := by decide +kernel
local macro_rules | `(tactic| walk_at "eval Name") => `(tactic| (k_here; k_dflt (refine' nameLA ?F ?v ?_; (case F => k_asm); (case v => first | exact rfl | assumption); k_whole)))
local macro_rules | `(tactic| walk_at "binaryOp Add str str") => `(tactic| (refine hold_of ?_))
local macro_rules | `(tactic| walk_at "call builtin:str.rstrip") => `(tactic| (refine hold_of ?_))
local macro_rules | `(tactic| walk_at "call ref") => `(tactic| ((with_reducible show wpAny _ _ (call (Value.ref 116) _) _ _ _); refine hold_of ?_))
local macro_rules | `(tactic| walk_at "CompSrc") => `(tactic| (refine hold_of ?_))
local macro_rules | `(tactic| walk_at "CompEnd") => `(tactic| (refine hold_of ?_))
local macro_rules | `(tactic| walk_at "subscriptTail Name Name str int") => `(tactic| (refine hold_of ?_))
local macro_rules | `(tactic| walk_at "call builtin:str.join") => `(tactic| (refine hold_of ?_))
set_option maxHeartbeats 4000000 in
theorem law_J {w : World} {s : Shared} {base G : Heap} {p : Program} {loose : List Str} {mean : ExcName → Option Value} {mg mb : Str → Option Value}
    {e24 : Option PySem.Expr} {p24 : Pos} {rest : List Stmt} (h24 : stm2 20 24 = .Return e24 p24) {name bind : Str} {params : Arguments} {body : List Stmt} {scope : Scope} {pos : Pos} (hK0 : stm 20 = .FunctionDef name params body [] none [] scope none bind pos) {L : Nat} {fa : Addr} {cd : Value}
    {m : Str → Option Value} {Q : Flow → Shared → Prop} {E : Value → Shared → Prop} {fl e2 : Nat} {o7 o8 : Obj} {yg : List Value} {gn tn cs : List Nat} {t7 tt tm : Tok} {rest0 : List (Addr × Obj)}
    (B : Below callerA base [] G) (X : (pre.heap_1_39 w.params).In G) (T : Top p loose mean mg mb G) (F : Fr G L s.heap m)
    (N : News G L s.heap ((L+1+1+1+1+1+1+1+1, o8) :: (fl, listOf (List.toArray yg) e2) :: (L+1+1+1+1+1+1+1, o7) :: rest0)) (d8 : o8.data = .cell (some (.ref fl))) (d7 : o7.data = .cell (some (.str signsS t7))) (hf : IntsAre yg (gn.map fun (i : Nat) => (i : Int))) (gl : gn.length = 8) (gb : ∀ g ∈ gn, g < 16) (htn : tn = gn.map sgn) (hrs : Txt.rstripChars (txt tn) (PySem.Str.ofString " ") = txt (dblC cs)) (hcs : cs.length ≤ 4)
    (vt : m (PySem.Str.ofString "text") = some (.str (txt tn) tt)) (vnm : m (PySem.Str.ofString "name") = some (.str (txt cs) tm))
    (hQ : ∀ (h' : Heap) (tk : Nat) (t : Tok), Fr G L h' m → News G L h' ((L+1+1+1+1+1+1+1+1, o8) :: (fl, listOf (List.toArray yg) e2) :: (L+1+1+1+1+1+1+1, o7) :: rest0) → Q (.ret (.bool true)) { s with heap := h', toks := tk }) :
    wpAny (model PySem.Challenge.rw_ta0029_01.row.prog w) (callerA.deeper (envOfC (PySem.Str.ofString "law") scope L fa cd)) (execs (.Return e24 p24 :: []) (envOfC (PySem.Str.ofString "law") scope L fa cd)) Q E s := by
  cases h24
  cases hK0
  revert X; k_fill; intro X
  have K0 := B
  w_top on
  subst htn
  have hyl : yg.length = 8 := by rw [hf.length, List.length_map, gl]
  have hdl := dbl_len cs
  k_steps
  rename Fr _ _ _ _ => F1
  rename News _ _ _ _ => N1
  refine LCg.CompSrc.ledger (its := yg.toArray) rfl F1 N1 (.tail _ (.head _)) (by rw [List.size_toArray, hyl]; decide) ?_
  intro g
  clear F1 N1
  refine comp_rest (fun i v => ∃ t : Tok, v = Value.str (one (sgn (gn.getD i 0))) t) ?turn ?fin
  case turn =>
    intro i v I oI C oC D2 m₂ ys h4 tk4 E' hi hv hC hx F2 N2 off ne
    obtain ⟨z, tz, rfl, hz, hz0, hz1⟩ := nat_at hf hv gb
    rw [← hz]
    k_steps
    show wpAny _ _ _ _ _ _
    refine item_sign hz0 hz1 ?_
    intro t9 k9'
    k_steps
    rename Fr _ _ _ _ => F3
    rename News _ _ _ _ => N3
    refine comp_end F3 N3 ?_ off (.inr ⟨_, .tail _ (.head _), rfl, _, rfl⟩) ⟨_, rfl⟩
    first | exact fun p hp => hp | exact fun p hp => .tail _ hp | exact fun p hp => .tail _ (.tail _ hp)
  case fin =>
    intro ys hy hR D3 h4 tk4 F2 N2 off
    k_steps
    show wpAny _ _ _ _ _ _
    rename Fr _ _ _ _ => F3
    rename News _ _ _ _ => N3
    refine join_list (f := fun i => sgn (gn.getD i 0)) N3 hR (by rw [hy, List.size_toArray, hyl]; omega) ?_
    intro t9 k9'
    rw [hy, List.size_toArray, hyl, ← gl, range_getD]
    k_steps
    show wpAny _ _ _ _ _ _
    refine KXw.rstripChars hrs (by rw [txt_length, List.length_map, gl]; decide) ?_
    intro t10 k10
    k_steps
    show wpAny _ _ _ _ _ _
    refine add_txt lit257 rfl (by decide) (by omega) ?_
    intro t11 k11
    k_steps
    show wpAny _ _ _ _ _ _
    refine add_txt rfl litS7 (by rw [List.length_append]; show 5 + _ ≤ _; omega) (by decide) ?_
    intro t12 k12
    k_steps
    show wpAny _ _ _ _ _ _
    rename Fr _ _ _ _ => F4
    rename News _ _ _ _ => N4
    refine call_257 B F4 rfl rfl rfl rfl N4 X T rfl (by omega) (by decide) (by decide) ?_
    intro h5 tk5 t13 F5 N5
    clear F4 N4
    dsimp only
    k_steps
    rw [beq_self_eq_true]
    exact hQ _ _ 0 F5 (News_drop 1 N5)
end Mine
end
section
open PySem PyProof.Rows PySem.Builtin PySem.Builtin.Str
namespace Mine
theorem blanks_while {goes : Nat → Bool} (hg : goes 32 = true) {z : Nat} (hz : goes z = false) (r : List Nat) : ∀ k : Nat, ((List.replicate k 32 ++ z :: r).takeWhile goes).length = k
  | 0 => by rw [List.replicate_zero, List.nil_append, List.takeWhile_cons, hz]; rfl
  | k + 1 => by
    rw [List.replicate_succ, List.cons_append, List.takeWhile_cons, hg, if_pos rfl, List.length_cons, blanks_while hg hz r k]
theorem rstrip_blanks (a : List Nat) {z : Nat} (hz : z ≠ 32) (k : Nat) : Txt.rstripChars ⟨(a ++ [z] ++ List.replicate k 32).toArray⟩ (PySem.Str.ofString " ") = ⟨(a ++ [z]).toArray⟩ := by
  have hb : (PySem.Str.ofString " ").cps = #[32] := by decide +kernel
  have hg : (PySem.Str.ofString " ").cps.contains 32 = true := by rw [hb]; simp
  have hz' : (PySem.Str.ofString " ").cps.contains z = false := by rw [hb]; simp [hz]
  unfold Txt.rstripChars
  rw [stripBy_eq]
  show strSub _ 0 (stripHi _ true _ 0) = _
  have hi : stripHi (PySem.Str.ofString " ").cps.contains true ⟨(a ++ [z] ++ List.replicate k 32).toArray⟩ 0 = (a ++ [z]).length := by
    simp only [stripHi, if_true, List.drop_zero, List.reverse_append, List.reverse_replicate, List.reverse_cons, List.reverse_nil, List.nil_append, List.cons_append]
    rw [blanks_while hg hz']
    show (a ++ [z] ++ List.replicate k 32).toArray.size - k = _
    simp
    omega
  rw [hi]
  unfold strSub
  simp only [List.extract_toArray, List.extract_eq_take_drop]
  rw [List.drop_zero, Nat.sub_zero, List.take_left]
end Mine
end
section
open PySem PyProof.Rows
namespace Mine
/-- what Fermat says of the primes -/
def fermB (p : Nat) : Bool := (List.range p).all fun a => a ^ p % p == a
def primesN : List Nat := [467, 479, 503, 563, 587, 719, 839, 863, 887]
theorem ferm_ok : ∀ p ∈ primesN, fermB p = true := by decide +kernel
theorem ferm {p : Nat} (hp : p ∈ primesN) (a : Nat) : a ^ p % p = a % p := by
  have h := List.all_eq_true.mp (ferm_ok p hp) (a % p) (List.mem_range.mpr (Nat.mod_lt _ ?_))
  · have h := of_decide_eq_true h
    rw [Nat.pow_mod]; exact h
  · have : ∀ p ∈ primesN, 0 < p := by decide
    exact this p hp
theorem ferm_run {p : Nat} (hp : p ∈ primesN) (a : Nat) : ∀ m : Nat, a ^ (1 + m * (p - 1)) % p = a % p
  | 0 => by rw [Nat.zero_mul, Nat.add_zero, Nat.pow_one]
  | m + 1 => by
    have h0 : 0 < p := by
      have : ∀ p ∈ primesN, 0 < p := by decide
      exact this p hp
    rw [show 1 + (m + 1) * (p - 1) = (1 + m * (p - 1)) + (p - 1) by rw [Nat.add_mul, Nat.one_mul]; omega, Nat.pow_add, Nat.mul_mod, ferm_run hp a m, ← Nat.mul_mod]
    rw [show a * a ^ (p - 1) = a ^ p by rw [Nat.mul_comm, ← Nat.pow_succ]; congr 1; omega]
    exact ferm hp a
theorem rsa_nat {p q a x : Nat} (hp : p ∈ primesN) (hq : q ∈ primesN) (hc : Nat.Coprime p q) (hx : x % ((p - 1) * (q - 1)) = 1) (h2 : 1 ≤ x) : a ^ x % (p * q) = a % (p * q) := by
  obtain ⟨k, hk⟩ : ∃ k, x = 1 + k * ((p - 1) * (q - 1)) := ⟨x / ((p - 1) * (q - 1)), by
    have := Nat.div_add_mod x ((p - 1) * (q - 1))
    rw [hx, Nat.mul_comm] at this
    omega⟩
  have e1 : a ^ x % p = a % p := by rw [hk, show k * ((p - 1) * (q - 1)) = (k * (q - 1)) * (p - 1) by rw [Nat.mul_assoc, Nat.mul_comm (p - 1)]]; exact ferm_run hp a _
  have e2 : a ^ x % q = a % q := by rw [hk, ← Nat.mul_assoc]; exact ferm_run hq a _
  have d1 := Nat.dvd_of_mod_eq_zero (Nat.sub_mod_eq_zero_of_mod_eq e1)
  have d2 := Nat.dvd_of_mod_eq_zero (Nat.sub_mod_eq_zero_of_mod_eq e2)
  obtain ⟨c, hc'⟩ := Nat.Coprime.mul_dvd_of_dvd_of_dvd hc d1 d2
  have hle : a ≤ a ^ x := by
    rcases Nat.eq_zero_or_pos a with h | h
    · omega
    · exact Nat.le_self_pow (by omega) a
  have : a ^ x = a + p * q * c := by omega
  rw [this, Nat.add_mul_mod_self_left]
end Mine
end
section
open PySem PySem.Spec PySem.Calls PySem.W PyProof.Rows
set_option maxRecDepth 100000
namespace Mine
/-- the squares' power is the power -/
theorem pst_is {N E b : Nat} (hN : 1 < N) (hb : b < N) : ∀ k, pst (N : Int) (E : Int) (b : Int) k = (((b ^ (E % 2 ^ k) % N : Nat) : Int), ((b ^ (2 ^ k) % N : Nat) : Int))
  | 0 => by
    rw [pst, Nat.pow_zero, Nat.mod_one, Nat.pow_zero, Nat.pow_one, Nat.mod_eq_of_lt hN, Nat.mod_eq_of_lt hb]
    rfl
  | k + 1 => by
    rw [pst, pst_is hN hb k, pstep]
    dsimp only
    have e1 : ((E : Int).fdiv (2 ^ k)).fmod 2 = ((E / 2 ^ k % 2 : Nat) : Int) := by
      have : (2 : Int) ^ k = ((2 ^ k : Nat) : Int) := by rw [Int.natCast_pow]; rfl
      rw [this, ← Int.ofNat_fdiv]
      exact (Int.ofNat_fmod _ 2).symm
    have e2 : E % 2 ^ (k + 1) = E % 2 ^ k + 2 ^ k * (E / 2 ^ k % 2) := Nat.mod_pow_succ
    rw [e1]
    refine Prod.ext ?_ ?_
    · dsimp only
      rcases Nat.mod_two_eq_zero_or_one (E / 2 ^ k) with h | h
      · rw [h, if_neg (by decide), e2, h, Nat.mul_zero, Nat.add_zero]
      · rw [h, if_pos (by decide), e2, h, Nat.mul_one, Nat.pow_add]
        rw [← Int.natCast_mul, ← Int.ofNat_fmod, ← Nat.mul_mod]
    · dsimp only
      rw [← Int.natCast_mul, ← Int.ofNat_fmod, ← Nat.mul_mod, ← Nat.pow_add, Nat.pow_succ, Nat.mul_two]
theorem encF_is {N E b : Nat} (hN : 1 < N) (hb : b < N) (hE : E < 2 ^ 20) : encF (N : Int) (E : Int) (b : Int) = ((b ^ E % N : Nat) : Int) := by
  rw [encF, pst_is hN hb, Nat.mod_eq_of_lt hE]
/-- what is so of a pair's keys -/
def keyB (x y : Int) : Bool :=
  decide (223000 < x * y ∧ x * y < 800000 ∧ 0 ≤ (x - 1) * (y - 1) ∧ (x - 1) * (y - 1) < 800000) &&
  decide (x.toNat ∈ primesN ∧ y.toNat ∈ primesN ∧ Nat.gcd x.toNat y.toNat = 1 ∧ 0 ≤ x ∧ 0 ≤ y) &&
  (chL (x * y)).all fun d =>
    (match (rangeKs 1 (d - 1).toNat).filter (tstF ((x - 1) * (y - 1)) d) with
      | k :: _ => decide (0 ≤ k ∧ k < 9)
      | [] => false) &&
    decide (0 ≤ eOf ((x - 1) * (y - 1)) d ∧ eOf ((x - 1) * (y - 1)) d < 800000 ∧ ((eOf ((x - 1) * (y - 1)) d).toNat * d.toNat) % ((x.toNat - 1) * (y.toNat - 1)) = 1) &&
    decide (secF (x * y) (eOf ((x - 1) * (y - 1)) d) (runL 60 (x * y, 1, 0) (eOf ((x - 1) * (y - 1)) d, 0, 1)) = some [d, min x y, max x y])
theorem keys_ok : pairsL.all (fun q => keyB q.1 q.2) = true := by decide +kernel
theorem keys_of {x y : Int} (h : PQ x y) : keyB x y = true := List.all_eq_true.mp keys_ok (x, y) h
structure Keys (x y : Int) : Prop where
  n0 : 223000 < x * y
  n1 : x * y < 800000
  o0 : 0 ≤ (x - 1) * (y - 1)
  o1 : (x - 1) * (y - 1) < 800000
  px : x.toNat ∈ primesN
  py : y.toNat ∈ primesN
  cp : Nat.gcd x.toNat y.toNat = 1
  x0 : 0 ≤ x
  y0 : 0 ≤ y
  ne : ∀ d ∈ chL (x * y), ∃ k r, (rangeKs 1 (d - 1).toNat).filter (tstF ((x - 1) * (y - 1)) d) = k :: r ∧ 0 ≤ k ∧ k < 9
  e0 : ∀ d ∈ chL (x * y), 0 ≤ eOf ((x - 1) * (y - 1)) d
  e1 : ∀ d ∈ chL (x * y), eOf ((x - 1) * (y - 1)) d < 800000
  ed : ∀ d ∈ chL (x * y), ((eOf ((x - 1) * (y - 1)) d).toNat * d.toNat) % ((x.toNat - 1) * (y.toNat - 1)) = 1
  sec : ∀ d ∈ chL (x * y), secF (x * y) (eOf ((x - 1) * (y - 1)) d) (runL 60 (x * y, 1, 0) (eOf ((x - 1) * (y - 1)) d, 0, 1)) = some [d, min x y, max x y]
theorem keys_is {x y : Int} (h : PQ x y) : Keys x y := by
  have h := keys_of h
  rw [keyB, Bool.and_eq_true, Bool.and_eq_true, decide_eq_true_eq, decide_eq_true_eq, List.all_eq_true] at h
  obtain ⟨⟨⟨a1, a2, a3, a4⟩, b1, b2, b3, b4, b5⟩, c⟩ := h
  have c' : ∀ d ∈ chL (x * y), (∃ k r, (rangeKs 1 (d - 1).toNat).filter (tstF ((x - 1) * (y - 1)) d) = k :: r ∧ 0 ≤ k ∧ k < 9) ∧ (0 ≤ eOf ((x - 1) * (y - 1)) d ∧ eOf ((x - 1) * (y - 1)) d < 800000 ∧ ((eOf ((x - 1) * (y - 1)) d).toNat * d.toNat) % ((x.toNat - 1) * (y.toNat - 1)) = 1) ∧ secF (x * y) (eOf ((x - 1) * (y - 1)) d) (runL 60 (x * y, 1, 0) (eOf ((x - 1) * (y - 1)) d, 0, 1)) = some [d, min x y, max x y] := by
    intro d hd
    have := c d hd
    rw [Bool.and_eq_true, Bool.and_eq_true, decide_eq_true_eq, decide_eq_true_eq] at this
    refine ⟨?_, this.1.2, this.2⟩
    have h1 := this.1.1
    split at h1
    · rename_i k r e
      exact ⟨k, r, e, of_decide_eq_true h1⟩
    · exact Bool.noConfusion h1
  exact ⟨a1, a2, a3, a4, b1, b2, b3, b4, b5, fun d hd => (c' d hd).1, fun d hd => (c' d hd).2.1.1, fun d hd => (c' d hd).2.1.2.1, fun d hd => (c' d hd).2.1.2.2, fun d hd => (c' d hd).2.2⟩
/-- the secret exponent brings a block back -/
theorem rsa_is {x y d b : Int} (K : Keys x y) (hd : d ∈ chL (x * y)) (b0 : 0 ≤ b) (b1 : b < 65536) : encF (x * y) (eOf ((x - 1) * (y - 1)) d) b ^ d.toNat % (x * y) = b := by
  have e0 := K.e0 d hd
  have e1 := K.e1 d hd
  have ed := K.ed d hd
  generalize eOf ((x - 1) * (y - 1)) d = e at e0 e1 ed ⊢
  have n0 := K.n0
  have n1 := K.n1
  have cp := K.cp
  have px := K.px
  have py := K.py
  obtain ⟨p, rfl⟩ := Int.eq_ofNat_of_zero_le K.x0
  obtain ⟨q, rfl⟩ := Int.eq_ofNat_of_zero_le K.y0
  obtain ⟨B, rfl⟩ := Int.eq_ofNat_of_zero_le b0
  obtain ⟨E, rfl⟩ := Int.eq_ofNat_of_zero_le e0
  simp only [Int.toNat_natCast] at cp px py ed
  rw [← Int.natCast_mul] at n0 n1 ⊢
  have hB : B < p * q := by omega
  rw [encF_is (by omega) hB (by show E < 1048576; omega), ← Int.natCast_pow, ← Int.natCast_emod, ← Nat.pow_mod, ← Nat.pow_mul]
  congr 1
  rw [rsa_nat px py cp ed ?_, Nat.mod_eq_of_lt hB]
  apply Nat.pos_of_ne_zero
  intro h
  rw [h, Nat.zero_mod] at ed
  exact absurd ed (by decide)
theorem encF_bnd {x y e b : Int} (K : Keys x y) (hb : 0 ≤ b ∧ b < 65536) : 0 ≤ encF (x * y) e b ∧ encF (x * y) e b < 800000 := (pst_bnd (by have := K.n0; omega) K.n1 hb 20).1
end Mine
end
section
open PySem PySem.Spec PySem.Calls PySem.W PyProof.Rows
set_option maxRecDepth 100000
namespace Mine
theorem dg_zero (n : Nat) : ∀ k : Nat, dg n k 0 = List.replicate k 0
  | 0 => rfl
  | k + 1 => by
    rw [dg, List.replicate_succ, Int.zero_emod, Int.zero_ediv, dg_zero n k]
theorem dv4_eq (g0 g1 g2 g3 : Int) : dv 4 [g0, g1, g2, g3] = g0 + 16 * (g1 + 16 * (g2 + 16 * g3)) := by
  simp only [dv]
  show g0 + 16 * (g1 + 16 * (g2 + 16 * (g3 + 16 * 0))) = _
  omega
theorem dg4_eq {g0 g1 g2 g3 : Int} (h0 : 0 ≤ g0 ∧ g0 < 16) (h1 : 0 ≤ g1 ∧ g1 < 16) (h2 : 0 ≤ g2 ∧ g2 < 16) (h3 : 0 ≤ g3 ∧ g3 < 16) : dg 4 4 (dv 4 [g0, g1, g2, g3]) = [g0, g1, g2, g3] := by
  rw [dv4_eq]
  simp only [dg]
  show [(g0 + 16 * (g1 + 16 * (g2 + 16 * g3))) % 16, (g0 + 16 * (g1 + 16 * (g2 + 16 * g3))) / 16 % 16, (g0 + 16 * (g1 + 16 * (g2 + 16 * g3))) / 16 / 16 % 16, (g0 + 16 * (g1 + 16 * (g2 + 16 * g3))) / 16 / 16 / 16 % 16] = _
  congr 1
  · omega
  congr 1
  · omega
  congr 1
  · omega
  congr 1
  omega
theorem dv4_bnd {g0 g1 g2 g3 : Int} (h0 : 0 ≤ g0 ∧ g0 < 16) (h1 : 0 ≤ g1 ∧ g1 < 16) (h2 : 0 ≤ g2 ∧ g2 < 16) (h3 : 0 ≤ g3 ∧ g3 < 16) : 0 ≤ dv 4 [g0, g1, g2, g3] ∧ dv 4 [g0, g1, g2, g3] < 65536 := by
  rw [dv4_eq]; omega
theorem piece_is {g0 g1 g2 g3 : Nat} (h0 : g0 < 16) (h1 : g1 < 16) (h2 : g2 < 16) (h3 : g3 < 16) : piece (dv 4 [(g0 : Int), g1, g2, g3]) = [g0, g1, g2, g3].map sgn := by
  have b0 : 0 ≤ (g0 : Int) ∧ (g0 : Int) < 16 := by omega
  have b1 : 0 ≤ (g1 : Int) ∧ (g1 : Int) < 16 := by omega
  have b2 : 0 ≤ (g2 : Int) ∧ (g2 : Int) < 16 := by omega
  have b3 : 0 ≤ (g3 : Int) ∧ (g3 : Int) < 16 := by omega
  have hb := dv4_bnd b0 b1 b2 b3
  have he := dg4_eq b0 b1 b2 b3
  generalize dv 4 [(g0 : Int), g1, g2, g3] = r at hb he ⊢
  have hk := dlen4 hb.1 hb.2
  have hlt := dlen_lt (n := 4) (by decide) hb.1
  rw [Nat.sub_zero] at hlt
  have ha := dg_add 4 (4 - dlen 4 r) (dlen 4 r) r hb.1
  rw [show dlen 4 r + (4 - dlen 4 r) = 4 by omega, he, Int.emod_eq_of_lt hb.1 hlt, Int.ediv_eq_zero_of_lt hb.1 hlt, dg_zero] at ha
  have hm := congrArg (List.map fun z : Int => sgn z.toNat) ha
  rw [List.map_append, List.map_replicate] at hm
  rw [piece, rowN_len, rowN, List.map_map]
  exact hm.symm
theorem dbn_dbl : ∀ nm : List Nat, (∀ i ∈ nm, 1 ≤ i ∧ i ≤ 15) → (dbn nm).map sgn = dblC (nm.map sgn)
  | [], _ => rfl
  | i :: r, h => by
    have ih := dbn_dbl r fun j hj => h j (.tail _ hj)
    have hi := h i (.head _)
    have hm := sgn_mark ⟨i, by omega⟩
    rw [List.map_cons, dblC, dbn]
    by_cases e : i = 1
    · rw [if_pos e, if_pos (hm.mpr e), ← ih, List.map_cons, List.map_cons, hm.mpr e]
    · rw [if_neg e, if_neg (fun q => e (hm.mp q)), ← ih, List.map_cons]
theorem dbn_len2 : ∀ nm : List Nat, nm.length ≤ (dbn nm).length ∧ (dbn nm).length ≤ 2 * nm.length
  | [] => ⟨Nat.le_refl _, Nat.le_refl _⟩
  | i :: r => by
    have ih := dbn_len2 r
    rw [dbn]
    split <;> simp only [List.length_cons] <;> omega
theorem sgn_blank : ∀ i : Fin 16, sgn i.val = 32 → i.val = 0 := by decide
theorem rstrip_name {nm : List Nat} (h : ∀ i ∈ nm, 1 ≤ i ∧ i ≤ 15) (h1 : 1 ≤ nm.length) (k : Nat) : Txt.rstripChars (txt ((dbn nm ++ List.replicate k 0).map sgn)) (PySem.Str.ofString " ") = txt (dblC (nm.map sgn)) := by
  rw [← dbn_dbl nm h, List.map_append, List.map_replicate]
  have hl := (dbn_len2 nm).1
  have hne : dbn nm ≠ [] := by intro e; rw [e, List.length_nil] at hl; omega
  have hm := dbn_mem nm h _ (List.getLast_mem hne)
  have hs : sgn ((dbn nm).getLast hne) ≠ 32 := by
    intro e
    have := sgn_blank ⟨(dbn nm).getLast hne, by omega⟩ e
    dsimp only at this
    omega
  have e : dbn nm = (dbn nm).dropLast ++ [(dbn nm).getLast hne] := (List.dropLast_concat_getLast hne).symm
  rw [e, List.map_append]
  exact rstrip_blanks _ hs k
end Mine
end
section
open PySem PySem.Spec PySem.Calls PySem.W PyProof.Rows
set_option maxRecDepth 100000
namespace Mine
theorem five_of {l : List Int} (h : l.length = 5) : ∃ a b c d e, l = [a, b, c, d, e] := by
  match l, h with
  | [a, b, c, d, e], _ => exact ⟨a, b, c, d, e, rfl⟩
theorem eight_of {l : List Nat} (h : l.length = 8) : ∃ a b c d e f g k, l = [a, b, c, d, e, f, g, k] := by
  match l, h with
  | [a, b, c, d, e, f, g, k], _ => exact ⟨a, b, c, d, e, f, g, k, rfl⟩
theorem nat_b {g : Nat} (h : g < 16) : 0 ≤ (g : Int) ∧ (g : Int) ≤ 15 := by omega
theorem nat_b2 {g : Nat} (h : g < 16) : 0 ≤ (g : Int) ∧ (g : Int) < 16 := by omega
theorem eight_b {P : Int → Prop} {a b c d e f g h : Nat} (H : ∀ x : Nat, x < 16 → P (x : Int)) (ha : a < 16) (hb : b < 16) (hc : c < 16) (hd : d < 16) (he : e < 16) (hf : f < 16) (hg : g < 16) (hh : h < 16) : ∀ x ∈ [(a : Int), (b : Int), (c : Int), (d : Int), (e : Int), (f : Int), (g : Int), (h : Int)], P x := by
  simp only [List.forall_mem_cons, List.not_mem_nil, false_imp_iff, implies_true, and_true]
  exact ⟨H _ ha, H _ hb, H _ hc, H _ hd, H _ he, H _ hf, H _ hg, H _ hh⟩
theorem and3 {p0 p1 p2 P : Prop} (h : p0 ∧ p1 ∧ p2) (k : p0 → p1 → p2 → P) : P := k h.1 h.2.1 h.2.2
theorem and8 {p0 p1 p2 p3 p4 p5 p6 p7 P : Prop} (h : p0 ∧ p1 ∧ p2 ∧ p3 ∧ p4 ∧ p5 ∧ p6 ∧ p7) (k : p0 → p1 → p2 → p3 → p4 → p5 → p6 → p7 → P) : P := k h.1 h.2.1 h.2.2.1 h.2.2.2.1 h.2.2.2.2.1 h.2.2.2.2.2.1 h.2.2.2.2.2.2.1 h.2.2.2.2.2.2.2
theorem and14 {p0 p1 p2 p3 p4 p5 p6 p7 p8 p9 p10 p11 p12 p13 P : Prop} (h : p0 ∧ p1 ∧ p2 ∧ p3 ∧ p4 ∧ p5 ∧ p6 ∧ p7 ∧ p8 ∧ p9 ∧ p10 ∧ p11 ∧ p12 ∧ p13) (k : p0 → p1 → p2 → p3 → p4 → p5 → p6 → p7 → p8 → p9 → p10 → p11 → p12 → p13 → P) : P := k h.1 h.2.1 h.2.2.1 h.2.2.2.1 h.2.2.2.2.1 h.2.2.2.2.2.1 h.2.2.2.2.2.2.1 h.2.2.2.2.2.2.2.1 h.2.2.2.2.2.2.2.2.1 h.2.2.2.2.2.2.2.2.2.1 h.2.2.2.2.2.2.2.2.2.2.1 h.2.2.2.2.2.2.2.2.2.2.2.1 h.2.2.2.2.2.2.2.2.2.2.2.2.1 h.2.2.2.2.2.2.2.2.2.2.2.2.2
theorem and16 {p0 p1 p2 p3 p4 p5 p6 p7 p8 p9 p10 p11 p12 p13 p14 p15 P : Prop} (h : p0 ∧ p1 ∧ p2 ∧ p3 ∧ p4 ∧ p5 ∧ p6 ∧ p7 ∧ p8 ∧ p9 ∧ p10 ∧ p11 ∧ p12 ∧ p13 ∧ p14 ∧ p15) (k : p0 → p1 → p2 → p3 → p4 → p5 → p6 → p7 → p8 → p9 → p10 → p11 → p12 → p13 → p14 → p15 → P) : P := k h.1 h.2.1 h.2.2.1 h.2.2.2.1 h.2.2.2.2.1 h.2.2.2.2.2.1 h.2.2.2.2.2.2.1 h.2.2.2.2.2.2.2.1 h.2.2.2.2.2.2.2.2.1 h.2.2.2.2.2.2.2.2.2.1 h.2.2.2.2.2.2.2.2.2.2.1 h.2.2.2.2.2.2.2.2.2.2.2.1 h.2.2.2.2.2.2.2.2.2.2.2.2.1 h.2.2.2.2.2.2.2.2.2.2.2.2.2.1 h.2.2.2.2.2.2.2.2.2.2.2.2.2.2.1 h.2.2.2.2.2.2.2.2.2.2.2.2.2.2.2
theorem stms {P : Prop} (k : ∀ t0 e0 p0 t1 e1 p1 t2 e2 p2 t3 e3 p3 t4 e4 p4 t5 e5 p5 t6 e6 p6 t7 e7 p7 t8 e8 p8 t9 op9 e9 p9 t10 e10 p10 t11 e11 p11 t12 e12 p12 e13 p13 t14 e14 p14 e15 b15 f15 p15 t16 e16 p16 t17 e17 b17 f17 p17 t18 e18 p18 t19 e19 b19 f19 p19 t20 e20 p20 e21 b21 f21 p21 t22 e22 p22 t23 e23 b23 f23 p23 e24 p24, stm2 20 0 = .Assign t0 e0 p0 → stm2 20 1 = .Assign t1 e1 p1 → stm2 20 2 = .Assign t2 e2 p2 → stm2 20 3 = .Assign t3 e3 p3 → stm2 20 4 = .Assign t4 e4 p4 → stm2 20 5 = .Assign t5 e5 p5 → stm2 20 6 = .Assign t6 e6 p6 → stm2 20 7 = .Assign t7 e7 p7 → stm2 20 8 = .Assign t8 e8 p8 → stm2 20 9 = .AugAssign t9 op9 e9 p9 → stm2 20 10 = .Assign t10 e10 p10 → stm2 20 11 = .Assign t11 e11 p11 → stm2 20 12 = .Assign t12 e12 p12 → stm2 20 13 = .Expr e13 p13 → stm2 20 14 = .Assign t14 e14 p14 → stm2 20 15 = .If e15 b15 f15 p15 → stm2 20 16 = .Assign t16 e16 p16 → stm2 20 17 = .For t17 e17 b17 f17 p17 → stm2 20 18 = .Assign t18 e18 p18 → stm2 20 19 = .For t19 e19 b19 f19 p19 → stm2 20 20 = .Assign t20 e20 p20 → stm2 20 21 = .If e21 b21 f21 p21 → stm2 20 22 = .Assign t22 e22 p22 → stm2 20 23 = .For t23 e23 b23 f23 p23 → stm2 20 24 = .Return e24 p24 → P) : P := k _ _ _ _ _ _ _ _ _ _ _ _ _ _ _ _ _ _ _ _ _ _ _ _ _ _ _ _ _ _ _ _ _ _ _ _ _ _ _ _ _ _ _ _ _ _ _ _ _ _ _ _ _ _ _ _ _ _ _ _ _ _ _ _ _ _ _ _ _ _ _ _ _ _ _ _ _ _ _ _ _ _ rfl rfl rfl rfl rfl rfl rfl rfl rfl rfl rfl rfl rfl rfl rfl rfl rfl rfl rfl rfl rfl rfl rfl rfl rfl
set_option maxHeartbeats 4000000 in
theorem law_all {w : World} {s : Shared} {base G : Heap} {p : Program} {loose : List Str} {mean : ExcName → Option Value} {mg mb : Str → Option Value}
    {name bind : Str} {params : Arguments} {body : List Stmt} {scope : Scope} {pos : Pos} (hK0 : stm 20 = .FunctionDef name params body [] none [] scope none bind pos) {L : Nat} {fa : Addr} {cd : Value}
    {m : Str → Option Value} {sl : Addr} {vs : List Value} {ns : List Int} {Q : Flow → Shared → Prop} {E : Value → Shared → Prop} {o1 o2 o3 o4 o5 o6 o7 o8 o9 : Obj} {c1 c2 c3 c4 c5 c6 c7 c8 c9 : Option Value} (d1 : o1.data = .cell c1) (d2 : o2.data = .cell c2) (d3 : o3.data = .cell c3) (d4 : o4.data = .cell c4) (d5 : o5.data = .cell c5) (d6 : o6.data = .cell c6) (d7 : o7.data = .cell c7) (d8 : o8.data = .cell c8) (d9 : o9.data = .cell c9)
    (B : Below callerA base [] G) (X : (pre.heap_1_39 w.params).In G) (T : Top p loose mean mg mb G) (XB : (pre.heap_1_39 w.params).In base) (TB : Top p loose mean mg mb base) (C34 : CodeHd G 34 30) (C41 : CodeHd G 41 37) (C136 : CodeHd G 136 132)
    (F : Fr G L s.heap m) (N : News G L s.heap [(L+1+1+1+1+1+1+1+1+1, o9), (L+1+1+1+1+1+1+1+1, o8), (L+1+1+1+1+1+1+1, o7), (L+1+1+1+1+1+1, o6), (L+1+1+1+1+1, o5), (L+1+1+1+1, o4), (L+1+1+1, o3), (L+1+1, o2), (L+1, o1), (132, tabObj #[]), (37, tabObj #[]), (30, tabObj #[])])
    (l0 : 132 < L ∧ 37 < L ∧ 30 < L) (v1 : m (PySem.Str.ofString "script") = some (.ref sl)) (hl : G.IsList sl vs.toArray) (hi : IntsAre vs ns) (hn : ns.length ≤ 63)
    (hQ : ∀ (h' : Heap) (tk : Nat) (m' : Str → Option Value) (a30 a37 a132 : Array Value), Fr G L h' m' → News G L h' [(30, tabObj a30), (37, tabObj a37), (132, tabObj a132)] → Q (.ret (.bool true)) { s with heap := h', toks := tk }) :
    wpAny (model PySem.Challenge.rw_ta0029_01.row.prog w) (callerA.deeper (envOfC (PySem.Str.ofString "law") scope L fa cd)) (execs body (envOfC (PySem.Str.ofString "law") scope L fa cd)) Q E s := by
  refine stms fun t0 e0 p0 t1 e1 p1 t2 e2 p2 t3 e3 p3 t4 e4 p4 t5 e5 p5 t6 e6 p6 t7 e7 p7 t8 e8 p8 t9 op9 e9 p9 t10 e10 p10 t11 e11 p11 t12 e12 p12 e13 p13 t14 e14 p14 e15 b15 f15 p15 t16 e16 p16 t17 e17 b17 f17 p17 t18 e18 p18 t19 e19 b19 f19 p19 t20 e20 p20 e21 b21 f21 p21 t22 e22 p22 t23 e23 b23 f23 p23 e24 p24 h0 h1 h2 h3 h4 h5 h6 h7 h8 h9 h10 h11 h12 h13 h14 h15 h16 h17 h18 h19 h20 h21 h22 h23 h24 => ?_
  have hb : body = [stm2 20 0, stm2 20 1, stm2 20 2, stm2 20 3, stm2 20 4, stm2 20 5, stm2 20 6, stm2 20 7, stm2 20 8, stm2 20 9, stm2 20 10, stm2 20 11, stm2 20 12, stm2 20 13, stm2 20 14, stm2 20 15, stm2 20 16, stm2 20 17, stm2 20 18, stm2 20 19, stm2 20 20, stm2 20 21, stm2 20 22, stm2 20 23, stm2 20 24] := by cases hK0; rfl
  rw [hb, h0, h1, h2, h3, h4, h5, h6, h7, h8, h9, h10, h11, h12, h13, h14, h15, h16, h17, h18, h19, h20, h21, h22, h23, h24]
  clear hb
  refine law_A h0 h1 h2 hK0 d1 d2 d3 d4 d5 d6 d7 d8 d9 B X T F N l0 v1 hl hi hn ?_
  intro hA tkA cl a1 a2 k1 k2 r1 r2 r3 ys zs FA NA dA3 dA2 dA1 hys hzs la1 la2 offb
  clear F N dA1 dA2
  obtain ⟨z0, z1, z2, z3, z4, rfl⟩ := five_of hzs
  have NB := News_app (News_take 10 NA) (News_take 3 (News_drop 12 NA))
  dsimp only [List.take, List.drop, List.cons_append, List.nil_append] at NB
  refine law_B h3 h4 h5 hK0 B X T FA NB l0 dA3 d4 d5 hys ⟨la1, la2⟩ offb ?_
  intro hB tkB mB pr x y u1 u2 q4 q5 FB NB2 vpr hPQ hq4 hq5 lb
  obtain ⟨tn, dq4⟩ := hq4
  obtain ⟨tod, dq5⟩ := hq5
  clear FA NA NB
  have K := keys_is hPQ
  refine law_C1 h6 hK0 B X T FB NB2 l0 dq4 vpr K.n0 K.n1 ?_
  intro hC tkC mC ch yc FC NC hyc vch vpr2 offc
  clear FB NB2
  refine law_C2 (tn := tn) h7 h8 h9 hK0 B X T FC NC l0 dA3 dq5 d6 hys hyc ⟨la1, la2⟩ lb offb offc vch vpr2 K.o0 K.o1 K.ne ?_
  intro hD tkD mD d q6 FD ND vpr3 hd hq6 hex
  obtain ⟨td, dq6⟩ := hq6
  obtain ⟨te, vex⟩ := hex
  clear FC NC offc
  have offb' := offb
  simp only [List.forall_mem_cons, List.not_mem_nil, false_imp_iff, implies_true, and_true] at offb'
  have hoffb := Keep.mk offb'
  clear offb'
  refine law_D1a h10 hK0 B X T FD ND l0 d7 ⟨la1, la2⟩ lb (offb _ (by simp)) ?_
  intro hE tkE q7 FE NE hq7 htk
  obtain ⟨t7, dq7⟩ := hq7
  clear FD ND
  refine law_D1 h11 hK0 B X T FE htk NE dA3 dq7 hys vpr3 vex ?_
  intro hF tkF mF nm tm FF NF vpr4 vex2 vnm b1 b2 b3 htk2
  clear FE NE
  refine law_D2 h12 hK0 B X T FF htk2 NF l0 dq7 d8 ⟨la1, la2⟩ lb (offb _ (by simp)) vpr4 vex2 vnm b1 b2 b3 ?_
  intro hG tkG fl yf q8 FG NG dq8 hyf offf
  clear FF NF
  have hdl := dbn_len nm
  have hfl : ((dbn nm).map fun (i : Nat) => (i : Int)).length = (dbn nm).length := List.length_map _
  refine law_D3 h13 hK0 B X T FG NG dq8 hyf (by omega) (by omega) offf ?_
  intro hH tkH yg e2 FH NH hyg
  clear FG NG hyf
  rw [hfl] at hyg
  have hdm := dbn_mem nm b3
  obtain ⟨gn, hgn⟩ : ∃ gn, gn = dbn nm ++ List.replicate (8 - (dbn nm).length) 0 := ⟨_, rfl⟩
  have hgl : gn.length = 8 := by rw [hgn, List.length_append, List.length_replicate]; omega
  have hgm : ∀ g ∈ gn, g < 16 := by
    intro g hg
    rw [hgn] at hg
    rcases List.mem_append.mp hg with h | h
    · have := hdm g h; omega
    · rw [List.eq_of_mem_replicate h]; decide
  have hygn : IntsAre yg (gn.map fun (i : Nat) => (i : Int)) := by
    rw [hgn, List.map_append, List.map_replicate]
    exact hyg
  clear hyg
  obtain ⟨g0, g1, g2, g3, g4, g5, g6, g7, hg8⟩ := eight_of hgl
  have hyg8 : IntsAre yg [(g0 : Int), (g1 : Int), (g2 : Int), (g3 : Int), (g4 : Int), (g5 : Int), (g6 : Int), (g7 : Int)] := by
    rw [hg8] at hygn
    exact hygn
  have hgb := hgm
  rw [hg8] at hgb
  simp only [List.forall_mem_cons, List.not_mem_nil, false_imp_iff, implies_true, and_true] at hgb
  refine and8 hgb fun y0 y1 y2 y3 y4 y5 y6 y7 => ?_
  clear hgb
  have gb := eight_b (P := fun g => 0 ≤ g ∧ g ≤ 15) (fun _ h => nat_b h) y0 y1 y2 y3 y4 y5 y6 y7
  refine law_E1 h14 hK0 B X T FH C41 NH l0 dq8 hyg8 gb ⟨la1, la2⟩ lb ⟨offb _ (by simp), offb _ (by simp), offb _ (by simp)⟩ offf vpr4 vex2 vnm ?_
  intro hI tkI mI bl a2' k2' p2' w1 w2 FI NI vpr5 vex3 vnm2 vbl hTF lA2 offA2 lA2bl lprbl lflbl
  clear FH NH
  have NI2 := News_app (News_take 2 NI) (News_app (News_take 1 (News_drop 6 NI)) (News_app (News_take 4 (News_drop 2 NI)) (News_take 9 (News_drop 7 NI))))
  dsimp only [List.take, List.drop, List.cons_append, List.nil_append] at NI2
  refine law_E2 h15 hK0 B X T FI NI2 dq8 hyg8 gb vbl ?_
  intro hJ tkJ FJ NJ
  clear FI NI NI2
  have NJ2 := News_app (News_take 1 NJ) (News_app (News_take 1 (News_drop 10 NJ)) (News_app (News_take 9 (News_drop 1 NJ)) (News_take 5 (News_drop 11 NJ))))
  dsimp only [List.take, List.drop, List.cons_append, List.nil_append] at NJ2
  have hv0 := dv4_bnd (nat_b2 y0) (nat_b2 y1) (nat_b2 y2) (nat_b2 y3)
  have hv1 := dv4_bnd (nat_b2 y4) (nat_b2 y5) (nat_b2 y6) (nat_b2 y7)
  have n0 := K.n0
  refine law_F h16 h17 hK0 B X T FJ NJ2 dq4 (by omega) K.n1 (K.e0 d hd) (K.e1 d hd) hv0 hv1 vbl vpr5 vex3 vnm2 ?_
  intro hK tkK mK tl us eeK FK NK hus ltl vtl vpr6 vnm3
  clear FJ NJ NJ2 n0
  have NK2 := News_app (News_take 1 NK) (News_app (News_take 1 (News_drop 6 NK)) (News_app (News_take 1 (News_drop 12 NK)) (News_app (News_take 1 (News_drop 8 NK)) (News_app (News_take 5 (News_drop 1 NK)) (News_app (News_take 1 (News_drop 7 NK)) (News_app (News_take 3 (News_drop 9 NK)) (News_take 4 (News_drop 13 NK))))))))
  dsimp only [List.take, List.drop, List.cons_append, List.nil_append] at NK2
  simp only [List.forall_mem_cons, List.not_mem_nil, false_imp_iff, implies_true, and_true] at offA2 lprbl offf offb
  simp only [AllLt, and_true] at ltl
  refine and14 offA2 fun A_fl A_pr A_cl A_a1 A9 A8 A7 A6 A5 A4 A3 A132 A37 A30 => ?_
  clear offA2
  refine and3 lprbl fun P_pr P_cl P_a1 => ?_
  clear lprbl
  refine and14 offf fun F_pr F_cl F_a1 F_a2 F9 F8 F7 F6 F5 F4 F3 F132 F37 F30 => ?_
  clear offf
  refine and14 offb fun B_a1 B_a2 B9 B8 B7 B6 B5 B4 B3 B2 B1 B132 B37 B30 => ?_
  clear offb
  refine and16 ltl fun T_bl T4 T_fl T8 T_pr T_cl T_a1 T9 T7 T6 T5 T3 T_a2 T37 T132 T30 => ?_
  clear ltl
  have l9a1 : L + 9 < a1 := Nat.lt_trans la1 la2
  have l9pr : L + 9 < pr := Nat.lt_trans l9a1 lb.1
  have l9bl : L + 9 < bl := Nat.lt_trans lA2 lA2bl
  have hnb : ∀ v ∈ [x * y, eOf ((x - 1) * (y - 1)) d, encF (x * y) (eOf ((x - 1) * (y - 1)) d) (dv 4 [(g0 : Int), g1, g2, g3]), encF (x * y) (eOf ((x - 1) * (y - 1)) d) (dv 4 [(g4 : Int), g5, g6, g7])], 0 ≤ v ∧ v < 800000 := by
    have n0 := K.n0
    have n1 := K.n1
    exact List.forall_mem_cons.mpr ⟨⟨by omega, n1⟩, List.forall_mem_cons.mpr ⟨⟨K.e0 d hd, K.e1 d hd⟩, List.forall_mem_cons.mpr ⟨encF_bnd K hv0, List.forall_mem_cons.mpr ⟨encF_bnd K hv1, fun _ h => nomatch h⟩⟩⟩⟩
  refine law_G h18 h19 hK0 B X T FK XB TB NK2 dA3 d9 hys hus rfl B9 ?_ hnb (by simp only [AllLt, and_true]; exact ⟨T_cl, T3, T9, T_bl, T4, T_fl, T8, T_pr, T_a1, T7, T6, T5, T_a2, T37, T132, T30⟩) vtl vpr6 vnm3 ?_
  · simp only [List.forall_mem_cons, List.not_mem_nil, false_imp_iff, implies_true, and_true]
    exact ⟨Nat.ne_of_gt (l9bl), Lk_ne (j := 4) (k := 9) (by decide), F9.symm, Lk_ne (j := 8) (k := 9) (by decide), Nat.ne_of_gt (l9pr), Nat.ne_of_gt (l9a1), Lk_ne (j := 7) (k := 9) (by decide), Lk_ne (j := 6) (k := 9) (by decide), Lk_ne (j := 5) (k := 9) (by decide), Nat.ne_of_gt (lA2), Nat.ne_of_lt (lt_Lk (k := 9) l0.2.1), Nat.ne_of_lt (lt_Lk (k := 9) l0.1), Nat.ne_of_lt (lt_Lk (k := 9) l0.2.2)⟩
  intro hL tkL mL hl' vs' eeL q9 FL NL hvs ltlhl vh vpr7 vnm4
  clear FK NK NK2
  have NH2 := News_app (News_take 1 (News_drop 9 NL)) (News_app (News_take 1 (News_drop 16 NL)) (News_app (News_take 3 (News_drop 13 NL)) (News_app (News_take 1 NL) (News_app (News_take 1 (News_drop 8 NL)) (News_app (News_take 1 (News_drop 11 NL)) (News_app (News_take 7 (News_drop 1 NL)) (News_app (News_take 1 (News_drop 10 NL)) (News_take 1 (News_drop 12 NL)))))))))
  dsimp only [List.take, List.drop, List.cons_append, List.nil_append] at NH2
  have hTP : TP a1 k1 (tabObj #[]) a2' k2' p2' := ⟨.inl rfl, .inr hTF, A_a1, Nat.ne_of_gt (Nat.lt_trans (lt_Lk (k := 9) l0.2.1) l9a1), A30.symm⟩
  have OH : OT a1 a2' ((132, tabObj #[]) :: (hl', listOf (List.toArray vs') eeL) :: (pr, listOf #[.int x u1, .int y u2] 0) :: (L+1+1+1+1+1+1, q6) :: [(cl, LCg.lst ys), (L+1+1+1, r3), (L+1+1+1+1+1+1+1+1+1, q9), (bl, listOf #[.int (dv 4 [(g0 : Int), g1, g2, g3]) w1, .int (dv 4 [(g4 : Int), g5, g6, g7]) w2] 0), (L+1+1+1+1, q4), (fl, listOf (List.toArray yg) e2), (L+1+1+1+1+1+1+1+1, q8), (L+1+1+1+1+1+1+1, q7), (L+1+1+1+1+1, q5)]) := by
    unfold OT
    simp only [List.forall_mem_cons, List.not_mem_nil, false_imp_iff, implies_true, and_true]
    exact ⟨⟨Nat.ne_of_lt (Nat.lt_trans (lt_Lk (k := 9) l0.1) l9a1), by decide, A132, by decide⟩, ⟨Nat.ne_of_gt (Nat.lt_trans T_a1 ltlhl), Nat.ne_of_gt (Nat.lt_trans T30 ltlhl), Nat.ne_of_gt (Nat.lt_trans T_a2 ltlhl), Nat.ne_of_gt (Nat.lt_trans T37 ltlhl)⟩, ⟨Nat.ne_of_gt (lb.1), Nat.ne_of_gt (Nat.lt_trans (lt_Lk (k := 9) l0.2.2) l9pr), A_pr, Nat.ne_of_gt (Nat.lt_trans (lt_Lk (k := 9) l0.2.1) l9pr)⟩, ⟨Nat.ne_of_lt (Lk_lt (k := 6) (by decide) l9a1), Nat.ne_of_gt (lt_Lk (k := 6) l0.2.2), A6, Nat.ne_of_gt (lt_Lk (k := 6) l0.2.1)⟩, ⟨B_a1.symm, B30.symm, A_cl, B37.symm⟩, ⟨Nat.ne_of_lt (Lk_lt (k := 3) (by decide) l9a1), Nat.ne_of_gt (lt_Lk (k := 3) l0.2.2), A3, Nat.ne_of_gt (lt_Lk (k := 3) l0.2.1)⟩, ⟨Nat.ne_of_lt (Lk_lt (k := 9) (by decide) l9a1), Nat.ne_of_gt (lt_Lk (k := 9) l0.2.2), A9, Nat.ne_of_gt (lt_Lk (k := 9) l0.2.1)⟩, ⟨Nat.ne_of_gt (P_a1), Nat.ne_of_gt (Nat.lt_trans (lt_Lk (k := 9) l0.2.2) l9bl), Nat.ne_of_gt (lA2bl), Nat.ne_of_gt (Nat.lt_trans (lt_Lk (k := 9) l0.2.1) l9bl)⟩, ⟨Nat.ne_of_lt (Lk_lt (k := 4) (by decide) l9a1), Nat.ne_of_gt (lt_Lk (k := 4) l0.2.2), A4, Nat.ne_of_gt (lt_Lk (k := 4) l0.2.1)⟩, ⟨F_a1.symm, F30.symm, A_fl, F37.symm⟩, ⟨Nat.ne_of_lt (Lk_lt (k := 8) (by decide) l9a1), Nat.ne_of_gt (lt_Lk (k := 8) l0.2.2), A8, Nat.ne_of_gt (lt_Lk (k := 8) l0.2.1)⟩, ⟨Nat.ne_of_lt (Lk_lt (k := 7) (by decide) l9a1), Nat.ne_of_gt (lt_Lk (k := 7) l0.2.2), A7, Nat.ne_of_gt (lt_Lk (k := 7) l0.2.1)⟩, ⟨Nat.ne_of_lt (Lk_lt (k := 5) (by decide) l9a1), Nat.ne_of_gt (lt_Lk (k := 5) l0.2.2), A5, Nat.ne_of_gt (lt_Lk (k := 5) l0.2.1)⟩⟩
  have O132 : ∀ q ∈ ((hl', listOf (List.toArray vs') eeL) :: (pr, listOf #[.int x u1, .int y u2] 0) :: (L+1+1+1+1+1+1, q6) :: [(cl, LCg.lst ys), (L+1+1+1, r3), (L+1+1+1+1+1+1+1+1+1, q9), (bl, listOf #[.int (dv 4 [(g0 : Int), g1, g2, g3]) w1, .int (dv 4 [(g4 : Int), g5, g6, g7]) w2] 0), (L+1+1+1+1, q4), (fl, listOf (List.toArray yg) e2), (L+1+1+1+1+1+1+1+1, q8), (L+1+1+1+1+1+1+1, q7), (L+1+1+1+1+1, q5)] : List (Addr × Obj)), @Ne Nat q.1 132 := by
    simp only [List.forall_mem_cons, List.not_mem_nil, false_imp_iff, implies_true, and_true]
    exact ⟨Nat.ne_of_gt (Nat.lt_trans T132 ltlhl), Nat.ne_of_gt (Nat.lt_trans (lt_Lk (k := 9) l0.1) l9pr), Nat.ne_of_gt (lt_Lk (k := 6) l0.1), B132.symm, Nat.ne_of_gt (lt_Lk (k := 3) l0.1), Nat.ne_of_gt (lt_Lk (k := 9) l0.1), Nat.ne_of_gt (Nat.lt_trans (lt_Lk (k := 9) l0.1) l9bl), Nat.ne_of_gt (lt_Lk (k := 4) l0.1), F132.symm, Nat.ne_of_gt (lt_Lk (k := 8) l0.1), Nat.ne_of_gt (lt_Lk (k := 7) l0.1), Nat.ne_of_gt (lt_Lk (k := 5) l0.1)⟩
  have n0 := K.n0
  refine law_H h20 h21 hK0 B X T FL NH2 hTP OH O132 C34 C41 C136 dq6 hvs ⟨by omega, K.n1⟩ ⟨K.e0 d hd, K.e1 d hd⟩ (K.sec d hd) (by omega) (by omega) vh vpr7 vnm4 ?_
  intro hM tkM mM l us2 e3 c3 k3 o3' c4 k4 o4' ps FM NM hus2 hTP2 OT2 hneL hl132 vh2 vf vnm5
  clear FL NL NH2 hTP OH O132
  have NI3 := News_app (News_take 4 (News_drop 1 NM)) (News_app (News_take 1 (News_drop 6 NM)) (News_app (News_take 1 NM) (News_app (News_take 1 (News_drop 16 NM)) (News_app (News_take 1 (News_drop 5 NM)) (News_take 2 (News_drop 14 NM))))))
  dsimp only [List.take, List.drop, List.cons_append, List.nil_append] at NI3
  have hOI : OT c3 c4 ((hl', listOf (List.toArray vs') eeL) :: (l, listOf (List.toArray us2) e3) :: (L+1+1+1+1+1+1+1, q7) :: [(132, tabObj ps), (fl, listOf (List.toArray yg) e2), (L+1+1+1+1+1+1+1+1, q8)]) := fun q hq => OT2 q (by
    simp only [List.mem_cons, List.not_mem_nil, or_false] at hq ⊢
    rcases hq with h | h | h | h | h | h <;> subst h <;> simp only [true_or, or_true])
  have hd9 := chl_bnd hd
  refine law_I h22 h23 hK0 B X T FM NI3 hTP2 hOI C34 C41 dq7 hvs hus2 ⟨by omega, K.n1⟩ (by omega) (encF_bnd K hv0) (encF_bnd K hv1) (rsa_is K hd hv0.1 hv0.2) (rsa_is K hd hv1.1 hv1.2) hv0.2 hv1.2 ⟨l0.2.2, l0.2.1⟩ vh2 vf vnm5 ?_
  intro hN tkN mN c5 k5 o5' c6 k6 o6' tt FN NN hTP3 OT3 vtext vnm6
  clear FM NM NI3
  have NJ3 := News_app (News_take 1 (News_drop 9 NN)) (News_app (News_take 1 (News_drop 8 NN)) (News_app (News_take 1 (News_drop 6 NN)) (News_app (News_take 1 (News_drop 1 NN)) (News_app (News_take 1 (News_drop 3 NN)) (News_take 1 (News_drop 7 NN))))))
  dsimp only [List.take, List.drop, List.cons_append, List.nil_append] at NJ3
  refine law_J (rest := []) h24 hK0 B X T FN NJ3 dq8 dq7 hygn hgl hgm ?_ ?_ (by rw [List.length_map]; exact b2) vtext vnm6 ?_
  · rw [piece_is y0 y1 y2 y3, piece_is y4 y5 y6 y7, ← List.map_append, hg8]
    rfl
  · rw [piece_is y0 y1 y2 y3, piece_is y4 y5 y6 y7, ← List.map_append]
    have : [g0, g1, g2, g3] ++ [g4, g5, g6, g7] = dbn nm ++ List.replicate (8 - (dbn nm).length) 0 := by rw [← hgn, hg8]; rfl
    rw [this]
    exact rstrip_name b3 b1 _
  intro hO tkO tO FO NO
  have NO2 := News_drop 3 NO
  dsimp only [List.drop] at NO2
  obtain ⟨a30, e30⟩ : ∃ a, o5' = tabObj a := hTP3.hT.elim (fun h => ⟨_, h⟩) (fun h => ⟨_, h.1⟩)
  obtain ⟨a37, e37⟩ : ∃ a, o6' = tabObj a := hTP3.hT2.elim (fun h => ⟨_, h⟩) (fun h => ⟨_, h.1⟩)
  subst e30 e37
  exact hQ _ _ _ _ _ _ FO NO2
end Mine
end
section
open PySem PySem.Spec PySem.Calls PySem.W PyProof.Rows
namespace Mine
theorem kc_nine {cm : Str → Option Value} {n₁ n₂ n₃ n₄ n₅ n₆ n₇ n₈ n₉ : Str} {c₁ c₂ c₃ c₄ c₅ c₆ c₇ c₈ c₉ : Addr} {cells : List (Addr × Obj)} (x : CellsAre cm [(n₁, c₁), (n₂, c₂), (n₃, c₃), (n₄, c₄), (n₅, c₅), (n₆, c₆), (n₇, c₇), (n₈, c₈), (n₉, c₉)] cells) :
    ∃ o₁ o₂ o₃ o₄ o₅ o₆ o₇ o₈ o₉, cells = [(c₁, o₁), (c₂, o₂), (c₃, o₃), (c₄, o₄), (c₅, o₅), (c₆, o₆), (c₇, o₇), (c₈, o₈), (c₉, o₉)] ∧ o₁.data = .cell (cm n₁) ∧ o₂.data = .cell (cm n₂) ∧ o₃.data = .cell (cm n₃) ∧ o₄.data = .cell (cm n₄) ∧ o₅.data = .cell (cm n₅) ∧ o₆.data = .cell (cm n₆) ∧ o₇.data = .cell (cm n₇) ∧ o₈.data = .cell (cm n₈) ∧ o₉.data = .cell (cm n₉) := by
  cases x with | cons h r => obtain ⟨o₂, o₃, o₄, o₅, o₆, o₇, o₈, o₉, rfl, h₂, h₃, h₄, h₅, h₆, h₇, h₈, h₉⟩ := kc_eight r; exact ⟨_, o₂, o₃, o₄, o₅, o₆, o₇, o₈, o₉, rfl, h, h₂, h₃, h₄, h₅, h₆, h₇, h₈, h₉⟩
def top.tw16541100652227675460 : Unit := ()
def top.tw18064794426631996164 : Unit := ()
def top.tw11289698404102066735 : Unit := ()
def top.tw14466265911953076689 : Unit := ()
def top.tw14826035006057030972 : Unit := ()
def top.tw13928562000808390012 : Unit := ()
def top.tw17512577416206416963 : Unit := ()
def top.tw11546936639936008217 : Unit := ()
def top.tw17756597512981354157 : Unit := ()
def top.tw4794103334133158261 : Unit := ()
def top.tw11578502930711088577 : Unit := ()
def top.tw16900427199656544559 : Unit := ()
def top.tw18164388396756303480 : Unit := ()
def top.tw1139600151236580504 : Unit := ()
def top.tw10996937224433265937 : Unit := ()
def top.tw705360758644809490 : Unit := ()
def top.tw3969286963782609292 : Unit := ()
def top.tw10005945817407372193 : Unit := ()
def top.tw17810072253543177317 : Unit := ()
def top.tw5868845118606482295 : Unit := ()
def top.tw4186445540838780016 : Unit := ()
def top.tw10773188271377071773 : Unit := ()
def top.tw15177526630643400193 : Unit := ()
def top.tw14823308797102314842 : Unit := ()
def top.tw2822501910515967889 : Unit := ()
def top.tw9305691244287143441 : Unit := ()
def top.tw13369591340354186047 : Unit := ()
def top.tw8640399195822439974 : Unit := ()
def top.tw7990429038631628895 : Unit := ()
def top.tw6756868429301003459 : Unit := ()
def top.tw14901070454687303710 : Unit := ()
def top.tw4655869559712951663 : Unit := ()
def top.tw17492772389151264855 : Unit := ()
def top.tw13091174067606910046 : Unit := ()
def top.tw4498253355057717688 : Unit := ()
def top.tw10617020205504526918 : Unit := ()
def top.tw15878805988109762761 : Unit := ()
def top.tw1047907039808853306 : Unit := ()
def top.tw956942650209027819 : Unit := ()
def top.tw4551080515912023512 : Unit := ()
def top.tw8813761850579938390 : Unit := ()
def top.tw427269002284569659 : Unit := ()
def top.tw2249405535684624136 : Unit := ()
def top.tw14851680436948445374 : Unit := ()
def top.tw5088376156974544275 : Unit := ()
def top.tw9472408048586667247 : Unit := ()
def top.tw2514443458684651071 : Unit := ()
def top.tw6189019428745762675 : Unit := ()
def top.tw2835187731363253809 : Unit := ()
def top.tw6906291655842520137 : Unit := ()
def top.tw17177869089781658578 : Unit := ()
def top.tw1886144042066472794 : Unit := ()
def top.tw6187478851450931391 : Unit := ()
def top.tw14861896470697024400 : Unit := ()
def top.tw6491118196486620199 : Unit := ()
def top.tw8598144960395782539 : Unit := ()
def top.tw2464713573024523455 : Unit := ()
def top.tw7458633546980236471 : Unit := ()
def top.tw1195175773429642966 : Unit := ()
def top.tw10567129059001840431 : Unit := ()
def top.tw8689318265317240412 : Unit := ()
def top.tw1869187583165140508 : Unit := ()
def top.tw16439428074185983240 : Unit := ()
def top.tw16782997733028217545 : Unit := ()
def top.tw16273406610938067001 : Unit := ()
def top.tw14502225709538309166 : Unit := ()
def top.tw609860122456452193 : Unit := ()
def top.tw13303987763403120937 : Unit := ()
def top.tw13160728816969591200 : Unit := ()
def top.tw14597223018079223185 : Unit := ()
def top.tw15646934709686841381 : Unit := ()
def top.tw6286779285267259847 : Unit := ()
def top.tw6898770573198911631 : Unit := ()
def top.tw14459580976405569124 : Unit := ()
def top.tw13891453685205211890 : Unit := ()
def top.tw814325599930780420 : Unit := ()
def top.tw8645369167282567922 : Unit := ()
def top.tw11613256710310857696 : Unit := ()
def top.tw9059672392935016618 : Unit := ()
def top.tw5476889619067714990 : Unit := ()
def top.tw18086089286151905521 : Unit := ()
def top.tw8538268897159353584 : Unit := ()
def top.tw9631074621892390191 : Unit := ()
def top.tw10090393231696489298 : Unit := ()
def top.tw7847650389618582240 : Unit := ()
def top.tw13359135706311490777 : Unit := ()
def top.tw16420938139371093754 : Unit := ()
def top.tw14349089067433371257 : Unit := ()
def top.tw10404823597219466188 : Unit := ()
def top.tw864819663365544661 : Unit := ()
def top.tw72247145696351765 : Unit := ()
def top.tw5597187220613765494 : Unit := ()
def top.tw5303079699428457377 : Unit := ()
def top.tw3776753064480771068 : Unit := ()
def top.tw11459358961799972967 : Unit := ()
def top.tw13120753694373217308 : Unit := ()
def top.tw7297446738713254254 : Unit := ()
def top.tw5523086135645875356 : Unit := ()
def top.tw14608685727046917156 : Unit := ()
def top.tw11858546649754279707 : Unit := ()
def top.tw105208000716104510 : Unit := ()
def top.tw2924597203103170677 : Unit := ()
def top.tw5155950481276406077 : Unit := ()
def top.tw4671429814451907529 : Unit := ()
def top.tw4213018616267185653 : Unit := ()
def top.tw1732150942055357024 : Unit := ()
def top.tw9601329371697537090 : Unit := ()
def top.tw8507776931139520737 : Unit := ()
def top.tw15976228082101565994 : Unit := ()
def top.tw11430207588045935325 : Unit := ()
def top.tw2287823674025257028 : Unit := ()
def top.tw4571971715460732019 : Unit := ()
def top.tw8810280945414196856 : Unit := ()
def top.tw12819366960792805191 : Unit := ()
def top.tw14987219478266130788 : Unit := ()
def top.tw575894324575664597 : Unit := ()
def top.tw6431110157172167083 : Unit := ()
def top.tw2731995056826638727 : Unit := ()
def top.tw3195968871104189447 : Unit := ()
def top.tw2732273902793177162 : Unit := ()
def top.tw17886615442053742456 : Unit := ()
def top.tw16204670001084760307 : Unit := ()
def top.tw12540527436937284434 : Unit := ()
def top.tw8363718466572441477 : Unit := ()
def top.tw788273225186049534 : Unit := ()
def top.tw3730354652608582461 : Unit := ()
def top.tw2782073688633401757 : Unit := ()
def top.tw342308947776675178 : Unit := ()
def top.tw12342655685612074800 : Unit := ()
def top.tw16436159496351460666 : Unit := ()
def top.tw2867133514656366558 : Unit := ()
def top.tw15240379268576122478 : Unit := ()
def top.tw14611434983143301774 : Unit := ()
def top.tw9800703332001039478 : Unit := ()
def top.tw15304316869575863853 : Unit := ()
def top.tw8143265674769528471 : Unit := ()
def top.tw2218668502564051296 : Unit := ()
def top.tw4166218997396506358 : Unit := ()
def top.tw1736530178072539846 : Unit := ()
def top.tw11334415319851112604 : Unit := ()
def top.tw17555251805378815213 : Unit := ()
end Mine
local macro_rules | `(tactic| cells_open $x:ident) => `(tactic| (obtain ⟨_, _, _, _, _, _, _, _, _, he, _, _, _, _, _, _, _, _, _⟩ := Mine.kc_nine $x; subst he))
set_option maxRecDepth 100000
set_option Elab.async true in
set_option maxHeartbeats 8000000 in
theorem Mine.top : PySem.Challenge.rw_ta0029_01.Holds := by
  w_on; o_law; k_head
  case hw => w_witness2
  w_strict k_go0
  (all_goals try k_fold)
  rename News _ _ _ _ => N1
  rename Fr _ _ _ _ => F1
  rename Below _ _ _ _ => B1
  rename Top _ _ _ _ _ _ => T1
  rename Frag.In _ _ => X1
  refine Mine.law_all rfl (by assumption) (by assumption) (by assumption) (by assumption) (by assumption) (by assumption) (by assumption) (by assumption) (by assumption) B1 X1 T1 X1 T1 codeHd (by assumption) (by assumption) F1 N1 (by assumption) rfl lifted (by assumption) (by omega) ?_
  intro h9 tk9 m9 a30 a37 a132 F9 N9
  k_steps
end
end
theorem PySem.Challenge.cw_ta0029_01_holds : PySem.Challenge.rw_ta0029_01.Holds :=
  Mine.top
