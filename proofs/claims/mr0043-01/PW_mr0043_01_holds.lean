import PyProof.Rows.All
import Wide.All
import OpenK.AllK
import Wide.FinOn
import PySem.Challenge.RW_mr0043_01
open PySem PySem.W PyProof.Rows
set_option Elab.async false
set_option maxRecDepth 100000
set_option maxHeartbeats 40000000
set_option linter.all false
set_option compiler.extract_closed false
namespace Mine
open_top hd for PySem.Challenge.rw_mr0043_01
section
def Hold (P : Prop) : Prop := P
theorem Hold.out {P : Prop} (h : Hold P) : P := h
def ItemAt (ns : List Int) (i : Nat) (n : Int) : Prop := ns[i]? = some n
structure Det (k : Nat) (f : Nat → Int) : Prop where
  mk ::
section
variable {prog : Program} {w : World} {A : Around} {E : Value → Shared → Prop} {s : Shared} {env : Env} {h₀ : Heap} {x : Str} {body : List Stmt} {Q : Flow → Shared → Prop}

def DetEnd (news : List (Addr × Obj)) (x y : Str) (stored : List Str) (m₀ : Str → Option Value) (v : Int) (m' : Str → Option Value) (nx : List (Addr × Obj)) : Prop :=
  nx = news ∧ KPfInt m' y v ∧ ∀ z, z ≠ x → z ≠ y → stored.contains z = false → m' z = m₀ z

theorem loopR {r : Addr} {a₀ b₀ st : Int} {t₀ u₀ v₀ : Tok} {n : Nat} {m₀ : Str → Option Value} {news : List (Addr × Obj)} {k : Nat} {f : Nat → Int} (_ : Det k f) (y : Str) (stored : List Str)
    (hh : A.handled = none) (hr : IsRange s.heap r a₀ b₀ st t₀ u₀ v₀) (hsmall : Builtin.Range.small a₀ b₀ st = true) (hn : Builtin.Range.rangeSize a₀ b₀ st = (n : Int))
    (F : Fr h₀ env.locals s.heap m₀) (N : News h₀ env.locals s.heap news) (hy : KPfInt m₀ y (f 0))
    (turn : ∀ (i : Nat) t ta (u : Str → Option Value) h tk own, i < n → OwnOff own (news.map (·.1)) → Fr h₀ env.locals h (fun z => if z = x then some (.int (a₀ + i * st) t) else if z = y then some (.int (f i) ta) else if stored.contains z then u z else m₀ z) → News h₀ env.locals h (news ++ own) →
      wpAny (model prog w) A (execs body env) (InvPostN h₀ env.locals (DetEnd news x y stored m₀ (f (i + 1))) own (news.map (·.1)) { s with heap := h, toks := tk } Q) E { s with heap := h, toks := tk })
    (done : ∀ (u : Str → Option Value) t h tk, Fr h₀ env.locals h (fun z => if z = x then u z else if z = y then some (.int (f n) t) else if stored.contains z then u z else m₀ z) → News h₀ env.locals h news → Q .next { s with heap := h, toks := tk }) :
    wpAny (model prog w) A (pyIter (.ref r)) (fun it s₂ => LoopAtV prog w A h₀ env x body Q E it s₂) E s := by
  refine wpAny_pyIter_range hr hsmall ?_
  have W : Walks prog w A s.heap.objs.size [s.heap.objs.size] [s.heap.objs.size] n (fun i v => i < n ∧ ∃ t, v = .int (a₀ + i * st) t)
      (fun i h => IsRangeIter h s.heap.objs.size (a₀ + (i : Nat) * st) ((n : Int) - (i : Nat)) st) := (Walks.range hh _ a₀ st n).bound
  refine loop_invN (fun i => DetEnd news x y stored m₀ (f i)) W ?_ ?_ ?_ ?_ (by show IsRangeIter _ _ _ _ _; rw [hn]; simpa using Heap.get?_push_size _ rfl) (F.push _) (fun p hp => ⟨Heap.get?_push_of_some _ (N p hp).1, (N p hp).2⟩) ⟨rfl, hy, fun _ _ _ _ => rfl⟩ ?_ ?_
  · intro hm
    exact absurd F.ns.lt ((List.mem_singleton.mp hm) ▸ Nat.lt_irrefl _)
  · intro b hb
    rw [List.mem_singleton.mp hb]
    exact next_is_new F
  · intro p hp hI
    exact absurd (Heap.lt_size (N p hp).1) ((List.mem_singleton.mp hI) ▸ Nat.lt_irrefl _)
  · intro p hp hI
    exact absurd (Heap.lt_size (N p hp).1) ((List.mem_singleton.mp hI) ▸ Nat.lt_irrefl _)
  · rintro i v m₁ nx h tk own hi ⟨_, t, rfl⟩ _ ho ⟨rfl, ⟨ta, ha⟩, hm⟩ F' N'
    rw [kpf_map1 ha hm] at F'
    exact turn i t ta m₁ h tk own hi ho F' N'
  · rintro m₁ nx h tk ⟨rfl, ⟨t, ha⟩, hm⟩ F₁ N₁
    refine done m₁ t h tk ?_ N₁
    rw [kpf_done1 ha hm]; exact F₁

theorem loopL {l : Addr} {vs : List Value} {ns : List Int} {nn : Nat} {m₀ : Str → Option Value} {news : List (Addr × Obj)} {k : Nat} {f : Nat → Int} (_ : Det k f) (y : Str) (stored : List Str)
    (hh : A.handled = none) (hl : (l, listOf vs.toArray nn) ∈ news) (hi : IntsAre vs ns)
    (F : Fr h₀ env.locals s.heap m₀) (N : News h₀ env.locals s.heap news) (hy : KPfInt m₀ y (f 0))
    (turn : ∀ (i : Nat) n t ta (u : Str → Option Value) h tk own, ItemAt ns i n → OwnOff own (news.map (·.1)) → Fr h₀ env.locals h (fun z => if z = x then some (.int n t) else if z = y then some (.int (f i) ta) else if stored.contains z then u z else m₀ z) → News h₀ env.locals h (news ++ own) →
      wpAny (model prog w) A (execs body env) (InvPostN h₀ env.locals (DetEnd news x y stored m₀ (f (i + 1))) own (news.map (·.1)) { s with heap := h, toks := tk } Q) E { s with heap := h, toks := tk })
    (done : ∀ (u : Str → Option Value) t h tk, Fr h₀ env.locals h (fun z => if z = x then u z else if z = y then some (.int (f ns.length) t) else if stored.contains z then u z else m₀ z) → News h₀ env.locals h news → Q .next { s with heap := h, toks := tk }) :
    wpAny (model prog w) A (pyIter (.ref l)) (fun it s₂ => LoopAtV prog w A h₀ env x body Q E it s₂) E s := by
  refine iter_invNL (fun i => DetEnd news x y stored m₀ (f i)) hh hl hi F N ⟨rfl, hy, fun _ _ _ _ => rfl⟩ ?_ ?_
  · rintro i n t m₁ nx h tk own hn _ hoff _ ⟨rfl, ⟨ta, ha⟩, hm⟩ F' N'
    rw [kpf_map1 ha hm] at F'
    refine wpAny_mono (turn i n t ta m₁ h tk own hn hoff F' N') (fun fl s₂ p => ?_) fun _ _ x => x
    have up : InvEndN h₀ env.locals (DetEnd nx x y stored m₀ (f (i + 1))) own (nx.map (·.1)) { s with heap := h, toks := tk } s₂ →
        InvEndN h₀ env.locals (fun m' nx' => (l, listOf vs.toArray nn) ∈ nx' ∧ DetEnd nx x y stored m₀ (f (i + 1)) m' nx') own (nx.map (·.1)) { s with heap := h, toks := tk } s₂ := by
      rintro ⟨h', tk', m', news', nx', e', F', N', hn', ho', ha, hS⟩
      refine ⟨h', tk', m', news', nx', e', F', N', hn', ho', ha, ?_, hS⟩
      obtain ⟨rfl, _⟩ := hS
      exact hl
    cases fl with
    | ret v => exact p
    | brk => exact p
    | next => exact up p
    | cont => exact up p
  · rintro m₁ nx h tk _ ⟨rfl, ⟨t, ha⟩, hm⟩ F₁ N₁
    refine done m₁ t h tk ?_ N₁
    rw [kpf_done1 ha hm]; exact F₁
end


abbrev ClI (w : World) (mean : ExcName → Option Value) (mg mb : Str → Option Value) (f : Addr) (news : List (Addr × Obj)) (d u : Nat) (vs : List Value) (r : Int) : Prop :=
  ∀ (dp un : Nat) (gd : Option (List Code)) (cn : Str) (cs : Scope) (a : Addr) (ccd : Value) (cl : List (Str × Addr)) (outer : List Env) (A₀ : Around) (base h₀ : Heap) (L : Addr) (m : Str → Option Value) (s : Shared) (Q E : Value → Shared → Prop),
    Below A₀ base outer h₀ → Fr h₀ L s.heap m → (Mine.hd.heap_39 w.params).In h₀ → News h₀ L s.heap news → Top Mine.hd.view_39 (looseW Mine.hd.view_39 []) mean mg mb h₀ → cs.kind = .function →
    dp + d < recursionLimit → un + u < cLine →
    (∀ (t : Tok) (h' : Heap) (tk' : Nat), Fr h₀ L h' m → News h₀ L h' news → Q (.int r t) { s with heap := h', toks := tk' }) →
      wpAny (model PySem.Challenge.rw_mr0043_01.prog w) (ktrTop dp un gd cn cs L a ccd cl outer) (call (.ref f) vs) Q E s

abbrev tup3 (a b c : Value) : Obj := { cls := .type "tuple", data := .seq #[a, b, c] }

abbrev ClT (w : World) (mean : ExcName → Option Value) (mg mb : Str → Option Value) (f : Addr) (news : List (Addr × Obj)) (d u : Nat) (vs : List Value) (R : Tok → Tok → Tok → Obj) : Prop :=
  ∀ (dp un : Nat) (gd : Option (List Code)) (cn : Str) (cs : Scope) (a : Addr) (ccd : Value) (cl : List (Str × Addr)) (outer : List Env) (A₀ : Around) (base h₀ : Heap) (L : Addr) (m : Str → Option Value) (s : Shared) (Q E : Value → Shared → Prop),
    Below A₀ base outer h₀ → Fr h₀ L s.heap m → (Mine.hd.heap_39 w.params).In h₀ → News h₀ L s.heap news → Top Mine.hd.view_39 (looseW Mine.hd.view_39 []) mean mg mb h₀ → cs.kind = .function →
    dp + d < recursionLimit → un + u < cLine →
    (∀ (t1 t2 t3 : Tok) (b : Addr) (h' : Heap) (tk' : Nat), Fr h₀ L h' m → News h₀ L h' ((b, R t1 t2 t3) :: news) → (∀ p ∈ news, p.1 < b) → Q (.ref b) { s with heap := h', toks := tk' }) →
      wpAny (model PySem.Challenge.rw_mr0043_01.prog w) (ktrTop dp un gd cn cs L a ccd cl outer) (call (.ref f) vs) Q E s
end
local macro_rules | `(tactic| walk_at "m:claim") => `(tactic| (w_strict (dsimp only [ClI]; k_fill; intros; rename_i hret; refine wpAny_call ?_; k_dflt cell_enter; k_steps; all_goals cb_end hret)))
local macro_rules | `(tactic| walk_at "m:enterC") => `(tactic| (refine' code_defC ?k1 ?k2 ?k3 ?k4 ?k5 ?kA ?kF ?kK ?k6 ?k7 ?k8 ?k9 ?kB ?kD ?_ ?c2 ?c3 ?c4; (case kA => exact rfl); (case kF => exact rfl); (case kK => assumption); (case k1 => k_asm); (case k2 => k_asm); (case k3 => k_asm); (case k4 => k_asm); (case k5 => k_asm); (case k6 => k_is); (case k7 => k_is); (case k8 => ktr_room); (case k9 => exact BindsTo.of_eq rfl); (case kB => exact rfl); (case kD => decide +kernel); (case c2 => exact rfl); (case c3 => exact rfl); (case c4 => exact rfl); k_whole; intro g' L' h' tk' cells' FG' F' N' Y' B' X' T' l1; (try k_lt l1); k_cells Y'; (try simp only [List.cons_append, List.nil_append] at N'); (try dsimp only); (try k_lift B'); (try k_fold)))
local macro_rules | `(tactic| walk_at "m:claimC") => `(tactic| (w_strict (dsimp only [ClI]; k_fill; intros; rename_i hret; refine wpAny_call ?_; k_dflt (walk_at "m:enterC"); k_steps; all_goals cb_end hret)))
local macro_rules | `(tactic| walk_at "InvEndN") => `(tactic| (goal_has Mine.DetEnd; (refine InvEndN.intro (by assumption) (by assumption) ⟨rfl, kpf_int ?kpe (by with_unfolding_all rfl), by kpf_same3⟩ (by rfl) (by (with_unfolding_all ((try simp only [List.nil_append, List.cons_append]); kst_allIn))) (by (intro p hp; first | k_ownIn | kst_mem))); (case kpe => walk_at "m:eq")))
local macro_rules | `(tactic| walk_at "exec For Name Call cons nil") => `(tactic| kpr_for)
local macro_rules | `(tactic| walk_at "m:frame") => `(tactic| ((case k1 => k_asm); (case k2 => k_asm); (case k3 => k_asm); (case k4 => k_asm); (case k5 => k_asm); (case kK => first | exact rfl | assumption); (case kd => ktr_room); (case ku => ktr_units)))
local macro_rules | `(tactic| walk_at "m:eq") => `(tactic| first | exact if_pos (by assumption) | exact if_neg (by assumption))
local macro_rules | `(tactic| walk_at "binaryOp Pow int int") => `(tactic| (refine pow_int_small ?p1 ?p2 ?p3 ?_; (case p1 => omega); (case p2 => omega); (case p3 => decide)))
section
variable (w : World) (mean : ExcName → Option Value) (mg mb : Str → Option Value) (news : List (Addr × Obj))

def crcStep (c : Int) : Int := if Builtin.bitAnd c 1 = 0 then c.fdiv (2 ^ (1 : Int).toNat) else Builtin.bitXor (c.fdiv (2 ^ (1 : Int).toNat)) 3988292384
def crcN (c : Int) : Nat → Int
  | 0 => c
  | n + 1 => crcStep (crcN c n)

local macro_rules | `(tactic| walk_at "pyIter ref") => `(tactic| ((rename Fr _ _ _ _ => lF'); (rename News _ _ _ _ => lN'); (rename IsRange _ _ _ _ _ _ _ _ => rgX); (rename Det 0 _ => dF'); (with_unfolding_all refine' loopR (n := 8) dF' (Str.ofString "crc") [] (by rfl) (by first | exact rgX | assumption) (by decide) (by rfl) lF' lN' ⟨_, rfl⟩ (fun i' t' ta' u' h' tk' own' hi' hoff' F' N' => ?_) (fun u' t' h' tk' F' N' => ?_));  (all_goals (try clear lF' lN')); (all_goals (try k_fold))))

theorem gen_crc_c (x : Int) (t : Tok) : ClI w mean mg mb 21 news 1 8 [.int x t] (crcN x 8) := by
  have hD := Det.mk (k := 0) (f := crcN x)
  walk_at "m:claim"

theorem rg_small {n : Int} (h : 0 ≤ n ∧ n < 1000) : Builtin.Range.small 0 n 1 = true := small_one (by decide) (by decide) (by omega) (by omega)
theorem rg_size {n : Int} : Builtin.Range.rangeSize 0 n 1 = (n.toNat : Int) := by rw [rangeSize_nat]; simp

def dbl (n : Int) : Int := if 2 ^ (32:Int).toNat ≤ n * 2 then Builtin.bitXor (n * 2) 4374732215 else n * 2
def dblN (c : Int) : Nat → Int
  | 0 => c
  | n + 1 => dbl (dblN c n)

local macro_rules | `(tactic| walk_at "pyIter ref") => `(tactic| ((rename Fr _ _ _ _ => lF'); (rename News _ _ _ _ => lN'); (rename IsRange _ _ _ _ _ _ _ _ => rgX); (rename Det 0 _ => dF'); (with_unfolding_all refine' loopR dF' (Str.ofString "number") [] (by rfl) (by first | exact rgX | assumption) (rg_small (by assumption)) rg_size lF' lN' ⟨_, rfl⟩ (fun i' t' ta' u' h' tk' own' hi' hoff' F' N' => ?_) (fun u' t' h' tk' F' N' => ?_));  (all_goals (try clear lF' lN')); (all_goals (try k_fold))))
theorem doubled_c (x : Int) (t : Tok) (n : Int) (t2 : Tok) (hn : 0 ≤ n ∧ n < 1000) : ClI w mean mg mb 73 news 1 8 [.int x t, .int n t2] (dblN x n.toNat) := by
  have hD := Det.mk (k := 0) (f := dblN x)
  walk_at "m:claim"

def hlv (n : Int) : Int := if n.fmod 2 = 1 then (Builtin.bitXor n 4374732215).fdiv 2 else n.fdiv 2
def hlvN (c : Int) : Nat → Int
  | 0 => c
  | n + 1 => hlv (hlvN c n)
local macro_rules | `(tactic| walk_at "pyIter ref") => `(tactic| ((rename Fr _ _ _ _ => lF'); (rename News _ _ _ _ => lN'); (rename IsRange _ _ _ _ _ _ _ _ => rgX); (rename Det 0 _ => dF'); (with_unfolding_all refine' loopR dF' (Str.ofString "number") [] (by rfl) (by first | exact rgX | assumption) (rg_small (by assumption)) rg_size lF' lN' ⟨_, rfl⟩ (fun i' t' ta' u' h' tk' own' hi' hoff' F' N' => ?_) (fun u' t' h' tk' F' N' => ?_));  (all_goals (try clear lF' lN')); (all_goals (try k_fold))))
theorem halved_c (x : Int) (t : Tok) (n : Int) (t2 : Tok) (hn : 0 ≤ n ∧ n < 1000) : ClI w mean mg mb 80 news 1 8 [.int x t, .int n t2] (hlvN x n.toNat) := by
  have hD := Det.mk (k := 0) (f := hlvN x)
  walk_at "m:claim"
end
section
variable (w : World) (mean : ExcName → Option Value) (mg mb : Str → Option Value) (news : List (Addr × Obj))
local macro_rules | `(tactic| walk_at "call ref") => `(tactic| (k_here; (k_dflt (refine' doubled_c _ _ _ _ _ _ _ _ _ ?hn _ _ _ _ _ _ _ _ _ _ _ _ _ _ _ _ _ ?k1 ?k2 ?k3 ?k4 ?k5 ?kK ?kd ?ku ?_; walk_at "m:frame"; (case hn => first | decide | assumption | omega))); (intro t9 h9 tk9 F9 N9; (try dsimp only); (try k_fold))))

def mulF (one other : Int) : Nat → Int
  | 0 => 0
  | n + 1 => if (other.fdiv (2 ^ (31 + (n : Int) * -1).toNat)).fmod 2 = 1 then Builtin.bitXor (dblN (mulF one other n) 1) one else dblN (mulF one other n) 1

theorem rg_small31 : Builtin.Range.small 31 (-1) (-1) = true := by decide
theorem rg_size31 : Builtin.Range.rangeSize 31 (-1) (-1) = ((32 : Nat) : Int) := by decide
local macro_rules | `(tactic| walk_at "pyIter ref") => `(tactic| ((rename Fr _ _ _ _ => lF'); (rename News _ _ _ _ => lN'); (rename IsRange _ _ _ _ _ _ _ _ => rgX); (rename Det 0 _ => dF'); (with_unfolding_all refine' loopR dF' (Str.ofString "product") [] (by rfl) (by first | exact rgX | assumption) rg_small31 rg_size31 lF' lN' ⟨_, rfl⟩ (fun i' t' ta' u' h' tk' own' hi' hoff' F' N' => ?_) (fun u' t' h' tk' F' N' => ?_));  (all_goals (try clear lF' lN')); (all_goals (try k_fold))))
theorem times_c (x : Int) (t : Tok) (y : Int) (t2 : Tok) : ClI w mean mg mb 87 news 2 16 [.int x t, .int y t2] (mulF x y 32) := by
  have hD := Det.mk (k := 0) (f := mulF x y)
  walk_at "m:claim"
end
section
variable (w : World) (mean : ExcName → Option Value) (mg mb : Str → Option Value) (news : List (Addr × Obj))


def mirR (x : Int) : Int := ((rangeKs 0 32).map (fun k => (x.fdiv (2 ^ k.toNat)).fmod 2 * 2 ^ (31 - k).toNat)).sum
theorem mirrored_c (x : Int) (t : Tok) : ClI w mean mg mb 66 news 1 8 [.int x t] (mirR x) := by
  walk_at "m:claimC"
end
section
variable (w : World) (mean : ExcName → Option Value) (mg mb : Str → Option Value) (news : List (Addr × Obj))




def wayOf (p c : Int) : Int := if (c - p).fmod 96 < (p - c).fmod 96 then (c - p).fmod 96 else (p - c).fmod 96
def fallOf (p c : Int) : Int := if (if wayOf p c - 16 > 0 then wayOf p c - 16 else 0) < 16 then (if wayOf p c - 16 > 0 then wayOf p c - 16 else 0) else 16
def dueF (p q r : Int) : Nat → Int
  | 0 => 0
  | i + 1 => 1024 * dueF p q r i + r * (128 - q * fallOf p ([0, 32, 64].getD i 0))
local macro_rules | `(tactic| walk_at "exec For Name List cons nil") => `(tactic| (k_here; (rename Fr _ _ _ _ => lF'); (with_unfolding_all refine' For_invVF lF' ?k1 ?k2 ?_; (case k1 => exact rfl); (case k2 => exact rfl); k_whole)))
local macro_rules | `(tactic| walk_at "pyIter ref") => `(tactic| ((rename Fr _ _ _ _ => lF'); (rename News _ _ _ _ => lN'); (rename Det 0 _ => dF'); (with_unfolding_all refine' loopL (ns := [0, 32, 64]) dF' (Str.ofString "code") [Str.ofString "way", Str.ofString "fall"] (by rfl) (List.Mem.head _) (.cons _ _ (.cons _ _ (.cons _ _ .nil))) lF' lN' ⟨_, rfl⟩ (fun i' n' t' ta' u' h' tk' own' hi' hoff' F' N' => ?_) (fun u' t' h' tk' F' N' => ?_));  (all_goals (try clear lF' lN')); (all_goals (try k_fold))))
theorem due_eq (p q r : Int) {i : Nat} {n : Int} (h : ItemAt [0, 32, 64] i n) : dueF p q r (i + 1) = 1024 * dueF p q r i + r * (128 - q * fallOf p n) := by
  unfold ItemAt at h; rw [dueF, List.getD_eq_getElem?_getD, h]; rfl
local macro_rules | `(tactic| walk_at "m:eq") => `(tactic| exact due_eq _ _ _ (by assumption))
theorem due_c (n : Addr) (p q r : Int) (t1 t2 t3 : Tok) (hq : 0 ≤ q ∧ q ≤ 8) (hr : 0 ≤ r ∧ r ≤ 4) (hn : (n, tup3 (.int p t1) (.int q t2) (.int r t3)) ∈ news) : ClI w mean mg mb 49 news 1 8 [.ref n] (dueF p q r 3) := by
  have hD := Det.mk (k := 0) (f := dueF p q r)
  walk_at "m:claim"

local macro_rules | `(tactic| walk_at "m:claimT") => `(tactic| (w_strict (dsimp only [ClT]; k_fill; intros; rename_i hret; refine wpAny_call ?_; k_dflt cell_enter; k_steps; all_goals exact hret _ _ _ _ _ _ (by k_asm) (by k_asm) (by k_asm))))
theorem drawn_c (x : Int) (t : Tok) : ClT w mean mg mb 42 news 1 8 [.int x t] (fun t1 t2 t3 => tup3 (.int (x.fmod 96 + x.fdiv 4320 * 96) t1) (.int (8 - (x.fdiv 96).fmod 9) t2) (.int (4 - (x.fdiv 864).fmod 5) t3)) := by
  walk_at "m:claimT"
end
section
variable (w : World) (mean : ExcName → Option Value) (mg mb : Str → Option Value) (news : List (Addr × Obj))
local macro_rules | `(tactic| walk_at "call ref") => `(tactic| (k_here; (k_dflt (refine' doubled_c _ _ _ _ _ _ _ _ _ ?hn _ _ _ _ _ _ _ _ _ _ _ _ _ _ _ _ _ ?k1 ?k2 ?k3 ?k4 ?k5 ?kK ?kd ?ku ?_; walk_at "m:frame"; (case hn => first | decide | assumption | omega))); (intro t9 h9 tk9 F9 N9; (try dsimp only); (try k_fold))))





def sumI (code reg : Int) : Nat → Int
  | 0 => reg
  | k + 1 => crcN (Builtin.bitXor (sumI code reg k) ((code.fdiv (256 ^ (0 + (k : Int) * 1).toNat)).fmod 256)) 8
def sumF (codes : List Int) : Nat → Int
  | 0 => 4294967295
  | i + 1 => sumI (codes.getD i 0) (sumF codes i) 4
theorem sum_det {ns : List Int} {i : Nat} {n : Int} (_ : ItemAt ns i n) (reg : Int) : Det 0 (sumI n reg) := ⟨⟩
theorem sum_eq {ns : List Int} {i : Nat} {n : Int} (h : ItemAt ns i n) : sumF ns (i + 1) = sumI n (sumF ns i) 4 := by
  unfold ItemAt at h; rw [sumF, List.getD_eq_getElem?_getD, h]; rfl
local macro_rules | `(tactic| walk_at "exec For Name Name cons nil") => `(tactic| (k_here; (rename Fr _ _ _ _ => lF'); (with_unfolding_all refine' For_invVF lF' ?k1 ?k2 ?_; (case k1 => exact rfl); (case k2 => exact rfl); k_whole)))
local macro_rules | `(tactic| walk_at "pyIter ref") => `(tactic| ((rename Fr _ _ _ _ => lF'); (rename News _ _ _ _ => lN'); (rename Det 0 _ => dF'); (with_unfolding_all refine' loopL dF' (Str.ofString "register") [Str.ofString "k"] (by rfl) (by assumption) (by assumption) lF' lN' ⟨_, rfl⟩ (fun i' n' t' ta' u' h' tk' own' hi' hoff' F' N' => ?_) (fun u' t' h' tk' F' N' => ?_));  (all_goals (try clear lF' lN')); (all_goals (try k_fold))))
local macro_rules | `(tactic| walk_at "pyIter ref") => `(tactic| ((rename Fr _ _ _ _ => lF'); (rename News _ _ _ _ => lN'); (rename IsRange _ _ _ _ _ _ _ _ => rgX); (rename ItemAt _ _ _ => dI'); (with_unfolding_all refine' loopR (n := 4) (sum_det dI' _) (Str.ofString "register") [] (by rfl) (by first | exact rgX | assumption) (by decide) (by rfl) lF' lN' ⟨_, rfl⟩ (fun i' t' ta' u' h' tk' own' hi' hoff' F' N' => ?_) (fun u' t' h' tk' F' N' => ?_));  (all_goals (try clear lF' lN')); (all_goals (try k_fold))))
theorem sumI_eq (c r : Int) (k : Nat) : sumI c r (k + 1) = crcN (Builtin.bitXor (sumI c r k) ((c.fdiv (256 ^ (0 + (k : Int) * 1).toNat)).fmod 256)) 8 := rfl
local macro_rules | `(tactic| walk_at "m:eq") => `(tactic| first | (with_reducible exact sum_eq (by assumption)) | (with_reducible exact sumI_eq _ _ _))
local macro_rules | `(tactic| walk_at "call ref") => `(tactic| (k_here; (k_dflt (refine' gen_crc_c _ _ _ _ _ _ _ _ _ _ _ _ _ _ _ _ _ _ _ _ _ _ _ _ ?k1 ?k2 ?k3 ?k4 ?k5 ?kK ?kd ?ku ?_; walk_at "m:frame")); (intro t9 h9 tk9 F9 N9; (try dsimp only); (try k_fold))))
theorem p256 {i : Nat} (h : i < 4) : (256 : Int) ^ (0 + (i : Int) * 1).toNat ≠ 0 ∧ ((256 : Int) ^ (0 + (i : Int) * 1).toNat).natAbs < 1073741824 := by
  have : i = 0 ∨ i = 1 ∨ i = 2 ∨ i = 3 := by omega
  rcases this with rfl | rfl | rfl | rfl <;> decide
local macro_rules | `(tactic| walk_at "binaryOp FloorDiv int int") => `(tactic| (refine floordiv_int ?p1 ?_ ?p2; (case p1 => exact (p256 (by assumption)).1); (case p2 => exact Or.inl (PyProof.noPylong_small (p256 (by assumption)).2))))
theorem sum_c (l : Addr) (vs : List Value) (nn : Nat) (ns : List Int) (hl : (l, listOf vs.toArray nn) ∈ news) (hi : IntsAre vs ns) : ClI w mean mg mb 61 news 2 16 [.ref l] (Builtin.bitXor (sumF ns ns.length) 4294967295) := by
  have hD := Det.mk (k := 0) (f := sumF ns)
  walk_at "m:claim"

def gapF (left : List Int) : Nat → Int
  | 0 => 4294967295
  | i + 1 => dblN (Builtin.bitXor (gapF left i) (left.getD i 0)) 32
theorem gap_eq {ns : List Int} {i : Nat} {n : Int} (h : ItemAt ns i n) : gapF ns (i + 1) = dblN (Builtin.bitXor (gapF ns i) n) (Int.toNat 32) := by
  unfold ItemAt at h; rw [gapF, List.getD_eq_getElem?_getD, h]; rfl
local macro_rules | `(tactic| walk_at "m:eq") => `(tactic| first | (with_reducible exact gap_eq (by assumption)))
local macro_rules | `(tactic| walk_at "call ref") => `(tactic| (k_here; (k_dflt (refine' mirrored_c _ _ _ _ _ _ _ _ _ _ _ _ _ _ _ _ _ _ _ _ _ _ _ _ ?k1 ?k2 ?k3 ?k4 ?k5 ?kK ?kd ?ku ?_; walk_at "m:frame")); (intro t9 h9 tk9 F9 N9; (try dsimp only); (try k_fold))))
local macro_rules | `(tactic| walk_at "pyIter ref") => `(tactic| ((rename Fr _ _ _ _ => lF'); (rename News _ _ _ _ => lN'); (rename Det 0 _ => dF'); (with_unfolding_all refine' loopL dF' (Str.ofString "number") [] (by rfl) (by assumption) (by assumption) lF' lN' ⟨_, rfl⟩ (fun i' n' t' ta' u' h' tk' own' hi' hoff' F' N' => ?_) (fun u' t' h' tk' F' N' => ?_));  (all_goals (try clear lF' lN')); (all_goals (try k_fold))))
theorem gap_c (l : Addr) (vs : List Value) (nn : Nat) (ns : List Int) (told : Int) (t : Tok) (hl : (l, listOf vs.toArray nn) ∈ news) (hi : IntsAre vs ns) : ClI w mean mg mb 101 news 2 16 [.ref l, .int told t] (Builtin.bitXor (gapF ns ns.length) (mirR (Builtin.bitXor told 4294967295))) := by
  have hD := Det.mk (k := 0) (f := gapF ns)
  walk_at "m:claim"
end
section
variable (w : World) (mean : ExcName → Option Value) (mg mb : Str → Option Value) (news : List (Addr × Obj))






abbrev St4 := Int × Int × Int × Int
structure DetW (f : Nat → St4) (n : Nat) : Prop where
  mk ::
abbrev sOne : Str := Str.ofString "one"
abbrev sOther : Str := Str.ofString "other"
abbrev sFirst : Str := Str.ofString "first"
abbrev sSecond : Str := Str.ofString "second"
def WEnd (h₀ : Heap) (L : Addr) (s : Shared) (news : List (Addr × Obj)) (m₀ : Str → Option Value) (v : St4) (ok : Prop) (s₂ : Shared) : Prop :=
  ∃ (h' : Heap) (tk : Nat) (m' : Str → Option Value) (news' : List (Addr × Obj)), s₂ = { s with heap := h', toks := tk } ∧ Fr h₀ L h' m' ∧ News h₀ L h' news' ∧ (∀ p ∈ news, p ∈ news') ∧
    KPfInt m' sOne v.1 ∧ KPfInt m' sOther v.2.1 ∧ KPfInt m' sFirst v.2.2.1 ∧ KPfInt m' sSecond v.2.2.2 ∧ (∀ z, z ≠ sOne → z ≠ sOther → z ≠ sFirst → z ≠ sSecond → m' z = m₀ z) ∧ ok
def WPost (h₀ : Heap) (L : Addr) (s : Shared) (news : List (Addr × Obj)) (m₀ : Str → Option Value) (v : St4) (ok : Prop) (Q : Flow → Shared → Prop) (f : Flow) (s₂ : Shared) : Prop :=
  match f with
  | .ret v => Q (.ret v) s₂
  | .brk => Q .next s₂
  | _ => WEnd h₀ L s news m₀ v ok s₂
theorem WEnd.intro {h₀ : Heap} {L : Addr} {s : Shared} {news news' : List (Addr × Obj)} {m₀ m' : Str → Option Value} {v : St4} {ok : Prop} {h' : Heap} {tk : Nat} (F : Fr h₀ L h' m') (N : News h₀ L h' news') (hn : ∀ p ∈ news, p ∈ news')
    (h1 : KPfInt m' sOne v.1) (h2 : KPfInt m' sOther v.2.1) (h3 : KPfInt m' sFirst v.2.2.1) (h4 : KPfInt m' sSecond v.2.2.2) (hm : ∀ z, z ≠ sOne → z ≠ sOther → z ≠ sFirst → z ≠ sSecond → m' z = m₀ z) (o : ok) :
    WEnd h₀ L s news m₀ v ok { s with heap := h', toks := tk } := ⟨h', tk, m', news', rfl, F, N, hn, h1, h2, h3, h4, hm, o⟩
section
variable {prog : Program} {w : World} {A : Around} {E : Value → Shared → Prop} {Q : Flow → Shared → Prop} {s : Shared} {env : Env} {h₀ : Heap} {L : Addr}
theorem map4 {m m₀ : Str → Option Value} {a b c d : Value} (h1 : m sOne = some a) (h2 : m sOther = some b) (h3 : m sFirst = some c) (h4 : m sSecond = some d) (hm : ∀ z, z ≠ sOne → z ≠ sOther → z ≠ sFirst → z ≠ sSecond → m z = m₀ z) :
    m = fun z => if z = sOne then some a else if z = sOther then some b else if z = sFirst then some c else if z = sSecond then some d else m₀ z := by
  funext z
  by_cases e1 : z = sOne
  · rw [if_pos e1, e1, h1]
  rw [if_neg e1]
  by_cases e2 : z = sOther
  · rw [if_pos e2, e2, h2]
  rw [if_neg e2]
  by_cases e3 : z = sFirst
  · rw [if_pos e3, e3, h3]
  rw [if_neg e3]
  by_cases e4 : z = sSecond
  · rw [if_pos e4, e4, h4]
  rw [if_neg e4]
  exact hm z e1 e2 e3 e4
theorem whileD {test : Expr} {body : List Stmt} {pos : Pos} {m₀ : Str → Option Value} {news : List (Addr × Obj)} {f : Nat → St4} {n : Nat} (_ : DetW f n)
    (F : Fr h₀ L s.heap m₀) (N : News h₀ L s.heap news) (h1 : KPfInt m₀ sOne (f 0).1) (h2 : KPfInt m₀ sOther (f 0).2.1) (h3 : KPfInt m₀ sFirst (f 0).2.2.1) (h4 : KPfInt m₀ sSecond (f 0).2.2.2)
    (turn : ∀ (i : Nat) (t1 t2 t3 t4 : Tok) h tk, i ≤ n → Fr h₀ L h (fun z => if z = sOne then some (.int (f i).1 t1) else if z = sOther then some (.int (f i).2.1 t2) else if z = sFirst then some (.int (f i).2.2.1 t3) else if z = sSecond then some (.int (f i).2.2.2 t4) else m₀ z) → News h₀ L h news →
      wpAny (model prog w) A (isTrue test env (eval test env)) (fun b s₂ =>
        if b = true then wpAny (model prog w) A (execs body env) (WPost h₀ L s news m₀ (f (i + 1)) (i < n) Q) E s₂ else Q .next s₂) E { s with heap := h, toks := tk })
    (hE : PassesOwn (model prog w) A env E := by passes_own) :
    wpAny (model prog w) A (exec (.While test body [] pos) env) Q E s := by
  refine While_inv2 (fun k m nx => ∃ i, nx = news ∧ i + k = n ∧ KPfInt m sOne (f i).1 ∧ KPfInt m sOther (f i).2.1 ∧ KPfInt m sFirst (f i).2.2.1 ∧ KPfInt m sSecond (f i).2.2.2 ∧ (∀ z, z ≠ sOne → z ≠ sOther → z ≠ sFirst → z ≠ sSecond → m z = m₀ z)) F N ⟨0, rfl, Nat.zero_add _, h1, h2, h3, h4, fun _ _ _ _ _ => rfl⟩ ?_ hE
  rintro k m₁ nx h tk F₁ N₁ ⟨i, rfl, hk, ⟨t1, e1⟩, ⟨t2, e2⟩, ⟨t3, e3⟩, ⟨t4, e4⟩, hm⟩
  rw [map4 e1 e2 e3 e4 hm] at F₁
  refine wpAny_mono (turn i t1 t2 t3 t4 h tk (by omega) F₁ N₁) (fun b s₂ p => ?_) fun _ _ x => x
  cases b with
  | false => simpa using p
  | true =>
    simp only [if_true] at p ⊢
    refine wpAny_mono p (fun fl s₃ q => ?_) fun _ _ x => x
    cases fl with
    | ret v => exact q
    | brk => exact q
    | next =>
      obtain ⟨h', tk', m', news', rfl, F', N', hn, g1, g2, g3, g4, hm', ok⟩ := q
      exact ⟨h', tk', m', nx, k - 1, rfl, F', fun p hp => N' p (hn p hp), by omega, i + 1, rfl, by omega, g1, g2, g3, g4, hm'⟩
    | cont =>
      obtain ⟨h', tk', m', news', rfl, F', N', hn, g1, g2, g3, g4, hm', ok⟩ := q
      exact ⟨h', tk', m', nx, k - 1, rfl, F', fun p hp => N' p (hn p hp), by omega, i + 1, rfl, by omega, g1, g2, g3, g4, hm'⟩
end
def invStep (a b u v : Int) : St4 :=
  if a.fmod 2 = 0 then (a.fdiv 2, b, hlvN u (Int.toNat 1), v)
  else if a < b then (Builtin.bitXor b a, a, Builtin.bitXor v u, u) else (Builtin.bitXor a b, b, Builtin.bitXor u v, v)
def invS (z : Int) : Nat → St4
  | 0 => (z, 4374732215, 1, 0)
  | i + 1 => invStep (invS z i).1 (invS z i).2.1 (invS z i).2.2.1 (invS z i).2.2.2
local macro_rules | `(tactic| walk_at "call ref") => `(tactic| (k_here; (k_dflt (refine' halved_c _ _ _ _ _ _ _ _ _ ?hn _ _ _ _ _ _ _ _ _ _ _ _ _ _ _ _ _ ?k1 ?k2 ?k3 ?k4 ?k5 ?kK ?kd ?ku ?_; walk_at "m:frame"; (case hn => first | decide | assumption | omega))); (intro t9 h9 tk9 F9 N9; (try dsimp only); (try k_fold))))
local macro_rules | `(tactic| walk_at "exec While Compare cons nil") => `(tactic| (k_here; (rename Fr _ _ _ _ => lF'); (rename News _ _ _ _ => lN'); (rename DetW _ _ => dW'); (with_unfolding_all refine' whileD dW' lF' lN' ⟨_, rfl⟩ ⟨_, rfl⟩ ⟨_, rfl⟩ ⟨_, rfl⟩ (fun i' t1' t2' t3' t4' h' tk' hi' F' N' => ?_)); (all_goals (try clear lF' lN')); (all_goals (try k_fold))))
local macro_rules | `(tactic| walk_at "WPost") => `(tactic| (dsimp only [WPost]))
theorem inv_c1 {z : Int} {i : Nat} (h : (invS z i).1.fmod 2 = 0) : invS z (i + 1) = ((invS z i).1.fdiv 2, (invS z i).2.1, hlvN (invS z i).2.2.1 (Int.toNat 1), (invS z i).2.2.2) := if_pos h
theorem inv_c2 {z : Int} {i : Nat} (h : (invS z i).1.fmod 2 ≠ 0) (h2 : (invS z i).1 < (invS z i).2.1) : invS z (i + 1) = (Builtin.bitXor (invS z i).2.1 (invS z i).1, (invS z i).1, Builtin.bitXor (invS z i).2.2.2 (invS z i).2.2.1, (invS z i).2.2.1) := (if_neg h).trans (if_pos h2)
theorem inv_c3 {z : Int} {i : Nat} (h : (invS z i).1.fmod 2 ≠ 0) (h2 : ¬ (invS z i).1 < (invS z i).2.1) : invS z (i + 1) = (Builtin.bitXor (invS z i).1 (invS z i).2.1, (invS z i).2.1, Builtin.bitXor (invS z i).2.2.1 (invS z i).2.2.2, (invS z i).2.2.2) := (if_neg h).trans (if_neg h2)
theorem inv_lt {z : Int} {i n : Nat} (h2 : (invS z n).1 = 1) (hi : i ≤ n) (hne : (invS z i).1 ≠ 1) : i < n := by
  rcases Nat.lt_or_eq_of_le hi with h | h
  · exact h
  · subst h; exact absurd h2 hne
theorem inv_end {z : Int} {i n : Nat} (h1 : ∀ i, i < n → (invS z i).1 ≠ 1) (hi : i ≤ n) (he : (invS z i).1 = 1) : (invS z i).2.2.1 = (invS z n).2.2.1 := by
  rcases Nat.lt_or_eq_of_le hi with h | h
  · exact absurd he (h1 i h)
  · subst h; rfl
local macro_rules | `(tactic| walk_at "m:invEq") => `(tactic| first | rw [inv_c1 (by assumption)] | rw [inv_c2 (by assumption) (by assumption)] | rw [inv_c3 (by assumption) (by assumption)])
local macro_rules | `(tactic| walk_at "WEnd") => `(tactic| (refine WEnd.intro (by assumption) (by assumption) (by (intro p9 h9; kst_mem)) (kpf_int ?e1 (by with_unfolding_all rfl)) (kpf_int ?e2 (by with_unfolding_all rfl)) (kpf_int ?e3 (by with_unfolding_all rfl)) (kpf_int ?e4 (by with_unfolding_all rfl)) ?e5 (inv_lt (by assumption) (by assumption) (by assumption)); (case e1 => walk_at "m:invEq"); (case e2 => walk_at "m:invEq"); (case e3 => walk_at "m:invEq"); (case e4 => walk_at "m:invEq"); (case e5 => (intro z h1 h2 h3 h4; (try simp only [sOne, sOther, sFirst, sSecond] at h1 h2 h3 h4); (simp [h1, h2, h3, h4]; done)))))
theorem inverse_c (z : Int) (t : Tok) (n : Nat) (h1 : ∀ i, i < n → (invS z i).1 ≠ 1) (h2 : (invS z n).1 = 1) : ClI w mean mg mb 94 news 2 16 [.int z t] (invS z n).2.2.1 := by
  have hD := DetW.mk (f := invS z) (n := n)
  (k_with "tree" => exact inv_end (by assumption) (by assumption) (by assumption))
  walk_at "m:claim"
end
section
variable (w : World) (mean : ExcName → Option Value) (mg mb : Str → Option Value) (news : List (Addr × Obj))






def fmax3 (x y z : UInt64) : UInt64 := if (Float64.cmp x y == some .lt) = true then (if (Float64.cmp y z == some .lt) = true then z else y) else (if (Float64.cmp x z == some .lt) = true then z else x)
def fmin3 (x y z : UInt64) : UInt64 := if (Float64.cmp y x == some .lt) = true then (if (Float64.cmp z y == some .lt) = true then z else y) else (if (Float64.cmp z x == some .lt) = true then z else x)
open PySem.Flt in
theorem max_three_num {prog : Program} {w : World} {A : Around} {E : Value → Shared → Prop} {s : Shared} {Q : Value → Shared → Prop} {a b c : Value} (hh : A.handled = none) (ha : NumV a) (hb : NumV b) (hc : NumV c)
    (h : ∀ h' tk, (∀ c o, s.heap.get? c = some o → h'.get? c = some o) → Q (if ltV a b then (if ltV b c then c else b) else (if ltV a c then c else a)) { s with heap := h', toks := tk }) :
    wpAny (model prog w) A (call (.builtin "max") [a, b, c]) Q E s := by
  have hT : (s.heap.push { cls := .type "tuple", data := .seq #[a, b, c] }).IsTuple s.heap.objs.size #[a, b, c] := ⟨_, Heap.get?_push_size _ rfl, rfl, 0, rfl⟩
  refine call_max_three (wpAny_pyIter_tuple hT ?_)
  have hsz : (s.heap.push { cls := .type "tuple", data := .seq #[a, b, c] }).objs.size = s.heap.objs.size + 1 := Heap.size_push ..
  refine ⟨_, [_, s.heap.objs.size], [_], _, _, _, _, rfl, Walks.tuple (A := A.in1) hh _ s.heap.objs.size (by rw [hsz]; exact Nat.ne_of_lt (Nat.lt_succ_self _)) #[a, b, c],
    ⟨⟨_, Heap.get?_push_size _ rfl, rfl, rfl⟩, hT.push _⟩, fun c hc => ?_, by simp, cmpOf_gt #[a, b, c] (by simp [ha, hb, hc]), fun v h' tk hP hk => ?_⟩
  · show c < ((s.heap.push _).push _).objs.size
    rw [Heap.size_push, hsz]
    rcases List.mem_cons.mp hc with rfl | hc
    · rw [hsz]; exact Nat.lt_succ_self _
    · rcases List.mem_cons.mp hc with rfl | hc
      · exact Nat.lt_succ_of_lt (Nat.lt_succ_self _)
      · cases hc
  · have hold : ∀ c o, s.heap.get? c = some o → h'.get? c = some o := fun c o e => by
      refine hk c o (fun hm => ?_) (Heap.get?_push_of_some _ (Heap.get?_push_of_some _ e))
      rcases List.mem_cons.mp hm with e1 | hm
      · have := Heap.lt_size e; rw [e1, hsz] at this; exact Nat.lt_irrefl _ (Nat.lt_of_succ_lt this)
      · cases hm
    have := h h' tk hold
    have hv : v = (if ltV a b then (if ltV b c then c else b) else (if ltV a c then c else a)) := by
      cases h1 : ltV a b <;> cases h2 : ltV b c <;> cases h3 : ltV a c <;> simp [argBest, h1, h2, h3] at hP <;> simp [hP]
    rw [hv]; exact this
open PySem.Flt in
theorem min_three_num {prog : Program} {w : World} {A : Around} {E : Value → Shared → Prop} {s : Shared} {Q : Value → Shared → Prop} {a b c : Value} (hh : A.handled = none) (ha : NumV a) (hb : NumV b) (hc : NumV c)
    (h : ∀ h' tk, (∀ c o, s.heap.get? c = some o → h'.get? c = some o) → Q (if ltV b a then (if ltV c b then c else b) else (if ltV c a then c else a)) { s with heap := h', toks := tk }) :
    wpAny (model prog w) A (call (.builtin "min") [a, b, c]) Q E s := by
  have hT : (s.heap.push { cls := .type "tuple", data := .seq #[a, b, c] }).IsTuple s.heap.objs.size #[a, b, c] := ⟨_, Heap.get?_push_size _ rfl, rfl, 0, rfl⟩
  refine call_min_three (wpAny_pyIter_tuple hT ?_)
  have hsz : (s.heap.push { cls := .type "tuple", data := .seq #[a, b, c] }).objs.size = s.heap.objs.size + 1 := Heap.size_push ..
  refine ⟨_, [_, s.heap.objs.size], [_], _, _, _, _, rfl, Walks.tuple (A := A.in1) hh _ s.heap.objs.size (by rw [hsz]; exact Nat.ne_of_lt (Nat.lt_succ_self _)) #[a, b, c],
    ⟨⟨_, Heap.get?_push_size _ rfl, rfl, rfl⟩, hT.push _⟩, fun c hc => ?_, by simp, cmpOf_lt #[a, b, c] (by simp [ha, hb, hc]), fun v h' tk hP hk => ?_⟩
  · show c < ((s.heap.push _).push _).objs.size
    rw [Heap.size_push, hsz]
    rcases List.mem_cons.mp hc with rfl | hc
    · rw [hsz]; exact Nat.lt_succ_self _
    · rcases List.mem_cons.mp hc with rfl | hc
      · exact Nat.lt_succ_of_lt (Nat.lt_succ_self _)
      · cases hc
  · have hold : ∀ c o, s.heap.get? c = some o → h'.get? c = some o := fun c o e => by
      refine hk c o (fun hm => ?_) (Heap.get?_push_of_some _ (Heap.get?_push_of_some _ e))
      rcases List.mem_cons.mp hm with e1 | hm
      · have := Heap.lt_size e; rw [e1, hsz] at this; exact Nat.lt_irrefl _ (Nat.lt_of_succ_lt this)
      · cases hm
    have := h h' tk hold
    have hv : v = (if ltV b a then (if ltV c b then c else b) else (if ltV c a then c else a)) := by
      cases h1 : ltV b a <;> cases h2 : ltV c b <;> cases h3 : ltV c a <;> simp [argBest, h1, h2, h3] at hP <;> simp [hP]
    rw [hv]; exact this
section
variable {prog : Program} {w : World} {A : Around} {E : Value → Shared → Prop} {s : Shared} {Q : Value → Shared → Prop} {h₀ : Heap} {L : Addr} {m : Str → Option Value} {news : List (Addr × Obj)}
open PySem.Flt in
theorem max3_is {x y z M : UInt64} {t u v : Tok} (ht : t ≠ 0 ∧ u ≠ 0 ∧ v ≠ 0) (hh : A.handled = none) (F : Fr h₀ L s.heap m) (N : News h₀ L s.heap news) (hM : fmax3 x y z = M)
    (h : ∀ h' tk v', v' ≠ 0 → Fr h₀ L h' m → News h₀ L h' news → Q (.float M v') { s with heap := h', toks := tk }) :
    wpAny (model prog w) A (call (.builtin "max") [.float x t, .float y u, .float z v]) Q E s :=
  max_three_num hh (.float x t) (.float y u) (.float z v) fun h' tk kp => by
    subst hM
    have e : (if ltV (.float x t) (.float y u) then (if ltV (.float y u) (.float z v) then Value.float z v else .float y u) else (if ltV (.float x t) (.float z v) then .float z v else .float x t)) = .float (fmax3 x y z) (if ltV (.float x t) (.float y u) then (if ltV (.float y u) (.float z v) then v else u) else (if ltV (.float x t) (.float z v) then v else t)) := by
      unfold fmax3
      show (if (Float64.cmp x y == some .lt) = true then (if (Float64.cmp y z == some .lt) = true then Value.float z v else .float y u) else (if (Float64.cmp x z == some .lt) = true then .float z v else .float x t)) = .float _ (if (Float64.cmp x y == some .lt) = true then (if (Float64.cmp y z == some .lt) = true then v else u) else (if (Float64.cmp x z == some .lt) = true then v else t))
      cases Float64.cmp x y == some .lt <;> cases Float64.cmp y z == some .lt <;> cases Float64.cmp x z == some .lt <;> rfl
    rw [e]
    exact h h' tk _ (by (repeat' split) <;> first | exact ht.1 | exact ht.2.1 | exact ht.2.2) (F.grownK kp) (N.grown kp)
open PySem.Flt in
theorem min3_is {x y z M : UInt64} {t u v : Tok} (ht : t ≠ 0 ∧ u ≠ 0 ∧ v ≠ 0) (hh : A.handled = none) (F : Fr h₀ L s.heap m) (N : News h₀ L s.heap news) (hM : fmin3 x y z = M)
    (h : ∀ h' tk v', v' ≠ 0 → Fr h₀ L h' m → News h₀ L h' news → Q (.float M v') { s with heap := h', toks := tk }) :
    wpAny (model prog w) A (call (.builtin "min") [.float x t, .float y u, .float z v]) Q E s :=
  min_three_num hh (.float x t) (.float y u) (.float z v) fun h' tk kp => by
    subst hM
    have e : (if ltV (.float y u) (.float x t) then (if ltV (.float z v) (.float y u) then Value.float z v else .float y u) else (if ltV (.float z v) (.float x t) then .float z v else .float x t)) = .float (fmin3 x y z) (if ltV (.float y u) (.float x t) then (if ltV (.float z v) (.float y u) then v else u) else (if ltV (.float z v) (.float x t) then v else t)) := by
      unfold fmin3
      show (if (Float64.cmp y x == some .lt) = true then (if (Float64.cmp z y == some .lt) = true then Value.float z v else .float y u) else (if (Float64.cmp z x == some .lt) = true then .float z v else .float x t)) = .float _ (if (Float64.cmp y x == some .lt) = true then (if (Float64.cmp z y == some .lt) = true then v else u) else (if (Float64.cmp z x == some .lt) = true then v else t))
      cases Float64.cmp y x == some .lt <;> cases Float64.cmp z y == some .lt <;> cases Float64.cmp z x == some .lt <;> rfl
    rw [e]
    exact h h' tk _ (by (repeat' split) <;> first | exact ht.1 | exact ht.2.1 | exact ht.2.2) (F.grownK kp) (N.grown kp)
theorem fdiv_ok {a b : UInt64} {t u : Tok} (hA : A.handled = none) (hb : Float64.isZero b = false) (h : Q (.float (Float64.div a b) s.toks) { s with toks := s.toks + 1 }) :
    wpAny (model prog w) A (binaryOp .Div (.float a t) (.float b u)) Q E s := truediv_float_or hA (fun e => absurd e (by simp [hb])) fun _ => h
end
local macro_rules | `(tactic| walk_at "call builtin:max") => `(tactic| (k_here; (with_unfolding_all refine' max3_is ?kt ?k0 ?k1 ?k2 ?k3 ?_; (case kt => assumption); (case k0 => rfl); (case k1 => k_asm); (case k2 => k_asm); (case k3 => assumption)); (intro h' tk' v' hv' F' N'; (try dsimp only); (try k_fold))))
local macro_rules | `(tactic| walk_at "call builtin:min") => `(tactic| (k_here; (with_unfolding_all refine' min3_is ?kt ?k0 ?k1 ?k2 ?k3 ?_; (case kt => assumption); (case k0 => rfl); (case k1 => k_asm); (case k2 => k_asm); (case k3 => assumption)); (intro h' tk' v' hv' F' N'; (try dsimp only); (try k_fold))))
local macro_rules | `(tactic| walk_at "binaryOp Div float float") => `(tactic| (with_unfolding_all refine' fdiv_ok ?k0 ?k1 ?_; (case k0 => rfl); (case k1 => first | assumption | decide +kernel); (try dsimp only)))

def finH (h : UInt64) : UInt64 := (Float64.divmod (Float64.div h 4618441417868443648) 4607182418800017408).2
def rgbF (r g b M l : UInt64) : UInt64 × UInt64 × UInt64 :=
  if (Float64.cmp l M == some .eq) = true then (0, 0, M)
  else if (Float64.cmp r M == some .eq) = true then (finH (Float64.sub (Float64.div (Float64.sub M b) (Float64.sub M l)) (Float64.div (Float64.sub M g) (Float64.sub M l))), Float64.div (Float64.sub M l) M, M)
  else if (Float64.cmp g M == some .eq) = true then (finH (Float64.sub (Float64.add 4611686018427387904 (Float64.div (Float64.sub M r) (Float64.sub M l))) (Float64.div (Float64.sub M b) (Float64.sub M l))), Float64.div (Float64.sub M l) M, M)
  else (finH (Float64.sub (Float64.add 4616189618054758400 (Float64.div (Float64.sub M g) (Float64.sub M l))) (Float64.div (Float64.sub M r) (Float64.sub M l))), Float64.div (Float64.sub M l) M, M)
section
variable {r g b M l : UInt64}
theorem rgb_e0 (h : (Float64.cmp l M == some .eq) = true) : rgbF r g b M l = (0, 0, M) := if_pos h
theorem rgb_e1 (h : (Float64.cmp l M == some .eq) = false) (h1 : (Float64.cmp r M == some .eq) = true) : rgbF r g b M l = (finH (Float64.sub (Float64.div (Float64.sub M b) (Float64.sub M l)) (Float64.div (Float64.sub M g) (Float64.sub M l))), Float64.div (Float64.sub M l) M, M) := (if_neg (by simp [h])).trans (if_pos h1)
theorem rgb_e2 (h : (Float64.cmp l M == some .eq) = false) (h1 : (Float64.cmp r M == some .eq) = false) (h2 : (Float64.cmp g M == some .eq) = true) : rgbF r g b M l = (finH (Float64.sub (Float64.add 4611686018427387904 (Float64.div (Float64.sub M r) (Float64.sub M l))) (Float64.div (Float64.sub M b) (Float64.sub M l))), Float64.div (Float64.sub M l) M, M) := (if_neg (by simp [h])).trans ((if_neg (by simp [h1])).trans (if_pos h2))
theorem rgb_e3 (h : (Float64.cmp l M == some .eq) = false) (h1 : (Float64.cmp r M == some .eq) = false) (h2 : (Float64.cmp g M == some .eq) = false) : rgbF r g b M l = (finH (Float64.sub (Float64.add 4616189618054758400 (Float64.div (Float64.sub M g) (Float64.sub M l))) (Float64.div (Float64.sub M r) (Float64.sub M l))), Float64.div (Float64.sub M l) M, M) := (if_neg (by simp [h])).trans ((if_neg (by simp [h1])).trans (if_neg (by simp [h2])))
end
structure NZ (l M : UInt64) : Prop where
  hM : (Float64.cmp l M == some .eq) = false → Float64.isZero M = false
  hR : (Float64.cmp l M == some .eq) = false → Float64.isZero (Float64.sub M l) = false
local macro_rules | `(tactic| walk_at "binaryOp Div float float") => `(tactic| (with_unfolding_all refine' fdiv_ok ?k0 ?k1 ?_; (case k0 => rfl); (case k1 => first | (with_reducible exact NZ.hM (by assumption) (by assumption)) | (with_reducible exact NZ.hR (by assumption) (by assumption)) | decide +kernel); (try dsimp only)))

local macro_rules | `(tactic| walk_at "execs cons") => `(tactic| refine wpAny_execs_cons ?_)
local macro_rules | `(tactic| walk_at "execs nil") => `(tactic| refine wpAny_execs_nil ?_)
abbrev ClN (w : World) (mean : ExcName → Option Value) (mg mb : Str → Option Value) (f : Addr) (news : List (Addr × Obj)) (d u : Nat) (vs : List Value) (R : Tok → Tok → Tok → Obj) : Prop :=
  ∀ (dp un : Nat) (gd : Option (List Code)) (cn : Str) (cs : Scope) (a : Addr) (ccd : Value) (cl : List (Str × Addr)) (outer : List Env) (A₀ : Around) (base h₀ : Heap) (L : Addr) (m : Str → Option Value) (s : Shared) (Q E : Value → Shared → Prop),
    Below A₀ base outer h₀ → Fr h₀ L s.heap m → (Mine.hd.heap_39 w.params).In h₀ → News h₀ L s.heap news → Top Mine.hd.view_39 (looseW Mine.hd.view_39 []) mean mg mb h₀ → cs.kind = .function →
    dp + d < recursionLimit → un + u < cLine →
    (∀ (t1 t2 t3 : Tok) (b : Addr) (h' : Heap) (tk' : Nat), t1 ≠ 0 → t2 ≠ 0 → t3 ≠ 0 → Fr h₀ L h' m → News h₀ L h' ((b, R t1 t2 t3) :: news) → (∀ p ∈ news, p.1 < b) → Q (.ref b) { s with heap := h', toks := tk' }) →
      wpAny (model PySem.Challenge.rw_mr0043_01.prog w) (ktrTop dp un gd cn cs L a ccd cl outer) (call (.ref f) vs) Q E s
theorem rgb_c (r g b M l : UInt64) (t1 t2 t3 : Tok) (ht : t1 ≠ 0 ∧ t2 ≠ 0 ∧ t3 ≠ 0) (hM : fmax3 r g b = M) (hl : fmin3 r g b = l) (hz : NZ l M) :
    ClN w mean mg mb 28 news 1 8 [.float r t1, .float g t2, .float b t3] (fun u1 u2 u3 => tup3 (.float (rgbF r g b M l).1 u1) (.float (rgbF r g b M l).2.1 u2) (.float (rgbF r g b M l).2.2 u3)) := by
  w_strict (dsimp only [ClN]; k_fill; intros; rename_i hret; refine wpAny_call ?_; k_dflt cell_enter; k_steps; all_goals (first | rw [rgb_e0 (by assumption)] at hret | rw [rgb_e1 (by assumption) (by assumption)] at hret | rw [rgb_e2 (by assumption) (by assumption) (by assumption)] at hret | rw [rgb_e3 (by assumption) (by assumption) (by assumption)] at hret); all_goals (refine' hret _ _ _ _ _ _ ?a1 ?a2 ?a3 ?ef ?en ?el; (case en => k_asm); (case ef => k_asm); (case el => k_asm); (case a1 => exact Nat.succ_ne_zero _); (case a2 => exact Nat.succ_ne_zero _); (case a3 => assumption)))
end
section
variable (w : World) (mean : ExcName → Option Value) (mg mb : Str → Option Value) (news : List (Addr × Obj))






section
variable {prog : Program} {w : World} {A : Around} {E : Value → Shared → Prop} {s : Shared} {Q : Value → Shared → Prop}
theorem int_is {x : UInt64} {i : Int} {t : Tok} (hA : A.handled = none) (hf : Float64.isFinite x = true) (hi : Flt.toInt Float64.truncOf x = i) (h : Q (.int i s.toks) { s with toks := s.toks + 1 }) :
    wpAny (model prog w) A (call (.type "int") [.float x t]) Q E s :=
  Flt.call_int_float3 hA (fun e => absurd e (by simp [Flt.not_nan_of_finite hf])) (fun e => absurd e (by simp [Flt.not_inf_of_finite hf])) fun _ => by rw [hi]; exact h
theorem big_no {n : Int} (h : 0 ≤ n ∧ n < 1000) : ¬ 2 ^ 1024 - 2 ^ 970 ≤ n.natAbs := by
  have h1 : n.natAbs < 1000 := by omega
  have h2 : (1000 : Nat) ≤ 2 ^ 1024 - 2 ^ 970 := by decide +kernel
  exact Nat.not_le.mpr (Nat.lt_of_lt_of_le h1 h2)
theorem fsub_int {a : UInt64} {n : Int} {t u : Tok} (hA : A.handled = none) (hn : 0 ≤ n ∧ n < 1000) (h : Q (.float (Float64.sub a (Float64.ofInt n)) s.toks) { s with toks := s.toks + 1 }) :
    wpAny (model prog w) A (binaryOp .Sub (.float a t) (.int n u)) Q E s := sub_fi_sharp hA (fun e => absurd e (big_no hn)) fun _ => h
end
local macro_rules | `(tactic| walk_at "call type:int") => `(tactic| (with_unfolding_all refine' int_is ?k0 ?k1 ?k2 ?_; (case k0 => rfl); (case k1 => assumption); (case k2 => assumption); (try dsimp only)))
local macro_rules | `(tactic| walk_at "binaryOp Sub float int") => `(tactic| (with_unfolding_all refine' fsub_int ?k0 ?k1 ?_; (case k0 => rfl); (case k1 => assumption); (try dsimp only)))
abbrev one64 : UInt64 := 4607182418800017408
abbrev six64 : UInt64 := 4618441417868443648
def hsvP (s v : UInt64) : UInt64 := Float64.mul v (Float64.sub one64 s)
def hsvQ (x s v : UInt64) (i : Int) : UInt64 := Float64.mul v (Float64.sub one64 (Float64.mul s (Float64.sub x (Float64.ofInt i))))
def hsvT (x s v : UInt64) (i : Int) : UInt64 := Float64.mul v (Float64.sub one64 (Float64.mul s (Float64.sub one64 (Float64.sub x (Float64.ofInt i)))))
def hsvF (x s v : UInt64) (i : Int) : UInt64 × UInt64 × UInt64 :=
  if (Float64.cmp s 0 == some .eq) = true then (v, v, v)
  else if i.fmod 6 = 0 then (v, hsvT x s v i, hsvP s v)
  else if i.fmod 6 = 1 then (hsvQ x s v i, v, hsvP s v)
  else if i.fmod 6 = 2 then (hsvP s v, v, hsvT x s v i)
  else if i.fmod 6 = 3 then (hsvP s v, hsvQ x s v i, v)
  else if i.fmod 6 = 4 then (hsvT x s v i, hsvP s v, v)
  else (v, hsvP s v, hsvQ x s v i)
section
variable {x s v : UInt64} {i : Int}
theorem hsv_e0 (h : (Float64.cmp s 0 == some .eq) = true) : hsvF x s v i = (v, v, v) := if_pos h
theorem hsv_e1 (h : (Float64.cmp s 0 == some .eq) = false) (h1 : i.fmod 6 = 0) : hsvF x s v i = (v, hsvT x s v i, hsvP s v) := by simp [hsvF, h, h1]
theorem hsv_e2 (h : (Float64.cmp s 0 == some .eq) = false) (h1 : i.fmod 6 = 1) : hsvF x s v i = (hsvQ x s v i, v, hsvP s v) := by simp [hsvF, h, h1]
theorem hsv_e3 (h : (Float64.cmp s 0 == some .eq) = false) (h1 : i.fmod 6 = 2) : hsvF x s v i = (hsvP s v, v, hsvT x s v i) := by simp [hsvF, h, h1]
theorem hsv_e4 (h : (Float64.cmp s 0 == some .eq) = false) (h1 : i.fmod 6 = 3) : hsvF x s v i = (hsvP s v, hsvQ x s v i, v) := by simp [hsvF, h, h1]
theorem hsv_e5 (h : (Float64.cmp s 0 == some .eq) = false) (h1 : i.fmod 6 = 4) : hsvF x s v i = (hsvT x s v i, hsvP s v, v) := by simp [hsvF, h, h1]
theorem hsv_e6 (h : (Float64.cmp s 0 == some .eq) = false) (h1 : i.fmod 6 = 5) : hsvF x s v i = (v, hsvP s v, hsvQ x s v i) := by simp [hsvF, h, h1]
theorem hsv_no (h0 : i.fmod 6 ≠ 0) (h1 : i.fmod 6 ≠ 1) (h2 : i.fmod 6 ≠ 2) (h3 : i.fmod 6 ≠ 3) (h4 : i.fmod 6 ≠ 4) (h5 : i.fmod 6 ≠ 5) : False := by
  rw [Int.fmod_eq_emod_of_nonneg i (by decide)] at *; omega
end
theorem hsv_c (h s v : UInt64) (i : Int) (t1 t2 t3 : Tok) (hfin : Float64.isFinite (Float64.mul h six64) = true) (hi : Flt.toInt Float64.truncOf (Float64.mul h six64) = i) (hb : 0 ≤ i ∧ i < 1000) :
    ClT w mean mg mb 35 news 1 8 [.float h t1, .float s t2, .float v t3] (fun u1 u2 u3 => tup3 (.float (hsvF (Float64.mul h six64) s v i).1 u1) (.float (hsvF (Float64.mul h six64) s v i).2.1 u2) (.float (hsvF (Float64.mul h six64) s v i).2.2 u3)) := by
  w_strict (dsimp only [ClT]; k_fill; intros; rename_i hret; refine wpAny_call ?_; k_dflt cell_enter; k_steps; all_goals (first | rw [hsv_e0 (by assumption)] at hret | rw [hsv_e1 (by assumption) (by assumption)] at hret | rw [hsv_e2 (by assumption) (by assumption)] at hret | rw [hsv_e3 (by assumption) (by assumption)] at hret | rw [hsv_e4 (by assumption) (by assumption)] at hret | rw [hsv_e5 (by assumption) (by assumption)] at hret | rw [hsv_e6 (by assumption) (by assumption)] at hret | (exfalso; exact hsv_no (by assumption) (by assumption) (by assumption) (by assumption) (by assumption) (by assumption))); all_goals exact hret _ _ _ _ _ _ (by k_asm) (by k_asm) (by k_asm))
end
section
variable (w : World) (mean : ExcName → Option Value) (mg mb : Str → Option Value) (news : List (Addr × Obj))






open PySem.SeqAt
theorem share_no (p : Params) (S : Setting) (t : Tok) : peek (hd.heap_39 p) S (sharingNotTold t) = some false := by
  with_unfolding_all rfl
section
variable {A : Around} {s : Shared} {w₀ : World}
theorem share_wp {prog : Program} {w : World} {E : Value → Shared → Prop} {Q : Bool → Shared → Prop} {t : Tok} (X : (hd.heap_39 w₀.params).In s.heap) (h : Q false s) : wpAny (model prog w) A (sharingNotTold t) Q E s :=
  fun _ _ _ => wp_of_peek X h _ (share_no _ _ _)
theorem same_float {prog : Program} {w : World} {E : Value → Shared → Prop} {Q : Bool → Shared → Prop} {x y : UInt64} {t u : Tok} (ht : t ≠ 0) (hu : u ≠ 0) (X : (hd.heap_39 w₀.params).In s.heap) (hq : ∀ b, Q b s) :
    wpAny (model prog w) A (isSame (.float x t) (.float y u)) Q E s := by
  show wpAny _ A (isSame.created (x == y && !Float64.isNaN x) t u) Q E s
  unfold isSame.created
  have h0 : (t == 0 || u == 0) = false := by simp [ht, hu]
  refine wpAny_ite ?_
  split
  · rename_i h; rw [h0] at h; exact absurd h Bool.false_ne_true
  refine wpAny_ite ?_
  split
  · exact wpAny_pure (hq _)
  refine wpAny_ite ?_
  split
  · exact wpAny_pure (hq _)
  refine wpAny_bind (share_wp X ?_)
  first | rw [if_neg Bool.false_ne_true] | simp only [Bool.false_eq_true, if_false]
  refine wpAny_bind (share_wp X ?_)
  first | rw [if_neg Bool.false_ne_true] | simp only [Bool.false_eq_true, if_false]
  exact wpAny_bind (wpAny_rule (wpAny_bind (wpAny_askSetting (wpAny_pure (hq _)))))
theorem eqAt_float {x y : UInt64} {t u : Tok} (ht : t ≠ 0) (hu : u ≠ 0) (X : (hd.heap_39 w₀.params).In s.heap) (hc : (Float64.cmp x y == some .eq) = true) : EqAt A s (.float x t) (.float y u) true := fun prog w E Q hq => by
  unfold eqBool
  refine wpAny_holding ?_
  refine wpAny_ite_split (fun _ => ?_) (fun _ => ?_)
  · exact wpAny_bind (wpAny_rule (wpAny_pure hq))
  · refine wpAny_bind (same_float ht hu X fun b => ?_)
    have last : wpAny (model prog w) A (do truthOfDropped (← richCompare .Eq (.float x t) (.float y u))) Q E s :=
      wpAny_bind (AutoFloatOps.eq_0 (Q := fun r s' => wpAny (model prog w) A (truthOfDropped r) Q E s') (by rw [hc]; exact wpAny_truthy_bool hq))
    cases b with
    | true => exact wpAny_pure hq
    | false => exact last
theorem eqAt_int_float {n : Int} {y : UInt64} {t u : Tok} (hc : (Float64.cmpInt y n == some .eq) = true) : EqAt A s (.int n t) (.float y u) true := fun prog w E Q hq => by
  unfold eqBool
  refine wpAny_holding ?_
  refine wpAny_ite_split (fun hab => absurd hab (by intro h; cases eq_of_beq h)) (fun _ => ?_)
  exact wpAny_bind (eq_if (Q := fun r s' => wpAny (model prog w) A (truthOfDropped r) Q E s') (by rw [hc]; exact wpAny_truthy_bool hq))
theorem all3 : ((List.range 3).all fun _ => true) = true := by decide
theorem ne_parts {prog : Program} {w : World} {E : Value → Shared → Prop} {Q : Value → Shared → Prop} {h₀ : Heap} {L : Addr} {news : List (Addr × Obj)} {l b : Addr} {k k' : Nat} {x y z : UInt64} {n1 n2 n3 : Int} {t1 t2 t3 u1 u2 u3 : Tok} (N : News h₀ L s.heap news)
    (hl : (l, listOf #[.int n1 t1, .int n2 t2, .int n3 t3] k) ∈ news) (hb : (b, listOf #[.float x u1, .float y u2, .float z u3] k') ∈ news) (hu : A.units < cLine)
    (c1 : (Float64.cmpInt x n1 == some .eq) = true) (c2 : (Float64.cmpInt y n2 == some .eq) = true) (c3 : (Float64.cmpInt z n3 == some .eq) = true) (h : Q (.bool false) s) :
    wpAny (model prog w) A (compareOp .NotEq (.ref l) (.ref b)) Q E s := by
  have r := RcNeAt.lists (A := A) (s := s) (l := l) (b := b) (items := #[.int n1 t1, .int n2 t2, .int n3 t3]) (items2 := #[.float x u1, .float y u2, .float z u3]) (e := fun _ => true) ⟨_, (N _ hl).1, rfl, _, rfl⟩ ⟨_, (N _ hb).1, rfl, _, rfl⟩ rfl hu (by
    intro j h1 h2
    have : j = 0 ∨ j = 1 ∨ j = 2 := by simp at h1; omega
    rcases this with rfl | rfl | rfl
    · exact eqAt_int_float c1
    · exact eqAt_int_float c2
    · exact eqAt_int_float c3)
  exact cmp_ofNotEq (r prog w E Q h)
theorem ne_hsv {prog : Program} {w : World} {E : Value → Shared → Prop} {Q : Value → Shared → Prop} {h₀ : Heap} {L : Addr} {news : List (Addr × Obj)} {l b : Addr} {x y z x' y' z' : UInt64} {t1 t2 t3 u1 u2 u3 : Tok} (N : News h₀ L s.heap news) (X : (hd.heap_39 w₀.params).In s.heap)
    (hl : (l, tup3 (.float x t1) (.float y t2) (.float z t3)) ∈ news) (hb : (b, tup3 (.float x' u1) (.float y' u2) (.float z' u3)) ∈ news) (hu : A.units < cLine)
    (ht1 : t1 ≠ 0) (ht2 : t2 ≠ 0) (ht3 : t3 ≠ 0) (hu1 : u1 ≠ 0) (hu2 : u2 ≠ 0) (hu3 : u3 ≠ 0)
    (c1 : (Float64.cmp x x' == some .eq) = true) (c2 : (Float64.cmp y y' == some .eq) = true) (c3 : (Float64.cmp z z' == some .eq) = true) (h : Q (.bool false) s) :
    wpAny (model prog w) A (compareOp .NotEq (.ref l) (.ref b)) Q E s := by
  have r := RcNeAt.tuples (A := A) (s := s) (l := l) (b := b) (items := #[.float x t1, .float y t2, .float z t3]) (items2 := #[.float x' u1, .float y' u2, .float z' u3]) (e := fun _ => true) ⟨_, (N _ hl).1, rfl, _, rfl⟩ ⟨_, (N _ hb).1, rfl, _, rfl⟩ hu (by
    intro j h1 h2
    have : j = 0 ∨ j = 1 ∨ j = 2 := by simp at h1; omega
    rcases this with rfl | rfl | rfl
    · exact eqAt_float ht1 hu1 X c1
    · exact eqAt_float ht2 hu2 X c2
    · exact eqAt_float ht3 hu3 X c3)
  exact cmp_ofNotEq (r prog w E Q h)
end
end
section
variable (w : World) (mean : ExcName → Option Value) (mg mb : Str → Option Value) (news : List (Addr × Obj))






local macro_rules | `(tactic| walk_at "call type:int") => `(tactic| (with_unfolding_all refine' int_is ?k0 ?k1 ?k2 ?_; (case k0 => rfl); (case k1 => assumption); (case k2 => assumption); (try dsimp only)))


abbrev tupOf (its : Array Value) : Obj := { cls := .type "tuple", data := .seq its }
section
variable {prog : Program} {w : World} {A : Around} {E : Value → Shared → Prop} {s : Shared} {h₀ : Heap} {L : Addr} {m : Str → Option Value} {env : Env}
def TupSrc (prog : Program) (w : World) (A : Around) (h₀ : Heap) (L : Addr) (m : Str → Option Value) (env : Env) (elt : Expr) (x : Str) (scope : Scope) (cl : List (Str × Addr)) (Fin : Shared → List Value → List (Addr × Obj) → Prop) (xv : Value) (s₁ : Shared) : Prop :=
  ∃ ax its news, xv = .ref ax ∧ A.handled = none ∧ Fr h₀ L s₁.heap m ∧ News h₀ L s₁.heap news ∧ (ax, tupOf its) ∈ news ∧ its.size ≤ sizeLine ∧
    ∀ s₂ : Shared, (∃ h, s₂ = { s₁ with heap := h }) → LCg.CompRest prog w A h₀ L m env elt x scope cl s₂ (fun nw => (ax, tupOf its) ∈ nw) (fun i v => its[i]? = some v) (Fin s₂) its.size 0 [] news
theorem TupSrc.intro {elt : Expr} {x : Str} {scope : Scope} {cl : List (Str × Addr)} {Fin : Shared → List Value → List (Addr × Obj) → Prop} {ax : Addr} {its : Array Value} {news : List (Addr × Obj)} {s₁ : Shared}
    (hh : A.handled = none) (F : Fr h₀ L s₁.heap m) (N : News h₀ L s₁.heap news) (hm : (ax, tupOf its) ∈ news) (hsz : its.size ≤ sizeLine)
    (h : ∀ g, LCg.CompRest prog w A h₀ L m env elt x scope cl { s₁ with heap := g } (fun nw => (ax, tupOf its) ∈ nw) (fun i v => its[i]? = some v) (Fin { s₁ with heap := g }) its.size 0 [] news) :
    TupSrc prog w A h₀ L m env elt x scope cl Fin (.ref ax) s₁ := ⟨ax, its, news, rfl, hh, F, N, hm, hsz, fun _ ⟨g, e⟩ => e ▸ h g⟩
theorem tupSt {ax I : Addr} {its : Array Value} : ∀ i (h h' : Heap) (o : Obj) (nw : List (Addr × Obj)), (h.IsTupleIter I ax i ∧ h.IsTuple ax its) → h.get? I = some o → h'.get? I = some o → (∀ b o, h₀.get? b = some o → h'.get? b = some o) → News h₀ L h' nw → (ax, tupOf its) ∈ nw → (h'.IsTupleIter I ax i ∧ h'.IsTuple ax its) :=
  fun i h h' o nw st e e' _ N S => ⟨by obtain ⟨o', q, r⟩ := st.1; rw [e] at q; cases q; exact ⟨o, e', r⟩, ⟨_, (N _ S).1, rfl, 0, rfl⟩⟩
theorem Assign_comp_T {elt iter : Expr} {x y : Str} {px py : Pos} {scope : Scope} {cl : List (Str × Addr)} {pos spos : Pos} {Q : Flow → Shared → Prop} (_F : Fr h₀ L s.heap m) (hLe : env.locals = L)
    (hsw : swapsWith (.ListComp elt [⟨.Name x px, iter, [], 0⟩] scope pos) (some (.Name y py)) spos.line env = pure true)
    (hclos : closureFor scope env = pure cl) (hcell : ∀ z ∈ scope.names, z.2 ≠ .cell) (hkind : scope.kind = .function)
    (hnames : ∀ z ∈ scope.names, z.2 = .local → scope.names.lookup z.1 = some .local) (hx : scope.names.lookup x = some .local)
    (hy : env.kindOf y = some .local) (hp : (env.scope.kind == .class || (env.scope.kind == .module && env.locals != env.globals)) = false)
    (h : wpAny (model prog w) A (eval iter env) (TupSrc prog w A h₀ L m env elt x scope cl (fun s₂ => LCg.FinA h₀ L m s₂ y Q)) E s)
    (hs : ∀ x, foldedSetIterable iter env x = pure x := by intro _; rfl) :
    wpAny (model prog w) A (exec (.Assign [.Name y py] (.ListComp elt [⟨.Name x px, iter, [], 0⟩] scope pos) spos) env) Q E s := by
  subst hLe
  rw [exec_Assign_Name_used _ _ _ _ hsw]
  refine wpAny_bind (wpAny_standAt (wpAny_bind ?_))
  show wpAny _ A (do let _ ← comprehension (.ListComp elt [⟨.Name x px, iter, [], 0⟩] scope pos) scope env _ (newList []) false (eval iter env) (some (assign (.Name y py) env))) _ _ s
  refine wpAny_bind (wpAny_mono (wpAny_comprehension_free (use := some (assign (.Name y py) env)) (Q := fun _ s' => Q .next s') rfl hs hclos hkind hnames
    (wpAny_mono h (fun xv s₁ h₁ => ?_) fun _ _ e => e)) (fun _ s' hq => wpAny_pure (wpAny_pure hq)) fun _ _ e => e)
  obtain ⟨ax, its, news, rfl, hh, F, N, S, hsz, R⟩ := h₁
  have hl : s₁.heap.IsTuple ax its := ⟨_, (N _ S).1, rfl, 0, rfl⟩
  have hlt : ax < s₁.heap.objs.size := Heap.lt_size (N _ S).1
  refine wpAny_pyIter_tuple hl ?_
  refine LCg.block_U (Walks.tuple hh s₁.heap.objs.size ax (Nat.ne_of_lt hlt) its) hsz (fun i h st => by obtain ⟨o, e, _⟩ := st.1; exact ⟨o, e⟩) tupSt hcell hkind hx ⟨⟨_, Heap.get?_push_size _ rfl, rfl, rfl⟩, hl.push _⟩ (fun b hb => ?_)
      (F.keeps fun _ _ e => Heap.get?_push_of_some _ e) (N.grown fun _ _ e => Heap.get?_push_of_some _ e) (Nat.ne_of_lt F.ns.lt) (next_is_new F) (fun p hp => Nat.ne_of_lt (Heap.lt_size (N p hp).1)) S (R _ ⟨_, rfl⟩) ?_
  · show b < (s₁.heap.push _).objs.size
    rw [Heap.size_push]
    rcases List.mem_cons.mp hb with rfl | hb
    · exact Nat.lt_succ_self _
    · rw [List.mem_singleton.mp hb]; exact Nat.lt_succ_of_lt hlt
  · intro D C h' tk m' ys news' F' N' o1 hn hC₀ hD₀ hCL hDL hCD offC fin
    show wpAny _ A (assign (.Name y py) env (.ref D)) _ _ _
    refine wpAny_assign_Name (wpAny_storeName_local hy F'.ns (fun h₂ hn₂ hs₂ => ?_) hp)
    have hL₀ : h₀.get? env.locals = none := Heap.get?_none_of_le F'.above
    have F₂ : Fr h₀ env.locals h₂ (fun z => if z = y then some (.ref D) else m z) := ⟨hn₂, fun b o e => hs₂.extBut b o (fun q => by rw [q, hL₀] at e; cases e) (F'.keep b o e), F'.above⟩
    refine ⟨m', hn.sameBut hs₂ hCL, fun h'' hs'' => fin D h'' _ (F₂.change hs'' hCL hC₀) (fun p hp => ?_) o1⟩
    have z : h₂.get? p.1 = some p.2 := hs₂.extBut _ _ (N' p hp).2.1 (N' p hp).1
    refine ⟨hs''.extBut _ _ ?_ z, (N' p hp).2⟩
    rcases List.mem_cons.mp hp with rfl | hp
    · exact Ne.symm hCD
    · exact offC p hp
end
local macro_rules | `(tactic| walk_at "exec Assign cons ListComp") => `(tactic| (k_here; (with_reducible show wpAny _ _ (exec (Stmt.Assign [Expr.Name (Str.ofString "told") _] _ _) _) _ _ _); k_dflt (refine Assign_comp_T (by k_asm) (by rfl) (by with_unfolding_all rfl) (by rfl) (by decide) (by rfl) (by decide) (by rfl) (by rfl) (by rfl) ?_)))
local macro_rules | `(tactic| walk_at "TupSrc") => `(tactic| (k_here; k_dflt (refine TupSrc.intro (by rfl) (by k_asm) (by k_asm) (by k_mem) (by exact Nat.le_of_ble_eq_true rfl) ?_; intro g'; lcg_lit)))
local macro_rules | `(tactic| walk_at "CompEnd") => `(tactic| (refine LCg.CompEnd.intro (by assumption) (by assumption) _ (fun p hp => hp) ?O ?S ?_; (case O => first | assumption | (with_unfolding_all assumption)); (case S => first | assumption | (k_dflt k_mem) | lcg_src)))
local macro_rules | `(tactic| walk_at "compareOp NotEq ref ref") => `(tactic| (k_here; (k_dflt (refine' ne_parts ?k1 ?k2 ?k3 ?k4 ?k5 ?k6 ?k7 ?_; (case k1 => k_asm); (case k2 => k_mem); (case k3 => k_mem); (case k4 => ktr_units); (case k5 => assumption); (case k6 => assumption); (case k7 => assumption)))))
structure IsPart (x : UInt64) (n : Int) : Prop where
  fin : Float64.isFinite (Float64.mul (Float64.ofInt 512) x) = true
  int : Flt.toInt Float64.truncOf (Float64.mul (Float64.ofInt 512) x) = n
  eq : (Float64.cmpInt (Float64.mul (Float64.ofInt 512) x) n == some Ordering.eq) = true
theorem code_c (n : Addr) (x y z : UInt64) (a b c : Int) (t1 t2 t3 : Tok) (hx : IsPart x a) (hy : IsPart y b) (hz : IsPart z c) (hn : (n, tup3 (.float x t1) (.float y t2) (.float z t3)) ∈ news) : ClI w mean mg mb 54 news 1 8 [.ref n] ((a * 1024 + b) * 1024 + c) := by
  have hx1 := hx.fin; have hx2 := hx.int; have hx3 := hx.eq
  have hy1 := hy.fin; have hy2 := hy.int; have hy3 := hy.eq
  have hz1 := hz.fin; have hz2 := hz.int; have hz3 := hz.eq
  walk_at "m:claim"
end
section
def plOf (x : Int) : Int := x.fmod 96 + x.fdiv 4320 * 96
def shOf (x : Int) : Int := 8 - (x.fdiv 96).fmod 9
def vaOf (x : Int) : Int := 4 - (x.fdiv 864).fmod 5
abbrev drawnObj (x : Int) (t1 t2 t3 : Tok) : Obj := tup3 (.int (plOf x) t1) (.int (shOf x) t2) (.int (vaOf x) t3)
structure DrawnAt (ns : List Int) (ys : List Value) (T : List (Addr × Obj)) : Prop where
  len : ys.length = ns.length
  at' : ∀ (j : Nat) (x : Int), ns[j]? = some x → ∃ (a : Addr) (t1 t2 t3 : Tok), ys[j]? = some (Value.ref a) ∧ (a, drawnObj x t1 t2 t3) ∈ T
theorem DrawnAt.nil : DrawnAt [] [] [] := ⟨rfl, fun _ _ h => by simp at h⟩
theorem DrawnAt.snoc {ns : List Int} {ys : List Value} {T : List (Addr × Obj)} {x : Int} {b : Addr} {t1 t2 t3 : Tok} (h : DrawnAt ns ys T) : DrawnAt (ns ++ [x]) (ys ++ [Value.ref b]) ((b, drawnObj x t1 t2 t3) :: T) := by
  refine ⟨by simp [h.len], fun j y hj => ?_⟩
  by_cases hlt : j < ns.length
  · rw [List.getElem?_append_left hlt] at hj
    obtain ⟨a, u1, u2, u3, h1, h2⟩ := h.at' j y hj
    exact ⟨a, u1, u2, u3, by rw [List.getElem?_append_left (by rw [h.len]; exact hlt)]; exact h1, .tail _ h2⟩
  · rw [List.getElem?_append_right (by omega)] at hj
    have hj0 : j - ns.length = 0 := by
      rcases Nat.eq_zero_or_pos (j - ns.length) with h0 | h0
      · exact h0
      · rw [List.getElem?_eq_none (by simp; omega)] at hj; cases hj
    rw [hj0] at hj
    simp at hj
    subst hj
    refine ⟨b, t1, t2, t3, ?_, .head _⟩
    rw [List.getElem?_append_right (by rw [h.len]; omega), h.len, hj0]; rfl
theorem off3_append {I C D : Addr} {a b : List (Addr × Obj)} (h : ∀ p ∈ a ++ b, p.1 ≠ I ∧ p.1 ≠ C ∧ p.1 ≠ D) : LCg.Off3 I C D (a ++ b) := LCg.Off3.of h
section
variable {prog : Program} {w : World} {A : Around} {h₀ : Heap} {L : Addr} {m : Str → Option Value} {env : Env} {elt : Expr} {x : Str} {scope : Scope} {cl : List (Str × Addr)} {s : Shared} {S : List (Addr × Obj) → Prop} {Fin : List Value → List (Addr × Obj) → Prop} {news : List (Addr × Obj)}
def NamesEnd (h₀ : Heap) (L : Addr) (m : Str → Option Value) (s₁ : Shared) (led : List (Addr × Obj)) (k : Int) (y : Value) (s₂ : Shared) : Prop :=
  ∃ b t1 t2 t3 h' tk', y = .ref b ∧ s₂ = { s₁ with heap := h', toks := tk' } ∧ Fr h₀ L h' m ∧ News h₀ L h' ((b, drawnObj k t1 t2 t3) :: led) ∧ (∀ p ∈ led, p.1 < b)
theorem comp_names {vs : List Value} {ns : List Int} (hi : IntsAre vs ns) (hS : ∀ T, S (news ++ T))
    (turn : ∀ k t I oI C oC D m₂ ys T h tk (E' : Value → Shared → Prop), k ∈ ns → LCg.NsObj oC m₂ → m₂ x = some (.int k t) → Fr h₀ L h m → News h₀ L h ((I, oI) :: (C, oC) :: (D, LCg.lst ys) :: (news ++ T)) →
      wpAny (model prog w) A (eval elt (compEnvC scope cl C env)) (NamesEnd h₀ L m { s with heap := h, toks := tk } ((I, oI) :: (C, oC) :: (D, LCg.lst ys) :: (news ++ T)) k) E' { s with heap := h, toks := tk })
    (fin : ∀ ys T, DrawnAt ns ys T → (∀ q ∈ T, ∀ p ∈ news, p.1 < q.1) → Fin ys (news ++ T)) : LCg.CompRest prog w A h₀ L m env elt x scope cl s S (fun i v => vs.toArray[i]? = some v) Fin vs.toArray.size 0 [] news := by
  have key : ∀ (j i : Nat) (ys : List Value) (T : List (Addr × Obj)), i + j = ns.length → DrawnAt (ns.take i) ys T → (∀ q ∈ T, ∀ p ∈ news, p.1 < q.1) → LCg.CompRest prog w A h₀ L m env elt x scope cl s S (fun i v => vs.toArray[i]? = some v) Fin j i ys (news ++ T) := by
    intro j
    induction j with
    | zero =>
      intro i ys T hij hD hT
      have e : i = ns.length := by omega
      subst e
      rw [List.take_length] at hD
      exact LCg.CompRest.zero (fin ys T hD hT)
    | succ j ih =>
      intro i ys T hij hD hT
      refine LCg.CompRest.succ ?_
      intro v I oI C oC D m₂ h tk E' hv hC hx F N off ne
      obtain ⟨k, t, e, hk⟩ := IntsAre.at hi i v (by simpa using hv)
      subst e
      refine wpAny_mono (turn k t I oI C oC D m₂ ys T h tk E' (List.mem_of_getElem? hk) hC hx F N) (fun y s₂ hq => ?_) fun _ _ e => e
      obtain ⟨b, t1, t2, t3, h', tk', rfl, rfl, F', N', lt⟩ := hq
      have hI : I < b := lt _ (.head _)
      have hCb : C < b := lt _ (.tail _ (.head _))
      have hDb : D < b := lt _ (.tail _ (.tail _ (.head _)))
      refine ⟨h', tk', news ++ (b, drawnObj k t1 t2 t3) :: T, rfl, F', fun p hp => N' p ?_, ?_, hS _, ?_⟩
      · rcases List.mem_cons.mp hp with rfl | hp
        · exact .tail _ (.head _)
        rcases List.mem_cons.mp hp with rfl | hp
        · exact .tail _ (.tail _ (.head _))
        rcases List.mem_cons.mp hp with rfl | hp
        · exact .tail _ (.tail _ (.tail _ (.head _)))
        rcases List.mem_append.mp hp with hp | hp
        · exact .tail _ (.tail _ (.tail _ (.tail _ (List.mem_append_left _ hp))))
        rcases List.mem_cons.mp hp with rfl | hp
        · exact .head _
        · exact .tail _ (.tail _ (.tail _ (.tail _ (List.mem_append_right _ hp))))
      · have o := off.mem
        refine LCg.Off3.of fun p hp => ?_
        rcases List.mem_append.mp hp with hp | hp
        · exact o p (List.mem_append_left _ hp)
        rcases List.mem_cons.mp hp with rfl | hp
        · exact ⟨Ne.symm (Nat.ne_of_lt hI), Ne.symm (Nat.ne_of_lt hCb), Ne.symm (Nat.ne_of_lt hDb)⟩
        · exact o p (List.mem_append_right _ hp)
      · refine ih (i + 1) _ _ (by omega) ?_ ?_
        · rw [List.take_add_one, hk]
          exact hD.snoc
        · intro q hq p hp
          rcases List.mem_cons.mp hq with rfl | hq
          · exact lt p (.tail _ (.tail _ (.tail _ (List.mem_append_left _ hp))))
          · exact hT q hq p hp
  have hl : vs.toArray.size = ns.length := by rw [List.size_toArray]; exact hi.length.symm ▸ rfl
  rw [hl]
  have := key ns.length 0 [] [] (by omega) (by simpa using DrawnAt.nil) (fun _ h => nomatch h)
  rwa [List.append_nil] at this

theorem comp_strip {ys : List Value} {ns : List Int} {T : List (Addr × Obj)} (g : Int → Int) (hT : DrawnAt ns ys T)
    (turn : ∀ k a t1 t2 t3 I oI C oC D m₂ zs h tk (E' : Value → Shared → Prop), k ∈ ns → (a, drawnObj k t1 t2 t3) ∈ T → LCg.NsObj oC m₂ → m₂ x = some (.ref a) → Fr h₀ L h m → News h₀ L h ((I, oI) :: (C, oC) :: (D, LCg.lst zs) :: news) → LCg.Off3 I C D news →
      wpAny (model prog w) A (eval elt (compEnvC scope cl C env)) (LCg.CompEnd h₀ L m { s with heap := h, toks := tk } I oI C oC D (LCg.lst zs) S (fun y news' => KCfEl news (g k) y news')) E' { s with heap := h, toks := tk })
    (fin : ∀ zs, IntsAre zs (ns.map g) → Fin zs news) : LCg.CompRest prog w A h₀ L m env elt x scope cl s S (fun i v => ys.toArray[i]? = some v) Fin ys.toArray.size 0 [] news := by
  have key : ∀ (j i : Nat) (zs : List Value), i + j = ns.length → IntsAre zs ((ns.take i).map g) → LCg.CompRest prog w A h₀ L m env elt x scope cl s S (fun i v => ys.toArray[i]? = some v) Fin j i zs news := by
    intro j
    induction j with
    | zero =>
      intro i zs hij hz
      have e : i = ns.length := by omega
      subst e
      rw [List.take_length] at hz
      exact LCg.CompRest.zero (fin zs hz)
    | succ j ih =>
      intro i zs hij hz
      refine LCg.CompRest.succ ?_
      intro v I oI C oC D m₂ h tk E' hv hC hx F N off ne
      have hlt : i < ns.length := by omega
      have hk : ns[i]? = some ns[i] := by simp [hlt]
      obtain ⟨a, t1, t2, t3, hya, hm⟩ := hT.at' i _ hk
      have hv' : v = .ref a := by
        have : ys[i]? = some v := by simpa using hv
        rw [hya] at this; exact (Option.some.inj this).symm
      subst hv'
      refine wpAny_mono (turn ns[i] a t1 t2 t3 I oI C oC D m₂ zs h tk E' (List.getElem_mem hlt) hm hC hx F N off) (fun y s₂ hq => ?_) fun _ _ e => e
      obtain ⟨h', tk', nw, e, F', N', off', hS, hn, t', hy'⟩ := hq
      rw [hn] at N' off' hS
      refine ⟨h', tk', news, e, F', N', off', hS, ?_⟩
      rw [hy']
      refine ih (i + 1) _ (by omega) ?_
      have e2 : (ns.take (i + 1)).map g = (ns.take i).map g ++ [g ns[i]] := by rw [List.take_add_one, hk]; simp only [List.map_append, Option.toList_some, List.map_cons, List.map_nil]
      rw [e2]
      exact IntsAre.append hz (.cons (g ns[i]) t' .nil)
  have hl : ys.toArray.size = ns.length := by rw [List.size_toArray]; exact hT.len
  rw [hl]
  exact key ns.length 0 [] (by omega) (by simp only [List.take_zero, List.map_nil]; exact .nil)
end
structure LeftIs (g : Int → Int) : Prop where
  mk ::
section
variable {prog : Program} {w : World} {A : Around} {h₀ : Heap} {L : Addr} {m : Str → Option Value} {env : Env} {elt : Expr} {x : Str} {scope : Scope} {cl : List (Str × Addr)} {s : Shared} {S : List (Addr × Obj) → Prop} {Fin : List Value → List (Addr × Obj) → Prop} {news : List (Addr × Obj)}
theorem comp_left {n : Nat} {g : Int → Int} (_ : LeftIs g)
    (turn : ∀ k t I oI C oC D m₂ ys h tk (E' : Value → Shared → Prop), 0 ≤ k ∧ k < (n : Int) → LCg.NsObj oC m₂ → m₂ x = some (.int k t) → Fr h₀ L h m → News h₀ L h ((I, oI) :: (C, oC) :: (D, LCg.lst ys) :: news) → LCg.Off3 I C D news →
      wpAny (model prog w) A (eval elt (compEnvC scope cl C env)) (LCg.CompEnd h₀ L m { s with heap := h, toks := tk } I oI C oC D (LCg.lst ys) S (fun y news' => KCfEl news (g k) y news')) E' { s with heap := h, toks := tk })
    (fin : ∀ ys, IntsAre ys ((rangeKs 0 n).map g) → Fin ys news) : LCg.CompRest prog w A h₀ L m env elt x scope cl s S (fun i v => ∃ t, v = .int (0 + (i : Int)) t) Fin n 0 [] news :=
  kcf_range g (fun k t I oI C oC D m₂ ys h tk E' h1 h2 hC hx F N off _ _ => turn k t I oI C oC D m₂ ys h tk E' ⟨h1, by omega⟩ hC hx F N off) fin
end
section
variable {prog : Program} {w : World} {A : Around} {E : Value → Shared → Prop} {s : Shared} {Q : Value → Shared → Prop} {h₀ : Heap} {L : Addr} {news : List (Addr × Obj)}
theorem item_ref {value slice : PySem.Expr} {l : Addr} {ys : List Value} {kk : Nat} {ns : List Int} {T : List (Addr × Obj)} {k : Int} {u : Tok} (hT : DrawnAt ns ys T) (N : News h₀ L s.heap news) (hl : (l, listOf ys.toArray kk) ∈ news)
    (h0 : 0 ≤ k ∧ k < (ns.length : Int)) (hb : ns.length ≤ 6) (h : ∀ a t1 t2 t3, (a, drawnObj (ns.getD k.toNat 0) t1 t2 t3) ∈ T → Q (.ref a) s)
    (hs : subscripted slice false (.ref l) (.int k u) = operate [.ref l, .int k u] (getItem (.ref l) (.int k u)) := by with_unfolding_all rfl) :
    wpAny (model prog w) A (subscriptTail value slice (.ref l) (.int k u)) Q E s := by
  have hL : s.heap.IsList l ys.toArray := ⟨_, (N _ hl).1, rfl, _, rfl⟩
  have hlt : k.toNat < ns.length := by omega
  have hk : ns[k.toNat]? = some (ns.getD k.toNat 0) := by rw [List.getD_eq_getElem?_getD]; simp [hlt]
  obtain ⟨a, t1, t2, t3, hya, hm⟩ := hT.at' _ _ hk
  exact tail_any hL.typeIs slot_list_getitem.lookup (wpAny_getItem_list hL h0.1 (by omega) (by simpa using hya) (h a t1 t2 t3 hm)) hs
theorem item_tup {value slice : PySem.Expr} {l : Addr} {a b c v : Value} {k : Int} {u : Tok} (N : News h₀ L s.heap news) (hl : (l, tup3 a b c) ∈ news) (hlo : -(2 ^ 63) ≤ k) (hhi : k < 2 ^ 63) {j : Nat} (hj : seqIndex? k 3 = some j) (hx : [a, b, c][j]? = some v) (h : Q v s)
    (hs : subscripted slice false (.ref l) (.int k u) = operate [.ref l, .int k u] (getItem (.ref l) (.int k u)) := by with_unfolding_all rfl) :
    wpAny (model prog w) A (subscriptTail value slice (.ref l) (.int k u)) Q E s :=
  item_tupleT (l := [a, b, c]) ⟨_, (N _ hl).1, rfl, _, rfl⟩ hlo hhi hj hx h hs
theorem in_two {l : Addr} {k a b : Int} {t u v : Tok} {n : Nat} (N : News h₀ L s.heap news) (hl : (l, listOf #[.int a u, .int b v] n) ∈ news) (h : Q (.bool (a == k || b == k)) s) :
    wpAny (model prog w) A (compareOp .In (.int k t) (.ref l)) Q E s := by
  refine SeqAt.in_listAt (items := #[.int a u, .int b v]) (fun y => match y with | .int z _ => z == k | _ => false) ⟨_, (N _ hl).1, rfl, _, rfl⟩ (fun y hy => ?_) ?_
  · simp at hy
    rcases hy with rfl | rfl
    · exact (MeetsSeq.EqGives.int a k u t).at _ _
    · exact (MeetsSeq.EqGives.int b k v t).at _ _
  · simpa using h
theorem div_ok {a b : Int} {t u : Tok} (hA : A.handled = none) (ha : 0 ≤ a ∧ a < 1000) (hb : 0 < b) (h : Q (.float (Float64.ofFrac false a.toNat b.toNat) s.toks) { s with toks := s.toks + 1 }) :
    wpAny (model prog w) A (binaryOp .Div (.int a t) (.int b u)) Q E s := by
  have e1 : (decide (a < 0) != decide (b < 0)) = false := by simp [show ¬ a < 0 by omega, show ¬ b < 0 by omega]
  have e2 : a.natAbs = a.toNat := by omega
  have e3 : b.natAbs = b.toNat := by omega
  refine Flt.div_ii_fits hA ?_ (fun e => absurd e (by omega)) fun _ _ => ?_
  · exact Nat.lt_of_lt_of_le (show a.natAbs < 1000 by omega) (by decide +kernel)
  · rw [e1, e2, e3]; exact h
end
end
section
abbrev fr (a b : Int) : UInt64 := Float64.ofFrac false a.toNat b.toNat
def partOf (p q r c : Int) : Int := r * (128 - q * fallOf p c)
def codeOf (p q r : Int) : Int := (partOf p q r 0 * 1024 + partOf p q r 32) * 1024 + partOf p q r 64
theorem due_code (p q r : Int) : dueF p q r 3 = codeOf p q r := by
  simp only [dueF, codeOf, partOf, List.getD_eq_getElem?_getD]
  simp
  omega
structure RgbOk (r g b x y z : UInt64) : Prop where
  nz : NZ (fmin3 r g b) (fmax3 r g b)
  h : (Float64.cmp (rgbF r g b (fmax3 r g b) (fmin3 r g b)).1 x == some .eq) = true
  s : (Float64.cmp (rgbF r g b (fmax3 r g b) (fmin3 r g b)).2.1 y == some .eq) = true
  v : (Float64.cmp (rgbF r g b (fmax3 r g b) (fmin3 r g b)).2.2 z == some .eq) = true
theorem draw_bd {x : Int} (h : 0 ≤ x ∧ x < 12960) : (0 ≤ plOf x ∧ plOf x < 288) ∧ (0 ≤ shOf x ∧ shOf x ≤ 8) ∧ (0 ≤ vaOf x ∧ vaOf x ≤ 4) := by
  unfold plOf shOf vaOf
  simp only [Int.fmod_eq_emod_of_nonneg _ (show (0:Int) ≤ 96 by decide), Int.fmod_eq_emod_of_nonneg _ (show (0:Int) ≤ 9 by decide), Int.fmod_eq_emod_of_nonneg _ (show (0:Int) ≤ 5 by decide), Int.fdiv_eq_ediv_of_nonneg _ (show (0:Int) ≤ 4320 by decide), Int.fdiv_eq_ediv_of_nonneg _ (show (0:Int) ≤ 96 by decide), Int.fdiv_eq_ediv_of_nonneg _ (show (0:Int) ≤ 864 by decide)]
  omega
structure RowOk (ns : List Int) : Prop where
  bd : ∀ x ∈ ns, 0 ≤ x ∧ x < 12960
  lo : 2 ≤ ns.length
  hi : ns.length ≤ 6
def leftG (ns : List Int) (e l k : Int) : Int := if (e == k || l == k) = true then 0 else mirR (codeOf (plOf (ns.getD k.toNat 0)) (shOf (ns.getD k.toNat 0)) (vaOf (ns.getD k.toNat 0)))
end
section
/-! the plain law: naturals below 2^32, xor -/
def cP : Nat := 4374732215
def nDbl (n : Nat) : Nat := (2 * n) ^^^ (cond (n.testBit 31) cP 0)
def nHlv (n : Nat) : Nat := (n ^^^ (cond (n.testBit 0) cP 0)) / 2
def nCrc (n : Nat) : Nat := (n / 2) ^^^ (cond (n.testBit 0) 3988292384 0)
def it (f : Nat → Nat) : Nat → Nat → Nat
  | 0, x => x
  | n + 1, x => f (it f n x)

/-- linear on 32 bits -/
structure Lin (f : Nat → Nat) : Prop where
  bd : ∀ a, a < 2 ^ 32 → f a < 2 ^ 32
  add : ∀ a b, a < 2 ^ 32 → b < 2 ^ 32 → f (a ^^^ b) = f a ^^^ f b
theorem Lin.zero {f : Nat → Nat} (h : Lin f) : f 0 = 0 := by
  have := h.add 0 0 (by decide) (by decide)
  simp at this
  exact this
theorem Lin.id : Lin (fun x => x) := ⟨fun _ h => h, fun _ _ _ _ => rfl⟩
theorem Lin.comp {f g : Nat → Nat} (hf : Lin f) (hg : Lin g) : Lin (fun x => f (g x)) :=
  ⟨fun a h => hf.bd _ (hg.bd a h), fun a b ha hb => by rw [hg.add a b ha hb, hf.add _ _ (hg.bd a ha) (hg.bd b hb)]⟩
theorem Lin.iter {f : Nat → Nat} (hf : Lin f) : ∀ n, Lin (it f n)
  | 0 => Lin.id
  | n + 1 => by
    have h := Lin.iter hf n
    exact ⟨fun a ha => hf.bd _ (h.bd a ha), fun a b ha hb => by show f (it f n (a ^^^ b)) = f (it f n a) ^^^ f (it f n b); rw [h.add a b ha hb, hf.add _ _ (h.bd a ha) (h.bd b hb)]⟩
theorem Lin.xor {f g : Nat → Nat} (hf : Lin f) (hg : Lin g) : Lin (fun x => f x ^^^ g x) :=
  ⟨fun a h => Nat.xor_lt_two_pow (hf.bd a h) (hg.bd a h), fun a b ha hb => by
    rw [hf.add a b ha hb, hg.add a b ha hb]
    rw [Nat.xor_assoc, Nat.xor_assoc]
    congr 1
    rw [← Nat.xor_assoc, ← Nat.xor_assoc, Nat.xor_comm (f b)]⟩
/-- agree on the powers of two => agree -/
theorem Lin.ext {f g : Nat → Nat} (hf : Lin f) (hg : Lin g) (h : ∀ k, k < 32 → f (2 ^ k) = g (2 ^ k)) : ∀ a, a < 2 ^ 32 → f a = g a := by
  have key : ∀ n, n ≤ 32 → ∀ a, a < 2 ^ n → f a = g a := by
    intro n
    induction n with
    | zero =>
      intro _ a ha
      have : a = 0 := by simpa using ha
      subst this
      rw [hf.zero, hg.zero]
    | succ n ih =>
      intro hn a ha
      have hp : (2 : Nat) ^ n < 2 ^ 32 := Nat.pow_lt_pow_right (by decide) (by omega)
      by_cases hb : a.testBit n
      · have hge : 2 ^ n ≤ a := Nat.ge_two_pow_of_testBit hb
        have e : a = 2 ^ n ^^^ (a - 2 ^ n) := by
          have h1 : a - 2 ^ n < 2 ^ n := by rw [Nat.pow_succ] at ha; omega
          have h2 := Nat.two_pow_add_eq_or_of_lt h1 1
          have h3 : 2 ^ n ^^^ (a - 2 ^ n) = 2 ^ n + (a - 2 ^ n) := by
            apply Nat.eq_of_testBit_eq
            intro i
            rw [Nat.testBit_xor, Nat.testBit_two_pow]
            by_cases hi : n = i
            · subst hi
              rw [Nat.testBit_lt_two_pow h1, Nat.testBit_two_pow_add_eq, Nat.testBit_lt_two_pow h1]; simp
            · simp only [hi, decide_false, Bool.false_xor]
              have h4 : 2 ^ n + (a - 2 ^ n) = 2 ^ n ||| (a - 2 ^ n) := by simpa using h2
              rw [h4, Nat.testBit_or, Nat.testBit_two_pow]
              simp [hi]
          omega
        have h1 : a - 2 ^ n < 2 ^ n := by rw [Nat.pow_succ] at ha; omega
        rw [e, hf.add _ _ hp (Nat.lt_trans h1 hp), hg.add _ _ hp (Nat.lt_trans h1 hp), h n (by omega), ih (by omega) _ h1]
      · refine ih (by omega) a ?_
        apply Nat.lt_of_not_le
        intro hge
        have h1 : a - 2 ^ n < 2 ^ n := by rw [Nat.pow_succ] at ha; omega
        have : a.testBit n = true := by
          have e : a = 2 ^ n + (a - 2 ^ n) := by omega
          rw [e, Nat.testBit_two_pow_add_eq, Nat.testBit_lt_two_pow h1]; rfl
        exact hb this
  exact key 32 (Nat.le_refl _)
theorem xor_two (a b : Nat) : 2 * (a ^^^ b) = (2 * a) ^^^ (2 * b) := by
  have := @Nat.shiftLeft_xor_distrib 1 a b
  simpa [Nat.shiftLeft_eq, Nat.mul_comm] using this
theorem xor_half (a b : Nat) : (a ^^^ b) / 2 = (a / 2) ^^^ (b / 2) := by
  have := @Nat.shiftRight_xor_distrib 1 a b
  simpa [Nat.shiftRight_eq_div_pow] using this
theorem cond_xor (p q : Bool) (c : Nat) : cond (p ^^ q) c 0 = cond p c 0 ^^^ cond q c 0 := by
  cases p <;> cases q <;> simp
theorem xor4 (a b c d : Nat) : (a ^^^ b) ^^^ (c ^^^ d) = (a ^^^ c) ^^^ (b ^^^ d) := by
  rw [Nat.xor_assoc, Nat.xor_assoc]
  congr 1
  rw [← Nat.xor_assoc, ← Nat.xor_assoc, Nat.xor_comm b]
theorem dbl_lin : Lin nDbl := by
  refine ⟨fun a h => ?_, fun a b _ _ => ?_⟩
  · unfold nDbl
    apply Nat.lt_pow_two_of_testBit
    intro i hi
    rw [Nat.testBit_xor]
    have h2 : (2 * a).testBit i = a.testBit (i - 1) := by
      obtain ⟨j, rfl⟩ : ∃ j, i = j + 1 := ⟨i - 1, by omega⟩
      have := Nat.testBit_two_pow_mul (a := a) (i := 1) (j := j + 1)
      simpa using this
    rw [h2]
    by_cases h32 : i = 32
    · subst h32
      cases hb : a.testBit 31 <;> simp [cP] <;> decide
    · have h3 : a.testBit (i - 1) = false := Nat.testBit_lt_two_pow (Nat.lt_of_lt_of_le h (Nat.pow_le_pow_right (by decide) (by omega)))
      have h4 : (cond (a.testBit 31) cP 0).testBit i = false := Nat.testBit_lt_two_pow (Nat.lt_of_lt_of_le (show cond (a.testBit 31) cP 0 < 2 ^ 33 by cases a.testBit 31 <;> decide) (Nat.pow_le_pow_right (by decide) (by omega)))
      rw [h3, h4]; rfl
  · unfold nDbl
    rw [Nat.testBit_xor, cond_xor, xor_two, xor4]
theorem hlv_lin : Lin nHlv := by
  refine ⟨fun a h => ?_, fun a b _ _ => ?_⟩
  · unfold nHlv
    have h1 : a ^^^ cond (a.testBit 0) cP 0 < 2 ^ 33 := Nat.xor_lt_two_pow (by omega) (by cases a.testBit 0 <;> decide)
    omega
  · unfold nHlv
    rw [Nat.testBit_xor, cond_xor, xor4, xor_half]
theorem crc_lin : Lin nCrc := by
  refine ⟨fun a h => ?_, fun a b _ _ => ?_⟩
  · unfold nCrc
    exact Nat.xor_lt_two_pow (by omega) (by cases a.testBit 0 <;> decide)
  · unfold nCrc
    rw [Nat.testBit_xor, cond_xor, xor_half, xor4]
/-- bits turned round -/
def nMir (x : Nat) : Nat → Nat
  | 0 => 0
  | k + 1 => nMir x k ^^^ cond (x.testBit k) (2 ^ (31 - k)) 0
theorem mirk_lin : ∀ k, Lin (fun x => nMir x k)
  | 0 => ⟨fun _ _ => Nat.two_pow_pos 32, fun _ _ _ _ => (Nat.xor_self 0).symm⟩
  | k + 1 => by
    have h := mirk_lin k
    refine ⟨fun a ha => Nat.xor_lt_two_pow (h.bd a ha) ?_, fun a b ha hb => ?_⟩
    · cases a.testBit k
      · exact Nat.two_pow_pos 32
      · exact Nat.pow_lt_pow_right (by decide) (by omega)
    · show nMir (a ^^^ b) k ^^^ _ = (nMir a k ^^^ _) ^^^ (nMir b k ^^^ _)
      rw [h.add a b ha hb, Nat.testBit_xor, cond_xor, xor4]
def mir (x : Nat) : Nat := nMir x 32
theorem mir_lin : Lin mir := mirk_lin 32
/-- product by the bits of the other, the highest first -/
def nMul (one other : Nat) : Nat → Nat
  | 0 => 0
  | n + 1 => nDbl (nMul one other n) ^^^ cond (other.testBit (31 - n)) one 0
theorem mul_lin (other : Nat) : ∀ n, Lin (fun x => nMul x other n)
  | 0 => ⟨fun _ _ => Nat.two_pow_pos 32, fun _ _ _ _ => (Nat.xor_self 0).symm⟩
  | n + 1 => by
    have h := mul_lin other n
    refine ⟨fun a ha => Nat.xor_lt_two_pow (dbl_lin.bd _ (h.bd a ha)) ?_, fun a b ha hb => ?_⟩
    · cases other.testBit (31 - n)
      · exact Nat.two_pow_pos 32
      · exact ha
    · show nDbl (nMul (a ^^^ b) other n) ^^^ _ = (nDbl (nMul a other n) ^^^ _) ^^^ (nDbl (nMul b other n) ^^^ _)
      rw [h.add a b ha hb, dbl_lin.add _ _ (h.bd a ha) (h.bd b hb)]
      rw [show cond (other.testBit (31 - n)) (a ^^^ b) 0 = cond (other.testBit (31 - n)) a 0 ^^^ cond (other.testBit (31 - n)) b 0 by cases other.testBit (31 - n) <;> simp]
      rw [xor4]
def allB (f : Nat → Bool) : Nat → Bool
  | 0 => true
  | n + 1 => f n && allB f n
theorem allB_at {f : Nat → Bool} : ∀ {n k : Nat}, allB f n = true → k < n → f k = true
  | n + 1, k, h, hk => by
    have h' := Bool.and_eq_true_iff.mp h
    rcases Nat.lt_or_eq_of_le (Nat.lt_succ_iff.mp hk) with h1 | h1
    · exact allB_at h'.2 h1
    · exact h1 ▸ h'.1
theorem lin_check {f g : Nat → Nat} (hf : Lin f) (hg : Lin g) (h : allB (fun k => f (2 ^ k) == g (2 ^ k)) 32 = true) : ∀ a, a < 2 ^ 32 → f a = g a :=
  hf.ext hg fun k hk => by simpa using allB_at h hk
/-- the four facts that carry the law -/
theorem mir_crc : ∀ a, a < 2 ^ 32 → mir (nCrc a) = nDbl (mir a) := lin_check (mir_lin.comp crc_lin) (dbl_lin.comp mir_lin) (by decide +kernel)
theorem hlv_dbl : ∀ a, a < 2 ^ 32 → nHlv (nDbl a) = a := lin_check (hlv_lin.comp dbl_lin) Lin.id (by decide +kernel)

/-! the five distances -/
def yOf (d : Nat) : Nat := it nDbl (32 * d) 1
def cureOf (d : Nat) : Nat := match d with | 1 => 0x82cc5c65 | 2 => 0xeea16a00 | 3 => 0x5cf747d3 | 4 => 0x22d6fa0d | _ => 0x5fdc6783
theorem it_add (f : Nat → Nat) (m : Nat) : ∀ n x, it f (n + m) x = it f n (it f m x)
  | 0, x => by simp [it]
  | n + 1, x => by rw [show n + 1 + m = (n + m) + 1 by omega]; show f (it f (n + m) x) = f (it f n (it f m x)); rw [it_add f m n x]
theorem mul_y1 : ∀ a, a < 2 ^ 32 → nMul a (yOf 1) 32 = it nDbl (32 * 1) a := lin_check (mul_lin _ 32) (dbl_lin.iter _) (by decide +kernel)
theorem mul_y2 : ∀ a, a < 2 ^ 32 → nMul a (yOf 2) 32 = it nDbl (32 * 2) a := lin_check (mul_lin _ 32) (dbl_lin.iter _) (by decide +kernel)
theorem mul_y3 : ∀ a, a < 2 ^ 32 → nMul a (yOf 3) 32 = it nDbl (32 * 3) a := lin_check (mul_lin _ 32) (dbl_lin.iter _) (by decide +kernel)
theorem mul_y4 : ∀ a, a < 2 ^ 32 → nMul a (yOf 4) 32 = it nDbl (32 * 4) a := lin_check (mul_lin _ 32) (dbl_lin.iter _) (by decide +kernel)
theorem mul_y5 : ∀ a, a < 2 ^ 32 → nMul a (yOf 5) 32 = it nDbl (32 * 5) a := lin_check (mul_lin _ 32) (dbl_lin.iter _) (by decide +kernel)
def healed (d x : Nat) : Nat := nMul (it nDbl (32 * d) (it nDbl (32 * d) x) ^^^ x) (cureOf d) 32
theorem healed_lin (d : Nat) : Lin (healed d) := (mul_lin (cureOf d) 32).comp (((dbl_lin.iter (32 * d)).comp (dbl_lin.iter (32 * d))).xor Lin.id)
theorem heal1 : ∀ a, a < 2 ^ 32 → healed 1 a = a := lin_check (healed_lin 1) Lin.id (by decide +kernel)
theorem heal2 : ∀ a, a < 2 ^ 32 → healed 2 a = a := lin_check (healed_lin 2) Lin.id (by decide +kernel)
theorem heal3 : ∀ a, a < 2 ^ 32 → healed 3 a = a := lin_check (healed_lin 3) Lin.id (by decide +kernel)
theorem heal4 : ∀ a, a < 2 ^ 32 → healed 4 a = a := lin_check (healed_lin 4) Lin.id (by decide +kernel)
theorem heal5 : ∀ a, a < 2 ^ 32 → healed 5 a = a := lin_check (healed_lin 5) Lin.id (by decide +kernel)
theorem mul_y {d : Nat} (h : 1 ≤ d ∧ d ≤ 5) {a : Nat} (ha : a < 2 ^ 32) : nMul a (yOf d) 32 = it nDbl (32 * d) a := by
  have : d = 1 ∨ d = 2 ∨ d = 3 ∨ d = 4 ∨ d = 5 := by omega
  rcases this with rfl | rfl | rfl | rfl | rfl
  · exact mul_y1 a ha
  · exact mul_y2 a ha
  · exact mul_y3 a ha
  · exact mul_y4 a ha
  · exact mul_y5 a ha
theorem heal {d : Nat} (h : 1 ≤ d ∧ d ≤ 5) {a : Nat} (ha : a < 2 ^ 32) : healed d a = a := by
  have : d = 1 ∨ d = 2 ∨ d = 3 ∨ d = 4 ∨ d = 5 := by omega
  rcases this with rfl | rfl | rfl | rfl | rfl
  · exact heal1 a ha
  · exact heal2 a ha
  · exact heal3 a ha
  · exact heal4 a ha
  · exact heal5 a ha
end
section
/-! the ints of the walk and the naturals -/
theorem xor_and_add : ∀ (n a b : Nat), a < 2 ^ n → b < 2 ^ n → (a ^^^ b) + 2 * (a &&& b) = a + b := by
  intro n
  induction n with
  | zero =>
    intro a b ha hb
    have h1 : a = 0 := by simpa using ha
    have h2 : b = 0 := by simpa using hb
    subst h1 h2; rfl
  | succ n ih =>
    intro a b ha hb
    have h := ih (a / 2) (b / 2) (by rw [Nat.pow_succ] at ha; omega) (by rw [Nat.pow_succ] at hb; omega)
    have e1 : (a ^^^ b) / 2 = a / 2 ^^^ b / 2 := xor_half a b
    have e2 : (a &&& b) / 2 = a / 2 &&& b / 2 := Nat.and_div_two
    have e3 : (a ^^^ b) % 2 = (a + b) % 2 := by
      have h0 := Nat.testBit_xor a b 0
      rw [Nat.testBit_zero, Nat.testBit_zero, Nat.testBit_zero] at h0
      rcases Nat.mod_two_eq_zero_or_one a with ha2 | ha2 <;> rcases Nat.mod_two_eq_zero_or_one b with hb2 | hb2 <;> rcases Nat.mod_two_eq_zero_or_one (a ^^^ b) with hx2 | hx2 <;> rw [ha2, hb2, hx2] at h0 <;> first | omega | exact absurd h0 (by decide)
    have e4 := @Nat.and_mod_two_eq_one a b
    have e5 : (a &&& b) % 2 = 0 ∨ (a &&& b) % 2 = 1 := by omega
    rcases e5 with e5 | e5
    · have : ¬ (a % 2 = 1 ∧ b % 2 = 1) := by intro hh; have := e4.mpr hh; omega
      omega
    · have := e4.mp e5
      omega
theorem bitXor_nat (a b : Nat) : Builtin.bitXor (a : Int) (b : Int) = ((a ^^^ b : Nat) : Int) := by
  rw [bitXor_and]
  have h : Builtin.bitAnd (a : Int) (b : Int) = ((a &&& b : Nat) : Int) := by
    rw [bitAnd_pp (by omega) (by omega)]; simp
  have h1 : a < 2 ^ (a + b) := Nat.lt_of_le_of_lt (Nat.le_add_right a b) Nat.lt_two_pow_self
  have h2 : b < 2 ^ (a + b) := Nat.lt_of_le_of_lt (Nat.le_add_left b a) Nat.lt_two_pow_self
  have := xor_and_add (a + b) a b h1 h2
  rw [h]; omega
theorem dbl_nat {n : Nat} (h : n < 2 ^ 32) : dbl (n : Int) = (nDbl n : Int) := by
  unfold dbl nDbl
  have e : ((2 : Int) ^ (32 : Int).toNat) = 4294967296 := by decide
  rw [e]
  by_cases hb : n.testBit 31
  · have hge : 2 ^ 31 ≤ n := Nat.ge_two_pow_of_testBit hb
    rw [if_pos (by omega), hb, show (n : Int) * 2 = ((2 * n : Nat) : Int) by omega]
    exact bitXor_nat (2 * n) cP
  · have hlt : n < 2 ^ 31 := by
      apply Nat.lt_of_not_le
      intro hge
      have e : n = 2 ^ 31 + (n - 2 ^ 31) := by omega
      rw [e, Nat.testBit_two_pow_add_eq, Nat.testBit_lt_two_pow (by omega)] at hb
      simp at hb
    have hb' : n.testBit 31 = false := by simpa using hb
    rw [if_neg (by omega), hb']
    simp only [cond_false, Nat.xor_zero]
    omega
theorem dblN_nat {n : Nat} (h : n < 2 ^ 32) : ∀ k, dblN (n : Int) k = (it nDbl k n : Int)
  | 0 => rfl
  | k + 1 => by
    show dbl (dblN n k) = (nDbl (it nDbl k n) : Int)
    rw [dblN_nat h k, dbl_nat ((dbl_lin.iter k).bd n h)]
theorem bit0 (n : Nat) : n.testBit 0 = decide (n % 2 = 1) := Nat.testBit_zero n
theorem hlv_nat (n : Nat) : hlv (n : Int) = (nHlv n : Int) := by
  unfold hlv nHlv
  rw [bit0, Int.fmod_eq_emod_of_nonneg _ (by decide)]
  by_cases h : n % 2 = 1
  · rw [if_pos (by omega)]
    have : Builtin.bitXor (n : Int) 4374732215 = ((n ^^^ cP : Nat) : Int) := bitXor_nat n cP
    rw [this, Int.fdiv_eq_ediv_of_nonneg _ (by decide)]
    simp only [h, decide_true, cond_true]
    omega
  · rw [if_neg (by omega), Int.fdiv_eq_ediv_of_nonneg _ (by decide)]
    simp only [h, decide_false, cond_false, Nat.xor_zero]
    omega
theorem hlvN_nat (n : Nat) : ∀ k, hlvN (n : Int) k = (it nHlv k n : Int)
  | 0 => rfl
  | k + 1 => by
    show hlv (hlvN n k) = (nHlv (it nHlv k n) : Int)
    rw [hlvN_nat n k, hlv_nat]
theorem crcStep_nat (n : Nat) : crcStep (n : Int) = (nCrc n : Int) := by
  unfold crcStep nCrc
  rw [bitAnd_m1, bit0, Int.fdiv_eq_ediv_of_nonneg _ (by decide), show ((2 : Int) ^ (1 : Int).toNat) = 2 by decide]
  by_cases h : n % 2 = 1
  · rw [if_neg (by omega)]
    simp only [h, decide_true, cond_true]
    have : ((n : Int) / 2) = ((n / 2 : Nat) : Int) := by omega
    rw [this]
    exact bitXor_nat (n / 2) 3988292384
  · rw [if_pos (by omega)]
    simp only [h, decide_false, cond_false, Nat.xor_zero]
    omega
theorem crcN_nat (n : Nat) : ∀ k, crcN (n : Int) k = (it nCrc k n : Int)
  | 0 => rfl
  | k + 1 => by
    show crcStep (crcN n k) = (nCrc (it nCrc k n) : Int)
    rw [crcN_nat n k, crcStep_nat]
theorem bit_at (n k : Nat) : (n : Int).fdiv (2 ^ k) = ((n / 2 ^ k : Nat) : Int) := by
  rw [Int.fdiv_eq_ediv_of_nonneg _ (Int.le_of_lt (kbt_pos k)), ← kbt_cast]; exact (Int.natCast_ediv _ _).symm
theorem testBit_div (n k : Nat) : n.testBit k = decide (n / 2 ^ k % 2 = 1) := by
  rw [Nat.testBit_eq_decide_div_mod_eq]
theorem mulF_nat {one other : Nat} (h1 : one < 2 ^ 32) : ∀ n, n ≤ 32 → mulF (one : Int) (other : Int) n = (nMul one other n : Int)
  | 0, _ => rfl
  | n + 1, hn => by
    have ih := mulF_nat (other := other) h1 n (by omega)
    have hb := (mul_lin other n).bd one h1
    show (if ((other : Int).fdiv (2 ^ (31 + (n : Int) * -1).toNat)).fmod 2 = 1 then Builtin.bitXor (dblN (mulF one other n) 1) one else dblN (mulF one other n) 1) = ((nDbl (nMul one other n) ^^^ cond (other.testBit (31 - n)) one 0 : Nat) : Int)
    have e : (31 + (n : Int) * -1).toNat = 31 - n := by omega
    have hd : dblN (mulF (one : Int) other n) 1 = (nDbl (nMul one other n) : Int) := by rw [ih]; exact dblN_nat hb 1
    rw [hd, e, bit_at, Int.fmod_eq_emod_of_nonneg _ (by decide), testBit_div]
    by_cases hc : other / 2 ^ (31 - n) % 2 = 1
    · rw [if_pos (by omega)]
      simp only [hc, decide_true, cond_true]
      exact bitXor_nat _ _
    · rw [if_neg (by omega)]
      simp only [hc, decide_false, cond_false, Nat.xor_zero]
end
section
theorem rangeKs_snoc (n : Nat) : rangeKs 0 (n + 1) = rangeKs 0 n ++ [(n : Int)] := by
  simp [rangeKs, List.range_succ]
theorem and_pow_zero {a m : Nat} (h : a % 2 ^ (m + 1) = 0) : a &&& 2 ^ m = 0 := by
  rw [kbt_nat]
  have h1 : a / 2 ^ m % 2 = 0 := by
    obtain ⟨q, rfl⟩ := Nat.dvd_of_mod_eq_zero h
    rw [Nat.pow_succ, Nat.mul_assoc, Nat.mul_div_cancel_left _ (Nat.two_pow_pos m)]
    omega
  rw [h1, Nat.zero_mul]
theorem xor_pow {a m : Nat} (h : a % 2 ^ (m + 1) = 0) : a ^^^ 2 ^ m = a + 2 ^ m := by
  have h1 : a < 2 ^ (a + 2 ^ m) := Nat.lt_of_le_of_lt (Nat.le_add_right _ _) Nat.lt_two_pow_self
  have h2 : 2 ^ m < 2 ^ (a + 2 ^ m) := Nat.lt_of_le_of_lt (Nat.le_add_left _ a) Nat.lt_two_pow_self
  have := xor_and_add _ a (2 ^ m) h1 h2
  rw [and_pow_zero h] at this
  omega
theorem mir_step (n : Nat) : ∀ k, k ≤ 32 → nMir n k % 2 ^ (32 - k) = 0 ∧ ((nMir n k : Nat) : Int) = ((rangeKs 0 k).map (fun j => ((n : Int).fdiv (2 ^ j.toNat)).fmod 2 * 2 ^ (31 - j).toNat)).sum
  | 0, _ => ⟨rfl, rfl⟩
  | k + 1, hk => by
    obtain ⟨h1, h2⟩ := mir_step n k (by omega)
    have e32 : 32 - k = (31 - k) + 1 := by omega
    rw [e32] at h1
    have e31 : 32 - (k + 1) = 31 - k := by omega
    have hs : ((n : Int).fdiv (2 ^ ((k : Int)).toNat)).fmod 2 * 2 ^ (31 - (k : Int)).toNat = ((cond (n.testBit k) (2 ^ (31 - k)) 0 : Nat) : Int) := by
      have ek : ((k : Int)).toNat = k := by omega
      have e2 : (31 - (k : Int)).toNat = 31 - k := by omega
      rw [ek, e2, bit_at, Int.fmod_eq_emod_of_nonneg _ (by decide), testBit_div]
      rcases Nat.mod_two_eq_zero_or_one (n / 2 ^ k) with hb | hb
      · rw [hb]
        have : ((n / 2 ^ k : Nat) : Int) % 2 = 0 := by omega
        rw [this]; simp
      · rw [hb]
        have : ((n / 2 ^ k : Nat) : Int) % 2 = 1 := by omega
        rw [this]; simp only [decide_true, cond_true, Int.one_mul]; exact (kbt_cast _).symm
    rw [rangeKs_snoc, List.map_append, List.sum_append, ← h2]
    simp only [List.map_cons, List.map_nil, List.sum_cons, List.sum_nil]
    rw [hs, e31]
    show (nMir n k ^^^ cond (n.testBit k) (2 ^ (31 - k)) 0) % 2 ^ (31 - k) = 0 ∧ ((nMir n k ^^^ cond (n.testBit k) (2 ^ (31 - k)) 0 : Nat) : Int) = _
    have hd : nMir n k % 2 ^ (31 - k) = 0 := by
      have := Nat.dvd_of_mod_eq_zero h1
      exact Nat.mod_eq_zero_of_dvd (Nat.dvd_trans (Nat.pow_dvd_pow 2 (by omega)) this)
    cases n.testBit k
    · simp only [cond_false, Nat.xor_zero]
      exact ⟨hd, by omega⟩
    · simp only [cond_true]
      rw [xor_pow h1]
      exact ⟨by rw [Nat.add_mod, hd, Nat.mod_self]; simp, by omega⟩
theorem mirR_nat (n : Nat) : mirR (n : Int) = (mir n : Int) := (mir_step n 32 (Nat.le_refl _)).2.symm

/-! one code into the sum -/
def byteAt (c k : Nat) : Nat := c / 256 ^ k % 256
theorem byte_xor (a b k : Nat) : byteAt (a ^^^ b) k = byteAt a k ^^^ byteAt b k := by
  unfold byteAt
  have e : (256 : Nat) ^ k = 2 ^ (8 * k) := by rw [show (256 : Nat) = 2 ^ 8 by decide, ← Nat.pow_mul]
  rw [e, ← Nat.shiftRight_eq_div_pow, ← Nat.shiftRight_eq_div_pow, ← Nat.shiftRight_eq_div_pow, Nat.shiftRight_xor_distrib]
  exact Nat.xor_mod_two_pow (n := 8)
theorem byte_lt (a k : Nat) : byteAt a k < 2 ^ 32 := Nat.lt_trans (Nat.mod_lt _ (by decide)) (by decide)
def nSumI (c r : Nat) : Nat → Nat
  | 0 => r
  | k + 1 => it nCrc 8 (nSumI c r k ^^^ byteAt c k)
theorem sumI_bd (c : Nat) {r : Nat} (hr : r < 2 ^ 32) : ∀ k, nSumI c r k < 2 ^ 32
  | 0 => hr
  | k + 1 => (crc_lin.iter 8).bd _ (Nat.xor_lt_two_pow (sumI_bd c hr k) (byte_lt c k))
theorem sumI_nat (c : Nat) {r : Nat} (hr : r < 2 ^ 32) : ∀ k, sumI (c : Int) (r : Int) k = (nSumI c r k : Int)
  | 0 => rfl
  | k + 1 => by
    rw [sumI_eq, sumI_nat c hr k]
    have e : (0 + (k : Int) * 1).toNat = k := by omega
    have hb : ((c : Int).fdiv (256 ^ (0 + (k : Int) * 1).toNat)).fmod 256 = ((byteAt c k : Nat) : Int) := by
      rw [e, Int.fmod_eq_emod_of_nonneg _ (by decide)]
      have e2 : ((256 : Int) ^ k) = ((256 ^ k : Nat) : Int) := by simp
      rw [e2, Int.fdiv_eq_ediv_of_nonneg _ (Int.natCast_nonneg _)]
      unfold byteAt
      rw [Int.natCast_emod, Int.natCast_ediv]; rfl
    rw [hb, bitXor_nat, crcN_nat]
    rfl
theorem sumI_add (c c' : Nat) {r r' : Nat} (hr : r < 2 ^ 32) (hr' : r' < 2 ^ 32) : ∀ k, nSumI (c ^^^ c') (r ^^^ r') k = nSumI c r k ^^^ nSumI c' r' k
  | 0 => rfl
  | k + 1 => by
    show it nCrc 8 (nSumI (c ^^^ c') (r ^^^ r') k ^^^ byteAt (c ^^^ c') k) = it nCrc 8 (nSumI c r k ^^^ byteAt c k) ^^^ it nCrc 8 (nSumI c' r' k ^^^ byteAt c' k)
    rw [sumI_add c c' hr hr' k, byte_xor, xor4]
    exact (crc_lin.iter 8).add _ _ (Nat.xor_lt_two_pow (sumI_bd c hr k) (byte_lt c k)) (Nat.xor_lt_two_pow (sumI_bd c' hr' k) (byte_lt c' k))
theorem sumI_lin : Lin (fun c => nSumI c 0 4) := ⟨fun c _ => sumI_bd c (by decide) 4, fun a b _ _ => by
  have := sumI_add a b (r := 0) (r' := 0) (by decide) (by decide) 4
  rwa [Nat.xor_self] at this⟩
theorem sumI_code : ∀ c, c < 2 ^ 32 → nSumI c 0 4 = it nCrc 32 c := lin_check sumI_lin (crc_lin.iter 32) (by decide +kernel)
theorem byte_zero (k : Nat) : byteAt 0 k = 0 := by unfold byteAt; simp
theorem sumI_reg (r : Nat) : nSumI 0 r 4 = it nCrc 32 r := by
  show it nCrc 8 (it nCrc 8 (it nCrc 8 (it nCrc 8 (r ^^^ byteAt 0 0) ^^^ byteAt 0 1) ^^^ byteAt 0 2) ^^^ byteAt 0 3) = _
  simp only [byte_zero, Nat.xor_zero]
  rw [← it_add, ← it_add, ← it_add]
theorem sumI_all {c r : Nat} (hc : c < 2 ^ 32) (hr : r < 2 ^ 32) : nSumI c r 4 = it nCrc 32 (r ^^^ c) := by
  have h := sumI_add 0 c (r := r) (r' := 0) hr (by decide) 4
  rw [Nat.zero_xor, Nat.xor_zero] at h
  rw [h, sumI_reg, sumI_code c hc, (crc_lin.iter 32).add r c hr hc]
theorem mir_crcN {a : Nat} (h : a < 2 ^ 32) : ∀ k, mir (it nCrc k a) = it nDbl k (mir a)
  | 0 => rfl
  | k + 1 => by
    show mir (nCrc (it nCrc k a)) = nDbl (it nDbl k (mir a))
    rw [mir_crc _ ((crc_lin.iter k).bd a h), mir_crcN h k]
theorem hlv_dblN {a : Nat} (h : a < 2 ^ 32) : ∀ k, it nHlv k (it nDbl k a) = a
  | 0 => rfl
  | k + 1 => by
    rw [it_add nHlv 1 k, show k + 1 = 1 + k by omega, it_add nDbl k 1]
    show it nHlv k (nHlv (nDbl (it nDbl k a))) = a
    rw [hlv_dbl _ ((dbl_lin.iter k).bd a h), hlv_dblN h k]

/-! the two sums side by side -/
def nSumF (cs : List Nat) : Nat → Nat
  | 0 => 4294967295
  | i + 1 => it nCrc 32 (nSumF cs i ^^^ cs.getD i 0)
def nGapF (ls : List Nat) : Nat → Nat
  | 0 => 4294967295
  | i + 1 => it nDbl 32 (nGapF ls i ^^^ ls.getD i 0)
def Small (l : List Nat) : Prop := ∀ x ∈ l, x < 2 ^ 32
theorem Small.getD {l : List Nat} (h : Small l) (i : Nat) : l.getD i 0 < 2 ^ 32 := by
  rw [List.getD_eq_getElem?_getD]
  cases e : l[i]? with
  | none => exact Nat.two_pow_pos 32
  | some x => exact h x (List.mem_of_getElem? e)
theorem sumF_bd {cs : List Nat} (h : Small cs) : ∀ i, nSumF cs i < 2 ^ 32
  | 0 => (by decide : 4294967295 < 2 ^ 32)
  | i + 1 => (crc_lin.iter 32).bd _ (Nat.xor_lt_two_pow (sumF_bd h i) (h.getD i))
theorem gapF_bd {ls : List Nat} (h : Small ls) : ∀ i, nGapF ls i < 2 ^ 32
  | 0 => (by decide : 4294967295 < 2 ^ 32)
  | i + 1 => (dbl_lin.iter 32).bd _ (Nat.xor_lt_two_pow (gapF_bd h i) (h.getD i))
theorem getD_cast (l : List Nat) (i : Nat) : (l.map (fun x : Nat => (x : Int))).getD i 0 = ((l.getD i 0 : Nat) : Int) := by
  rw [List.getD_eq_getElem?_getD, List.getD_eq_getElem?_getD, List.getElem?_map]
  cases l[i]? <;> rfl
theorem sumF_nat {cs : List Nat} (h : Small cs) : ∀ i, sumF (cs.map (fun x : Nat => (x : Int))) i = (nSumF cs i : Int)
  | 0 => rfl
  | i + 1 => by
    show sumI ((cs.map (fun x : Nat => (x : Int))).getD i 0) (sumF (cs.map (fun x : Nat => (x : Int))) i) 4 = _
    rw [sumF_nat h i, getD_cast, sumI_nat _ (sumF_bd h i), sumI_all (h.getD i) (sumF_bd h i)]
    rfl
theorem gapF_nat {ls : List Nat} (h : Small ls) : ∀ i, gapF (ls.map (fun x : Nat => (x : Int))) i = (nGapF ls i : Int)
  | 0 => rfl
  | i + 1 => by
    show dblN (Builtin.bitXor (gapF (ls.map (fun x : Nat => (x : Int))) i) ((ls.map (fun x : Nat => (x : Int))).getD i 0)) 32 = _
    rw [gapF_nat h i, getD_cast, bitXor_nat, dblN_nat (Nat.xor_lt_two_pow (gapF_bd h i) (h.getD i))]
    rfl
def diff (ls cs : List Nat) (i : Nat) : Nat := nGapF ls i ^^^ mir (nSumF cs i)
theorem diff_zero (ls cs : List Nat) : diff ls cs 0 = 0 := by
  show 4294967295 ^^^ mir 4294967295 = 0
  decide +kernel
theorem diff_bd {ls cs : List Nat} (hl : Small ls) (hc : Small cs) (i : Nat) : diff ls cs i < 2 ^ 32 := Nat.xor_lt_two_pow (gapF_bd hl i) (mir_lin.bd _ (sumF_bd hc i))
theorem diff_succ {ls cs : List Nat} (hl : Small ls) (hc : Small cs) (i : Nat) : diff ls cs (i + 1) = it nDbl 32 (diff ls cs i ^^^ (ls.getD i 0 ^^^ mir (cs.getD i 0))) := by
  show it nDbl 32 (nGapF ls i ^^^ ls.getD i 0) ^^^ mir (it nCrc 32 (nSumF cs i ^^^ cs.getD i 0)) = _
  have b1 := Nat.xor_lt_two_pow (gapF_bd hl i) (hl.getD i)
  have b2 := Nat.xor_lt_two_pow (sumF_bd hc i) (hc.getD i)
  rw [mir_crcN b2, mir_lin.add _ _ (sumF_bd hc i) (hc.getD i), ← (dbl_lin.iter 32).add _ _ b1 (Nat.xor_lt_two_pow (mir_lin.bd _ (sumF_bd hc i)) (mir_lin.bd _ (hc.getD i))), xor4]
  rfl
theorem diff_all {ls cs : List Nat} (hl : Small ls) (hc : Small cs) {n e la E F : Nat} (h1 : e < la) (h2 : la < n) (hE : E < 2 ^ 32) (hF : F < 2 ^ 32)
    (h : ∀ i, i < n → ls.getD i 0 ^^^ mir (cs.getD i 0) = if i = e then E else if i = la then F else 0) :
    diff ls cs n = it nDbl (32 * (n - la)) (it nDbl (32 * (la - e)) E ^^^ F) := by
  have p1 : ∀ i, i ≤ e → diff ls cs i = 0 := by
    intro i
    induction i with
    | zero => intro _; exact diff_zero ls cs
    | succ i ih =>
      intro hi
      rw [diff_succ hl hc, ih (by omega), h i (by omega), if_neg (by omega), if_neg (by omega), Nat.xor_zero, (dbl_lin.iter 32).zero]
  have p2 : ∀ j, e + 1 + j ≤ la → diff ls cs (e + 1 + j) = it nDbl (32 * (j + 1)) E := by
    intro j
    induction j with
    | zero =>
      intro hj
      rw [Nat.add_zero, diff_succ hl hc, p1 e (Nat.le_refl _), h e (by omega), if_pos rfl, Nat.zero_xor]
    | succ j ih =>
      intro hj
      rw [show e + 1 + (j + 1) = (e + 1 + j) + 1 by omega, diff_succ hl hc, ih (by omega), h (e + 1 + j) (by omega), if_neg (by omega), if_neg (by omega), Nat.xor_zero, ← it_add]
      congr 1; omega
  have p3 : ∀ j, la + 1 + j ≤ n → diff ls cs (la + 1 + j) = it nDbl (32 * (j + 1)) (it nDbl (32 * (la - e)) E ^^^ F) := by
    intro j
    induction j with
    | zero =>
      intro hj
      have hla : diff ls cs la = it nDbl (32 * (la - e)) E := by
        have := p2 (la - e - 1) (by omega)
        rwa [show e + 1 + (la - e - 1) = la by omega, show la - e - 1 + 1 = la - e by omega] at this
      rw [Nat.add_zero, diff_succ hl hc, hla, h la (by omega), if_neg (by omega), if_pos rfl]
    | succ j ih =>
      intro hj
      rw [show la + 1 + (j + 1) = (la + 1 + j) + 1 by omega, diff_succ hl hc, ih (by omega), h (la + 1 + j) (by omega), if_neg (by omega), if_neg (by omega), Nat.xor_zero, ← it_add]
      congr 1; omega
  have := p3 (n - la - 1) (by omega)
  rwa [show la + 1 + (n - la - 1) = n by omega, show n - la - 1 + 1 = n - la by omega] at this
theorem halve_all {ls cs : List Nat} (hl : Small ls) (hc : Small cs) {n e la E F : Nat} (h1 : e < la) (h2 : la < n) (hE : E < 2 ^ 32) (hF : F < 2 ^ 32)
    (h : ∀ i, i < n → ls.getD i 0 ^^^ mir (cs.getD i 0) = if i = e then E else if i = la then F else 0) :
    it nHlv (32 * (n - la)) (diff ls cs n) = it nDbl (32 * (la - e)) E ^^^ F := by
  rw [diff_all hl hc h1 h2 hE hF h, hlv_dblN (Nat.xor_lt_two_pow ((dbl_lin.iter _).bd E hE) hF)]
theorem found_one {d E F : Nat} (hd : 1 ≤ d ∧ d ≤ 5) (hE : E < 2 ^ 32) (hF : F < 2 ^ 32) :
    nMul (nMul (it nDbl (32 * d) E ^^^ F) (yOf d) 32 ^^^ (it nDbl (32 * d) F ^^^ E)) (cureOf d) 32 = E := by
  have bE := (dbl_lin.iter (32 * d)).bd E hE
  rw [mul_y hd (Nat.xor_lt_two_pow bE hF), (dbl_lin.iter (32 * d)).add _ _ bE hF]
  have e : (it nDbl (32 * d) (it nDbl (32 * d) E) ^^^ it nDbl (32 * d) F) ^^^ (it nDbl (32 * d) F ^^^ E) = it nDbl (32 * d) (it nDbl (32 * d) E) ^^^ E := by
    rw [Nat.xor_assoc, ← Nat.xor_assoc (it nDbl (32 * d) F), Nat.xor_self, Nat.zero_xor]
  rw [e]
  exact heal hd hE
end
section
theorem fall_bd (p c : Int) : 0 ≤ fallOf p c ∧ fallOf p c ≤ 16 := by
  unfold fallOf
  split <;> split <;> omega
theorem part_bd {p q r c : Int} (hq : 0 ≤ q ∧ q ≤ 8) (hr : 0 ≤ r ∧ r ≤ 4) : 0 ≤ partOf p q r c ∧ partOf p q r c ≤ 512 := by
  obtain ⟨f0, f1⟩ := fall_bd p c
  unfold partOf
  generalize fallOf p c = f at *
  have h1 : 0 ≤ q * f := Int.mul_nonneg hq.1 f0
  have h2 : q * f ≤ 8 * 16 := Int.mul_le_mul hq.2 f1 f0 (by decide)
  have h3 : 0 ≤ r * (128 - q * f) := Int.mul_nonneg hr.1 (by omega)
  have h4 : r * (128 - q * f) ≤ 4 * 128 := Int.mul_le_mul hr.2 (by omega) (by omega) (by decide)
  omega
theorem code_bd {p q r : Int} (hq : 0 ≤ q ∧ q ≤ 8) (hr : 0 ≤ r ∧ r ≤ 4) : 0 ≤ codeOf p q r ∧ codeOf p q r < 2 ^ 32 := by
  have a := part_bd (p := p) (c := 0) hq hr
  have b := part_bd (p := p) (c := 32) hq hr
  have c := part_bd (p := p) (c := 64) hq hr
  unfold codeOf
  omega
def cd (x : Int) : Int := codeOf (plOf x) (shOf x) (vaOf x)
def cN (x : Int) : Nat := (cd x).toNat
theorem cd_nat {x : Int} (h : 0 ≤ x ∧ x < 12960) : cd x = (cN x : Int) ∧ cN x < 2 ^ 32 := by
  obtain ⟨_, h2, h3⟩ := draw_bd h
  have := code_bd (p := plOf x) h2 h3
  unfold cN cd
  omega
section
variable {ns : List Int} (hb : ∀ x ∈ ns, 0 ≤ x ∧ x < 12960)
include hb
theorem codes_map : ns.map (fun k => codeOf (plOf k) (shOf k) (vaOf k)) = (ns.map cN).map (fun x : Nat => (x : Int)) := by
  rw [List.map_map]
  exact List.map_congr_left fun x hx => (cd_nat (hb x hx)).1
theorem codes_small : Small (ns.map cN) := by
  intro y hy
  obtain ⟨x, hx, rfl⟩ := List.mem_map.mp hy
  exact (cd_nat (hb x hx)).2
theorem nth_ok {i : Nat} (h : i < ns.length) : 0 ≤ ns.getD i 0 ∧ ns.getD i 0 < 12960 := by
  rw [List.getD_eq_getElem?_getD, List.getElem?_eq_getElem h]
  exact hb _ (List.getElem_mem h)
theorem code_at {i : Nat} (h : i < ns.length) : (ns.map cN).getD i 0 = cN (ns.getD i 0) := by
  rw [List.getD_eq_getElem?_getD, List.getD_eq_getElem?_getD, List.getElem?_map, List.getElem?_eq_getElem h]; rfl
def lsN (ns : List Int) (e la : Nat) : List Nat := (List.range ns.length).map (fun i => if i = e ∨ i = la then 0 else mir (cN (ns.getD i 0)))
omit hb in
theorem ls_at {e la i : Nat} (h : i < ns.length) : (lsN ns e la).getD i 0 = if i = e ∨ i = la then 0 else mir (cN (ns.getD i 0)) := by
  unfold lsN
  rw [List.getD_eq_getElem?_getD, List.getElem?_map, List.getElem?_range h]; rfl
theorem ls_small (e la : Nat) : Small (lsN ns e la) := by
  intro y hy
  obtain ⟨i, hi, rfl⟩ := List.mem_map.mp hy
  have hlt : i < ns.length := List.mem_range.mp hi
  show (if i = e ∨ i = la then 0 else mir (cN (ns.getD i 0))) < 2 ^ 32
  split
  · exact Nat.two_pow_pos 32
  · exact mir_lin.bd _ (cd_nat (nth_ok hb hlt)).2
theorem left_map {e la : Int} (he : 0 ≤ e) (hl : 0 ≤ la) : (rangeKs 0 ns.length).map (leftG ns e la) = (lsN ns e.toNat la.toNat).map (fun x : Nat => (x : Int)) := by
  unfold lsN rangeKs
  rw [List.map_map, List.map_map]
  refine List.map_congr_left fun i hi => ?_
  have hlt : i < ns.length := List.mem_range.mp hi
  show leftG ns e la (0 + (i : Int)) = (((if i = e.toNat ∨ i = la.toNat then 0 else mir (cN (ns.getD i 0))) : Nat) : Int)
  unfold leftG
  have ei : (0 + (i : Int)).toNat = i := by omega
  rw [ei]
  by_cases h : i = e.toNat ∨ i = la.toNat
  · rw [if_pos h, if_pos (by simp only [Bool.or_eq_true, beq_iff_eq]; omega)]; rfl
  · rw [if_neg h, if_neg (by simp only [Bool.or_eq_true, beq_iff_eq]; omega)]
    have := (cd_nat (nth_ok hb hlt)).1
    unfold cd at this
    rw [this, mirR_nat]
theorem eps {e la i : Nat} (_hel : e < la) (h : i < ns.length) :
    (lsN ns e la).getD i 0 ^^^ mir ((ns.map cN).getD i 0) = if i = e then mir (cN (ns.getD e 0)) else if i = la then mir (cN (ns.getD la 0)) else 0 := by
  rw [ls_at h, code_at hb h]
  by_cases h1 : i = e
  · rw [if_pos (Or.inl h1), if_pos h1, Nat.zero_xor, h1]
  · rw [if_neg h1]
    by_cases h2 : i = la
    · rw [if_pos (Or.inr h2), if_pos h2, Nat.zero_xor, h2]
    · rw [if_neg (by omega), if_neg h2, Nat.xor_self]
omit hb in
theorem rev_getD {l : List Nat} {n i : Nat} (hn : l.length = n) (h : i < n) : l.reverse.getD i 0 = l.getD (n - 1 - i) 0 := by
  rw [List.getD_eq_getElem?_getD, List.getD_eq_getElem?_getD, List.getElem?_reverse (by omega), hn]
theorem eps_rev {e la i : Nat} (hel : e < la) (hla : la < ns.length) (h : i < ns.length) :
    (lsN ns e la).reverse.getD i 0 ^^^ mir ((ns.map cN).reverse.getD i 0) = if i = ns.length - 1 - la then mir (cN (ns.getD la 0)) else if i = ns.length - 1 - e then mir (cN (ns.getD e 0)) else 0 := by
  rw [rev_getD (n := ns.length) (by simp [lsN]) h, rev_getD (n := ns.length) (by simp) h, eps hb hel (by omega)]
  by_cases h1 : i = ns.length - 1 - la
  · rw [if_pos h1, if_neg (by omega), if_pos (by omega)]
  · rw [if_neg h1]
    by_cases h2 : i = ns.length - 1 - e
    · rw [if_pos h2, if_pos (by omega)]
    · rw [if_neg h2, if_neg (by omega), if_neg (by omega)]
end
theorem small_rev {l : List Nat} (h : Small l) : Small l.reverse := fun x hx => h x (List.mem_reverse.mp hx)
/-! the inverse, by its run -/
def runInv : Nat → Nat → Nat → Nat → Nat → Option Nat
  | 0, _, _, _, _ => none
  | f + 1, a, b, u, v => bif a == 1 then some u else bif a % 2 == 0 then runInv f (a / 2) b (nHlv u) v else bif Nat.blt a b then runInv f (b ^^^ a) a (v ^^^ u) u else runInv f (a ^^^ b) b (u ^^^ v) v
theorem run_spec : ∀ (f a b u v c : Nat) (S : Nat → St4), runInv f a b u v = some c → S 0 = ((a : Int), (b : Int), (u : Int), (v : Int)) → (∀ i, S (i + 1) = invStep (S i).1 (S i).2.1 (S i).2.2.1 (S i).2.2.2) →
    ∃ n, (∀ i, i < n → (S i).1 ≠ 1) ∧ (S n).1 = 1 ∧ (S n).2.2.1 = (c : Int)
  | 0, _, _, _, _, _, _, h, _, _ => by cases h
  | f + 1, a, b, u, v, c, S, h, h0, hs => by
    unfold runInv at h
    by_cases ha : a = 1
    · subst ha
      simp only [beq_self_eq_true, cond_true, Option.some.injEq] at h
      subst h
      exact ⟨0, fun i hi => absurd hi (Nat.not_lt_zero i), by rw [h0]; rfl, by rw [h0]⟩
    · rw [show (a == 1) = false by simpa using ha] at h
      simp only [cond_false] at h
      have h1 := hs 0
      rw [h0] at h1
      simp only at h1
      have next : ∀ a' b' u' v' : Nat, runInv f a' b' u' v' = some c → S (0 + 1) = ((a' : Int), (b' : Int), (u' : Int), (v' : Int)) → ∃ n, (∀ i, i < n → (S i).1 ≠ 1) ∧ (S n).1 = 1 ∧ (S n).2.2.1 = (c : Int) := by
        intro a' b' u' v' hr hS
        obtain ⟨n, p1, p2, p3⟩ := run_spec f a' b' u' v' c (fun i => S (i + 1)) hr hS fun i => hs (i + 1)
        refine ⟨n + 1, fun i hi => ?_, p2, p3⟩
        cases i with
        | zero => rw [h0]; show (a : Int) ≠ 1; omega
        | succ i => exact p1 i (by omega)
      unfold invStep at h1
      by_cases he : a % 2 = 0
      · rw [show (a % 2 == 0) = true by simpa using he] at h
        simp only [cond_true] at h
        rw [if_pos (by rw [Int.fmod_eq_emod_of_nonneg _ (by decide)]; omega)] at h1
        refine next _ _ _ _ h ?_
        rw [h1]
        have e1 : (a : Int).fdiv 2 = ((a / 2 : Nat) : Int) := by rw [Int.fdiv_eq_ediv_of_nonneg _ (by decide)]; omega
        have e2 : hlvN (u : Int) (Int.toNat 1) = (nHlv u : Int) := hlvN_nat u 1
        rw [e1, e2]
      · rw [show (a % 2 == 0) = false by simpa using he] at h
        simp only [cond_false] at h
        rw [if_neg (by rw [Int.fmod_eq_emod_of_nonneg _ (by decide)]; omega)] at h1
        by_cases hl : a < b
        · rw [show Nat.blt a b = true by simpa [Nat.blt_eq] using hl] at h
          simp only [cond_true] at h
          rw [if_pos (by omega)] at h1
          refine next _ _ _ _ h ?_
          rw [h1, bitXor_nat, bitXor_nat]
        · rw [show Nat.blt a b = false by rw [Bool.eq_false_iff]; intro hh; exact hl (by simpa [Nat.blt_eq] using hh)] at h
          simp only [cond_false] at h
          rw [if_neg (by omega)] at h1
          refine next _ _ _ _ h ?_
          rw [h1, bitXor_nat, bitXor_nat]
def zOf (d : Nat) : Nat := nMul (yOf d ^^^ 1) (yOf d ^^^ 1) 32
theorem run_all : allB (fun d => runInv 200 (zOf (d + 1)) cP 1 0 == some (cureOf (d + 1))) 5 = true := by decide +kernel
theorem run_at {d : Nat} (h : 1 ≤ d ∧ d ≤ 5) : runInv 200 (zOf d) cP 1 0 = some (cureOf d) := by
  have := allB_at run_all (k := d - 1) (by omega)
  rw [show d - 1 + 1 = d by omega] at this
  simpa using this
theorem y_nat {y d : Int} (hy : y = dblN 1 (32 * d).toNat) (hd : 1 ≤ d ∧ d ≤ 5) : y = (yOf d.toNat : Int) := by
  rw [hy]
  have := dblN_nat (n := 1) (by decide) (32 * d).toNat
  rw [show (32 * d).toNat = 32 * d.toNat by omega] at *
  exact this
theorem y_bd (d : Nat) : yOf d < 2 ^ 32 := (dbl_lin.iter _).bd 1 (by decide)
theorem z_nat {z y d : Int} (hz : z = mulF (Builtin.bitXor y 1) (Builtin.bitXor y 1) 32) (hy : y = dblN 1 (32 * d).toNat) (hd : 1 ≤ d ∧ d ≤ 5) : z = (zOf d.toNat : Int) := by
  have e := y_nat hy hd
  have e1 : Builtin.bitXor y 1 = ((yOf d.toNat ^^^ 1 : Nat) : Int) := by rw [e]; exact bitXor_nat _ 1
  rw [hz, e1]
  exact mulF_nat (Nat.xor_lt_two_pow (y_bd _) (by decide)) 32 (Nat.le_refl _)
theorem inv_run {z y d : Int} (hz : z = mulF (Builtin.bitXor y 1) (Builtin.bitXor y 1) 32) (hy : y = dblN 1 (32 * d).toNat) (hd : 1 ≤ d ∧ d ≤ 5) :
    ∃ n, (∀ i, i < n → (invS z i).1 ≠ 1) ∧ (invS z n).1 = 1 ∧ (invS z n).2.2.1 = (cureOf d.toNat : Int) := by
  refine run_spec 200 (zOf d.toNat) cP 1 0 (cureOf d.toNat) (invS z) (run_at (by omega)) ?_ fun i => rfl
  rw [z_nat hz hy hd]; rfl
theorem inv_ok {z y d : Int} (hz : z = mulF (Builtin.bitXor y 1) (Builtin.bitXor y 1) 32) (hy : y = dblN 1 (32 * d).toNat) (hd : 1 ≤ d ∧ d ≤ 5) : ∃ n, (∀ i, i < n → (invS z i).1 ≠ 1) ∧ (invS z n).1 = 1 :=
  let ⟨n, h1, h2, _⟩ := inv_run hz hy hd; ⟨n, h1, h2⟩
theorem cure_is {z y d cure : Int} {n : Nat} (hz : z = mulF (Builtin.bitXor y 1) (Builtin.bitXor y 1) 32) (hy : y = dblN 1 (32 * d).toNat) (hd : 1 ≤ d ∧ d ≤ 5) (h1 : ∀ i, i < n → (invS z i).1 ≠ 1) (h2 : (invS z n).1 = 1) (hc : cure = (invS z n).2.2.1) : cure = (cureOf d.toNat : Int) := by
  obtain ⟨m, g1, g2, g3⟩ := inv_run hz hy hd
  have e : n = m := by
    rcases Nat.lt_trichotomy n m with h | h | h
    · exact absurd h2 (g1 n h)
    · exact h
    · exact absurd g2 (h1 m h)
  rw [hc, e, g3]
end
section
theorem xor_twice (a b : Nat) : a ^^^ b ^^^ b = a := by rw [Nat.xor_assoc, Nat.xor_self, Nat.xor_zero]
theorem gap_diff {ls cs : List Nat} (hl : Small ls) (hc : Small cs) {s1 g1 : Int} {n m : Nat} (hn : (ls.map (fun x : Nat => (x : Int))).length = n) (hm : (cs.map (fun x : Nat => (x : Int))).length = n)
    (q13 : g1 = Builtin.bitXor (gapF (ls.map (fun x : Nat => (x : Int))) (ls.map (fun x : Nat => (x : Int))).length) (mirR (Builtin.bitXor s1 4294967295)))
    (q14 : s1 = Builtin.bitXor (sumF (cs.map (fun x : Nat => (x : Int))) (cs.map (fun x : Nat => (x : Int))).length) 4294967295) (_ : m = m) : g1 = (diff ls cs n : Int) := by
  rw [hm, sumF_nat hc] at q14
  have e1 : s1 = ((nSumF cs n ^^^ 4294967295 : Nat) : Int) := by rw [q14]; exact bitXor_nat _ 4294967295
  have e2 : Builtin.bitXor s1 4294967295 = (nSumF cs n : Int) := by
    rw [e1]
    have := bitXor_nat (nSumF cs n ^^^ 4294967295) 4294967295
    rw [xor_twice] at this
    exact this
  rw [q13, e2, hn, gapF_nat hl, mirR_nat, bitXor_nat]
  rfl
theorem plain {ns : List Int} (hok : RowOk ns) {e la : Int} (he0 : 0 ≤ e) (hel : e < la) (hln : la < (ns.length : Int)) {s1 g1 ahead s2 g2 back y z cure a1 first b1 second : Int} {n : Nat}
    (q1 : second = mulF (Builtin.bitXor b1 ahead) cure 32) (q2 : b1 = mulF back y 32) (q3 : first = mulF (Builtin.bitXor a1 back) cure 32) (q4 : a1 = mulF ahead y 32)
    (q5 : cure = (invS z n).2.2.1) (q6 : (invS z n).1 = 1) (q6' : ∀ i, i < n → (invS z i).1 ≠ 1) (q7 : z = mulF (Builtin.bitXor y 1) (Builtin.bitXor y 1) 32) (q8 : y = dblN 1 (32 * (la - e)).toNat)
    (q9 : back = hlvN g2 (32 * (e + 1)).toNat)
    (q10 : g2 = Builtin.bitXor (gapF (List.map (leftG ns e la) (rangeKs 0 ns.length)).reverse (List.map (leftG ns e la) (rangeKs 0 ns.length)).reverse.length) (mirR (Builtin.bitXor s2 4294967295)))
    (q11 : s2 = Builtin.bitXor (sumF (List.map (fun k => codeOf (plOf k) (shOf k) (vaOf k)) ns).reverse (List.map (fun k => codeOf (plOf k) (shOf k) (vaOf k)) ns).reverse.length) 4294967295)
    (q12 : ahead = hlvN g1 (32 * ((ns.length : Int) - la)).toNat)
    (q13 : g1 = Builtin.bitXor (gapF (List.map (leftG ns e la) (rangeKs 0 ns.length)) (List.map (leftG ns e la) (rangeKs 0 ns.length)).length) (mirR (Builtin.bitXor s1 4294967295)))
    (q14 : s1 = Builtin.bitXor (sumF (List.map (fun k => codeOf (plOf k) (shOf k) (vaOf k)) ns) (List.map (fun k => codeOf (plOf k) (shOf k) (vaOf k)) ns).length) 4294967295) :
    first = mirR (codeOf (plOf (ns.getD e.toNat 0)) (shOf (ns.getD e.toNat 0)) (vaOf (ns.getD e.toNat 0))) ∧ second = mirR (codeOf (plOf (ns.getD la.toNat 0)) (shOf (ns.getD la.toNat 0)) (vaOf (ns.getD la.toNat 0))) := by
  have hb := hok.bd
  have hhi := hok.hi
  have hla0 : 0 ≤ la := by omega
  have hd : 1 ≤ la - e ∧ la - e ≤ 5 := by omega
  have eL := left_map hb he0 hla0
  have eC := codes_map hb
  have sL := ls_small hb e.toNat la.toNat
  have sC := codes_small hb
  have lL : (lsN ns e.toNat la.toNat).length = ns.length := by simp [lsN]
  have hel' : e.toNat < la.toNat := by omega
  have hln' : la.toNat < ns.length := by omega
  have okE := (cd_nat (nth_ok hb (i := e.toNat) (by omega)))
  have okF := (cd_nat (nth_ok hb (i := la.toNat) (by omega)))
  have bE := mir_lin.bd _ okE.2
  have bF := mir_lin.bd _ okF.2
  rw [eL] at q10 q13
  rw [eC] at q11 q14
  rw [← List.map_reverse] at q10 q11
  have tE : mirR (codeOf (plOf (ns.getD e.toNat 0)) (shOf (ns.getD e.toNat 0)) (vaOf (ns.getD e.toNat 0))) = (mir (cN (ns.getD e.toNat 0)) : Int) := by
    have := okE.1
    unfold cd at this
    rw [this, mirR_nat]
  have tF : mirR (codeOf (plOf (ns.getD la.toNat 0)) (shOf (ns.getD la.toNat 0)) (vaOf (ns.getD la.toNat 0))) = (mir (cN (ns.getD la.toNat 0)) : Int) := by
    have := okF.1
    unfold cd at this
    rw [this, mirR_nat]
  have d1 := gap_diff sL sC (n := ns.length) (m := 0) (by simp [lL]) (by simp) q13 q14 rfl
  have d2 := gap_diff (small_rev sL) (small_rev sC) (n := ns.length) (m := 0) (by simp [lL]) (by simp) q10 q11 rfl
  have a1e : ahead = ((it nDbl (32 * (la.toNat - e.toNat)) (mir (cN (ns.getD e.toNat 0))) ^^^ mir (cN (ns.getD la.toNat 0)) : Nat) : Int) := by
    rw [q12, d1, hlvN_nat, show (32 * ((ns.length : Int) - la)).toNat = 32 * (ns.length - la.toNat) by omega]
    rw [halve_all sL sC hel' hln' bE bF fun i hi => eps hb hel' hi]
  have b1e : back = ((it nDbl (32 * (la.toNat - e.toNat)) (mir (cN (ns.getD la.toNat 0))) ^^^ mir (cN (ns.getD e.toNat 0)) : Nat) : Int) := by
    rw [q9, d2, hlvN_nat, show (32 * (e + 1)).toNat = 32 * (ns.length - (ns.length - 1 - e.toNat)) by omega]
    rw [halve_all (small_rev sL) (small_rev sC) (e := ns.length - 1 - la.toNat) (la := ns.length - 1 - e.toNat) (by omega) (by omega) bF bE fun i hi => eps_rev hb hel' hln' hi]
    rw [show ns.length - 1 - e.toNat - (ns.length - 1 - la.toNat) = la.toNat - e.toNat by omega]
  have yE := y_nat q8 hd
  have cE := cure_is q7 q8 hd q6' q6 q5
  rw [show (la - e).toNat = la.toNat - e.toNat by omega] at yE cE
  rw [tE, tF]
  have hd' : 1 ≤ la.toNat - e.toNat ∧ la.toNat - e.toNat ≤ 5 := by omega
  generalize la.toNat - e.toNat = d at a1e b1e yE cE hd'
  generalize mir (cN (ns.getD e.toNat 0)) = E at a1e b1e bE
  generalize mir (cN (ns.getD la.toNat 0)) = F at a1e b1e bF
  have bA : it nDbl (32 * d) E ^^^ F < 2 ^ 32 := Nat.xor_lt_two_pow ((dbl_lin.iter _).bd E bE) bF
  have bB : it nDbl (32 * d) F ^^^ E < 2 ^ 32 := Nat.xor_lt_two_pow ((dbl_lin.iter _).bd F bF) bE
  have fin : ∀ {A B : Nat} {x1 x2 x3 x4 : Int}, A < 2 ^ 32 → B < 2 ^ 32 → x1 = (A : Int) → x2 = (B : Int) → x3 = mulF x1 y 32 → x4 = mulF (Builtin.bitXor x3 x2) cure 32 → x4 = ((nMul (nMul A (yOf d) 32 ^^^ B) (cureOf d) 32 : Nat) : Int) := by
    intro A B x1 x2 x3 x4 hA hB e1 e2 e3 e4
    have h3 : x3 = (nMul A (yOf d) 32 : Int) := by rw [e3, e1, yE]; exact mulF_nat hA 32 (Nat.le_refl _)
    rw [e4, h3, e2, bitXor_nat, cE]
    exact mulF_nat (Nat.xor_lt_two_pow ((mul_lin _ 32).bd A hA) hB) 32 (Nat.le_refl _)
  constructor
  · rw [fin bA bB a1e b1e q4 q3, found_one hd' bE bF]
  · rw [fin bB bA b1e a1e q2 q1, found_one hd' bF bE]
end
section
/-! float tables, in small pieces -/
abbrev dv (a b : Nat) : UInt64 := Float64.ofFrac false a b
def hueB (p : Nat) : Bool := Float64.isFinite (Float64.mul (dv p 96) six64) && (Flt.toInt Float64.truncOf (Float64.mul (dv p 96) six64) == ((p / 16 : Nat) : Int)) && (Float64.sub (Float64.mul (dv p 96) six64) (Float64.ofInt ((p / 16 : Nat) : Int)) == dv (p % 16) 16)
theorem hue1 : allB hueB 96 = true := by decide +kernel
theorem hue2 : allB (fun k => hueB (96 + k)) 96 = true := by decide +kernel
theorem hue3 : allB (fun k => hueB (192 + k)) 96 = true := by decide +kernel
theorem hueAll {p : Nat} (h : p < 288) : hueB p = true := by
  rcases Nat.lt_or_ge p 96 with h1 | h1
  · exact allB_at hue1 h1
  rcases Nat.lt_or_ge p 192 with h2 | h2
  · have := allB_at hue2 (k := p - 96) (by omega)
    rwa [show 96 + (p - 96) = p by omega] at this
  · have := allB_at hue3 (k := p - 192) (by omega)
    rwa [show 192 + (p - 192) = p by omega] at this
theorem hueFacts {p : Nat} (h : p < 288) : Float64.isFinite (Float64.mul (dv p 96) six64) = true ∧ Flt.toInt Float64.truncOf (Float64.mul (dv p 96) six64) = ((p / 16 : Nat) : Int) ∧ Float64.sub (Float64.mul (dv p 96) six64) (Float64.ofInt ((p / 16 : Nat) : Int)) = dv (p % 16) 16 := by
  have := hueAll h
  unfold hueB at this
  simp only [Bool.and_eq_true, beq_iff_eq] at this
  exact ⟨this.1.1, this.1.2, this.2⟩
/-- 1 - k/16 -/
theorem flipB : allB (fun k => Float64.sub one64 (dv k 16) == dv (16 - k) 16) 17 = true := by decide +kernel
/-- share times a sixteenth, from one: (128 - q*k)/128 -/
theorem shareB : allB (fun q => allB (fun k => Float64.sub one64 (Float64.mul (dv q 8) (dv k 16)) == dv (128 - q * k) 128) 17) 9 = true := by decide +kernel
theorem shareP : allB (fun q => Float64.sub one64 (dv q 8) == dv (128 - q * 16) 128) 9 = true := by decide +kernel
/-- the value times it -/
def partB (x : UInt64) (n : Nat) : Bool := Float64.isFinite (Float64.mul (Float64.ofInt 512) x) && (Flt.toInt Float64.truncOf (Float64.mul (Float64.ofInt 512) x) == (n : Int)) && (Float64.cmpInt (Float64.mul (Float64.ofInt 512) x) (n : Int) == some .eq)
theorem valueB0 : allB (fun n => partB (Float64.mul (dv 0 4) (dv n 128)) 0) 129 = true := by decide +kernel
theorem valueB1 : allB (fun n => partB (Float64.mul (dv 1 4) (dv n 128)) n) 129 = true := by decide +kernel
theorem valueB2 : allB (fun n => partB (Float64.mul (dv 2 4) (dv n 128)) (2 * n)) 129 = true := by decide +kernel
theorem valueB3 : allB (fun n => partB (Float64.mul (dv 3 4) (dv n 128)) (3 * n)) 129 = true := by decide +kernel
theorem valueB4 : allB (fun n => partB (Float64.mul (dv 4 4) (dv n 128)) (4 * n)) 129 = true := by decide +kernel
theorem valueV : allB (fun r => partB (dv r 4) (r * 128)) 5 = true := by decide +kernel
theorem zeroB : allB (fun q => (Float64.cmp (dv q 8) 0 == some .eq) == decide (q = 0)) 9 = true := by decide +kernel
end
section
theorem partB_is {x : UInt64} {n : Nat} (h : partB x n = true) : IsPart x (n : Int) := by
  unfold partB at h
  simp only [Bool.and_eq_true, beq_iff_eq] at h
  exact ⟨h.1.1, h.1.2, by simp [h.2]⟩
theorem value_at {r n : Nat} (hr : r ≤ 4) (hn : n ≤ 128) : partB (Float64.mul (dv r 4) (dv n 128)) (r * n) = true := by
  have : r = 0 ∨ r = 1 ∨ r = 2 ∨ r = 3 ∨ r = 4 := by omega
  rcases this with rfl | rfl | rfl | rfl | rfl
  · rw [Nat.zero_mul]; have h := allB_at valueB0 (k := n) (show n < 129 by omega); exact h
  · rw [Nat.one_mul]; have h := allB_at valueB1 (k := n) (show n < 129 by omega); exact h
  · have h := allB_at valueB2 (k := n) (show n < 129 by omega); exact h
  · have h := allB_at valueB3 (k := n) (show n < 129 by omega); exact h
  · have h := allB_at valueB4 (k := n) (show n < 129 by omega); exact h
theorem share_at {q k : Nat} (hq : q ≤ 8) (hk : k ≤ 16) : Float64.sub one64 (Float64.mul (dv q 8) (dv k 16)) = dv (128 - q * k) 128 := by
  have h1 := allB_at shareB (k := q) (show q < 9 by omega)
  have h2 := allB_at h1 (k := k) (show k < 17 by omega)
  simpa using h2
theorem share_p {q : Nat} (hq : q ≤ 8) : Float64.sub one64 (dv q 8) = dv (128 - q * 16) 128 := by
  have := allB_at shareP (k := q) (by omega)
  simpa using this
theorem flip_at {k : Nat} (hk : k ≤ 16) : Float64.sub one64 (dv k 16) = dv (16 - k) 16 := by
  have := allB_at flipB (k := k) (by omega)
  simpa using this
theorem value_v {r : Nat} (hr : r ≤ 4) : partB (dv r 4) (r * 128) = true := allB_at valueV (k := r) (by omega)
theorem zero_at {q : Nat} (hq : q ≤ 8) : (Float64.cmp (dv q 8) 0 == some .eq) = decide (q = 0) := by
  have := allB_at zeroB (k := q) (by omega)
  simpa using this
def tab0 (j k : Nat) : Nat := match j with | 0 => 0 | 1 => k | 2 => 16 | 3 => 16 | 4 => 16 - k | _ => 0
def tab1 (j k : Nat) : Nat := match j with | 0 => 16 - k | 1 => 0 | 2 => 0 | 3 => k | 4 => 16 | _ => 16
def tab2 (j k : Nat) : Nat := match j with | 0 => 16 | 1 => 16 | 2 => 16 - k | 3 => 0 | 4 => 0 | _ => k
theorem fallB : allB (fun p => fallOf (p : Int) 0 == ((tab0 (p / 16 % 6) (p % 16) : Nat) : Int) && fallOf (p : Int) 32 == ((tab1 (p / 16 % 6) (p % 16) : Nat) : Int) && fallOf (p : Int) 64 == ((tab2 (p / 16 % 6) (p % 16) : Nat) : Int)) 288 = true := by decide +kernel
theorem fall_at {p : Nat} (h : p < 288) : fallOf (p : Int) 0 = ((tab0 (p / 16 % 6) (p % 16) : Nat) : Int) ∧ fallOf (p : Int) 32 = ((tab1 (p / 16 % 6) (p % 16) : Nat) : Int) ∧ fallOf (p : Int) 64 = ((tab2 (p / 16 % 6) (p % 16) : Nat) : Int) := by
  have := allB_at fallB h
  simp only [Bool.and_eq_true, beq_iff_eq] at this
  exact ⟨this.1.1, this.1.2, this.2⟩
theorem part_nat {p q r t : Nat} {c : Int} (hq : q ≤ 8) (ht : t ≤ 16) (hf : fallOf (p : Int) c = (t : Int)) : partOf (p : Int) (q : Int) (r : Int) c = ((r * (128 - q * t) : Nat) : Int) := by
  unfold partOf
  rw [hf]
  have : q * t ≤ 128 := by
    have := Nat.mul_le_mul hq ht
    omega
  have e : (128 : Int) - (q : Int) * (t : Int) = ((128 - q * t : Nat) : Int) := by
    rw [← Int.natCast_mul]; omega
  rw [e, ← Int.natCast_mul]
/-- the three parts -/
theorem parts_nat {p q r : Nat} (hp : p < 288) (hq : q ≤ 8) (hr : r ≤ 4) :
    IsPart (hsvF (Float64.mul (dv p 96) six64) (dv q 8) (dv r 4) ((p / 16 : Nat) : Int)).1 (partOf p q r 0) ∧ IsPart (hsvF (Float64.mul (dv p 96) six64) (dv q 8) (dv r 4) ((p / 16 : Nat) : Int)).2.1 (partOf p q r 32) ∧ IsPart (hsvF (Float64.mul (dv p 96) six64) (dv q 8) (dv r 4) ((p / 16 : Nat) : Int)).2.2 (partOf p q r 64) := by
  obtain ⟨f0, f1, f2⟩ := fall_at hp
  obtain ⟨_, _, hf⟩ := hueFacts hp
  generalize hk : p % 16 = k at *
  generalize hj : p / 16 % 6 = j at *
  have hk16 : k < 16 := by omega
  have hj6 : j < 6 := by omega
  have t0 : tab0 j k ≤ 16 := by unfold tab0; split <;> omega
  have t1 : tab1 j k ≤ 16 := by unfold tab1; split <;> omega
  have t2 : tab2 j k ≤ 16 := by unfold tab2; split <;> omega
  rw [part_nat hq t0 f0, part_nat hq t1 f1, part_nat hq t2 f2]
  have v0 : IsPart (dv r 4) ((r * 128 : Nat) : Int) := partB_is (value_v hr)
  have gen : ∀ t, t ≤ 16 → IsPart (Float64.mul (dv r 4) (dv (128 - q * t) 128)) ((r * (128 - q * t) : Nat) : Int) := fun t _ => partB_is (value_at hr (by omega))
  by_cases hq0 : q = 0
  · subst hq0
    rw [hsv_e0 (by rw [zero_at (by omega)]; rfl)]
    simp only [Nat.zero_mul, Nat.sub_zero]
    exact ⟨v0, v0, v0⟩
  · have hz : (Float64.cmp (dv q 8) 0 == some .eq) = false := by rw [zero_at hq]; simpa using hq0
    have eP : hsvP (dv q 8) (dv r 4) = Float64.mul (dv r 4) (dv (128 - q * 16) 128) := by unfold hsvP; rw [share_p hq]
    have eQ : hsvQ (Float64.mul (dv p 96) six64) (dv q 8) (dv r 4) ((p / 16 : Nat) : Int) = Float64.mul (dv r 4) (dv (128 - q * k) 128) := by unfold hsvQ; rw [hf, share_at hq (by omega)]
    have eT : hsvT (Float64.mul (dv p 96) six64) (dv q 8) (dv r 4) ((p / 16 : Nat) : Int) = Float64.mul (dv r 4) (dv (128 - q * (16 - k)) 128) := by unfold hsvT; rw [hf, flip_at (by omega), share_at hq (by omega)]
    have v1 : IsPart (dv r 4) ((r * (128 - q * 0) : Nat) : Int) := by simpa using v0
    have im : ((p / 16 : Nat) : Int).fmod 6 = (j : Int) := by rw [Int.fmod_eq_emod_of_nonneg _ (by decide)]; omega
    have : j = 0 ∨ j = 1 ∨ j = 2 ∨ j = 3 ∨ j = 4 ∨ j = 5 := by omega
    rcases this with rfl | rfl | rfl | rfl | rfl | rfl
    · rw [hsv_e1 hz im, eP, eT]; exact ⟨v1, gen (16 - k) (by omega), gen 16 (by omega)⟩
    · rw [hsv_e2 hz im, eP, eQ]; exact ⟨gen k (by omega), v1, gen 16 (by omega)⟩
    · rw [hsv_e3 hz im, eP, eT]; exact ⟨gen 16 (by omega), v1, gen (16 - k) (by omega)⟩
    · rw [hsv_e4 hz im, eP, eQ]; exact ⟨gen 16 (by omega), gen k (by omega), v1⟩
    · rw [hsv_e5 hz im, eP, eT]; exact ⟨gen (16 - k) (by omega), gen 16 (by omega), v1⟩
    · rw [hsv_e6 hz im, eP, eQ]; exact ⟨v1, gen 16 (by omega), gen k (by omega)⟩
/-! back again: the floats of 512ths -/
def valB (a : Nat) : Bool := Float64.isFinite (dv a 512) && (Float64.val (dv a 512) == ((a * 2 ^ 1065 : Nat) : Int))
theorem val1 : allB valB 257 = true := by decide +kernel
theorem val2 : allB (fun k => valB (257 + k)) 256 = true := by decide +kernel
theorem val_at {a : Nat} (h : a ≤ 512) : Float64.isFinite (dv a 512) = true ∧ Float64.val (dv a 512) = ((a * 2 ^ 1065 : Nat) : Int) := by
  have : valB a = true := by
    rcases Nat.lt_or_ge a 257 with h1 | h1
    · exact allB_at val1 h1
    · have := allB_at val2 (k := a - 257) (by omega)
      rwa [show 257 + (a - 257) = a by omega] at this
  unfold valB at this
  simp only [Bool.and_eq_true, beq_iff_eq] at this
  exact this
theorem fin_dec {x : UInt64} (h : Float64.isFinite x = true) : ∃ a m e, Float64.decode x = .fin a m e := by
  rcases Flt.three x with ⟨hd, c⟩ | ⟨_, hd, c⟩ | ⟨sg, m, e, hd, c⟩
  · rw [Flt.not_finite_of_nan c] at h; cases h
  · rw [Flt.not_finite_of_inf c] at h; cases h
  · exact ⟨sg, m, e, hd⟩
theorem cmp_at {a b : Nat} (ha : a ≤ 512) (hb : b ≤ 512) : Float64.cmp (dv a 512) (dv b 512) = some (compare a b) := by
  obtain ⟨fa, va⟩ := val_at ha
  obtain ⟨fb, vb⟩ := val_at hb
  obtain ⟨_, _, _, da⟩ := fin_dec fa
  obtain ⟨_, _, _, db⟩ := fin_dec fb
  rw [Float64.cmp_right da db, va, vb]
  congr 1
  have hp : 0 < 2 ^ 1065 := Nat.two_pow_pos _
  rcases Nat.lt_trichotomy a b with h | h | h
  · have h' : a * 2 ^ 1065 < b * 2 ^ 1065 := Nat.mul_lt_mul_of_pos_right h hp
    generalize (2 : Nat) ^ 1065 = C at *
    rw [Int.compare_eq_lt.mpr (by omega), Nat.compare_eq_lt.mpr h]
  · subst h
    rw [Int.compare_eq_eq.mpr rfl, Nat.compare_eq_eq.mpr rfl]
  · have h' : b * 2 ^ 1065 < a * 2 ^ 1065 := Nat.mul_lt_mul_of_pos_right h hp
    generalize (2 : Nat) ^ 1065 = C at *
    rw [Int.compare_eq_gt.mpr (by omega), Nat.compare_eq_gt.mpr h]
theorem lt_at {a b : Nat} (ha : a ≤ 512) (hb : b ≤ 512) : (Float64.cmp (dv a 512) (dv b 512) == some .lt) = decide (a < b) := by
  rw [cmp_at ha hb]
  rcases Nat.lt_trichotomy a b with h | h | h
  · rw [Nat.compare_eq_lt.mpr h]; simp [h]
  · subst h; rw [Nat.compare_eq_eq.mpr rfl]; simp
  · rw [Nat.compare_eq_gt.mpr h]; simp [show ¬ a < b by omega]
theorem eq_at {a b : Nat} (ha : a ≤ 512) (hb : b ≤ 512) : (Float64.cmp (dv a 512) (dv b 512) == some .eq) = decide (a = b) := by
  rw [cmp_at ha hb]
  rcases Nat.lt_trichotomy a b with h | h | h
  · rw [Nat.compare_eq_lt.mpr h]; simp [show ¬ a = b by omega]
  · subst h; rw [Nat.compare_eq_eq.mpr rfl]; simp
  · rw [Nat.compare_eq_gt.mpr h]; simp [show ¬ a = b by omega]
theorem max_at {a b c : Nat} (ha : a ≤ 512) (hb : b ≤ 512) (hc : c ≤ 512) : fmax3 (dv a 512) (dv b 512) (dv c 512) = dv (max (max a b) c) 512 := by
  unfold fmax3
  rw [lt_at ha hb, lt_at hb hc, lt_at ha hc]
  simp only [decide_eq_true_eq]
  split <;> split <;> congr 1 <;> omega
theorem min_at {a b c : Nat} (ha : a ≤ 512) (hb : b ≤ 512) (hc : c ≤ 512) : fmin3 (dv a 512) (dv b 512) (dv c 512) = dv (min (min a b) c) 512 := by
  unfold fmin3
  rw [lt_at hb ha, lt_at hc hb, lt_at hc ha]
  simp only [decide_eq_true_eq]
  split <;> split <;> congr 1 <;> omega
end
section
theorem sub512B : allB (fun r => allB (fun n => Float64.sub (dv (128 * r) 512) (dv (r * n) 512) == dv (r * (128 - n)) 512) 129) 5 = true := by decide +kernel
theorem sub_at {r n : Nat} (hr : r ≤ 4) (hn : n ≤ 128) : Float64.sub (dv (128 * r) 512) (dv (r * n) 512) = dv (r * (128 - n)) 512 := by
  have h1 := allB_at sub512B (k := r) (show r < 5 by omega)
  have h2 := allB_at h1 (k := n) (show n < 129 by omega)
  simpa using h2
/-- the share of a distance: j*k/512 over j*16/512 -/
theorem ratioB : allB (fun j => allB (fun k => Float64.div (dv ((j + 1) * k) 512) (dv ((j + 1) * 16) 512) == dv k 16) 17) 32 = true := by decide +kernel
theorem ratio_at {j k : Nat} (hj : 1 ≤ j ∧ j ≤ 32) (hk : k ≤ 16) : Float64.div (dv (j * k) 512) (dv (j * 16) 512) = dv k 16 := by
  have h1 := allB_at ratioB (k := j - 1) (show j - 1 < 32 by omega)
  have h2 := allB_at h1 (k := k) (show k < 17 by omega)
  rw [show j - 1 + 1 = j by omega] at h2
  simpa using h2
theorem satB : allB (fun r => allB (fun q => Float64.div (dv ((r + 1) * (q + 1) * 16) 512) (dv (128 * (r + 1)) 512) == dv (q + 1) 8) 8) 4 = true := by decide +kernel
theorem sat_at {q r : Nat} (hq : 1 ≤ q ∧ q ≤ 8) (hr : 1 ≤ r ∧ r ≤ 4) : Float64.div (dv (r * q * 16) 512) (dv (128 * r) 512) = dv q 8 := by
  have h1 := allB_at satB (k := r - 1) (show r - 1 < 4 by omega)
  have h2 := allB_at h1 (k := q - 1) (show q - 1 < 8 by omega)
  rw [show r - 1 + 1 = r by omega, show q - 1 + 1 = q by omega] at h2
  simpa using h2
theorem valB4 : allB (fun r => dv (128 * r) 512 == dv r 4) 5 = true := by decide +kernel
theorem val4_at {r : Nat} (hr : r ≤ 4) : dv (128 * r) 512 = dv r 4 := by
  have h1 := allB_at valB4 (k := r) (show r < 5 by omega)
  simpa using h1
/-- the hue from the two falls, in the three cases -/
def hueR (a b : Nat) : UInt64 := finH (Float64.sub (dv b 16) (dv a 16))
def hueG (a b : Nat) : UInt64 := finH (Float64.sub (Float64.add 4611686018427387904 (dv a 16)) (dv b 16))
def hueBl (a b : Nat) : UInt64 := finH (Float64.sub (Float64.add 4616189618054758400 (dv a 16)) (dv b 16))
/-- falls (red, green, blue) by the place below 96 -/
def backB (m : Nat) : Bool :=
  let f0 := tab0 (m / 16) (m % 16)
  let f1 := tab1 (m / 16) (m % 16)
  let f2 := tab2 (m / 16) (m % 16)
  (Float64.cmp (bif f0 == 0 then hueR f1 f2 else bif f1 == 0 then hueG f0 f2 else hueBl f1 f0) (dv m 96) == some .eq)
theorem backAll : allB backB 96 = true := by decide +kernel
theorem selfB : allB (fun q => Float64.cmp (dv q 8) (dv q 8) == some .eq) 9 = true := by decide +kernel
theorem selfV : allB (fun r => Float64.cmp (dv r 4) (dv r 4) == some .eq) 5 = true := by decide +kernel
theorem zero0 : (Float64.cmp 0 (dv 0 96) == some .eq) = true ∧ (Float64.cmp 0 (dv 0 8) == some .eq) = true := by decide +kernel
theorem isz1 : allB (fun a => Float64.isZero (dv (a + 1) 512) == false) 512 = true := by decide +kernel
theorem isz_at {a : Nat} (h : 1 ≤ a ∧ a ≤ 512) : Float64.isZero (dv a 512) = false := by
  have h1 := allB_at isz1 (k := a - 1) (show a - 1 < 512 by omega)
  rw [show a - 1 + 1 = a by omega] at h1
  simpa using h1
end
section
def pN (q r f : Nat) : Nat := r * (128 - q * f)
theorem pN_le {q r f : Nat} (hr : r ≤ 4) : pN q r f ≤ 128 * r ∧ pN q r f ≤ 512 := by
  have h : pN q r f ≤ r * 128 := Nat.mul_le_mul_left r (Nat.sub_le _ _)
  omega
theorem pN_zero (q r : Nat) : pN q r 0 = 128 * r := by unfold pN; simp [Nat.mul_comm]
theorem pN_mono {q r f : Nat} (hf : f ≤ 16) : pN q r 16 ≤ pN q r f := by
  have h : q * f ≤ q * 16 := Nat.mul_le_mul_left q hf
  exact Nat.mul_le_mul_left r (by omega)
theorem pN_top {q r f : Nat} (hq : 1 ≤ q ∧ q ≤ 8) (hr : 1 ≤ r) (hf : f ≤ 16) : pN q r f = 128 * r ↔ f = 0 := by
  constructor
  · intro h
    have h1 : q * f ≤ 8 * 16 := Nat.mul_le_mul hq.2 hf
    rcases Nat.eq_zero_or_pos f with h0 | h0
    · exact h0
    · have h2 : 1 ≤ q * f := Nat.mul_pos hq.1 h0
      have h3 : pN q r f < r * 128 := Nat.mul_lt_mul_of_pos_left (by omega) hr
      omega
  · intro h; subst h; exact pN_zero q r
theorem sub_pN {q r f : Nat} (hq : q ≤ 8) (hr : r ≤ 4) (hf : f ≤ 16) : Float64.sub (dv (128 * r) 512) (dv (pN q r f) 512) = dv (r * q * f) 512 := by
  have h1 : q * f ≤ 8 * 16 := Nat.mul_le_mul hq hf
  unfold pN
  rw [sub_at hr (by omega), show 128 - (128 - q * f) = q * f by omega, Nat.mul_assoc]
theorem rgb_nat {q r f0 f1 f2 m : Nat} (hq : 1 ≤ q ∧ q ≤ 8) (hr : 1 ≤ r ∧ r ≤ 4) (h0 : f0 ≤ 16) (h1 : f1 ≤ 16) (h2 : f2 ≤ 16) (hz : f0 = 0 ∨ f1 = 0 ∨ f2 = 0) (ht : f0 = 16 ∨ f1 = 16 ∨ f2 = 16)
    (hback : (Float64.cmp (bif f0 == 0 then hueR f1 f2 else bif f1 == 0 then hueG f0 f2 else hueBl f1 f0) (dv m 96) == some .eq) = true) :
    RgbOk (dv (pN q r f0) 512) (dv (pN q r f1) 512) (dv (pN q r f2) 512) (dv m 96) (dv q 8) (dv r 4) := by
  have b0 := pN_le (q := q) (f := f0) hr.2
  have b1 := pN_le (q := q) (f := f1) hr.2
  have b2 := pN_le (q := q) (f := f2) hr.2
  have m0 := pN_mono (q := q) (r := r) h0
  have m1 := pN_mono (q := q) (r := r) h1
  have m2 := pN_mono (q := q) (r := r) h2
  have bl := pN_le (q := q) (f := 16) hr.2
  have hM : fmax3 (dv (pN q r f0) 512) (dv (pN q r f1) 512) (dv (pN q r f2) 512) = dv (128 * r) 512 := by
    rw [max_at b0.2 b1.2 b2.2]
    congr 1
    rcases hz with h | h | h <;> subst h <;> rw [pN_zero] at * <;> omega
  have hl : fmin3 (dv (pN q r f0) 512) (dv (pN q r f1) 512) (dv (pN q r f2) 512) = dv (pN q r 16) 512 := by
    rw [min_at b0.2 b1.2 b2.2]
    congr 1
    rcases ht with h | h | h <;> subst h <;> omega
  have hj : 1 ≤ r * q ∧ r * q ≤ 32 := ⟨Nat.mul_pos hr.1 hq.1, by have := Nat.mul_le_mul hr.2 hq.2; omega⟩
  have e0 := sub_pN hq.2 hr.2 h0
  have e1 := sub_pN hq.2 hr.2 h1
  have e2 := sub_pN hq.2 hr.2 h2
  have el := sub_pN hq.2 hr.2 (f := 16) (by omega)
  have hM512 : 128 * r ≤ 512 := by omega
  have hlM : (Float64.cmp (dv (pN q r 16) 512) (dv (128 * r) 512) == some .eq) = false := by
    rw [eq_at bl.2 hM512]
    simp only [decide_eq_false_iff_not]
    intro h
    have := (pN_top hq hr.1 (Nat.le_refl 16)).mp h
    omega
  have t0 : (Float64.cmp (dv (pN q r f0) 512) (dv (128 * r) 512) == some .eq) = decide (f0 = 0) := by
    rw [eq_at b0.2 hM512]; exact decide_eq_decide.mpr (pN_top hq hr.1 h0)
  have t1 : (Float64.cmp (dv (pN q r f1) 512) (dv (128 * r) 512) == some .eq) = decide (f1 = 0) := by
    rw [eq_at b1.2 hM512]; exact decide_eq_decide.mpr (pN_top hq hr.1 h1)
  have sv : (Float64.cmp (dv r 4) (dv r 4) == some .eq) = true := by have h := allB_at selfV (k := r) (show r < 5 by omega); exact h
  have sq : (Float64.cmp (dv q 8) (dv q 8) == some .eq) = true := by have h := allB_at selfB (k := q) (show q < 9 by omega); exact h
  have key : rgbF (dv (pN q r f0) 512) (dv (pN q r f1) 512) (dv (pN q r f2) 512) (dv (128 * r) 512) (dv (pN q r 16) 512) = ((bif f0 == 0 then hueR f1 f2 else bif f1 == 0 then hueG f0 f2 else hueBl f1 f0), dv q 8, dv (128 * r) 512) := by
    by_cases c0 : f0 = 0
    · rw [rgb_e1 hlM (by rw [t0]; simpa using c0), e1, e2, el, ratio_at hj h1, ratio_at hj h2, sat_at hq hr]
      simp only [c0, beq_self_eq_true, cond_true]; rfl
    · by_cases c1 : f1 = 0
      · rw [rgb_e2 hlM (by rw [t0]; simpa using c0) (by rw [t1]; simpa using c1), e0, e2, el, ratio_at hj h0, ratio_at hj h2, sat_at hq hr]
        rw [show (f0 == 0) = false by simpa using c0]
        simp only [c1, beq_self_eq_true, cond_true, cond_false]; rfl
      · rw [rgb_e3 hlM (by rw [t0]; simpa using c0) (by rw [t1]; simpa using c1), e0, e1, el, ratio_at hj h0, ratio_at hj h1, sat_at hq hr]
        rw [show (f0 == 0) = false by simpa using c0, show (f1 == 0) = false by simpa using c1]
        rfl
  refine ⟨?_, ?_, ?_, ?_⟩
  · rw [hM, hl]
    refine ⟨fun _ => isz_at (by omega), fun _ => ?_⟩
    rw [el]; exact isz_at (by omega)
  · rw [hM, hl, key]; exact hback
  · rw [hM, hl, key]; exact sq
  · rw [hM, hl, key, val4_at hr.2]; exact sv
theorem grey_nat {r n : Nat} (hr : r ≤ 4) (hn : n = 128 * r) : RgbOk (dv n 512) (dv n 512) (dv n 512) (dv 0 96) (dv 0 8) (dv r 4) := by
  have h5 : n ≤ 512 := by omega
  have hM : fmax3 (dv n 512) (dv n 512) (dv n 512) = dv n 512 := by rw [max_at h5 h5 h5]; congr 1; omega
  have hl : fmin3 (dv n 512) (dv n 512) (dv n 512) = dv n 512 := by rw [min_at h5 h5 h5]; congr 1; omega
  have he : (Float64.cmp (dv n 512) (dv n 512) == some .eq) = true := by rw [eq_at h5 h5]; simp
  have sv : (Float64.cmp (dv r 4) (dv r 4) == some .eq) = true := by have h := allB_at selfV (k := r) (show r < 5 by omega); exact h
  refine ⟨?_, ?_, ?_, ?_⟩
  · rw [hM, hl]; exact ⟨fun h => absurd he (by rw [h]; decide), fun h => absurd he (by rw [h]; decide)⟩
  · rw [hM, hl, rgb_e0 he]; exact zero0.1
  · rw [hM, hl, rgb_e0 he]; exact zero0.2
  · rw [hM, hl, rgb_e0 he]
    show (Float64.cmp (dv n 512) (dv r 4) == some .eq) = true
    rw [hn, val4_at hr]; exact sv
theorem tabAll : allB (fun j => allB (fun k => decide (tab0 j k ≤ 16 ∧ tab1 j k ≤ 16 ∧ tab2 j k ≤ 16 ∧ (tab0 j k = 0 ∨ tab1 j k = 0 ∨ tab2 j k = 0) ∧ (tab0 j k = 16 ∨ tab1 j k = 16 ∨ tab2 j k = 16))) 16) 6 = true := by decide +kernel
theorem tab_facts {j k : Nat} (hj : j < 6) (hk : k < 16) : tab0 j k ≤ 16 ∧ tab1 j k ≤ 16 ∧ tab2 j k ≤ 16 ∧ (tab0 j k = 0 ∨ tab1 j k = 0 ∨ tab2 j k = 0) ∧ (tab0 j k = 16 ∨ tab1 j k = 16 ∨ tab2 j k = 16) := by
  have h1 := allB_at tabAll hj
  have h2 := allB_at h1 hk
  exact of_decide_eq_true h2
theorem rgb_all {p q r : Nat} (_hp : p < 288) (hq : q ≤ 8) (hr : r ≤ 4) (hqr : q * r ≠ 0) :
    RgbOk (dv (pN q r (tab0 (p / 16 % 6) (p % 16))) 512) (dv (pN q r (tab1 (p / 16 % 6) (p % 16))) 512) (dv (pN q r (tab2 (p / 16 % 6) (p % 16))) 512) (dv (p % 96) 96) (dv q 8) (dv r 4) := by
  have hq1 : 1 ≤ q := by rcases Nat.eq_zero_or_pos q with h | h; · subst h; simp at hqr
                         · exact h
  have hr1 : 1 ≤ r := by rcases Nat.eq_zero_or_pos r with h | h; · subst h; simp at hqr
                         · exact h
  obtain ⟨a, b, c, d, e⟩ := tab_facts (j := p / 16 % 6) (k := p % 16) (by omega) (by omega)
  refine rgb_nat ⟨hq1, hq⟩ ⟨hr1, hr⟩ a b c d e ?_
  have h := allB_at backAll (k := p % 96) (by omega)
  unfold backB at h
  rw [show p % 96 / 16 = p / 16 % 6 by omega, show p % 96 % 16 = p % 16 by omega] at h
  exact h
theorem grey_all {q r f0 f1 f2 : Nat} (hr : r ≤ 4) (hqr : q * r = 0) : RgbOk (dv (pN q r f0) 512) (dv (pN q r f1) 512) (dv (pN q r f2) 512) (dv 0 96) (dv 0 8) (dv r 4) := by
  have h : ∀ f, pN q r f = 128 * r := by
    intro f
    rcases Nat.mul_eq_zero.mp hqr with h | h
    · subst h; unfold pN; simp [Nat.mul_comm]
    · subst h; unfold pN; simp
  rw [h f0, h f1, h f2]
  exact grey_nat hr rfl
/-! the ints of the walk -/
theorem code_split {a b c : Nat} (_ha : a ≤ 512) (hb : b ≤ 512) (hc : c ≤ 512) {x : Int} (h : x = ((a : Int) * 1024 + b) * 1024 + c) : x.fdiv 1048576 = (a : Int) ∧ (x.fdiv 1024).fmod 1024 = (b : Int) ∧ x.fmod 1024 = (c : Int) := by
  rw [Int.fdiv_eq_ediv_of_nonneg _ (by decide), Int.fdiv_eq_ediv_of_nonneg _ (by decide), Int.fmod_eq_emod_of_nonneg _ (by decide), Int.fmod_eq_emod_of_nonneg _ (by decide)]
  omega
theorem code_parts {p q r : Nat} (hp : p < 288) (hq : q ≤ 8) (hr : r ≤ 4) : (codeOf p q r).fdiv 1048576 = (pN q r (tab0 (p / 16 % 6) (p % 16)) : Int) ∧ ((codeOf p q r).fdiv 1024).fmod 1024 = (pN q r (tab1 (p / 16 % 6) (p % 16)) : Int) ∧ (codeOf p q r).fmod 1024 = (pN q r (tab2 (p / 16 % 6) (p % 16)) : Int) := by
  obtain ⟨f0, f1, f2⟩ := fall_at hp
  obtain ⟨a, b, c, _, _⟩ := tab_facts (j := p / 16 % 6) (k := p % 16) (by omega) (by omega)
  refine code_split (pN_le hr).2 (pN_le hr).2 (pN_le hr).2 ?_
  unfold codeOf
  rw [part_nat hq a f0, part_nat hq b f1, part_nat hq c f2]
  rfl
end
section
theorem hue_ok (p : Int) (h : 0 ≤ p ∧ p < 288) : Float64.isFinite (Float64.mul (fr p 96) six64) = true ∧ Flt.toInt Float64.truncOf (Float64.mul (fr p 96) six64) = p / 16 := by
  obtain ⟨n, rfl⟩ : ∃ n : Nat, p = (n : Int) := ⟨p.toNat, by omega⟩
  obtain ⟨h1, h2, _⟩ := hueFacts (p := n) (by omega)
  exact ⟨h1, h2⟩
theorem parts_ok (p q r : Int) (hp : 0 ≤ p ∧ p < 288) (hq : 0 ≤ q ∧ q ≤ 8) (hr : 0 ≤ r ∧ r ≤ 4) :
    IsPart (hsvF (Float64.mul (fr p 96) six64) (fr q 8) (fr r 4) (p / 16)).1 (partOf p q r 0) ∧ IsPart (hsvF (Float64.mul (fr p 96) six64) (fr q 8) (fr r 4) (p / 16)).2.1 (partOf p q r 32) ∧ IsPart (hsvF (Float64.mul (fr p 96) six64) (fr q 8) (fr r 4) (p / 16)).2.2 (partOf p q r 64) := by
  obtain ⟨a, rfl⟩ : ∃ n : Nat, p = (n : Int) := ⟨p.toNat, by omega⟩
  obtain ⟨b, rfl⟩ : ∃ n : Nat, q = (n : Int) := ⟨q.toNat, by omega⟩
  obtain ⟨c, rfl⟩ : ∃ n : Nat, r = (n : Int) := ⟨r.toNat, by omega⟩
  exact parts_nat (p := a) (q := b) (r := c) (by omega) (by omega) (by omega)
theorem rgb_ok (p q r : Int) (hp : 0 ≤ p ∧ p < 288) (hq : 0 ≤ q ∧ q ≤ 8) (hr : 0 ≤ r ∧ r ≤ 4) (hqr : q * r ≠ 0) :
    RgbOk (fr ((codeOf p q r).fdiv 1048576) 512) (fr (((codeOf p q r).fdiv 1024).fmod 1024) 512) (fr ((codeOf p q r).fmod 1024) 512) (fr (p.fmod 96) 96) (fr q 8) (fr r 4) := by
  obtain ⟨a, rfl⟩ : ∃ n : Nat, p = (n : Int) := ⟨p.toNat, by omega⟩
  obtain ⟨b, rfl⟩ : ∃ n : Nat, q = (n : Int) := ⟨q.toNat, by omega⟩
  obtain ⟨c, rfl⟩ : ∃ n : Nat, r = (n : Int) := ⟨r.toNat, by omega⟩
  obtain ⟨e0, e1, e2⟩ := code_parts (p := a) (q := b) (r := c) (by omega) (by omega) (by omega)
  have e3 : ((a : Int)).fmod 96 = ((a % 96 : Nat) : Int) := by rw [Int.fmod_eq_emod_of_nonneg _ (by decide)]; omega
  rw [e0, e1, e2, e3]
  exact rgb_all (p := a) (q := b) (r := c) (by omega) (by omega) (by omega) (fun h => hqr (by rw [← Int.natCast_mul, h]; rfl))
theorem rgb_ok0 (p q r : Int) (hp : 0 ≤ p ∧ p < 288) (hq : 0 ≤ q ∧ q ≤ 8) (hr : 0 ≤ r ∧ r ≤ 4) (hqr : q * r = 0) :
    RgbOk (fr ((codeOf p q r).fdiv 1048576) 512) (fr (((codeOf p q r).fdiv 1024).fmod 1024) 512) (fr ((codeOf p q r).fmod 1024) 512) (fr ((0 : Int).fmod 96) 96) (fr 0 8) (fr r 4) := by
  obtain ⟨a, rfl⟩ : ∃ n : Nat, p = (n : Int) := ⟨p.toNat, by omega⟩
  obtain ⟨b, rfl⟩ : ∃ n : Nat, q = (n : Int) := ⟨q.toNat, by omega⟩
  obtain ⟨c, rfl⟩ : ∃ n : Nat, r = (n : Int) := ⟨r.toNat, by omega⟩
  obtain ⟨e0, e1, e2⟩ := code_parts (p := a) (q := b) (r := c) (by omega) (by omega) (by omega)
  rw [e0, e1, e2]
  exact grey_all (q := b) (r := c) (by omega) (by rw [← Int.natCast_mul] at hqr; exact Int.ofNat_eq_zero.mp hqr)
structure LastFacts (c p q r : Int) : Prop where
  a0 : 0 ≤ c.fdiv 1048576 ∧ c.fdiv 1048576 < 1000
  b0 : 0 ≤ (c.fdiv 1024).fmod 1024 ∧ (c.fdiv 1024).fmod 1024 < 1000
  c0 : 0 ≤ c.fmod 1024 ∧ c.fmod 1024 < 1000
  p0 : 0 ≤ p.fmod 96 ∧ p.fmod 96 < 1000
  q0 : 0 ≤ q ∧ q < 1000
  r0 : 0 ≤ r ∧ r < 1000
  yes : q * r ≠ 0 → RgbOk (fr (c.fdiv 1048576) 512) (fr ((c.fdiv 1024).fmod 1024) 512) (fr (c.fmod 1024) 512) (fr (p.fmod 96) 96) (fr q 8) (fr r 4)
  no : q * r = 0 → RgbOk (fr (c.fdiv 1048576) 512) (fr ((c.fdiv 1024).fmod 1024) 512) (fr (c.fmod 1024) 512) (fr ((0 : Int).fmod 96) 96) (fr 0 8) (fr r 4)
theorem last_of {c p q r : Int} (hp : 0 ≤ p ∧ p < 288) (hq : 0 ≤ q ∧ q ≤ 8) (hr : 0 ≤ r ∧ r ≤ 4) (hc : c = dueF p q r 3) : LastFacts c p q r := by
  rw [due_code] at hc
  subst hc
  refine ⟨?_, ?_, ?_, ?_, by omega, by omega, rgb_ok p q r hp hq hr, rgb_ok0 p q r hp hq hr⟩
  all_goals (try (rw [Int.fmod_eq_emod_of_nonneg _ (show (0:Int) ≤ 96 by decide)]; omega))
  all_goals
    obtain ⟨a, rfl⟩ : ∃ n : Nat, p = (n : Int) := ⟨p.toNat, by omega⟩
    obtain ⟨b, rfl⟩ : ∃ n : Nat, q = (n : Int) := ⟨q.toNat, by omega⟩
    obtain ⟨c, rfl⟩ : ∃ n : Nat, r = (n : Int) := ⟨r.toNat, by omega⟩
    obtain ⟨e0, e1, e2⟩ := code_parts (p := a) (q := b) (r := c) (by omega) (by omega) (by omega)
    have b0 := (pN_le (q := b) (r := c) (f := tab0 (a / 16 % 6) (a % 16)) (by omega)).2
    have b1 := (pN_le (q := b) (r := c) (f := tab1 (a / 16 % 6) (a % 16)) (by omega)).2
    have b2 := (pN_le (q := b) (r := c) (f := tab2 (a / 16 % 6) (a % 16)) (by omega)).2
    first | rw [e0]; omega | rw [e1]; omega | rw [e2]; omega
end
section
theorem row_bd (script : List Int) : ∀ x ∈ List.map (fun k' => Int.fmod k' 12960) (List.take 4 script ++ [1000, 7100]), 0 ≤ x ∧ x < 12960 := by
  intro x hx
  obtain ⟨y, _, rfl⟩ := List.mem_map.mp hx
  exact ⟨Int.fmod_nonneg_of_pos y (by decide), Int.fmod_lt_of_pos y (by decide)⟩
theorem row_len (script : List Int) : 2 ≤ (List.map (fun k' => Int.fmod k' 12960) (List.take 4 script ++ [1000, 7100])).length ∧ (List.map (fun k' => Int.fmod k' 12960) (List.take 4 script ++ [1000, 7100])).length ≤ 6 := by
  simp; omega
structure LastMark : Prop where
  mk ::
theorem sz_ok {ns : List Int} {ys : List Value} (h : RowOk ns) (e : ys.length = ns.length) : ys.toArray.size ≤ sizeLine := by
  have := h.hi
  rw [List.size_toArray, sizeLine_eq]; omega
theorem row_ok (script : List Int) : RowOk (List.map (fun k' => Int.fmod k' 12960) (List.take 4 script ++ [1000, 7100])) := ⟨row_bd script, (row_len script).1, (row_len script).2⟩
section
variable {w : World} {mean : ExcName → Option Value} {mg mb : Str → Option Value} {f : Addr} {news : List (Addr × Obj)} {d u : Nat} {vs : List Value} {r : Int} {R : Tok → Tok → Tok → Obj}
  {dp un : Nat} {gd : Option (List Code)} {cn : Str} {cs : Scope} {a : Addr} {ccd : Value} {cl : List (Str × Addr)} {outer : List Env} {A₀ : Around} {base h₀ : Heap} {L : Addr} {m : Str → Option Value} {s : Shared} {Q E : Value → Shared → Prop}
theorem useI (c : ClI w mean mg mb f news d u vs r) (k1 : Below A₀ base outer h₀) (k2 : Fr h₀ L s.heap m) (k3 : (Mine.hd.heap_39 w.params).In h₀) (k4 : News h₀ L s.heap news) (k5 : Top Mine.hd.view_39 (looseW Mine.hd.view_39 []) mean mg mb h₀) (kK : cs.kind = .function)
    (kd : dp + d < recursionLimit) (ku : un + u < cLine) (h : ∀ (r' : Int) (t : Tok) (h' : Heap) (tk' : Nat), r' = r → Fr h₀ L h' m → News h₀ L h' news → Q (.int r' t) { s with heap := h', toks := tk' }) :
    wpAny (model PySem.Challenge.rw_mr0043_01.prog w) (ktrTop dp un gd cn cs L a ccd cl outer) (call (.ref f) vs) Q E s :=
  c dp un gd cn cs a ccd cl outer A₀ base h₀ L m s Q E k1 k2 k3 k4 k5 kK kd ku fun t h' tk' F N => h r t h' tk' rfl F N
theorem useT (c : ClT w mean mg mb f news d u vs R) (k1 : Below A₀ base outer h₀) (k2 : Fr h₀ L s.heap m) (k3 : (Mine.hd.heap_39 w.params).In h₀) (k4 : News h₀ L s.heap news) (k5 : Top Mine.hd.view_39 (looseW Mine.hd.view_39 []) mean mg mb h₀) (kK : cs.kind = .function)
    (kd : dp + d < recursionLimit) (ku : un + u < cLine) (h : ∀ (t1 t2 t3 : Tok) (b : Addr) (h' : Heap) (tk' : Nat), Fr h₀ L h' m → News h₀ L h' ((b, R t1 t2 t3) :: news) → (∀ p ∈ news, p.1 < b) → Q (.ref b) { s with heap := h', toks := tk' }) :
    wpAny (model PySem.Challenge.rw_mr0043_01.prog w) (ktrTop dp un gd cn cs L a ccd cl outer) (call (.ref f) vs) Q E s :=
  c dp un gd cn cs a ccd cl outer A₀ base h₀ L m s Q E k1 k2 k3 k4 k5 kK kd ku h
end
theorem allNe {news T : List (Addr × Obj)} {c : Addr} {o : Obj} (hT : ∀ q ∈ T, ∀ p ∈ news, p.1 < q.1) (hm : (c, o) ∈ news) : ∀ p ∈ T, p.1 ≠ c := fun p hp => Ne.symm (Nat.ne_of_lt (hT p hp _ hm))
theorem draw_mem {ns : List Int} {k : Int} (h : RowOk ns) (hk : k ∈ ns) : (0 ≤ plOf k ∧ plOf k < 288) ∧ (0 ≤ shOf k ∧ shOf k ≤ 8) ∧ (0 ≤ vaOf k ∧ vaOf k ≤ 4) := draw_bd (h.bd k hk)
structure DrawFacts (p q r : Int) : Prop where
  p0 : 0 ≤ p ∧ p < 1000
  q0 : 0 ≤ q ∧ q < 1000
  r0 : 0 ≤ r ∧ r < 1000
  q8 : 0 ≤ q ∧ q ≤ 8
  r4 : 0 ≤ r ∧ r ≤ 4
  fin : Float64.isFinite (Float64.mul (fr p 96) six64) = true
  int : Flt.toInt Float64.truncOf (Float64.mul (fr p 96) six64) = p / 16
  i0 : 0 ≤ p / 16 ∧ p / 16 < 1000
  a : IsPart (hsvF (Float64.mul (fr p 96) six64) (fr q 8) (fr r 4) (p / 16)).1 (partOf p q r 0)
  b : IsPart (hsvF (Float64.mul (fr p 96) six64) (fr q 8) (fr r 4) (p / 16)).2.1 (partOf p q r 32)
  c : IsPart (hsvF (Float64.mul (fr p 96) six64) (fr q 8) (fr r 4) (p / 16)).2.2 (partOf p q r 64)
theorem draw_facts {ns : List Int} {k : Int} (h : RowOk ns) (hk : k ∈ ns) : DrawFacts (plOf k) (shOf k) (vaOf k) := by
  obtain ⟨h1, h2, h3⟩ := draw_mem h hk
  obtain ⟨a, b, c⟩ := parts_ok _ _ _ h1 h2 h3
  obtain ⟨d, e⟩ := hue_ok _ h1
  exact ⟨by omega, by omega, by omega, h2, h3, d, e, by omega, a, b, c⟩
local macro_rules | `(tactic| k_mem) => `(tactic| ((with_reducible show List.Mem _ _); assumption))
theorem two_cells {o1 o2 : Obj} {S : Int} {n : Nat} {t1 t2 : Tok} (hn : 2 ≤ n)
    (d1 : o1.data = .cell (some (.int (if (S.fmod n + 1 + (S.fdiv n).fmod (n - 1)).fmod n < S.fmod n then (S.fmod n + 1 + (S.fdiv n).fmod (n - 1)).fmod n else S.fmod n) t1)))
    (d2 : o2.data = .cell (some (.int (if (S.fmod n + 1 + (S.fdiv n).fmod (n - 1)).fmod n > S.fmod n then (S.fmod n + 1 + (S.fdiv n).fmod (n - 1)).fmod n else S.fmod n) t2))) :
    ∃ e l : Int, o1.data = .cell (some (.int e t1)) ∧ o2.data = .cell (some (.int l t2)) ∧ 0 ≤ e ∧ e < l ∧ l < (n : Int) := by
  refine ⟨_, _, d1, d2, ?_⟩
  have g0 := Int.fmod_nonneg_of_pos S (b := (n : Int)) (by omega)
  have g1 := Int.fmod_lt_of_pos S (b := (n : Int)) (by omega)
  have c0 := Int.fmod_nonneg_of_pos (S.fdiv n) (b := (n : Int) - 1) (by omega)
  have c1 := Int.fmod_lt_of_pos (S.fdiv n) (b := (n : Int) - 1) (by omega)
  generalize S.fmod n = g at *
  generalize (S.fdiv n).fmod (n - 1) = c at *
  have t0 := Int.fmod_nonneg_of_pos (g + 1 + c) (b := (n : Int)) (by omega)
  have t1' := Int.fmod_lt_of_pos (g + 1 + c) (b := (n : Int)) (by omega)
  have ne : (g + 1 + c).fmod n ≠ g := by
    intro h
    rw [Int.fmod_eq_emod_of_nonneg _ (by omega)] at h
    have hd : ((n : Int)) ∣ (g + 1 + c - g) := Int.dvd_of_emod_eq_zero (by rw [Int.sub_emod, h, Int.emod_eq_of_lt g0 g1]; simp)
    have : g + 1 + c - g = c + 1 := by omega
    rw [this] at hd
    have := Int.le_of_dvd (by omega) hd
    omega
  generalize (g + 1 + c).fmod n = t at *
  split <;> split <;> omega
theorem left_yes {ns : List Int} {e l k : Int} (h : (e == k || l == k) = true) : leftG ns e l k = 0 := if_pos h
theorem left_no {ns : List Int} {e l k r r' : Int} (h : (e == k || l == k) = false) (h1 : r = dueF (plOf (ns.getD k.toNat 0)) (shOf (ns.getD k.toNat 0)) (vaOf (ns.getD k.toNat 0)) 3) (h2 : r' = mirR r) : leftG ns e l k = r' := by
  rw [h2, h1, due_code]; exact if_neg (by simp [h])
theorem at_mem {ns : List Int} {k : Int} (h : 0 ≤ k ∧ k < (ns.length : Int)) : ns.getD k.toNat 0 ∈ ns := by
  have hlt : k.toNat < ns.length := by omega
  rw [List.getD_eq_getElem?_getD]; simp [hlt]
theorem at_facts {ns : List Int} {k : Int} (hok : RowOk ns) (h : 0 ≤ k ∧ k < (ns.length : Int)) : (0 ≤ shOf (ns.getD k.toNat 0) ∧ shOf (ns.getD k.toNat 0) ≤ 8) ∧ (0 ≤ vaOf (ns.getD k.toNat 0) ∧ vaOf (ns.getD k.toNat 0) ≤ 4) := (draw_mem hok (at_mem h)).2
theorem len_small {ns : List Int} (h : RowOk ns) : Builtin.Range.small 0 (ns.length : Int) 1 = true := rg_small (by have := h.hi; omega)
theorem len_size {ns : List Int} : Builtin.Range.rangeSize 0 (ns.length : Int) 1 = ((ns.length : Nat) : Int) := by rw [rg_size]; simp
theorem len_line {ns : List Int} (h : RowOk ns) : ns.length ≤ sizeLine := by rw [sizeLine_eq]; have := h.hi; omega
local macro_rules | `(tactic| k_all) => `(tactic| exact allNe (by assumption) (by k_mem))
local macro_rules | `(tactic| walk_at "call ref") => `(tactic| (k_here; (k_dflt (refine' useT (drawn_c _ _ _ _ _ _ _) ?k1 ?k2 ?k3 ?k4 ?k5 ?kK ?kd ?ku ?_; walk_at "m:frame")); (intro t1' t2' t3' b' h' tk' F' N' l1'; (try dsimp only); (try k_fold))))
local macro_rules | `(tactic| walk_at "FinE") => `(tactic| ((unfold LCg.FinE); intro D' h' tk' F' N' o1'; (try simp only [List.cons_append, List.nil_append, LCg.Off1, and_true] at o1'); (try simp only [List.nil_append, List.cons_append] at N'); (try dsimp only)))
local macro_rules | `(tactic| walk_at "binaryOp Div int int") => `(tactic| (with_unfolding_all refine' div_ok ?k0 ?k1 ?k2 ?_; (case k0 => rfl); (case k1 => with_reducible assumption); (case k2 => decide); (try dsimp only)))
local macro_rules | `(tactic| walk_at "call ref") => `(tactic| (k_here; (k_dflt (refine' useT (hsv_c _ _ _ _ _ _ _ _ _ _ _ _ ?h1 ?h2 ?h3) ?k1 ?k2 ?k3 ?k4 ?k5 ?kK ?kd ?ku ?_; (case h1 => assumption); (case h2 => assumption); (case h3 => assumption); walk_at "m:frame")); (intro t1' t2' t3' b' h' tk' F' N' l1'; (try dsimp only); (try k_fold))))
local macro_rules | `(tactic| walk_at "call ref") => `(tactic| (k_here; (k_dflt (refine' useI (code_c _ _ _ _ _ _ _ _ _ _ _ _ _ _ _ ?h1 ?h2 ?h3 ?h4) ?k1 ?k2 ?k3 ?k4 ?k5 ?kK ?kd ?ku ?_; walk_at "m:frame"; (case h4 => k_mem); (case h1 => assumption); (case h2 => assumption); (case h3 => assumption))); (intro r9 t9 h9 tk9 e9 F9 N9; (try dsimp only); (try k_fold))))
local macro_rules | `(tactic| walk_at "CompSrc") => `(tactic| ((with_reducible show LCg.CompSrc _ _ _ _ _ _ _ (Expr.Call (Expr.Name (Str.ofString "_law_code") _) _ _ _) _ _ _ _ _ _); k_dflt (refine LCg.CompSrc.ledger (by rfl) (by k_asm) (by k_asm) (by k_mem) (sz_ok (by assumption) (DrawnAt.len (by assumption))) ?_; intro g'; refine comp_strip (fun k => codeOf (plOf k) (shOf k) (vaOf k)) (by assumption) ?_ ?_; (intro k' a' t1' t2' t3' I' oI' C' oC' D' m' zs' h' tk' E' hk' hm' hC' hx' F' N' off'; (obtain ⟨f1', f2', f3', f4', f5', f6', f7', f8', f9', fa', fb'⟩ := draw_facts (by assumption) hk'); (try k_fold)); rotate_left; (intro zs' hI'))))
local macro_rules | `(tactic| walk_at "CompEnd") => `(tactic| (refine LCg.CompEnd.intro (by assumption) (by assumption) _ (fun p hp => List.Mem.tail _ hp) ?O ?S ?_; (case O => assumption); (case S => lcg_src)))
local macro_rules | `(tactic| walk_at "KCfEl") => `(tactic| (refine kcf_el ?e rfl rfl; (case e => exact Eq.symm (by assumption))))
local macro_rules | `(tactic| walk_at "subscriptTail Name Constant ref int") => `(tactic| (k_here; k_dflt (refine item_tup (by k_asm) (by k_mem) (by decide) (by decide) (by rfl) (by rfl) ?_ (by with_unfolding_all rfl))))
local macro_rules | `(tactic| walk_at "CompSrc") => `(tactic| ((with_reducible show LCg.CompSrc _ _ _ _ _ _ _ (Expr.IfExp _ _ _ _) _ _ _ _ _ _); k_dflt (refine LCg.CompSrc.range (by rfl) (by k_asm) (by k_asm) (by assumption) (len_small (by assumption)) len_size (len_line (by assumption)) ?_; intro g'; (rename LeftIs _ => hLf'); refine comp_left hLf' ?_ ?_; (intro k' t' I' oI' C' oC' D' m' ys' h' tk' E' hk' hC' hx' F' N' off'; (obtain ⟨f1', f2'⟩ := at_facts (by assumption) hk'); (try k_fold)); rotate_left; (intro zs' hI'))))
local macro_rules | `(tactic| walk_at "compareOp In int ref") => `(tactic| (k_here; k_dflt (refine in_two (by k_asm) (by k_mem) ?_)))
local macro_rules | `(tactic| walk_at "subscriptTail Name Name ref int") => `(tactic| (k_here; k_dflt (refine item_ref (by assumption) (by k_asm) (by k_mem) (by assumption) (by assumption) ?_ (by with_unfolding_all rfl); intro a' t1' t2' t3' hm')))
local macro_rules | `(tactic| walk_at "call ref") => `(tactic| (k_here; (k_dflt (refine' useI (due_c _ _ _ _ _ _ _ _ _ _ _ _ ?h1 ?h2 ?h3) ?k1 ?k2 ?k3 ?k4 ?k5 ?kK ?kd ?ku ?_; walk_at "m:frame"; (case h3 => k_mem); (case h1 => assumption); (case h2 => assumption))); (intro r9 t9 h9 tk9 e9 F9 N9; (try dsimp only); (try k_fold))))
local macro_rules | `(tactic| walk_at "call ref") => `(tactic| (k_here; (k_dflt (refine' useI (mirrored_c _ _ _ _ _ _ _) ?k1 ?k2 ?k3 ?k4 ?k5 ?kK ?kd ?ku ?_; walk_at "m:frame")); (intro r9 t9 h9 tk9 e9 F9 N9; (try dsimp only); (try k_fold))))
local macro_rules | `(tactic| walk_at "KCfEl") => `(tactic| (refine kcf_el ?e rfl rfl; (case e => first | exact left_yes (by with_reducible assumption) | exact left_no (by with_reducible assumption) (by with_reducible assumption) (by with_reducible assumption))))
local macro_rules | `(tactic| walk_at "exec For Tuple List cons nil") => `(tactic| ((fail_if_success (rename LastMark => hMk')); refine Hold.out ?_))
local macro_rules | `(tactic| walk_at "call ref") => `(tactic| (k_here; (k_dflt (refine' useI (sum_c _ _ _ _ _ _ _ _ _ ?h1 ?h2) ?k1 ?k2 ?k3 ?k4 ?k5 ?kK ?kd ?ku ?_; walk_at "m:frame"; (case h1 => k_mem); (case h2 => assumption))); (intro r9 t9 h9 tk9 e9 F9 N9; (try dsimp only); (try k_fold))))
local macro_rules | `(tactic| walk_at "call ref") => `(tactic| (k_here; (k_dflt (refine' useI (gap_c _ _ _ _ _ _ _ _ _ _ _ ?h1 ?h2) ?k1 ?k2 ?k3 ?k4 ?k5 ?kK ?kd ?ku ?_; walk_at "m:frame"; (case h1 => k_mem); (case h2 => assumption))); (intro r9 t9 h9 tk9 e9 F9 N9; (try dsimp only); (try k_fold))))
local macro_rules | `(tactic| walk_at "call ref") => `(tactic| (k_here; (k_dflt (refine' useI (halved_c _ _ _ _ _ _ _ _ _ ?h1) ?k1 ?k2 ?k3 ?k4 ?k5 ?kK ?kd ?ku ?_; walk_at "m:frame"; (case h1 => omega))); (intro r9 t9 h9 tk9 e9 F9 N9; (try dsimp only); (try k_fold))))
local macro_rules | `(tactic| walk_at "call ref") => `(tactic| (k_here; (k_dflt (refine' useI (doubled_c _ _ _ _ _ _ _ _ _ ?h1) ?k1 ?k2 ?k3 ?k4 ?k5 ?kK ?kd ?ku ?_; walk_at "m:frame"; (case h1 => omega))); (intro r9 t9 h9 tk9 e9 F9 N9; (try dsimp only); (try k_fold))))
local macro_rules | `(tactic| walk_at "call ref") => `(tactic| (k_here; (k_dflt (refine' useI (times_c _ _ _ _ _ _ _ _ _) ?k1 ?k2 ?k3 ?k4 ?k5 ?kK ?kd ?ku ?_; walk_at "m:frame")); (intro r9 t9 h9 tk9 e9 F9 N9; (try dsimp only); (try k_fold))))
local macro_rules | `(tactic| walk_at "call ref") => `(tactic| (k_here; (with_unfolding_all show wpAny _ _ (call (Value.ref 94) _) _ _ _); (obtain ⟨n9, h1', h2'⟩ := inv_ok (by with_reducible assumption) (by with_reducible assumption) (by omega)); (k_dflt (refine' useI (inverse_c _ _ _ _ _ _ _ n9 h1' h2') ?k1 ?k2 ?k3 ?k4 ?k5 ?kK ?kd ?ku ?_; walk_at "m:frame")); (intro r9 t9 h9 tk9 e9 F9 N9; (try dsimp only); (try k_fold))))
local macro_rules | `(tactic| walk_at "NamesEnd") => `(tactic| exact ⟨_, _, _, _, _, _, rfl, rfl, by k_asm, by k_asm, by k_asm⟩)
local macro_rules | `(tactic| walk_at "CompSrc") => `(tactic| ((with_reducible show LCg.CompSrc _ _ _ _ _ _ _ (Expr.Call (Expr.Name (Str.ofString "_law_drawn") _) _ _ _) _ _ _ _ _ _); k_dflt (refine LCg.CompSrc.ledger (by rfl) (by k_asm) (by k_asm) (by k_mem) (sz_ok (by assumption) (by assumption)) ?_; intro g'; refine comp_names (by assumption) (fun _ => Or.inr ⟨_, List.mem_append_left _ (by k_mem), rfl, _, rfl⟩) ?_ ?_; (intro k' t' I' oI' C' oC' D' m' ys' T' h' tk' E' hk' hC' hx' F' N'; (try k_fold)); rotate_left; (intro ys' T' hD' hT'))))
local macro_rules | `(tactic| walk_at "exec Assign cons ListComp") => `(tactic| ((with_reducible show wpAny _ _ (exec (Stmt.Assign [Expr.Name (Str.ofString "names") _] _ _) _) _ _ _); refine Hold.out ?_))
local macro_rules | `(tactic| walk_at "exec Assign cons ListComp") => `(tactic| ((with_reducible show wpAny _ _ (exec (Stmt.Assign [Expr.Name (Str.ofString "strip") _] _ _) _) _ _ _); refine Hold.out ?_))
local macro_rules | `(tactic| walk_at "exec Assign cons ListComp") => `(tactic| ((with_reducible show wpAny _ _ (exec (Stmt.Assign [Expr.Name (Str.ofString "left") _] _ _) _) _ _ _); refine Hold.out ?_))
theorem eq_found {r c f p q s : Int} (e9 : r = mirR c) (ec : c = dueF p q s 3) (hf : f = mirR (codeOf p q s)) : r = f := by rw [e9, ec, due_code, hf]
theorem last_facts {ns : List Int} {k c : Int} (hok : RowOk ns) (h : 0 ≤ k ∧ k < (ns.length : Int)) (hc : c = dueF (plOf (ns.getD k.toNat 0)) (shOf (ns.getD k.toNat 0)) (vaOf (ns.getD k.toNat 0)) 3) :
    LastFacts c (plOf (ns.getD k.toNat 0)) (shOf (ns.getD k.toNat 0)) (vaOf (ns.getD k.toNat 0)) :=
  let ⟨h1, h2, h3⟩ := draw_mem hok (at_mem h)
  last_of h1 h2 h3 hc
theorem ne_same {prog : Program} {w : World} {A : Around} {E : Value → Shared → Prop} {s : Shared} {Q : Value → Shared → Prop} {a : Int} {t u : Tok} (h : Q (.bool false) s) : wpAny (model prog w) A (compareOp .NotEq (.int a t) (.int a u)) Q E s := PyProof.Rows.ne_int (by simpa using h)
theorem useN {w : World} {mean : ExcName → Option Value} {mg mb : Str → Option Value} {f : Addr} {news : List (Addr × Obj)} {d u : Nat} {vs : List Value} {R : Tok → Tok → Tok → Obj}
  {dp un : Nat} {gd : Option (List Code)} {cn : Str} {cs : Scope} {a : Addr} {ccd : Value} {cl : List (Str × Addr)} {outer : List Env} {A₀ : Around} {base h₀ : Heap} {L : Addr} {m : Str → Option Value} {s : Shared} {Q E : Value → Shared → Prop}
  (c : ClN w mean mg mb f news d u vs R) (k1 : Below A₀ base outer h₀) (k2 : Fr h₀ L s.heap m) (k3 : (Mine.hd.heap_39 w.params).In h₀) (k4 : News h₀ L s.heap news) (k5 : Top Mine.hd.view_39 (looseW Mine.hd.view_39 []) mean mg mb h₀) (kK : cs.kind = .function)
    (kd : dp + d < recursionLimit) (ku : un + u < cLine) (h : ∀ (t1 t2 t3 : Tok) (b : Addr) (h' : Heap) (tk' : Nat), t1 ≠ 0 → t2 ≠ 0 → t3 ≠ 0 → Fr h₀ L h' m → News h₀ L h' ((b, R t1 t2 t3) :: news) → (∀ p ∈ news, p.1 < b) → Q (.ref b) { s with heap := h', toks := tk' }) :
    wpAny (model PySem.Challenge.rw_mr0043_01.prog w) (ktrTop dp un gd cn cs L a ccd cl outer) (call (.ref f) vs) Q E s :=
  c dp un gd cn cs a ccd cl outer A₀ base h₀ L m s Q E k1 k2 k3 k4 k5 kK kd ku h
local macro_rules | `(tactic| walk_at "compareOp NotEq int int") => `(tactic| (with_reducible refine ne_same ?_))
local macro_rules | `(tactic| walk_at "binaryOp Div int int") => `(tactic| (with_unfolding_all refine' div_ok ?k0 ?k1 ?k2 ?_; (case k0 => rfl); (case k1 => first | with_reducible assumption | decide); (case k2 => decide); (try dsimp only)))
local macro_rules | `(tactic| walk_at "compareOp NotEq ref ref") => `(tactic| (k_here; (rename RgbOk _ _ _ _ _ _ => hR'); (k_dflt (refine' ne_hsv ?k1 ?k2 ?k3 ?k4 ?k5 ?a1 ?a2 ?a3 ?a4 ?a5 ?a6 ?c1 ?c2 ?c3 ?_; (case k1 => k_asm); (case k2 => exact Frag.In.keeps (by k_asm) (Fr.keep (by k_asm))); (case k3 => k_mem); (case k4 => k_mem); (case k5 => k_units); (case a1 => assumption); (case a2 => assumption); (case a3 => assumption); (case a4 => exact Nat.succ_ne_zero _); (case a5 => exact Nat.succ_ne_zero _); (case a6 => exact Nat.succ_ne_zero _); (case c1 => exact hR'.h); (case c2 => exact hR'.s); (case c3 => exact hR'.v)))))
theorem rgb_yes {q r : Int} {a b c x y z : UInt64} (f : q * r ≠ 0 → RgbOk a b c x y z) (h : q * r ≠ 0) : RgbOk a b c x y z := f h
theorem rgb_yes2 {q r : Int} {a b c x y z : UInt64} (f : q * r ≠ 0 → RgbOk a b c x y z) (h1 : q ≠ 0) (h2 : r ≠ 0) : RgbOk a b c x y z := f (Int.mul_ne_zero h1 h2)
theorem rgb_no {q r : Int} {a b c x y z : UInt64} (f : q * r = 0 → RgbOk a b c x y z) (h : q * r = 0) : RgbOk a b c x y z := f h
local macro_rules | `(tactic| walk_at "call ref") => `(tactic| (k_here; (with_unfolding_all show wpAny _ _ (call (Value.ref 28) _) _ _ _); (first | have hR' := rgb_yes2 (by with_reducible assumption) (by with_reducible assumption) (by with_reducible assumption) | have hR' := rgb_yes (by with_reducible assumption) (by with_reducible assumption) | have hR' := rgb_no (by with_reducible assumption) (by with_reducible assumption)); (k_dflt (refine' useN (rgb_c _ _ _ _ _ _ _ _ _ _ _ _ _ ⟨Nat.succ_ne_zero _, Nat.succ_ne_zero _, Nat.succ_ne_zero _⟩ rfl rfl hR'.nz) ?k1 ?k2 ?k3 ?k4 ?k5 ?kK ?kd ?ku ?_; walk_at "m:frame")); (intro t1' t2' t3' b' h' tk' n1' n2' n3' F' N' l1'; (try dsimp only); (try k_fold))))
local macro_rules | `(tactic| walk_at "call ref") => `(tactic| (k_here; (rename LastMark => hMk'); (k_dflt (refine' useI (mirrored_c _ _ _ _ _ _ _) ?k1 ?k2 ?k3 ?k4 ?k5 ?kK ?kd ?ku ?_; walk_at "m:frame")); (intro r9 t9 h9 tk9 e9 F9 N9; (have q9 := eq_found e9 (by with_reducible assumption) (by with_reducible assumption)); (subst q9); (try dsimp only); (try k_fold))))
local macro_rules | `(tactic| walk_at "call ref") => `(tactic| (k_here; (rename LastMark => hMk'); (k_dflt (refine' useI (due_c _ _ _ _ _ _ _ _ _ _ _ _ ?h1 ?h2 ?h3) ?k1 ?k2 ?k3 ?k4 ?k5 ?kK ?kd ?ku ?_; walk_at "m:frame"; (case h3 => k_mem); (case h1 => assumption); (case h2 => assumption))); (intro r9 t9 h9 tk9 e9 F9 N9; (obtain ⟨g1', g2', g3', g4', g5', g6', g7', g8'⟩ := last_facts (by with_reducible assumption) (by with_reducible assumption) e9); (try dsimp only); (try k_fold))))
theorem endW {h₀ : Heap} {L i : Addr} {o : Obj} {s₁ : Shared} {news all : List (Addr × Obj)} {m' : Str → Option Value} {rest : (Str → Option Value) → List (Addr × Obj) → Prop} {h' : Heap} {tk : Nat} (l1 : ∀ p ∈ news, p.1 < i) (F : Fr h₀ L h' m') (N : News h₀ L h' all)
    (sub : ∀ p ∈ (i, o) :: news, p ∈ all) (r : rest m' news) : UnrEndW h₀ L s₁ [(i, o)] rest { s₁ with heap := h', toks := tk } :=
  ⟨h', tk, m', news, rfl, F, fun p hp => N p (sub p hp), fun p hp q hq => by rw [List.mem_singleton.mp hq]; exact Nat.ne_of_lt (l1 p hp), r⟩
local macro_rules | `(tactic| walk_at "pyIter ref") => `(tactic| (k_here; (with_reducible show wpAny _ _ (pyIter (Value.ref _)) (fun it s₂ => TurnsAt _ _ _ _ _ _ _ _ _ it s₂) _ _); (rename Fr _ _ _ _ => lF'); (rename News _ _ _ _ => lN'); (with_unfolding_all refine iter_listTurns (vs := [_, _]) (by rfl) lF' lN' (List.Mem.head _) (by rfl) (by rfl) ?_); clear lF' lN'; intro i' l1'))
local macro_rules | `(tactic| walk_at "UnrEndW") => `(tactic| (refine endW (by assumption) (by assumption) (by assumption) (by (intro p hp; kst_mem)) ⟨by k_subL, ?_⟩))
theorem law_holds : PySem.Challenge.rw_mr0043_01.Holds := by
  refine Mine.hd ?_
  w_strict (k_go0; (all_goals try k_fold); k_steps)
  unfold Hold
  rename List Int => script
  have hok := row_ok script
  have hlo := hok.lo
  have hhi := hok.hi
  generalize (List.map (fun k' => Int.fmod k' 12960) (List.take 4 script ++ [1000, 7100])) = ns at *
  w_strict ((refine wpAny_Assign_Name ?_); k_steps)
  unfold Hold
  w_strict (k_dflt (refine LCg.Assign_ListComp_U (F₀ := by k_asm) (by rfl) (by with_unfolding_all rfl) (by rfl) (by decide) (by rfl) (by decide) (by rfl) (by rfl) (by rfl) ?_); k_dflt lcg_toSrc; all_goals k_steps)
  unfold Hold
  obtain ⟨e, la, hde, hdl, he0, hel, hln⟩ := two_cells hlo (by assumption) (by assumption)
  have hLf : LeftIs (leftG ns e la) := ⟨⟩
  w_strict (k_dflt (refine LCg.Assign_ListComp_U (F₀ := by k_asm) (by rfl) (by with_unfolding_all rfl) (by with_unfolding_all rfl) (by decide) (by rfl) (by decide) (by rfl) (by rfl) (by rfl) ?_); k_dflt lcg_toSrc; all_goals k_steps)
  unfold Hold
  obtain ⟨hF1, hF2⟩ := plain hok he0 hel hln (by with_reducible assumption) (by with_reducible assumption) (by with_reducible assumption) (by with_reducible assumption) (by with_reducible assumption) (by with_reducible assumption) (by with_reducible assumption) (by with_reducible assumption) (by with_reducible assumption) (by with_reducible assumption) (by with_reducible assumption) (by with_reducible assumption) (by with_reducible assumption) (by with_reducible assumption) (by with_reducible assumption)
  have hE : 0 ≤ e ∧ e < (ns.length : Int) := ⟨he0, by omega⟩
  have hLa : 0 ≤ la ∧ la < (ns.length : Int) := ⟨by omega, hln⟩
  obtain ⟨fe1, fe2⟩ := at_facts hok hE
  obtain ⟨fl1, fl2⟩ := at_facts hok hLa
  have hMk : LastMark := ⟨⟩
  w_strict k_steps
end
end Mine
theorem PySem.Challenge.cw_mr0043_01_holds : PySem.Challenge.rw_mr0043_01.Holds :=
  Mine.law_holds
