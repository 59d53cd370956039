import PyProof.Rows.All
import Wide.All
import OpenK.AllK
import Wide.FinOn
import Lean
import PySem.Challenge.RW_kk0012_01
set_option Elab.async false
set_option linter.unusedVariables false

section PartHead1
open PySem PySem.W PyProof.Rows
namespace Mine
open_top hd for PySem.Challenge.rw_kk0012_01
end Mine
end PartHead1

section PartBits
open PySem PySem.W PySem.Calls PyProof.Rows
namespace Mine
theorem xorAnd (a b : Nat) : (a ^^^ b) + 2 * (a &&& b) = a + b := by
  induction a using Nat.strongRecOn generalizing b with
  | _ a ih =>
    by_cases ha : a = 0
    · subst ha; simp
    · have h := ih (a / 2) (by omega) (b / 2)
      have e1 : (a ^^^ b) / 2 = (a / 2) ^^^ (b / 2) := by
        have := Nat.shiftRight_xor_distrib (a := a) (b := b) (i := 1)
        simpa [Nat.shiftRight_eq_div_pow] using this
      have e2 : (a &&& b) / 2 = (a / 2) &&& (b / 2) := by
        have := Nat.shiftRight_and_distrib (a := a) (b := b) (i := 1)
        simpa [Nat.shiftRight_eq_div_pow] using this
      have m1 : (a ^^^ b) % 2 = (a % 2) ^^^ (b % 2) := Nat.xor_mod_two_pow (n := 1)
      have m2 : (a &&& b) % 2 = (a % 2) &&& (b % 2) := Nat.and_mod_two_pow (n := 1)
      rcases Nat.mod_two_eq_zero_or_one a with p | p <;> rcases Nat.mod_two_eq_zero_or_one b with q | q <;> rw [p, q] at m1 m2 <;> simp only [Nat.xor_self, Nat.zero_xor, Nat.xor_zero, Nat.and_self, Nat.zero_and, Nat.and_zero] at m1 m2 <;> omega
theorem natAnd (a b : Nat) : Builtin.bitAnd (a : Int) (b : Int) = ((a &&& b : Nat) : Int) := by
  unfold Builtin.bitAnd
  have h1 : (0 : Int) ≤ (a : Int) := Int.natCast_nonneg a
  have h2 : (0 : Int) ≤ (b : Int) := Int.natCast_nonneg b
  rw [decide_eq_true h1, decide_eq_true h2]
  simp
theorem natXor (a b : Nat) : Builtin.bitXor (a : Int) (b : Int) = ((a ^^^ b : Nat) : Int) := by
  rw [bitXor_and, natAnd]
  have := xorAnd a b
  omega
theorem natShr (a k : Nat) : (a : Int).fdiv (2 ^ k) = ((a >>> k : Nat) : Int) := by
  rw [Int.fdiv_eq_ediv_of_nonneg _ (Int.le_of_lt (kbt_pos k)), Nat.shiftRight_eq_div_pow, ← kbt_cast]
  exact (Int.natCast_ediv a (2^k)).symm
theorem natShl (a k : Nat) : (a : Int) * (2 ^ k) = ((a <<< k : Nat) : Int) := by
  rw [Nat.shiftLeft_eq, ← kbt_cast, Int.natCast_mul]
theorem bits40 (x : Int) : (Builtin.Int.intBits (Builtin.bitAnd x 34359738367) : Int) + 5 ≤ 2 ^ 27 := by
  have h := bitAnd_range x (y := 34359738367) (by decide)
  exact bits_add_le (by omega) (by omega)
def pmIf (c0 k g c : Nat) : Nat := if c0 &&& k = 0 then c else c ^^^ g
@[irreducible] def pm (c v : Nat) : Nat :=
  pmIf (c >>> 35) 16 430795026429 (pmIf (c >>> 35) 8 236335490938 (pmIf (c >>> 35) 4 118834127661 (pmIf (c >>> 35) 2 730107360018 (pmIf (c >>> 35) 1 1056006543753 (((c &&& 34359738367) <<< 5) ^^^ v)))))
def pmIfI (c0 k g c : Int) : Int := if Builtin.bitAnd c0 k = 0 then c else Builtin.bitXor c g
theorem pmIfI_f {c0 k g c : Int} (h : Builtin.bitAnd c0 k = 0) : pmIfI c0 k g c = c := if_pos h
theorem pmIfI_t {c0 k g c : Int} (h : Builtin.bitAnd c0 k ≠ 0) : pmIfI c0 k g c = Builtin.bitXor c g := if_neg h
theorem pmIfI_nat (c0 k g c : Nat) : pmIfI (c0 : Int) (k : Int) (g : Int) (c : Int) = ((pmIf c0 k g c : Nat) : Int) := by
  unfold pmIfI pmIf
  rw [natAnd, natXor]
  by_cases h : c0 &&& k = 0
  · rw [if_pos h, if_pos (by rw [h]; rfl)]
  · rw [if_neg h, if_neg (by intro e; exact h (Int.natCast_inj.mp e))]
theorem pm_int (c v : Nat) : ((pm c v : Nat) : Int) =
    pmIfI ((c : Int).fdiv (2 ^ Int.toNat 35)) 16 430795026429 (pmIfI ((c : Int).fdiv (2 ^ Int.toNat 35)) 8 236335490938 (pmIfI ((c : Int).fdiv (2 ^ Int.toNat 35)) 4 118834127661
      (pmIfI ((c : Int).fdiv (2 ^ Int.toNat 35)) 2 730107360018 (pmIfI ((c : Int).fdiv (2 ^ Int.toNat 35)) 1 1056006543753 (Builtin.bitXor (Builtin.bitAnd c 34359738367 * 2 ^ Int.toNat 5) v))))) := by
  have e1 : (c : Int).fdiv (2 ^ Int.toNat 35) = ((c >>> 35 : Nat) : Int) := natShr c 35
  have e2 : Builtin.bitAnd (c : Int) 34359738367 = ((c &&& 34359738367 : Nat) : Int) := natAnd c 34359738367
  have e3 : ((c &&& 34359738367 : Nat)  : Int) * (2 : Int) ^ Int.toNat 5 = (((c &&& 34359738367) <<< 5 : Nat) : Int) := natShl _ 5
  rw [e1, e2, e3, natXor]
  have s := fun (k g x : Nat) => pmIfI_nat (c >>> 35) k g x
  have s1 := s 1 1056006543753
  have s2 := s 2 730107360018
  have s3 := s 4 118834127661
  have s4 := s 8 236335490938
  have s5 := s 16 430795026429
  simp only [Int.cast_ofNat_Int] at s1 s2 s3 s4 s5
  rw [s1, s2, s3, s4, s5]
  unfold pm
  rfl
end Mine
end PartBits

section PartPoly
open PySem PySem.W PySem.Calls PyProof.Rows
set_option maxRecDepth 100000
namespace Mine
local macro_rules | `(tactic| walk_at $s:str) => `(tactic| k_extra $s)
abbrev MClaim (w : World) (mean : ExcName → Option Value) (mg mb : Str → Option Value) (f : Addr) (vs : List Value) (news : List (Addr × Obj)) (pre : Prop) (Rt : (h₀ : Heap) → (L : Addr) → (m : Str → Option Value) → (s : Shared) → (Q : Value → Shared → Prop) → Prop) : Prop :=
  ∀ (dp un : Nat) (gd : Option (List Code)) (cn : Str) (cs : Scope) (a : Addr) (ccd : Value) (cl : List (Str × Addr)) (outer : List Env) (A₀ : Around) (base h₀ : Heap) (L : Addr) (m : Str → Option Value) (s : Shared) (Q E : Value → Shared → Prop),
    Below A₀ base outer h₀ → Fr h₀ L s.heap m → (hd.heap_39 w.params).In h₀ → News h₀ L s.heap news → Top hd.view_39 (looseW hd.view_39 [Str.ofString "_law_generator"]) mean mg mb h₀ → cs.kind = .function →
    pre → dp + 5 < recursionLimit → un + 40 < cLine → Rt h₀ L m s Q →
      wpAny (model PySem.Challenge.rw_kk0012_01.row.prog w) (ktrTop dp un gd cn cs L a ccd cl outer) (call (.ref f) vs) Q E s
abbrev RInt (news : List (Addr × Obj)) (r : Int) (h₀ : Heap) (L : Addr) (m : Str → Option Value) (s : Shared) (Q : Value → Shared → Prop) : Prop :=
  ∀ (t : Tok) (h' : Heap) (tk' : Nat), Fr h₀ L h' m → News h₀ L h' news → Q (.int r t) { s with heap := h', toks := tk' }

set_option maxHeartbeats 8000000 in
theorem poly {w : World} {mean mg mb} (news : List (Addr × Obj)) (c v : Nat) (t1 t2 : Tok) : MClaim w mean mg mb 46 [.int (c : Int) t1, .int (v : Int) t2] news True (RInt news ((pm c v : Nat) : Int)) := by
  unfold MClaim
  w_top off
  k_with_none
  k_with "binaryOp LShift int int" => (refine lshift_int (by decide) (bits40 _) ?_)
  k_fill
  intro dp un gd cn cs a ccd cl outer A₀ base h₀ L m s Q E B F X N T hk hp hd' hu hret
  refine wpAny_call ?_
  k_dflt cell_enter
  k_steps
  all_goals (
    refine cb_retI hret ?_ (by assumption) (by assumption)
    rw [pm_int]
    (first | rw [pmIfI_t (c0 := (c : Int).fdiv (2 ^ Int.toNat 35)) (k := 1) (by assumption)] | rw [pmIfI_f (c0 := (c : Int).fdiv (2 ^ Int.toNat 35)) (k := 1) (by assumption)])
    (first | rw [pmIfI_t (c0 := (c : Int).fdiv (2 ^ Int.toNat 35)) (k := 2) (by assumption)] | rw [pmIfI_f (c0 := (c : Int).fdiv (2 ^ Int.toNat 35)) (k := 2) (by assumption)])
    (first | rw [pmIfI_t (c0 := (c : Int).fdiv (2 ^ Int.toNat 35)) (k := 4) (by assumption)] | rw [pmIfI_f (c0 := (c : Int).fdiv (2 ^ Int.toNat 35)) (k := 4) (by assumption)])
    (first | rw [pmIfI_t (c0 := (c : Int).fdiv (2 ^ Int.toNat 35)) (k := 8) (by assumption)] | rw [pmIfI_f (c0 := (c : Int).fdiv (2 ^ Int.toNat 35)) (k := 8) (by assumption)])
    (first | rw [pmIfI_t (c0 := (c : Int).fdiv (2 ^ Int.toNat 35)) (k := 16) (by assumption)] | rw [pmIfI_f (c0 := (c : Int).fdiv (2 ^ Int.toNat 35)) (k := 16) (by assumption)]))
end Mine
end PartPoly

section PartNum
open PySem PySem.W PySem.Calls PyProof.Rows
set_option maxRecDepth 100000
namespace Mine
def num (ns : List Int) (k : Nat) : Int := (if 0 < ns.length then ns.getD ((k : Int).fmod (ns.length : Int)).toNat 0 else 0) + 7 * (k : Int)
theorem num_t {ns : List Int} {k : Nat} (h : 0 < ns.length) : ns.getD ((k : Int).fmod (ns.length : Int)).toNat 0 + 7 * (k : Int) = num ns k := by unfold num; rw [if_pos h]
theorem num_f {ns : List Int} {k : Nat} (h : ¬ 0 < ns.length) : 0 + 7 * (k : Int) = num ns k := by unfold num; rw [if_neg h]
set_option maxHeartbeats 8000000 in
theorem numC {w : World} {mean mg mb} (news : List (Addr × Obj)) (l : Addr) (vs : List Value) (ns : List Int) (k : Nat) (t2 : Tok) : 
  ∀ (dp un : Nat) (gd : Option (List Code)) (cn : Str) (cs : Scope) (a : Addr) (ccd : Value) (cl : List (Str × Addr)) (outer : List Env) (A₀ : Around) (base h₀ : Heap) (L : Addr) (m : Str → Option Value) (s : Shared) (Q E : Value → Shared → Prop),
    Below A₀ base outer h₀ → Fr h₀ L s.heap m → (hd.heap_39 w.params).In h₀ → News h₀ L s.heap news → Top hd.view_39 (looseW hd.view_39 [Str.ofString "_law_generator"]) mean mg mb h₀ → cs.kind = .function →
    base.IsList l vs.toArray → IntsAre vs ns → PyData.layable0 (.list (ns.map .int)) = true → k < 1000 → dp + 5 < recursionLimit → un + 40 < cLine → RInt news (num ns k) h₀ L m s Q →
      wpAny (model PySem.Challenge.rw_kk0012_01.row.prog w) (ktrTop dp un gd cn cs L a ccd cl outer) (call (.ref 66) [.ref l, .int (k : Int) t2]) Q E s := by
  w_top off
  k_with_none
  k_fill
  intro dp un gd cn cs a ccd cl outer A₀ base h₀ L m s Q E B F X N T hk hl hi hL hp hd' hu hret
  refine wpAny_call ?_
  k_dflt cell_enter
  k_steps
  · exact cb_retI hret (num_t (by assumption)) (by assumption) (by assumption)
  · exact cb_retI hret (num_f (by assumption)) (by assumption) (by assumption)
end Mine
end PartNum

section PartEnter
open PySem PySem.W PySem.Calls PyProof.Rows PySem.Spec
set_option maxRecDepth 100000
namespace Mine
section
variable {prog : Program} {w : World} {A A₀ : Around} {s : Shared} {K : Frag} {L : Addr} {h₀ base : Heap} {m mg mb : Str → Option Value} {p : Program} {loose : List Str} {mean : ExcName → Option Value}
theorem enter0 {env : Env} {outer : List Env} {R : Result → Shared → Prop} {name qual : Str} {params : Arguments} {body : List Stmt} {scope : Scope} {dV kV doc pm cdv ct oc : Value} {an od : Option Addr} {osl : Array (Option Value)} {f : Addr} {args : Args} {binds : List (Str × Value)}
    (B : Below A₀ base outer h₀) (F : Fr h₀ L s.heap m) (X₀ : K.In h₀) (T : Top p loose mean mg mb h₀) (hA : A.frames = some (env :: outer)) (hf : env.frame = some L) (hke : env.scope.kind = .function)
    (ho : K.lookup f = some ⟨oc, od, .func (fnOf name qual params body scope dV kV doc pm an cdv ct), osl⟩) (hcd : codeIn K cdv qual = true) (hroom : A.depth < recursionLimit)
    (hbind : BindsTo s (fnOf name qual params body scope dV kV doc pm an cdv ct) args binds) (hloc : ∀ y ∈ binds, scope.names.lookup y.1 = some .local)
    (h : ∀ L' h₁, Fr h₀ L s.heap m → Fr s.heap L' h₁ (fun y => binds.reverse.lookup y) → News s.heap L' h₁ [] → Below A base (env :: outer) s.heap → K.In s.heap → Top p loose mean mg mb s.heap →
      wpAny (model prog w) (A.deeper (envOf qual scope L' f cdv)) (execs body (envOf qual scope L' f cdv))
        (fun fl s' => LeaveK h₀ L m s.heap R (match fl with | .ret v => v | _ => .none) s')
        (fun e s' => wpAny (model prog w) (A.deeper (envOf qual scope L' f cdv)) (leaving (envOf qual scope L' f cdv) e) (fun _ s'' => R (.error e) s'') (fun e' s'' => R (.error e') s'') s')
        { s with heap := h₁, toks := s.toks + binds.length })
    (hco : scope.isCoroutine = false) (hgen : scope.isGenerator = false) (hk : scope.kind = .function)
    (hcell : ∀ x ∈ scope.names, x.2 ≠ .cell) : codeAny (model prog w) A (.call (.ref f) args) R s := by
  obtain ⟨FG, BG, st, lv⟩ := groundX (R := R) (news := []) B F (fun _ hp => nomatch hp) hA hf hke
  have Xs : K.In s.heap := X₀.keeps F.keep
  refine codeAny_call_def (fd := fnX name qual params body scope [] dV kV doc pm an cdv ct) (body := body) (binds := binds) hroom (Xs _ _ ho) rfl (T.nolimit.keeps F.keep) (codeRec_of Xs hcd) rfl hbind hcell hloc (fun h₁ hns hk₁ => ?_) hco hgen hk
  exact wpAny_mono (h s.heap.objs.size h₁ FG ⟨hns, fun b o e => hk₁ b o e, Nat.le_refl _⟩ (fun _ hp => nomatch hp) BG Xs (T.keeps F.keep)) (fun fl s' hl => lv _ _ hl) fun _ _ y => y

theorem enter0C {env : Env} {outer : List Env} {R : Result → Shared → Prop} {name qual : Str} {params : Arguments} {body : List Stmt} {scope : Scope} {dV kV doc pm cdv ct oc : Value} {an od : Option Addr} {osl : Array (Option Value)} {f : Addr} {args : Args} {binds : List (Str × Value)}
    (B : Below A₀ base outer h₀) (F : Fr h₀ L s.heap m) (X₀ : K.In h₀) (T : Top p loose mean mg mb h₀) (hA : A.frames = some (env :: outer)) (hf : env.frame = some L) (hke : env.scope.kind = .function)
    (ho : K.lookup f = some ⟨oc, od, .func (fnOf name qual params body scope dV kV doc pm an cdv ct), osl⟩) (hcd : codeIn K cdv qual = true) (hroom : A.depth < recursionLimit)
    (hbind : BindsTo s (fnOf name qual params body scope dV kV doc pm an cdv ct) args binds) (hkind : (binds.all fun y => scope.names.lookup y.1 == some .local || scope.names.lookup y.1 == some .cell) = true)
    (hnd : ((cellsFrom 0 scope.names []).map (·.1)).Nodup)
    (h : ∀ L' h₁ tk cells, Fr h₀ L s.heap m → Fr s.heap L' h₁ (bindL (envOfC qual scope L' f cdv).kindOf binds fun _ => none) → News s.heap L' h₁ cells →
      CellsAre (bindC (envOfC qual scope L' f cdv).kindOf binds fun _ => none) (cellsFrom (L' + 1) scope.names []) cells → Below A base (env :: outer) s.heap → K.In s.heap → Top p loose mean mg mb s.heap →
      wpAny (model prog w) (A.deeper (envOfC qual scope L' f cdv)) (execs body (envOfC qual scope L' f cdv))
        (fun fl s' => LeaveK h₀ L m s.heap R (match fl with | .ret v => v | _ => .none) s')
        (fun e s' => wpAny (model prog w) (A.deeper (envOfC qual scope L' f cdv)) (leaving (envOfC qual scope L' f cdv) e) (fun _ s'' => R (.error e) s'') (fun e' s'' => R (.error e') s'') s')
        { s with heap := h₁, toks := tk })
    (hco : scope.isCoroutine = false) (hgen : scope.isGenerator = false) (hk : scope.kind = .function) : codeAny (model prog w) A (.call (.ref f) args) R s := by
  obtain ⟨FG, BG, st, lv⟩ := groundX (R := R) (news := []) B F (fun _ hp => nomatch hp) hA hf hke
  have Xs : K.In s.heap := X₀.keeps F.keep
  refine codeAny_call_function hroom (Xs _ _ ho) rfl hco hgen rfl (codeRec_of Xs hcd) (hbind _ _ _ _ ?_)
  refine wpAny_newFunctionEnv_cells hk (kindsX hkind _) fun env' he s' x => ?_
  subst he
  refine ⟨(T.nolimit.keeps F.keep).keeps x.toInCall.keep, codeAny_func ?_⟩
  obtain ⟨h₁, tk, rfl, _⟩ := x.done
  have hk₁ := x.toInCall.keep
  obtain ⟨cells, NC, Y⟩ := Cl.news (h₀ := s.heap) (Nat.le_refl _) fun n c hm => ⟨x.cell n c (lookup_of_mem_nodup (cellsFrom_names scope.names 0 (s.heap.objs.size + 1) [] [] rfl ▸ hnd) hm), x.above n c hm⟩
  exact wpAny_mono (h s.heap.objs.size h₁ tk cells FG ⟨x.toInCall.ns, fun b o e => hk₁ b o e, Nat.le_refl _⟩ NC Y BG Xs (T.keeps F.keep)) (fun fl s' hl => lv _ _ hl) fun _ _ y => y
end
theorem News.stays {h₀ h h' : Heap} {L : Addr} {news : List (Addr × Obj)} (N : News h₀ L h news) (k : h.StaysIn h') : News h₀ L h' news := fun p hp => ⟨k _ _ (N p hp).1, (N p hp).2⟩
theorem News.push1 {h₀ h h' : Heap} {L : Addr} {m : Str → Option Value} {news : List (Addr × Obj)} {a : Addr} {o : Obj} (F : Fr h₀ L h m) (N : News h₀ L h news) (k : h.StaysIn h') (ha : h'.get? a = some o) (hn : h.get? a = none) : News h₀ L h' ((a, o) :: news) := by
  intro p hp
  rcases List.mem_cons.mp hp with rfl | hp
  · refine ⟨ha, fun e => ?_, ?_⟩
    · obtain ⟨oL, _, _, hL, _⟩ := F.ns
      have e' : a = L := e
      rw [e', hL] at hn; cases hn
    · cases q : h₀.get? a with
      | none => rfl
      | some o' => have := F.keep _ _ q; rw [hn] at this; cases this
  · exact News.stays N k p hp
end Mine
end PartEnter

section PartDefs
open PySem PySem.W PySem.Calls PyProof.Rows
set_option maxRecDepth 100000
namespace Mine
def signs : List Nat := [48, 49, 50, 51, 52, 53, 54, 55, 56, 57, 40, 41, 91, 93, 44, 39, 47, 42, 97, 98, 99, 100, 101, 102, 103, 104, 64, 58, 36, 37, 123, 125, 73, 74, 75, 76, 77, 78, 79, 80, 81, 82, 83, 84, 85, 86, 87, 88, 89, 90, 38, 43, 45, 46, 59, 60, 61, 62, 63, 33, 94, 95, 124, 126, 105, 106, 107, 108, 109, 110, 111, 112, 113, 114, 115, 116, 117, 118, 119, 120, 121, 122, 65, 66, 67, 68, 69, 70, 71, 72, 96, 35, 34, 92, 32]
def chk : List Nat := [113, 112, 122, 114, 121, 57, 120, 56, 103, 102, 50, 116, 118, 100, 119, 48, 115, 51, 106, 110, 53, 52, 107, 104, 99, 101, 54, 109, 117, 97, 55, 108]
def sg (p : Nat) : Nat := signs.getD p 0
def ck (p : Nat) : Nat := chk.getD p 0
abbrev SGT : Str := Str.ofString "0123456789()[],'/*abcdefgh@:$%{}IJKLMNOPQRSTUVWXYZ&+-.;<=>?!^_|~ijklmnopqrstuvwxyzABCDEFGH`#\"\\ "
abbrev CKT : Str := Str.ofString "qpzry9x8gf2tvdw0s3jn54khce6mua7l"
def tx (ps : List Nat) : Str := ⟨(ps.map sg).toArray⟩
def cx (ps : List Nat) : Str := ⟨(ps.map ck).toArray⟩
theorem sgt_eq : SGT = ⟨signs.toArray⟩ := by decide +kernel
theorem ckt_eq : CKT = ⟨chk.toArray⟩ := by decide +kernel
theorem signs_nodup : signs.Nodup := by decide +kernel
theorem signs_at {p : Nat} (h : p < 95) : signs[p]? = some (sg p) := by
  have hl : signs.length = 95 := by decide +kernel
  unfold sg
  rw [List.getD_eq_getElem?_getD, List.getElem?_eq_getElem (by omega)]
  rfl
theorem find_sg {p : Nat} (h : p < 95) : Txt.find SGT ⟨#[sg p]⟩ = (p : Int) := by
  rw [sgt_eq]
  have hl : signs.length = 95 := by decide +kernel
  have hp := signs_at h
  rcases find_whole ⟨signs.toArray⟩ ⟨#[sg p]⟩ with ⟨_, hn⟩ | ⟨i, he, hi, _⟩
  · exact absurd ((StrLaws.subAt_one ⟨signs.toArray⟩ (sg p) p).mpr hp) (hn p)
  · have h1 : signs[i]? = some (sg p) := (StrLaws.subAt_one ⟨signs.toArray⟩ (sg p) i).mp hi
    have h2 : p = i := (List.getElem?_inj (i := p) (j := i) (by omega) signs_nodup).mp (hp.trans h1.symm)
    rw [he, ← h2]
theorem item_ck_all : (List.range 32).all (fun p => Txt.item ⟨chk.toArray⟩ (p : Int) == ⟨#[ck p]⟩) = true := by decide +kernel
theorem item_ck {p : Nat} (h : p < 32) : Txt.item CKT (p : Int) = ⟨#[ck p]⟩ := by
  rw [ckt_eq]
  exact eq_of_beq (List.all_eq_true.mp item_ck_all p (List.mem_range.mpr h))
theorem item_sg_all : (List.range 95).all (fun p => Txt.item ⟨signs.toArray⟩ (p : Int) == ⟨#[sg p]⟩) = true := by decide +kernel
theorem item_sg {p : Nat} (h : p < 95) : Txt.item SGT (p : Int) = ⟨#[sg p]⟩ := by
  rw [sgt_eq]
  exact eq_of_beq (List.all_eq_true.mp item_sg_all p (List.mem_range.mpr h))
theorem join_one {α : Type} (f : α → Nat) : ∀ (l : List α), Txt.join (Str.ofString "") (l.map fun a => (⟨#[f a]⟩ : Str)) = ⟨(l.map f).toArray⟩ := by
  have key : ∀ (l : List α) (acc : Array Nat), (l.map fun a => (⟨#[f a]⟩ : Str)).foldl (fun acc p => acc ++ (Str.ofString "").cps ++ p.cps) acc = acc ++ (l.map f).toArray := by
    intro l
    induction l with
    | nil => intro acc; simp
    | cons a r ih =>
      intro acc
      rw [List.map_cons, List.foldl_cons, ih, show (Str.ofString "").cps = #[] from by decide]
      simp
  intro l
  show Builtin.Str.glued (Str.ofString "") _ = _
  unfold Builtin.Str.glued
  cases l with
  | nil => rfl
  | cons a r =>
    rw [List.map_cons, List.drop_succ_cons, List.drop_zero, key, List.headD_cons]
    simp
theorem tx_codes (ps : List Nat) : KStt.codes (tx ps) = ps.map fun p => ((sg p : Nat) : Int) := by
  unfold KStt.codes tx
  simp [List.map_map, Function.comp_def]
theorem tx_length (ps : List Nat) : (tx ps).length = ps.length := by
  unfold tx Str.length
  simp
theorem tx_append (a b : List Nat) : tx (a ++ b) = tx a ++ tx b := by
  refine Str.ext' (Array.toList_inj.mp ?_)
  rw [Str.cps_append, Array.toList_append]
  simp [tx]
-- the walk's state: the remainder, the classes, their number
def stp (st : Nat × Nat × Nat) (p : Nat) : Nat × Nat × Nat :=
  if st.2.2 + 1 = 3 then (pm (pm st.1 (p &&& 31)) (st.2.1 * 3 + p >>> 5), 0, 0) else (pm st.1 (p &&& 31), st.2.1 * 3 + p >>> 5, st.2.2 + 1)
def run (ps : List Nat) : Nat × Nat × Nat := ps.foldl stp (1, 0, 0)
def pm0 (c : Nat) : Nat := pm c 0
def fin8 (c : Nat) : Nat := pm0 (pm0 (pm0 (pm0 (pm0 (pm0 (pm0 (pm0 c))))))) ^^^ 1
def finC (st : Nat × Nat × Nat) : Nat := fin8 (if 0 < st.2.2 then pm st.1 st.2.1 else st.1)
def lets (c : Nat) : List Nat := (List.range 8).map fun j => (c >>> (5 * (7 - j))) &&& 31
def told (ps : List Nat) : Str := cx (lets (finC (run ps)))
theorem run_snoc (ps : List Nat) (p : Nat) : run (ps ++ [p]) = stp (run ps) p := by unfold run; rw [List.foldl_append]; rfl
end Mine
end PartDefs

section PartChk
open PySem PySem.W PySem.Calls PyProof.Rows
set_option maxRecDepth 100000
namespace Mine
local macro_rules | `(tactic| walk_at $s:str) => `(tactic| k_extra $s)
theorem polyU {w : World} {mean mg mb} {news : List (Addr × Obj)} {c v : Int} {t1 t2 : Tok} {dp un : Nat} {gd : Option (List Code)} {cn : Str} {cs : Scope} {a : Addr} {ccd : Value} {cl : List (Str × Addr)} {outer : List Env} {A₀ : Around} {base h₀ : Heap} {L : Addr} {m : Str → Option Value} {s : Shared} {Q E : Value → Shared → Prop}
    (B : Below A₀ base outer h₀) (F : Fr h₀ L s.heap m) (X : (hd.heap_39 w.params).In h₀) (N : News h₀ L s.heap news) (T : Top hd.view_39 (looseW hd.view_39 [Str.ofString "_law_generator"]) mean mg mb h₀) (hk : cs.kind = .function)
    (h1 : 0 ≤ c) (h2 : 0 ≤ v) (hd' : dp + 5 < recursionLimit) (hu : un + 40 < cLine) (ret : ∀ (t : Tok) (h' : Heap) (tk' : Nat), Fr h₀ L h' m → News h₀ L h' news → Q (.int ((pm c.toNat v.toNat : Nat) : Int) t) { s with heap := h', toks := tk' }) :
      wpAny (model PySem.Challenge.rw_kk0012_01.row.prog w) (ktrTop dp un gd cn cs L a ccd cl outer) (call (.ref 46) [.int c t1, .int v t2]) Q E s := by
  obtain ⟨c', rfl⟩ := Int.eq_ofNat_of_zero_le h1
  obtain ⟨v', rfl⟩ := Int.eq_ofNat_of_zero_le h2
  exact poly news c' v' t1 t2 dp un gd cn cs a ccd cl outer A₀ base h₀ L m s Q E B F X N T hk trivial hd' hu ret
theorem nn_mask (x : Int) : 0 ≤ Builtin.bitAnd x 31 := (bitAnd_range x (by decide)).1
theorem nn_cls (a p : Nat) : 0 ≤ (a : Int) * 3 + ((p : Nat) : Int).fdiv (2 ^ Int.toNat 5) := Int.add_nonneg (Int.mul_nonneg (Int.natCast_nonneg _) (by decide)) (Int.fdiv_nonneg (Int.natCast_nonneg _) (by decide))
abbrev RStr0 (r : Str) (h₀ : Heap) (L : Addr) (m : Str → Option Value) (s : Shared) (Q : Value → Shared → Prop) : Prop :=
  ∀ (t : Tok) (h' : Heap) (tk' : Nat), s.heap.StaysIn h' → Fr h₀ L h' m → Q (.str r t) { s with heap := h', toks := tk' }
theorem str_ret {h₀ h' : Heap} {L L' : Addr} {m m' : Str → Option Value} {s : Shared} {Q : Value → Shared → Prop} {x y : Str} {t : Tok} {tk' : Nat} (hret : RStr0 x h₀ L m s Q) (e : y = x) (F' : Fr s.heap L' h' m') (F : Fr h₀ L h' m) : Q (.str y t) { s with heap := h', toks := tk' } := by
  subst e
  exact hret t h' tk' F'.keep F
theorem and31 (n : Nat) : n &&& 31 < 32 := Nat.lt_of_le_of_lt Nat.and_le_right (by decide)
theorem letterAt (C : Nat) (a : Int) : Txt.item CKT (Builtin.bitAnd ((C : Int).fdiv (2 ^ (5 * (7 - a)).toNat)) 31) = ⟨#[ck ((C >>> (5 * (7 - a)).toNat) &&& 31)]⟩ := by
  have e4 : Builtin.bitAnd ((C >>> (5 * (7 - a)).toNat : Nat) : Int) 31 = (((C >>> (5 * (7 - a)).toNat) &&& 31 : Nat) : Int) := natAnd _ 31
  rw [natShr, e4, item_ck (and31 _)]
theorem joinLets {C : Int} {c : Nat} (hC : C = (c : Int)) : Txt.join (Str.ofString "") ((rangeKs 0 (8 - 0 : Int).toNat).map fun a => if (Txt.item CKT (Builtin.bitAnd (C.fdiv (2 ^ (5 * (7 - a)).toNat)) 31)).length = 1 then Txt.item CKT (Builtin.bitAnd (C.fdiv (2 ^ (5 * (7 - a)).toNat)) 31) else Str.empty) = cx (lets c) := by
  subst hC
  have e : (fun a : Int => if (Txt.item CKT (Builtin.bitAnd ((c : Int).fdiv (2 ^ (5 * (7 - a)).toNat)) 31)).length = 1 then Txt.item CKT (Builtin.bitAnd ((c : Int).fdiv (2 ^ (5 * (7 - a)).toNat)) 31) else Str.empty) =
      fun a : Int => (⟨#[ck ((c >>> (5 * (7 - a)).toNat) &&& 31)]⟩ : Str) := by
    funext a
    rw [letterAt]
    exact if_pos rfl
  rw [e, join_one]
  rfl
theorem finC_t {st : Nat × Nat × Nat} (h : 0 < st.2.2) : Builtin.bitXor ((pm0 (pm0 (pm0 (pm0 (pm0 (pm0 (pm0 (pm0 (pm st.1 st.2.1)))))))) : Nat) : Int) 1 = ((finC st : Nat) : Int) := by
  unfold finC
  rw [if_pos h]
  exact natXor _ 1
theorem finC_f {st : Nat × Nat × Nat} (h : ¬ 0 < st.2.2) : Builtin.bitXor ((pm0 (pm0 (pm0 (pm0 (pm0 (pm0 (pm0 (pm0 st.1))))))) : Nat) : Int) 1 = ((finC st : Nat) : Int) := by
  unfold finC
  rw [if_neg h]
  exact natXor _ 1
structure CS where
  c : Nat
  cls : Int
  n : Int
  t1 : Tok
  t2 : Tok
  t3 : Tok
  o : Obj
abbrev csFacts (σ : CS) : Prop := σ.o.data = .cell (some (.int (σ.c : Int) σ.t1))
abbrev csPs (σ : CS) : List (Str × Value) := [(Str.ofString "cls", .int σ.cls σ.t2), (Str.ofString "clscount", .int σ.n σ.t3)]
def SInv (ps : List Nat) (pre : List Int) (σ : CS) : Prop := σ.c = (run (ps.take pre.length)).1 ∧ σ.cls = ((run (ps.take pre.length)).2.1 : Nat) ∧ σ.n = ((run (ps.take pre.length)).2.2 : Nat)
theorem sInv_t {ps : List Nat} {k p : Nat} {pre : List Int} {σ : CS} (hp : ps[pre.length]? = some p) (hk : (((run (ps.take pre.length)).2.2 : Nat) : Int) + 1 = 3)
    (h1 : σ.c = pm (pm (((run (ps.take pre.length)).1 : Nat) : Int).toNat (Builtin.bitAnd (p : Int) 31).toNat) ((((run (ps.take pre.length)).2.1 : Nat) : Int) * 3 + ((p : Nat) : Int).fdiv (2 ^ Int.toNat 5)).toNat) (h2 : σ.cls = 0) (h3 : σ.n = 0) : SInv ps (pre ++ [(k : Int)]) σ := by
  have e : (pre ++ [(k : Int)]).length = pre.length + 1 := by simp
  have e2 : ps.take (pre.length + 1) = ps.take pre.length ++ [p] := by simp [List.take_add_one, hp]
  unfold SInv
  rw [e, e2, run_snoc]
  generalize run (ps.take pre.length) = st at *
  obtain ⟨a, b, c⟩ := st
  have hc : c + 1 = 3 := by dsimp only at hk; omega
  unfold stp
  dsimp only at *
  rw [if_pos hc]
  have e3 : (p : Int).fdiv (2 ^ Int.toNat 5) = ((p >>> 5 : Nat) : Int) := natShr p 5
  have e4 : Builtin.bitAnd (p : Int) 31 = ((p &&& 31 : Nat) : Int) := natAnd p 31
  have e5 : (b : Int) * (3 : Int) + ((p >>> 5 : Nat) : Int) = ((b * 3 + p >>> 5 : Nat) : Int) := by push_cast; rfl
  rw [h1, h2, h3, e3, e4, e5]
  exact ⟨rfl, rfl, rfl⟩
theorem sInv_f {ps : List Nat} {k p : Nat} {pre : List Int} {σ : CS} (hp : ps[pre.length]? = some p) (hk : ¬ (((run (ps.take pre.length)).2.2 : Nat) : Int) + 1 = 3)
    (h1 : σ.c = pm (((run (ps.take pre.length)).1 : Nat) : Int).toNat (Builtin.bitAnd (p : Int) 31).toNat) (h2 : σ.cls = (((run (ps.take pre.length)).2.1 : Nat) : Int) * 3 + ((p : Nat) : Int).fdiv (2 ^ Int.toNat 5)) (h3 : σ.n = (((run (ps.take pre.length)).2.2 : Nat) : Int) + 1) : SInv ps (pre ++ [(k : Int)]) σ := by
  have e : (pre ++ [(k : Int)]).length = pre.length + 1 := by simp
  have e2 : ps.take (pre.length + 1) = ps.take pre.length ++ [p] := by simp [List.take_add_one, hp]
  unfold SInv
  rw [e, e2, run_snoc]
  generalize run (ps.take pre.length) = st at *
  obtain ⟨a, b, c⟩ := st
  have hc : ¬ c + 1 = 3 := by dsimp only at hk; omega
  unfold stp
  dsimp only at *
  rw [if_neg hc]
  have e3 : (p : Int).fdiv (2 ^ Int.toNat 5) = ((p >>> 5 : Nat) : Int) := natShr p 5
  have e4 : Builtin.bitAnd (p : Int) 31 = ((p &&& 31 : Nat) : Int) := natAnd p 31
  have e5 : (b : Int) * (3 : Int) + ((p >>> 5 : Nat) : Int) = ((b * 3 + p >>> 5 : Nat) : Int) := by push_cast; rfl
  rw [h1, h2, h3, e3, e4, e5]
  exact ⟨rfl, rfl, rfl⟩
theorem Fr.congr {h₀ h : Heap} {L : Addr} {m m' : Str → Option Value} (F : Fr h₀ L h m) (e : ∀ y, m y = m' y) : Fr h₀ L h m' := by rw [show m' = m from funext fun y => (e y).symm]; exact F
theorem turnOf {ps : List Nat} {pre post : List Int} {n : Nat} (h : KStt.codes (tx ps) = pre ++ (n : Int) :: post) : ∃ p, ps[pre.length]? = some p ∧ p ∈ ps ∧ n = sg p := by
  rw [tx_codes] at h
  have h2 := congrArg (fun l => l[pre.length]?) h
  simp only [List.getElem?_map, List.getElem?_append_right (Nat.le_refl _), Nat.sub_self, List.getElem?_cons_zero, Option.map_eq_some_iff] at h2
  obtain ⟨p, hp, e⟩ := h2
  exact ⟨p, hp, List.mem_of_getElem? hp, (Int.natCast_inj.mp e).symm⟩
theorem mask_lo (x : Int) (n : Nat) : -((n : Nat) : Int) ≤ Builtin.bitAnd x 31 := by have h := (bitAnd_range x (y := 31) (by decide)).1; omega
theorem mask_hi (x : Int) : Builtin.bitAnd x 31 < ((32 : Nat) : Int) := by have h := (bitAnd_range x (y := 31) (by decide)).2; omega
set_option maxHeartbeats 8000000 in
theorem chkC {w : World} {mean mg mb} (ps : List Nat) (hps : ∀ p ∈ ps, p < 95) (t2 : Tok) : 
  ∀ (dp un : Nat) (gd : Option (List Code)) (cn : Str) (cs : Scope) (a : Addr) (ccd : Value) (cl : List (Str × Addr)) (outer : List Env) (A₀ : Around) (base h₀ : Heap) (L : Addr) (m : Str → Option Value) (s : Shared) (Q E : Value → Shared → Prop),
    Below A₀ base outer h₀ → Fr h₀ L s.heap m → (hd.heap_39 w.params).In h₀ → Top hd.view_39 (looseW hd.view_39 [Str.ofString "_law_generator"]) mean mg mb h₀ → cs.kind = .function →
    (tx ps).length < 1000 → dp + 15 < recursionLimit → un + 80 < cLine → RStr0 (told ps) h₀ L m s Q →
      wpAny (model PySem.Challenge.rw_kk0012_01.row.prog w) (ktrTop dp un gd cn cs L a ccd cl outer) (call (.ref 51) [.str (tx ps) t2]) Q E s := by
  w_top off
  k_with_none
  k_with "call ref" => (k_here; k_dflt (refine polyU (by first | (with_reducible (k_asm)) | (k_asm)) (by first | (with_reducible (k_asm)) | (k_asm)) (by first | (with_reducible (k_asm)) | (k_asm)) (by first | (with_reducible (k_asm)) | (k_asm)) (by first | (with_reducible (k_asm)) | (k_asm)) (by first | (with_reducible (first | exact rfl | assumption)) | (first | exact rfl | assumption)) (by first | (with_reducible (exact Int.natCast_nonneg _)) | (exact Int.natCast_nonneg _)) (by first | (with_reducible (first | exact nn_mask _ | exact nn_cls _ _ | exact Int.natCast_nonneg _ | decide)) | (first | exact nn_mask _ | exact nn_cls _ _ | exact Int.natCast_nonneg _ | decide)) (by first | (with_reducible (ktr_room)) | (ktr_room)) (by first | (with_reducible (ktr_units)) | (ktr_units)) ?_); intro t9 h9 tk9 F9 N9; (try dsimp only); (try k_fold))
  k_with "InvEndN" => ((rename News _ _ _ _ => nE'); (refine kst_end (σ := CS) ⟨_, _, _, _, _, _, _⟩ (by assumption) nE' (by first | kst_in | kst_inAny) (by first | (intro p hp; kst_mem) | kst_anyIn) (by rfl) (by assumption) (by kst_all) (by kst_same) (by first | exact sInv_t (by assumption) (by assumption) rfl rfl rfl | exact sInv_f (by assumption) (by assumption) rfl rfl rfl)))
  k_with "call builtin:str.find" => ((refine KXw.find (by assumption) ?_); intro _ _)
  k_with "exec Raise some none" => (exfalso; omega)
  k_with "subscriptTail" => (k_here; (with_reducible show wpAny _ _ (subscriptTail _ _ (Value.str _ _) (Value.int (Builtin.bitAnd _ 31) _)) _ _ _); (refine KXi.item (n := 32) (by decide +kernel) (mask_lo _ _) (mask_hi _) (by decide) ?_); intro kxiE)
  k_with "CompSrc" => (k_here; k_dflt (refine LCg.CompSrc.range (by rfl) (by k_asm) (by k_asm) (by assumption) (by decide) (by first | exact rangeSize_nat _ _ | rfl) (by exact Nat.le_of_ble_eq_true rfl) ?_; intro g'; (refine' kct_range _ (fun k' t' I' oI' C' oC' D' m' ys' h' tk' E' hlo' hhi' hC' hx' F' N' off' ne' => ?_) ?_); (all_goals (try (simp only [LCg.Off3, and_true] at off'))); (all_goals (try ((show KPfMark → _); intro hMark'))); kcf_last))
  k_fill
  intro dp un gd cn cs a ccd cl outer A₀ base h₀ L m s Q E B F X T hk hp hd' hu hret
  refine wpAny_call ?_
  k_dflt (refine' enter0C ?k1 ?k2 ?k3 ?k5 ?kA ?kF ?kK ?k6 ?k7 ?k8 ?k9 ?kB ?kD ?_ ?c2 ?c3 ?c4)
  (case kA => exact rfl); (case kF => exact rfl); (case kK => assumption); (case k1 => k_asm); (case k2 => k_asm); (case k3 => k_asm); (case k5 => k_asm); (case k6 => k_is); (case k7 => k_is); (case k8 => ktr_room); (case k9 => exact BindsTo.of_eq rfl); (case kB => exact rfl); (case kD => decide +kernel); (case c2 => exact rfl); (case c3 => exact rfl); (case c4 => exact rfl)
  intro L' h' tk' cells' FG' F' N' Y' B' X' T'
  k_cells Y'
  rename_i o1 o2 d1 d2
  replace d1 : o1.data = .cell none := d1
  replace d2 : o2.data = .cell none := d2
  dsimp only
  (try k_fold)
  (k_with "pyIter str" => fail)
  k_steps
  with_unfolding_all refine' KStt.kst_text (fun (σ : CS) => [(_, σ.o), (_, _)]) csPs csFacts [Str.ofString "pos"] (SInv ps) ⟨1, 0, 0, _, _, _, _⟩ (by rfl) ?kF ?kN ?kf ?kk ?kp ?_ ?_
  case kF => assumption
  case kN => with_unfolding_all assumption
  case kf => with_unfolding_all assumption
  case kk => kst_all
  case kp => exact ⟨rfl, rfl, rfl⟩
  · intro σ pre post n t u h tk own e hoff hf hp' F1 N1
    obtain ⟨c, cls, n, t1, t2, t3, o⟩ := σ
    dsimp only [kstB, csPs] at F1
    dsimp only [List.cons_append, List.nil_append] at N1
    simp only [List.map_cons, List.map_nil] at hoff
    dsimp only [csFacts] at hf
    obtain ⟨h1, h2, h3⟩ := hp'
    dsimp only at h1 h2 h3
    subst h1 h2 h3
    obtain ⟨p, hpp, hpm, rfl⟩ := turnOf e
    have hfind := find_sg (hps p hpm)
    clear e
    (try k_fold)
    k_steps
  · intro σ u h tk hf hp' F1 N1
    obtain ⟨c, cls, n, t1, t2, t3, o⟩ := σ
    dsimp only [kstB, csPs] at F1
    dsimp only [csFacts] at hf
    obtain ⟨h1, h2, h3⟩ := hp'
    dsimp only at h1 h2 h3
    rw [KStt.codes_length, tx_length, List.take_length] at h1 h2 h3
    subst h1 h2 h3
    (try k_fold)
    k_steps
    · exact str_ret hret (joinLets (finC_t (st := run ps) (by omega))) (by assumption) (by assumption)
    · exact str_ret hret (joinLets (finC_f (st := run ps) (by omega))) (by assumption) (by assumption)
end Mine
end PartChk

section PartRows
open PySem PySem.W PySem.Calls PyProof.Rows
set_option maxRecDepth 100000
namespace Mine
local macro_rules | `(tactic| walk_at $s:str) => `(tactic| k_extra $s)
def dbl (x : Int) : Int := if x < 16 then 2 * x else Builtin.bitXor (2 * x) 41
theorem dbl_t {x : Int} (h : x < 16) : dbl x = 2 * x := if_pos h
theorem dbl_f {x : Int} (h : ¬ x < 16) : dbl x = Builtin.bitXor (2 * x) 41 := if_neg h
theorem sz8 {vs : List Value} (h : vs.length = 8) : vs.toArray.size ≤ sizeLine := by rw [List.size_toArray, h]; decide
def gen0 : List Int := [30, 23, 15, 14, 10, 6, 12, 9]
def rowN : Nat → List Int
  | 0 => gen0
  | k + 1 => (rowN k).map dbl
abbrev five (R D1 D2 D3 D4 : Addr) (y1 y2 y3 y4 : List Value) (n : Nat) : List (Addr × Obj) :=
  [(D4, LCg.lst y4), (D3, LCg.lst y3), (D2, LCg.lst y2), (D1, LCg.lst y1), (R, W.listOf #[Value.ref 59, Value.ref D1, Value.ref D2, Value.ref D3, Value.ref D4] n)]
abbrev RRows (h₀ : Heap) (L : Addr) (m : Str → Option Value) (s : Shared) (Q : Value → Shared → Prop) : Prop :=
  ∀ (R D1 D2 D3 D4 : Addr) (y1 y2 y3 y4 : List Value) (n : Nat) (h' : Heap) (tk' : Nat), s.heap.StaysIn h' → Fr h₀ L h' m → (∀ p ∈ five R D1 D2 D3 D4 y1 y2 y3 y4 n, h'.get? p.1 = some p.2 ∧ s.heap.get? p.1 = none) →
    IntsAre y1 (rowN 1) → IntsAre y2 (rowN 2) → IntsAre y3 (rowN 3) → IntsAre y4 (rowN 4) → Q (.ref R) { s with heap := h', toks := tk' }
theorem rows_ret {h₀ h' : Heap} {L L' : Addr} {m m' : Str → Option Value} {s : Shared} {Q : Value → Shared → Prop} {tk' : Nat} {R D1 D2 D3 D4 : Addr} {y1 y2 y3 y4 : List Value} {n : Nat} (hret : RRows h₀ L m s Q) (F' : Fr s.heap L' h' m') (F : Fr h₀ L h' m)
    (N' : News s.heap L' h' (five R D1 D2 D3 D4 y1 y2 y3 y4 n)) (i1 : IntsAre y1 (rowN 1)) (i2 : IntsAre y2 (rowN 2)) (i3 : IntsAre y3 (rowN 3)) (i4 : IntsAre y4 (rowN 4)) : Q (.ref R) { s with heap := h', toks := tk' } :=
  hret R D1 D2 D3 D4 y1 y2 y3 y4 n h' tk' F'.keep F (fun p hp => ⟨(N' p hp).1, (N' p hp).2.2⟩) i1 i2 i3 i4
set_option maxHeartbeats 8000000 in
theorem rowsC {w : World} {mean mg mb} : 
  ∀ (dp un : Nat) (gd : Option (List Code)) (cn : Str) (cs : Scope) (a : Addr) (ccd : Value) (cl : List (Str × Addr)) (outer : List Env) (A₀ : Around) (base h₀ : Heap) (L : Addr) (m : Str → Option Value) (s : Shared) (Q E : Value → Shared → Prop),
    Below A₀ base outer h₀ → Fr h₀ L s.heap m → (hd.heap_39 w.params).In h₀ → Top hd.view_39 (looseW hd.view_39 [Str.ofString "_law_generator"]) mean mg mb h₀ → cs.kind = .function →
    dp + 15 < recursionLimit → un + 80 < cLine → RRows h₀ L m s Q →
      wpAny (model PySem.Challenge.rw_kk0012_01.row.prog w) (ktrTop dp un gd cn cs L a ccd cl outer) (call (.ref 71) []) Q E s := by
  w_top off
  k_with_none
  k_with "eval ListComp" => (k_here; k_dflt (refine LCg.ListComp_U (F₀ := by k_asm) (by with_unfolding_all rfl) (by decide) (by rfl) (by decide) (by rfl) ?_))
  k_with "CompSrc" => (k_here; k_dflt (first | (refine LCg.CompSrc.base (by rfl) (by k_asm) (by k_asm) (by assumption) (by exact sz8 (by assumption)) ?_; intro g'; (refine' kcf_list dbl (by assumption) (fun k' t' I' oI' C' oC' D' m' ys' h' tk' E' hk' hC' hx' F' N' off' ne' hMark' => ?_) ?_); (all_goals (try (simp only [LCg.Off3, and_true] at off')))) | (refine LCg.CompSrc.ledger (by rfl) (by k_asm) (by k_asm) (by k_mem) (by kcf_size) ?_; intro g'; (refine' kcf_list dbl (by first | assumption | l_ints) (fun k' t' I' oI' C' oC' D' m' ys' h' tk' E' hk' hC' hx' F' N' off' ne' hMark' => ?_) ?_); (all_goals (try (simp only [LCg.Off3, and_true] at off'))))))
  k_with "KCfEl" => ((refine kcf_el (by first | (with_reducible (first | exact dbl_t (by assumption) | exact dbl_f (by assumption))) | (first | exact dbl_t (by assumption) | exact dbl_f (by assumption))) (by with_unfolding_all rfl) (by with_unfolding_all rfl)))
  k_fill
  intro dp un gd cn cs a ccd cl outer A₀ base h₀ L m s Q E B F X T hk hd' hu hret
  refine wpAny_call ?_
  k_dflt (refine' enter0 ?k1 ?k2 ?k3 ?k5 ?kA ?kF ?kK ?k6 ?k7 ?k8 ?k9 ?kB ?_ ?c2 ?c3 ?c4 ?c5)
  (case kA => exact rfl); (case kF => exact rfl); (case kK => assumption); (case k1 => k_asm); (case k2 => k_asm); (case k3 => k_asm); (case k5 => k_asm); (case k6 => k_is); (case k7 => k_is); (case k8 => ktr_room); (case k9 => exact BindsTo.of_eq rfl); (case c5 => decide); (case kB => exact locs rfl); (case c2 => exact rfl); (case c3 => exact rfl); (case c4 => exact rfl)
  intro L' h' FG' F' N' B' X' T'
  dsimp only
  (try k_fold)
  obtain ⟨vsG, hG, hIG, hLG⟩ : ∃ vs, s.heap.IsList 59 (List.toArray vs) ∧ IntsAre vs gen0 ∧ vs.length = 8 := ⟨_, ⟨_, X' 59 _ (by k_is), rfl, _, rfl⟩, (by repeat constructor), rfl⟩
  k_steps

  exact rows_ret hret (by assumption) (by assumption) (by assumption) (by assumption) (by assumption) (by assumption) (by assumption)
end Mine
end PartRows

section PartLoops
open PySem PySem.W PySem.Calls PyProof.Rows PySem.Spec PyProof.V
set_option maxRecDepth 100000
namespace Mine
def AnyEnd (h₀ : Heap) (L : Addr) (J : (Str → Option Value) → List (Addr × Obj) → Prop) (I : Addr) (oI : Obj) (s₁ s₂ : Shared) : Prop :=
  ∃ h' tk m' news' nx, s₂ = { s₁ with heap := h', toks := tk } ∧ Fr h₀ L h' m' ∧ News h₀ L h' news' ∧ (∀ p ∈ nx, p ∈ news') ∧ (I, oI) ∈ news' ∧ (∀ p ∈ nx, p.1 ≠ I) ∧ J m' nx
def AnyPost (h₀ : Heap) (L : Addr) (J : (Str → Option Value) → List (Addr × Obj) → Prop) (I : Addr) (oI : Obj) (s₁ : Shared) (Q : Flow → Shared → Prop) (f : Flow) (s₂ : Shared) : Prop :=
  match f with
  | .ret v => Q (.ret v) s₂
  | .brk => Q .next s₂
  | _ => AnyEnd h₀ L J I oI s₁ s₂
section
variable {prog : Program} {w : World} {A : Around} {E : Value → Shared → Prop} {s : Shared} {env : Env} {h₀ : Heap} {x : Str} {body : List Stmt} {Q : Flow → Shared → Prop}
theorem loop_any {I : Addr} {fp : List Addr} {n : Nat} {P : Nat → Value → Prop} {St : Nat → Heap → Prop} {m₀ : Str → Option Value} {news : List (Addr × Obj)} (J : Nat → (Str → Option Value) → List (Addr × Obj) → Prop)
    (W : Walks prog w A I fp [I] n P St) (hLf : env.locals ∉ fp) (hI : h₀.get? I = none) (hIf : I ∈ fp) (hnw : ∀ p ∈ news, p.1 ≠ I) (hSt : ∀ i h, St i h → ∃ o, h.get? I = some o)
    (hfp : ∀ b ∈ fp, b ≠ I → ∃ o, ∀ i m nx, J i m nx → (b, o) ∈ nx) (hst : St 0 s.heap) (F : Fr h₀ env.locals s.heap m₀) (N : News h₀ env.locals s.heap news) (hj : J 0 m₀ news)
    (turn : ∀ i v m₁ news₁ h tk oI, i < n → P i v → (∀ p ∈ news₁, p.1 ≠ I) → J i m₁ news₁ → Fr h₀ env.locals h (fun y => if y = x then some v else m₁ y) → News h₀ env.locals h ((I, oI) :: news₁) →
      wpAny (model prog w) A (execs body env) (AnyPost h₀ env.locals (J (i + 1)) I oI { s with heap := h, toks := tk } Q) E { s with heap := h, toks := tk })
    (done : ∀ m₁ news₁ h tk, J n m₁ news₁ → Fr h₀ env.locals h m₁ → News h₀ env.locals h news₁ → Q .next { s with heap := h, toks := tk }) :
    LoopAtV prog w A h₀ env x body Q E (.ref I) s := by
  refine ⟨I, fp, [I], n, P, St, m₀, news, J, rfl, W, hLf, (fun b hb => by rw [List.mem_singleton.mp hb]; exact hI), (fun p hp hm => hnw p hp (List.mem_singleton.mp hm)), hst, F, N, hj, ?_, ?_⟩
  · rintro i v m₁ news₁ s₁ own ⟨hh', tk', rfl⟩ hin hP hJ hoff hown hget hall hst' F₁ N₁
    obtain ⟨oI, hoI⟩ := hSt _ _ hst'
    have hm : (I, oI) ∈ own := hall I hIf hI oI hoI
    have hoff' : ∀ p ∈ news₁, p.1 ≠ I := fun p hp e => hoff p hp (by rw [e]; exact List.mem_singleton.mpr rfl)
    have N₂ : News h₀ env.locals hh' ((I, oI) :: news₁) := fun p hp => by
      rcases List.mem_cons.mp hp with rfl | hp
      · exact N₁ _ (List.mem_append.mpr (.inl hm))
      · exact N₁ _ (List.mem_append.mpr (.inr hp))
    refine wpAny_mono (turn i v m₁ news₁ hh' tk' oI hin hP hoff' hJ F₁ N₂) (fun f s₂ p => ?_) fun _ _ e => e
    have fin : AnyEnd h₀ env.locals (J (i + 1)) I oI { s with heap := hh', toks := tk' } s₂ → LoopStepU h₀ env.locals [I] own (J (i + 1)) { s with heap := hh', toks := tk' } .next s₂ := by
      rintro ⟨h', tk, m', news', nx, e, F', N', hn, ho, ha, hj'⟩
      refine ⟨rfl, h', tk, m', nx, e, F', fun p hp => ?_, fun p hp hq => ha p hp (List.mem_singleton.mp hq), hj'⟩
      rcases List.mem_append.mp hp with hp | hp
      · by_cases hpI : p.1 = I
        · have h1 := hget p hp
          have h2 : hh'.get? I = some oI := hget _ hm
          rw [hpI, h2] at h1
          have h3 : p = (I, oI) := Prod.ext hpI (Option.some.inj h1).symm
          rw [h3]
          exact N' _ ho
        · obtain ⟨o, hfo⟩ := hfp p.1 (hown p hp) hpI
          have h1 := hget p hp
          have h2 : hh'.get? p.1 = some o := (N₁ (p.1, o) (List.mem_append.mpr (.inr (hfo _ _ _ hJ)))).1
          have h1' : hh'.get? p.1 = some p.2 := h1
          rw [h2] at h1'
          have h3 : p = (p.1, o) := Prod.ext rfl (Option.some.inj h1').symm
          rw [h3]
          exact N' _ (hn _ (hfo _ _ _ hj'))
      · exact N' p (hn p hp)
    cases f with
    | ret v => exact .ret p
    | brk => exact .brk p
    | next => exact .next (fin p)
    | cont => exact .cont (fin p)
  · intro h' tk m' news' F' N' _ hJ
    exact done m' news' h' tk hJ F' N'

theorem iterL_any {l : Addr} {vs : List Value} {ns : List Int} {nn : Nat} {m₀ : Str → Option Value} {news : List (Addr × Obj)} (J : Nat → (Str → Option Value) → List (Addr × Obj) → Prop)
    (hh : A.handled = none) (hi : IntsAre vs ns) (F : Fr h₀ env.locals s.heap m₀) (N : News h₀ env.locals s.heap news) (hl : ∀ i m nx, J i m nx → (l, listOf vs.toArray nn) ∈ nx) (hj : J 0 m₀ news)
    (turn : ∀ i n t m₁ news₁ h tk I oI, ns[i]? = some n → (∀ p ∈ news₁, p.1 ≠ I) → J i m₁ news₁ → Fr h₀ env.locals h (fun y => if y = x then some (.int n t) else m₁ y) → News h₀ env.locals h ((I, oI) :: news₁) →
      wpAny (model prog w) A (execs body env) (AnyPost h₀ env.locals (J (i + 1)) I oI { s with heap := h, toks := tk } Q) E { s with heap := h, toks := tk })
    (done : ∀ m₁ news₁ h tk, J ns.length m₁ news₁ → Fr h₀ env.locals h m₁ → News h₀ env.locals h news₁ → Q .next { s with heap := h, toks := tk }) :
    wpAny (model prog w) A (pyIter (.ref l)) (fun it s₂ => LoopAtV prog w A h₀ env x body Q E it s₂) E s := by
  have hl0 := hl _ _ _ hj
  have hol : s.heap.get? l = some (listOf vs.toArray nn) := (N _ hl0).1
  have hls : s.heap.IsList l vs.toArray := ⟨_, hol, rfl, nn, rfl⟩
  have hne : l ≠ s.heap.objs.size := Nat.ne_of_lt (Heap.lt_size hol)
  refine wpAny_pyIter_list hls ?_
  have W := Walks.list (prog := prog) (w := w) hh s.heap.objs.size l hne vs.toArray
  have hlen : vs.toArray.size = ns.length := by simp [hi.length]
  rw [hlen] at W
  refine loop_any J W ?_ (next_is_new F) (List.mem_cons_self) (fun p hp e => absurd (Heap.lt_size (N p hp).1) (by rw [e]; exact Nat.lt_irrefl _)) ?_ ?_ ⟨⟨_, Heap.get?_push_size _ rfl, rfl, rfl⟩, hls.at fun o e => Heap.get?_push_of_some _ e⟩ (F.push _) (fun p hp => ⟨Heap.get?_push_of_some _ (N p hp).1, (N p hp).2⟩) hj ?_ ?_
  · intro hm
    rcases List.mem_cons.mp hm with e | hm
    · exact absurd F.ns.lt (e ▸ Nat.lt_irrefl _)
    · exact (N _ hl0).2.1 ((List.mem_singleton.mp hm).symm)
  · rintro i h ⟨⟨o, ho, _⟩, _⟩
    exact ⟨o, ho⟩
  · intro b hb hbI
    rcases List.mem_cons.mp hb with e | hb
    · exact absurd e hbI
    · rw [List.mem_singleton.mp hb]
      exact ⟨_, hl⟩
  · intro i v m₁ news₁ h tk oI hin hP hoff hJ F₁ N₁
    obtain ⟨t, hx⟩ := hi.get i ns[i] (by simp [hin])
    have hv : v = .int ns[i] t := by
      have hP' : vs[i]? = some v := by simpa using hP
      rw [hx] at hP'; exact (Option.some.inj hP').symm
    subst hv
    exact turn i ns[i] t m₁ news₁ h tk _ oI (by simp [hin]) hoff hJ F₁ N₁
  · exact done

theorem iterR_any {r : Addr} {a₀ b₀ : Int} {t₀ u₀ v₀ : Tok} {n : Nat} {m₀ : Str → Option Value} {news : List (Addr × Obj)} (J : Nat → (Str → Option Value) → List (Addr × Obj) → Prop)
    (hh : A.handled = none) (hr : IsRange s.heap r a₀ b₀ 1 t₀ u₀ v₀) (hsmall : Builtin.Range.small a₀ b₀ 1 = true) (hn : Builtin.Range.rangeSize a₀ b₀ 1 = (n : Int)) (F : Fr h₀ env.locals s.heap m₀) (N : News h₀ env.locals s.heap news) (hj : J 0 m₀ news)
    (turn : ∀ i t m₁ news₁ h tk I oI, i < n → (∀ p ∈ news₁, p.1 ≠ I) → J i m₁ news₁ → Fr h₀ env.locals h (fun y => if y = x then some (.int (a₀ + (i : Int)) t) else m₁ y) → News h₀ env.locals h ((I, oI) :: news₁) →
      wpAny (model prog w) A (execs body env) (AnyPost h₀ env.locals (J (i + 1)) I oI { s with heap := h, toks := tk } Q) E { s with heap := h, toks := tk })
    (done : ∀ m₁ news₁ h tk, J n m₁ news₁ → Fr h₀ env.locals h m₁ → News h₀ env.locals h news₁ → Q .next { s with heap := h, toks := tk }) :
    wpAny (model prog w) A (pyIter (.ref r)) (fun it s₂ => LoopAtV prog w A h₀ env x body Q E it s₂) E s := by
  refine wpAny_pyIter_range hr hsmall ?_
  have W : Walks prog w A s.heap.objs.size [s.heap.objs.size] [s.heap.objs.size] n (fun i v => i < n ∧ ∃ t, v = .int (a₀ + i * 1) t)
      (fun i h => IsRangeIter h s.heap.objs.size (a₀ + (i : Nat) * 1) ((n : Int) - (i : Nat)) 1) := (Walks.range hh _ a₀ 1 n).bound
  refine loop_any J W ?_ (next_is_new F) (List.mem_cons_self) (fun p hp e => absurd (Heap.lt_size (N p hp).1) (by rw [e]; exact Nat.lt_irrefl _)) ?_ ?_ (by show IsRangeIter _ _ _ _ _; rw [hn]; simpa using Heap.get?_push_size _ rfl) (F.push _) (fun p hp => ⟨Heap.get?_push_of_some _ (N p hp).1, (N p hp).2⟩) hj ?_ ?_
  · intro hm
    exact absurd F.ns.lt ((List.mem_singleton.mp hm) ▸ Nat.lt_irrefl _)
  · intro i h hs
    exact ⟨_, hs⟩
  · intro b hb hbI
    exact absurd (List.mem_singleton.mp hb) hbI
  · intro i v m₁ news₁ h tk oI hin hP hoff hJ F₁ N₁
    obtain ⟨_, t, rfl⟩ := hP
    have e1 : a₀ + (i : Int) * 1 = a₀ + (i : Int) := by omega
    rw [e1] at F₁
    exact turn i t m₁ news₁ h tk _ oI hin hoff hJ F₁ N₁
  · exact done
end
end Mine
end PartLoops

section PartRestL
open PySem PySem.W PySem.Calls PyProof.Rows
set_option maxRecDepth 100000
namespace Mine
structure Hold (p : Prop) : Prop where
  out : p
def rin (top : Int) (r : List Int) (k : Nat) : List Int := if Builtin.bitAnd (top.fdiv (2 ^ k)) 1 = 0 then r else List.zipWith Builtin.bitXor r (rowN k)
def rsh (r : List Int) (sym : Int) : List Int := r.drop 1 ++ [sym]
def rstep (r : List Int) (sym : Int) : List Int := (List.range 5).foldl (rin (r.getD 0 0)) (rsh r sym)
def rinit : List Int := [0, 0, 0, 0, 0, 0, 0, 1]
theorem rowN_len : ∀ k, (rowN k).length = 8
  | 0 => rfl
  | k + 1 => by show ((rowN k).map dbl).length = 8; rw [List.length_map]; exact rowN_len k
theorem rin_len {top : Int} {r : List Int} {k : Nat} (h : r.length = 8) : (rin top r k).length = 8 := by
  unfold rin
  split
  · exact h
  · rw [List.length_zipWith, h, rowN_len]; rfl
theorem rinl_len {top : Int} : ∀ (l : List Nat) {r : List Int}, r.length = 8 → (l.foldl (rin top) r).length = 8
  | [], _, h => h
  | _ :: l, _, h => rinl_len l (rin_len h)
theorem rstep_len {r : List Int} {sym : Int} (h : r.length = 8) : (rstep r sym).length = 8 := rinl_len _ (by unfold rsh; simp [h])
theorem rfold_len : ∀ (l : List Int) {r : List Int}, r.length = 8 → (l.foldl rstep r).length = 8
  | [], _, h => h
  | _ :: l, _, h => rfold_len l (rstep_len h)
theorem ints8 {ys : List Value} {r : List Int} (hi : IntsAre ys r) (h : r.length = 8) : ∃ (r0 r1 r2 r3 r4 r5 r6 r7 : Int) (t0 t1 t2 t3 t4 t5 t6 t7 : Tok), r = [r0, r1, r2, r3, r4, r5, r6, r7] ∧
    ys = [.int r0 t0, .int r1 t1, .int r2 t2, .int r3 t3, .int r4 t4, .int r5 t5, .int r6 t6, .int r7 t7] := by
  cases hi with | nil => simp at h | cons r0 t0 hi =>
  cases hi with | nil => simp at h | cons r1 t1 hi =>
  cases hi with | nil => simp at h | cons r2 t2 hi =>
  cases hi with | nil => simp at h | cons r3 t3 hi =>
  cases hi with | nil => simp at h | cons r4 t4 hi =>
  cases hi with | nil => simp at h | cons r5 t5 hi =>
  cases hi with | nil => simp at h | cons r6 t6 hi =>
  cases hi with | nil => simp at h | cons r7 t7 hi =>
  cases hi with
  | nil => exact ⟨r0, r1, r2, r3, r4, r5, r6, r7, t0, t1, t2, t3, t4, t5, t6, t7, rfl, rfl⟩
  | cons _ _ hi => simp at h
theorem Fr.congr2 {h₀ h : Heap} {L : Addr} {m m' : Str → Option Value} (F : Fr h₀ L h m) (e : ∀ y, m y = m' y) : Fr h₀ L h m' := by rw [show m' = m from funext fun y => (e y).symm]; exact F
theorem two_names {m : Str → Option Value} {x a b : Str} {v va vb : Option Value} (ha : m a = va) (hb : m b = vb) (y : Str) :
    (if y = x then v else m y) = (if y = x then v else if y = a then va else if y = b then vb else m y) := by
  by_cases h1 : y = x
  · rw [if_pos h1, if_pos h1]
  · rw [if_neg h1, if_neg h1]
    by_cases h2 : y = a
    · rw [if_pos h2, h2, ha]
    · rw [if_neg h2]
      by_cases h3 : y = b
      · rw [if_pos h3, h3, hb]
      · rw [if_neg h3]
section
variable {prog : Program} {w : World} {A : Around} {E : Value → Shared → Prop} {s : Shared} {env : Env} {h₀ : Heap} {body : List Stmt} {Q : Flow → Shared → Prop}
abbrev nRest : Str := Str.ofString "rest"
abbrev nRows : Str := Str.ofString "rows"
def JRest (syms : List Int) (fx : List (Addr × Obj)) (R : Addr) (i : Nat) (m : Str → Option Value) (nx : List (Addr × Obj)) : Prop :=
  ∃ (a : Addr) (ys : List Value) (na : Nat), IntsAre ys ((syms.take i).foldl rstep rinit) ∧ nx = (a, listOf ys.toArray na) :: fx ∧ m nRest = some (.ref a) ∧ m nRows = some (.ref R)
theorem rest_loop {m₀ : Str → Option Value} {D x1 x2 a D4 D3 D2 D1 R : Addr} {o1 o2 o3 o4 o5 o6 o7 : Obj} {ys ws : List Value} {na nd : Nat} {syms : List Int}
    (hh : A.handled = none) (hi : IntsAre ws syms) (hy : IntsAre ys rinit) (F : Fr h₀ env.locals s.heap m₀)
    (N : News h₀ env.locals s.heap [(D, listOf ws.toArray nd), (x1, o1), (x2, o2), (a, listOf ys.toArray na), (D4, o3), (D3, o4), (D2, o5), (D1, o6), (R, o7)])
    (hr : m₀ nRest = some (.ref a)) (hw : m₀ nRows = some (.ref R))
    (turn : ∀ i n t (u : Str → Option Value) a ys na r h tk I oI, syms[i]? = some n → r = (syms.take i).foldl rstep rinit → IntsAre ys r → r.length = 8 → ((@Ne Nat a I) ∧ (@Ne Nat D I) ∧ (@Ne Nat D4 I) ∧ (@Ne Nat D3 I) ∧ (@Ne Nat D2 I) ∧ (@Ne Nat D1 I) ∧ (@Ne Nat R I)) →
      Fr h₀ env.locals h (fun y => if y = Str.ofString "symbol" then some (.int n t) else if y = nRest then some (.ref a) else if y = nRows then some (.ref R) else u y) →
      News h₀ env.locals h [(I, oI), (a, listOf ys.toArray na), (D, listOf ws.toArray nd), (D4, o3), (D3, o4), (D2, o5), (D1, o6), (R, o7)] →
      wpAny (model prog w) A (execs body env) (AnyPost h₀ env.locals (JRest syms [(D, listOf ws.toArray nd), (D4, o3), (D3, o4), (D2, o5), (D1, o6), (R, o7)] R (i + 1)) I oI { s with heap := h, toks := tk } Q) E { s with heap := h, toks := tk })
    (done : ∀ (u : Str → Option Value) a ys na h tk, IntsAre ys (syms.foldl rstep rinit) →
      Fr h₀ env.locals h (fun y => if y = Str.ofString "symbol" then u (Str.ofString "symbol") else if y = nRest then some (.ref a) else if y = nRows then some (.ref R) else u y) →
      News h₀ env.locals h [(a, listOf ys.toArray na), (D, listOf ws.toArray nd), (D4, o3), (D3, o4), (D2, o5), (D1, o6), (R, o7)] → Q .next { s with heap := h, toks := tk }) :
    wpAny (model prog w) A (pyIter (.ref D)) (fun it s₂ => LoopAtV prog w A h₀ env (Str.ofString "symbol") body Q E it s₂) E s := by
  have N1 : News h₀ env.locals s.heap [(a, listOf ys.toArray na), (D, listOf ws.toArray nd), (D4, o3), (D3, o4), (D2, o5), (D1, o6), (R, o7)] := fun p hp => N p (by
    simp only [List.mem_cons, List.not_mem_nil, or_false] at hp ⊢
    rcases hp with h | h | h | h | h | h | h <;> simp [h])
  refine iterL_any (nn := nd) (JRest syms [(D, listOf ws.toArray nd), (D4, o3), (D3, o4), (D2, o5), (D1, o6), (R, o7)] R) hh hi F N1 ?_ ⟨a, ys, na, by simpa using hy, rfl, hr, hw⟩ ?_ ?_
  · rintro i m nx ⟨a, ys, na, _, rfl, _, _⟩
    exact .tail _ (.head _)
  · rintro i n t m₁ news₁ h tk I oI hn hoff ⟨a, ys, na, hys, rfl, h1, h2⟩ F₁ N₁
    refine turn i n t m₁ a ys na _ h tk I oI hn rfl hys (rfold_len _ rfl) ?_ (Fr.congr2 F₁ (two_names h1 h2)) N₁
    simp only [List.forall_mem_cons] at hoff
    obtain ⟨q1, q2, q3, q4, q5, q6, q7, _⟩ := hoff
    exact ⟨q1, q2, q3, q4, q5, q6, q7⟩
  · rintro m₁ news₁ h tk ⟨a, ys, na, hys, rfl, h1, h2⟩ F₁ N₁
    rw [List.take_length] at hys
    refine done m₁ a ys na h tk hys (Fr.congr2 F₁ fun y => ?_) N₁
    have := two_names (x := Str.ofString "symbol") (v := m₁ (Str.ofString "symbol")) h1 h2 y
    rw [← this]
    by_cases e : y = Str.ofString "symbol"
    · rw [if_pos e, e]
    · rw [if_neg e]

theorem three_names {m : Str → Option Value} {x a b c : Str} {v va vb vc : Option Value} (ha : m a = va) (hb : m b = vb) (hc : m c = vc) (y : Str) :
    (if y = x then v else m y) = (if y = x then v else if y = a then va else if y = b then vb else if y = c then vc else m y) := by
  by_cases h1 : y = x
  · rw [if_pos h1, if_pos h1]
  · rw [if_neg h1, if_neg h1]
    by_cases h2 : y = a
    · rw [if_pos h2, h2, ha]
    · rw [if_neg h2]
      by_cases h3 : y = b
      · rw [if_pos h3, h3, hb]
      · rw [if_neg h3]
        by_cases h4 : y = c
        · rw [if_pos h4, h4, hc]
        · rw [if_neg h4]
def JIn (top : Int) (tt : Tok) (r0 : List Int) (fx : List (Addr × Obj)) (R Io : Addr) (i : Nat) (m : Str → Option Value) (nx : List (Addr × Obj)) : Prop :=
  ∃ (a : Addr) (ys : List Value) (na : Nat), IntsAre ys ((List.range i).foldl (rin top) r0) ∧ nx = (a, listOf ys.toArray na) :: fx ∧ m nRest = some (.ref a) ∧ m nRows = some (.ref R) ∧ m (Str.ofString "top") = some (.int top tt) ∧ @Ne Nat a Io
theorem inner_loop {m₀ : Str → Option Value} {r : Addr} {e₀ u₀ v₀ : Tok} {x1 x2 a a0 D I D4 D3 D2 D1 R : Addr} {o1 o2 o3 o4 o5 o6 o7 o8 oD oI : Obj} {ys : List Value} {na : Nat} {r0 : List Int} {top : Int} {tt : Tok}
    (hh : A.handled = none) (hr : IsRange s.heap r 0 5 1 e₀ u₀ v₀) (F : Fr h₀ env.locals s.heap m₀)
    (N : News h₀ env.locals s.heap [(a, listOf ys.toArray na), (x1, o1), (x2, o2), (I, oI), (a0, o8), (D, oD), (D4, o3), (D3, o4), (D2, o5), (D1, o6), (R, o7)])
    (hy : IntsAre ys r0) (hr8 : r0.length = 8)
    (hrest : m₀ nRest = some (.ref a)) (hw : m₀ nRows = some (.ref R)) (htop : m₀ (Str.ofString "top") = some (.int top tt)) (hai : @Ne Nat a I)
    (turn : ∀ i t (u : Str → Option Value) a ys na r h tk I2 oI2, i < 5 → r = (List.range i).foldl (rin top) r0 → IntsAre ys r → r.length = 8 → @Ne Nat a I → ((@Ne Nat a I2) ∧ (@Ne Nat I I2) ∧ (@Ne Nat D I2) ∧ (@Ne Nat D4 I2) ∧ (@Ne Nat D3 I2) ∧ (@Ne Nat D2 I2) ∧ (@Ne Nat D1 I2) ∧ (@Ne Nat R I2)) →
      Fr h₀ env.locals h (fun y => if y = Str.ofString "k" then some (.int (0 + (i : Int)) t) else if y = nRest then some (.ref a) else if y = nRows then some (.ref R) else if y = Str.ofString "top" then some (.int top tt) else u y) →
      News h₀ env.locals h [(I2, oI2), (a, listOf ys.toArray na), (I, oI), (D, oD), (D4, o3), (D3, o4), (D2, o5), (D1, o6), (R, o7)] →
      wpAny (model prog w) A (execs body env) (AnyPost h₀ env.locals (JIn top tt r0 [(I, oI), (D, oD), (D4, o3), (D3, o4), (D2, o5), (D1, o6), (R, o7)] R I (i + 1)) I2 oI2 { s with heap := h, toks := tk } Q) E { s with heap := h, toks := tk })
    (done : ∀ (m₁ : Str → Option Value) a ys na h tk, IntsAre ys ((List.range 5).foldl (rin top) r0) → m₁ nRest = some (.ref a) → m₁ nRows = some (.ref R) → @Ne Nat a I →
      Fr h₀ env.locals h m₁ → News h₀ env.locals h [(a, listOf ys.toArray na), (I, oI), (D, oD), (D4, o3), (D3, o4), (D2, o5), (D1, o6), (R, o7)] → Q .next { s with heap := h, toks := tk }) :
    wpAny (model prog w) A (pyIter (.ref r)) (fun it s₂ => LoopAtV prog w A h₀ env (Str.ofString "k") body Q E it s₂) E s := by
  have N1 : News h₀ env.locals s.heap [(a, listOf ys.toArray na), (I, oI), (D, oD), (D4, o3), (D3, o4), (D2, o5), (D1, o6), (R, o7)] := fun p hp => N p (by
    simp only [List.mem_cons, List.not_mem_nil, or_false] at hp ⊢
    rcases hp with h | h | h | h | h | h | h | h <;> simp [h])
  refine iterR_any (n := 5) (JIn top tt r0 [(I, oI), (D, oD), (D4, o3), (D3, o4), (D2, o5), (D1, o6), (R, o7)] R I) hh hr (by decide) (by decide) F N1 ⟨a, ys, na, by simpa using hy, rfl, hrest, hw, htop, hai⟩ ?_ ?_
  · rintro i t m₁ news₁ h tk I2 oI2 hn hoff ⟨a, ys, na, hys, rfl, h1, h2, h3, h4⟩ F₁ N₁
    refine turn i t m₁ a ys na _ h tk I2 oI2 hn rfl hys (rinl_len _ hr8) h4 ?_ (Fr.congr2 F₁ (three_names h1 h2 h3)) N₁
    simp only [List.forall_mem_cons] at hoff
    obtain ⟨q1, q2, q3, q4, q5, q6, q7, q8, _⟩ := hoff
    exact ⟨q1, q2, q3, q4, q5, q6, q7, q8⟩
  · rintro m₁ news₁ h tk ⟨a, ys, na, hys, rfl, h1, h2, h3, h4⟩ F₁ N₁
    exact done m₁ a ys na h tk hys h1 h2 h4 F₁ N₁
theorem any_out {h₀ h' : Heap} {L : Addr} {syms : List Int} {fx : List (Addr × Obj)} {R a I : Addr} {ys : List Value} {na i : Nat} {m' : Str → Option Value} {n : Int} {r : List Int} {oI : Obj} {s₁ : Shared} {tk : Nat} {news' : List (Addr × Obj)} {Q : Flow → Shared → Prop}
    (hn : syms[i]? = some n) (hr : r = (syms.take i).foldl rstep rinit) (hys : IntsAre ys (rstep r n)) (F : Fr h₀ L h' m') (N : News h₀ L h' news') (h1 : m' nRest = some (.ref a)) (h2 : m' nRows = some (.ref R))
    (hin : ∀ p ∈ (a, listOf ys.toArray na) :: fx, p ∈ news') (hI : (I, oI) ∈ news') (hne : ∀ p ∈ (a, listOf ys.toArray na) :: fx, p.1 ≠ I) :
    AnyPost h₀ L (JRest syms fx R (i + 1)) I oI s₁ Q .next { s₁ with heap := h', toks := tk } := by
  refine ⟨h', tk, m', news', (a, listOf ys.toArray na) :: fx, rfl, F, N, hin, hI, hne, a, ys, na, ?_, rfl, h1, h2⟩
  rw [List.take_add_one, hn, List.foldl_append, ← hr]
  exact hys
theorem any_in {h₀ h' : Heap} {L : Addr} {top : Int} {tt : Tok} {r0 : List Int} {fx : List (Addr × Obj)} {R Io a I : Addr} {ys : List Value} {na i : Nat} {m' : Str → Option Value} {r : List Int} {oI : Obj} {s₁ : Shared} {tk : Nat} {news' : List (Addr × Obj)} {Q : Flow → Shared → Prop}
    (hr : r = (List.range i).foldl (rin top) r0) (hys : IntsAre ys (rin top r i)) (F : Fr h₀ L h' m') (N : News h₀ L h' news') (h1 : m' nRest = some (.ref a)) (h2 : m' nRows = some (.ref R)) (h3 : m' (Str.ofString "top") = some (.int top tt))
    (hin : ∀ p ∈ (a, listOf ys.toArray na) :: fx, p ∈ news') (hI : (I, oI) ∈ news') (hio : @Ne Nat a Io) (hne : ∀ p ∈ (a, listOf ys.toArray na) :: fx, p.1 ≠ I) :
    AnyPost h₀ L (JIn top tt r0 fx R Io (i + 1)) I oI s₁ Q .next { s₁ with heap := h', toks := tk } := by
  refine ⟨h', tk, m', news', (a, listOf ys.toArray na) :: fx, rfl, F, N, hin, hI, hne, a, ys, na, ?_, rfl, h1, h2, h3, hio⟩
  rw [List.range_succ, List.foldl_append, ← hr]
  exact hys
end
end Mine
end PartRestL

section PartZipC
open PySem PySem.W PySem.Calls PyProof.Rows PySem.Spec PyProof.V PyProof.Rows.LCg PyProof.Rows.LCp
set_option maxRecDepth 100000
namespace Mine
section
variable {prog : Program} {w : World} {A : Around} {E : Value → Shared → Prop} {s : Shared} {h₀ : Heap} {L : Addr} {m : Str → Option Value} {env : Env}
def SrcZ (prog : Program) (w : World) (A : Around) (h₀ : Heap) (L : Addr) (m : Str → Option Value) (g : Int → Int → Int) (y : Str) (Q : Flow → Shared → Prop) (xv : Value) (s₁ : Shared) : Prop :=
  ∃ (I0 l1 l2 : Nat) (xs ys : List Value) (as bs : List Int) (news : List (Addr × Obj)), xv = .ref (I0 + 4) ∧ s₁.heap.objs.size = I0 + 5 ∧ IsZip s₁.heap (I0 + 4) (I0 + 2) (I0 + 3) .none ∧ IsPair s₁.heap (I0 + 2) (.ref I0) (.ref (I0 + 1)) ∧ IsPair s₁.heap (I0 + 3) .none .none ∧
    s₁.heap.IsListIter I0 l1 0 ∧ s₁.heap.IsListIter (I0 + 1) l2 0 ∧ s₁.heap.IsList l1 xs.toArray ∧ s₁.heap.IsList l2 ys.toArray ∧ IntsAre xs as ∧ IntsAre ys bs ∧ as.length = 8 ∧ bs.length = 8 ∧ l1 < I0 ∧ l2 < I0 ∧ L < I0 ∧ A.handled = none ∧
    Fr h₀ L s₁.heap m ∧ News h₀ L s₁.heap news ∧ (∀ p ∈ news, (p.1 : Nat) < I0) ∧ h₀.objs.size ≤ I0 ∧
    ∀ (zs : List Value) (D : Nat) (h : Heap) (tk : Nat), IntsAre zs (List.zipWith g as bs) → Fr h₀ L h (fun z => if z = y then some (.ref D) else m z) → News h₀ L h ((D, lst zs) :: news) → (∀ p ∈ news, p.1 < D) → I0 < D → Q .next { s₁ with heap := h, toks := tk }

theorem fr_low {h h' : Heap} {I0 : Nat} (F : Fr h₀ L h m) (hL : L < I0) (h₀I : h₀.objs.size ≤ I0) (k : ∀ (b : Nat) o, b < I0 → h.get? b = some o → h'.get? b = some o) : Fr h₀ L h' m :=
  ⟨F.ns.at' fun o e => k L o hL e, fun b o e => k b o (Nat.lt_of_lt_of_le (Heap.lt_size e) h₀I) (F.keep b o e), F.above⟩
theorem news_low {h h' : Heap} {I0 : Nat} {news : List (Addr × Obj)} (N : News h₀ L h news) (hn : ∀ p ∈ news, p.1 < I0) (k : ∀ (b : Nat) o, b < I0 → h.get? b = some o → h'.get? b = some o) : News h₀ L h' news :=
  fun p hp => ⟨k _ _ (hn p hp) (N p hp).1, (N p hp).2⟩
theorem ints_at {xs : List Value} {as : List Int} (h : IntsAre xs as) {i : Nat} {x : Value} (hx : xs.toArray[i]? = some x) : ∃ a t, as[i]? = some a ∧ x = .int a t := by
  obtain ⟨k, t, e, hk⟩ := IntsAre.at h i x (by simpa using hx)
  exact ⟨k, t, hk, e⟩
theorem zw_snoc {g : Int → Int → Int} {as bs : List Int} {i : Nat} {a b : Int} (ha : as[i]? = some a) (hb : bs[i]? = some b) (hl : as.length = bs.length) :
    List.zipWith g (as.take (i + 1)) (bs.take (i + 1)) = List.zipWith g (as.take i) (bs.take i) ++ [g a b] := by
  rw [List.take_add_one, List.take_add_one, ha, hb]
  rw [List.zipWith_append (by rw [List.length_take, List.length_take, hl])]
  rfl
theorem Assign_ListComp_Z {elt iter : Expr} {x x₂ y : Str} {px px₂ tp py : Pos} {tk} {scope : Scope} {cl : List (Str × Addr)} {pos spos : Pos} {Q : Flow → Shared → Prop} (g : Int → Int → Int) (F₀ : Fr h₀ L s.heap m) (hLe : env.locals = L)
    (hsw : swapsWith (.ListComp elt [⟨.Tuple [.Name x px, .Name x₂ px₂] tk tp, iter, [], 0⟩] scope pos) (some (.Name y py)) spos.line env = pure true)
    (hclos : closureFor scope env = pure cl) (hcell : ∀ z ∈ scope.names, z.2 ≠ .cell) (hkind : scope.kind = .function)
    (hnames : ∀ z ∈ scope.names, z.2 = .local → scope.names.lookup z.1 = some .local) (hx : scope.names.lookup x = some .local) (hx₂ : scope.names.lookup x₂ = some .local) (hxx : x ≠ x₂)
    (hy : env.kindOf y = some .local) (hp : (env.scope.kind == .class || (env.scope.kind == .module && env.locals != env.globals)) = false)
    (helt : ∀ (C : Addr) (s' : Shared) (m₂ : Str → Option Value) (a b : Int) (ta tb : Tok) (Q' E' : Value → Shared → Prop), s'.heap.Ns C m₂ → m₂ x = some (.int a ta) → m₂ x₂ = some (.int b tb) → (∀ t k, Q' (.int (g a b) t) { s' with toks := k }) →
      wpAny (model prog w) A (eval elt (compEnvC scope cl C env)) Q' E' s')
    (h : wpAny (model prog w) A (eval iter env) (SrcZ prog w A h₀ L m g y Q) E s)
    (hs : ∀ x, foldedSetIterable iter env x = pure x := by intro _; rfl) :
    wpAny (model prog w) A (exec (.Assign [.Name y py] (.ListComp elt [⟨.Tuple [.Name x px, .Name x₂ px₂] tk tp, iter, [], 0⟩] scope pos) spos) env) Q E s := by
  subst hLe
  rw [exec_Assign_Name_used _ _ _ _ hsw]
  refine wpAny_bind (wpAny_standAt (wpAny_bind ?_))
  show wpAny _ A (do let _ ← comprehension (.ListComp elt [⟨.Tuple [.Name x px, .Name x₂ px₂] tk tp, iter, [], 0⟩] scope pos) scope env _ (newList []) false (eval iter env) (some (assign (.Name y py) env))) _ _ s
  refine wpAny_bind (wpAny_mono (wpAny_comprehension_free (use := some (assign (.Name y py) env)) (Q := fun _ s' => Q .next s') rfl hs hclos hkind hnames
    (wpAny_mono h (fun xv s₂ h₁ => ?_) fun _ _ e => e)) (fun _ s' hq => wpAny_pure (wpAny_pure hq)) fun _ _ e => e)
  obtain ⟨I0, l1, l2, xs, ys, as, bs, news, rfl, hsize, hz, hTI, hTO, hi1, hi2, hl1, hl2, ha, hb, hal, hbl, hl1I, hl2I, hLI, hh, F, N, hnI, h₀I, fin⟩ := h₁
  refine wpAny_pyIter_zip hz ?_
  have D9 : ZipApart (I0 + 4) (I0 + 2) (I0 + 3) I0 (I0 + 1) l1 l2 := ktu_apart _ _ _ hl1I hl2I
  have W := (WalksT.zip2 (prog := prog) (w := w) hh _ _ _ _ _ _ _ D9 xs.toArray ys.toArray).toU
  have hxs : xs.toArray.size = 8 := by rw [List.size_toArray, ha.length, hal]
  have hys : ys.toArray.size = 8 := by rw [List.size_toArray, hb.length, hbl]
  rw [hxs, hys] at W
  refine wpAny_newObj_type (wpAny_newFunctionEnv hcell (by intro y hy; simp at hy) (fun h₁ hns₁ hsb₁ => ?_) hkind)
  dsimp only at hns₁ hsb₁ ⊢
  generalize hH2 : s₂.heap.push { cls := .type "list", dict := none, data := .seq ([] : List Value).toArray } = H2 at hns₁ hsb₁ ⊢
  have hC : H2.objs.size = I0 + 6 := by rw [← hH2, Heap.size_push, hsize]
  generalize hCC : H2.objs.size = C at hns₁ hsb₁ ⊢
  have hC6 : C = I0 + 6 := hCC.symm.trans hC
  generalize hDD : s₂.heap.objs.size = D at hsize ⊢
  have hD5 : D = I0 + 5 := hsize
  have old : ∀ (b : Nat) o, s₂.heap.get? b = some o → h₁.get? b = some o := fun b o e => by
    have hlt : b < D := hDD ▸ Heap.lt_size e
    exact hsb₁.extBut b o (by show (b : Nat) ≠ C; omega) (Heap.get?_push_of_some _ (hH2 ▸ Heap.get?_push_of_some _ e))
  have hacc : h₁.get? D = some (lst []) := by
    refine hsb₁.extBut _ _ (by show (D : Nat) ≠ C; omega) (Heap.get?_push_of_some _ ?_)
    rw [← hH2, ← hDD]
    exact Heap.get?_push_size _ rfl
  have h₀none : ∀ a : Nat, I0 ≤ a → h₀.get? a = none := fun a ha => by
    cases e : h₀.get? a with
    | none => rfl
    | some o' => exact absurd (Nat.lt_of_lt_of_le (Heap.lt_size e) h₀I) (Nat.not_lt.mpr ha)
  obtain ⟨St, Mid, W, hst₁⟩ : ∃ (St : Nat → Heap → Prop) (Mid : Nat → Addr → Heap → Prop), WalksU prog w A (I0 + 4) [I0 + 4, I0 + 2, I0 + 3, I0, I0 + 1, l1, l2] [I0 + 4, I0 + 3, I0, I0 + 1] 8 (fun i vals => ∃ x y, xs.toArray[i]? = some x ∧ ys.toArray[i]? = some y ∧ vals = #[x, y]) St Mid ∧ St 0 h₁ :=
    ⟨_, _, W, old _ _ hz, old _ _ hTI, ⟨_, _, old _ _ hTO⟩, hi1.at fun o e => old _ o e, hi2.at fun o e => old _ o e, hl1.at fun o e => old _ o e, hl2.at fun o e => old _ o e⟩
  have hLI' : @LT.lt Nat _ env.locals I0 := hLI
  have wrlow : ∀ (b : Nat), b < I0 ∨ I0 + 5 ≤ b → b ∉ [I0 + 4, I0 + 3, I0, I0 + 1] := fun b hb hm => by
    simp only [List.mem_cons, List.not_mem_nil, or_false] at hm
    rcases hm with h | h | h | h <;> have h : b = _ := h <;> omega
  have fplow : ∀ (b : Nat), b ∈ [I0 + 4, I0 + 2, I0 + 3, I0, I0 + 1, l1, l2] → b < I0 + 5 := fun b hm => by
    simp only [List.mem_cons, List.not_mem_nil, or_false] at hm
    have h1 : (l1 : Nat) < I0 := hl1I
    have h2 : (l2 : Nat) < I0 := hl2I
    rcases hm with h | h | h | h | h | h | h <;> have h : b = _ := h <;> omega
  have loop : ∀ (R0 : Result → Shared → Prop), (∀ h tk' m' zs, Fr h₀ env.locals h m → News h₀ env.locals h ((D, lst zs) :: news) → h.Ns C m' → IntsAre zs (List.zipWith g as bs) → R0 (.ok .next) { s₂ with heap := h, toks := tk' }) →
      ∀ s₃ : Shared, s₃ = { s₂ with heap := h₁, toks := s₂.toks + ([] : List (Str × Value)).length } →
      codeAny (model prog w) A (.compLoop (.ListComp elt [⟨.Tuple [.Name x px, .Name x₂ px₂] tk tp, iter, [], 0⟩] scope pos) 0 (.ref (I0 + 4)) (.ref D) (compEnvC scope cl C env)) R0 s₃ := by
    rintro R0 hR0 s₃ rfl
    refine codeAny_compLoop_pair
      (fun k s' => ∃ h' tk' i zs m', s' = { s₂ with heap := h', toks := tk' } ∧ i ≤ 8 ∧ k = 8 + 1 - i ∧ zs.length = i ∧ St i h' ∧ Fr h₀ env.locals h' m ∧ h'.Ns C m' ∧ News h₀ env.locals h' ((D, lst zs) :: news) ∧ IntsAre zs (List.zipWith g (as.take i) (bs.take i))) ?_ (8 + 1)
      ⟨h₁, _, 0, [], _, rfl, Nat.zero_le _, rfl, rfl, hst₁, F.keeps old, hns₁, fun p hp => ?_, .nil⟩
    · rintro k s' ⟨h', tk', i, zs, m', rfl, hi, rfl, hzl, hst', F', hn', N', hzI⟩
      by_cases hlt : i < 8
      · refine W.item i _ _ _ hlt hst' fun T vals h₂ tk₂ hP hT hM hk₂ => ?_
        obtain ⟨vx, vy, hvx, hvy, rfl⟩ := hP
        obtain ⟨a, ta, hai, rfl⟩ := ints_at ha hvx
        obtain ⟨b, tb, hbi, rfl⟩ := ints_at hb hvy
        refine W.go _ _ _ i T _ _ _ hM fun h₃ hst₃ hk₃ => ?_
        have hT₃ : IsTup h₃ T #[.int a ta, .int b tb] := by
          obtain ⟨o, ho, r⟩ := hT
          exact ⟨o, hk₃ T o (W.apart i T _ hM) ho, r⟩
        have k3 : ∀ (b : Nat) o, b < I0 ∨ I0 + 5 ≤ b → h'.get? b = some o → h₃.get? b = some o := fun b o hb e => hk₃ b o (wrlow b hb) (hk₂ b o (wrlow b hb) e)
        refine assign_Tuple_tuple hh hT₃ rfl rfl fun h₅ he => ?_
        have he' : ∀ b o, h₃.get? b = some o → h₅.get? b = some o := fun b o e => he b o (Nat.ne_of_lt (Heap.lt_size e)) e
        have k5 : ∀ (b : Nat) o, b < I0 ∨ I0 + 5 ≤ b → h'.get? b = some o → h₅.get? b = some o := fun b o hb e => he' b o (k3 b o hb e)
        refine assignInOrder_cons (wpAny_assign_Name (wpAny_storeName_local (lookup_relabel_local hx) (hn'.at' fun o e => k5 C o (.inr (by show I0 + 5 ≤ (C : Nat); omega)) e) (fun h₆ hn₆ hs₆ => ?_) (by simp [compEnvC, relabel, hkind])))
        refine assignInOrder_cons (wpAny_assign_Name (wpAny_storeName_local (lookup_relabel_local hx₂) hn₆ (fun h₇ hn₇ hs₇ => ?_) (by simp [compEnvC, relabel, hkind])))
        refine assignInOrder_nil ?_
        have k7 : ∀ (b : Nat) o, b ≠ C → h₅.get? b = some o → h₇.get? b = some o := fun b o hb e => hs₇.extBut b o hb (hs₆.extBut b o hb e)
        have hst₇ : St (i + 1) h₇ := W.frame _ _ _ hst₃ fun b hb o e => k7 b o (Nat.ne_of_lt (Nat.lt_of_lt_of_le (fplow b hb) (by omega))) (he' b o e)
        have low : ∀ (b : Nat) o, b < I0 → h'.get? b = some o → h₇.get? b = some o := fun b o hb e => k7 b o (by show (b : Nat) ≠ C; omega) (k5 b o (.inl hb) e)
        have hDg : h₇.get? D = some (lst zs) := k7 D _ (by show (D : Nat) ≠ C; omega) (k5 D _ (.inr (by show I0 + 5 ≤ (D : Nat); omega)) (N' (D, lst zs) (.head _)).1)
        refine helt C _ _ a b ta tb _ _ hn₇ (by simp [hxx]) (by simp) fun t tkn => ?_
        refine append_at (hsz := by show zs.toArray.size ≤ sizeLine; rw [List.size_toArray, hzl]; exact Nat.le_trans hi (by decide)) hDg fun h₈ hs₈ hD₈ => ?_
        have k8 : ∀ (b : Nat) o, b ≠ D → h₇.get? b = some o → h₈.get? b = some o := fun b o hb e => hs₈.extBut b o hb e
        refine ⟨8 + 1 - (i + 1), by omega, h₈, tkn, i + 1, zs ++ [.int (g a b) t], _, rfl, hlt, rfl, by rw [List.length_append, List.length_singleton, hzl], W.frame _ _ _ hst₇ fun b hb o e => k8 b o (Nat.ne_of_lt (Nat.lt_of_lt_of_le (fplow b hb) (by omega))) e,
          fr_low F' hLI h₀I (fun b o hb e => k8 b o (by show (b : Nat) ≠ D; omega) (low b o hb e)), hn₇.at' fun o e => k8 C o (by show (C : Nat) ≠ D; omega) e, fun p hp => ?_, ?_⟩
        · rcases List.mem_cons.mp hp with rfl | hp
          · exact ⟨hD₈.trans (congrArg some (lst_snoc zs _)), (N' (D, lst zs) (.head _)).2⟩
          · exact news_low (fun p hp => N' p (.tail _ hp)) hnI (fun b o hb e => k8 b o (by show (b : Nat) ≠ D; omega) (low b o hb e)) p hp
        · rw [zw_snoc hai hbi (hal.trans hbl.symm)]
          exact IntsAre.append hzI (.cons (g a b) t .nil)
      · obtain rfl : i = 8 := Nat.le_antisymm hi (Nat.not_lt.mp hlt)
        refine W.done _ _ _ hst' fun h₂ tk₂ hk₂ => ?_
        have kk : ∀ (b : Nat) o, b < I0 ∨ I0 + 5 ≤ b → h'.get? b = some o → h₂.get? b = some o := fun b o hb e => hk₂ b o (wrlow b hb) e
        have hz8 : IntsAre zs (List.zipWith g as bs) := by
          have e1 : as.take 8 = as := List.take_of_length_le (Nat.le_of_eq hal)
          have e2 : bs.take 8 = bs := List.take_of_length_le (Nat.le_of_eq hbl)
          rw [e1, e2] at hzI
          exact hzI
        refine hR0 h₂ tk₂ _ zs (fr_low F' hLI h₀I fun b o hb e => kk b o (.inl hb) e) (fun p hp => ?_) (hn'.at' fun o e => kk C o (.inr (by show I0 + 5 ≤ (C : Nat); omega)) e) hz8
        rcases List.mem_cons.mp hp with rfl | hp
        · exact ⟨kk D _ (.inr (by show I0 + 5 ≤ (D : Nat); omega)) (N' (D, lst zs) (.head _)).1, (N' (D, lst zs) (.head _)).2⟩
        · exact news_low (fun p hp => N' p (.tail _ hp)) hnI (fun b o hb e => kk b o (.inl hb) e) p hp
    · rcases List.mem_cons.mp hp with rfl | hp
      · refine ⟨hacc, ?_, h₀none D (by show I0 ≤ (D : Nat); omega)⟩
        show @Ne Nat D env.locals
        omega
      · exact ⟨old _ _ (N p hp).1, (N p hp).2⟩
  refine codeAny_compStart_list (loop _ ?_ _ rfl) (W.self 0 _ _ _ hst₁ (loop _ ?_ _ rfl))
  all_goals (
    intro h' tk' m' zs F' N' hn hz8
    show wpAny _ A (assign (.Name y py) env (.ref D)) _ _ _
    refine wpAny_assign_Name (wpAny_storeName_local hy F'.ns (fun h₂ hn₂ hs₂ => ?_) hp)
    have hL₀ : h₀.get? env.locals = none := Heap.get?_none_of_le F'.above
    have hCL : C ≠ env.locals := by show @Ne Nat C env.locals; omega
    have F₂ : Fr h₀ env.locals h₂ (fun z => if z = y then some (.ref D) else m z) := ⟨hn₂, fun b o e => hs₂.extBut b o (fun q => by rw [q, hL₀] at e; cases e) (F'.keep b o e), F'.above⟩
    refine ⟨m', hn.sameBut hs₂ hCL, fun h'' hs'' => fin zs D h'' _ hz8 (F₂.change hs'' hCL (h₀none C (by show I0 ≤ (C : Nat); omega))) (fun p hp => ?_) (fun p hp => by have q : @LT.lt Nat _ p.1 I0 := hnI p hp; show @LT.lt Nat _ p.1 D; omega) (by omega)⟩
    have z : h₂.get? p.1 = some p.2 := hs₂.extBut _ _ (N' p hp).2.1 (N' p hp).1
    refine ⟨hs''.extBut _ _ ?_ z, (N' p hp).2⟩
    rcases List.mem_cons.mp hp with rfl | hp
    · show @Ne Nat D C
      omega
    · have q : @LT.lt Nat _ p.1 I0 := hnI p hp
      show @Ne Nat p.1 C
      omega)
theorem elt_xor {x x₂ : Str} {p1 p2 p3 : Pos} {scope : Scope} {cl : List (Str × Addr)} (hkind : scope.kind = .function) (hx : scope.names.lookup x = some .local) (hx₂ : scope.names.lookup x₂ = some .local) (hd : (x == ("__debug__" : Str)) = false) (hd₂ : (x₂ == ("__debug__" : Str)) = false) :
    ∀ (C : Addr) (s' : Shared) (m₂ : Str → Option Value) (a b : Int) (ta tb : Tok) (Q' E' : Value → Shared → Prop), s'.heap.Ns C m₂ → m₂ x = some (.int a ta) → m₂ x₂ = some (.int b tb) → (∀ t k, Q' (.int (Builtin.bitXor a b) t) { s' with toks := k }) →
      wpAny (model prog w) A (eval (.BinOp (.Name x p1) .BitXor (.Name x₂ p2) p3) (compEnvC scope cl C env)) Q' E' s' := by
  intro C s' m₂ a b ta tb Q' E' hn h1 h2 hq
  have hk : (compEnvC scope cl C env).scope.kind = .function := by simp [compEnvC, relabel, hkind]
  refine wpAny_BinOp (wpAny_Name (wpAny_loadName_local hk (lookup_relabel_local hx) hn h1 (wpAny_Name (wpAny_loadName_local hk (lookup_relabel_local hx₂) hn h2 (xor_int (hq _ _))) hd₂)) hd)
theorem zip_src {l1 l2 : Addr} {xs ys : List Value} {as bs : List Int} {news : List (Addr × Obj)} {g : Int → Int → Int} {y : Str} {Q : Flow → Shared → Prop} (hh : A.handled = none) (F : Fr h₀ L s.heap m) (N : News h₀ L s.heap news)
    (hl1 : s.heap.IsList l1 xs.toArray) (hl2 : s.heap.IsList l2 ys.toArray) (ha : IntsAre xs as) (hb : IntsAre ys bs) (hal : as.length = 8) (hbl : bs.length = 8)
    (fin : ∀ (zs : List Value) (D : Addr) (h : Heap) (tk : Nat), IntsAre zs (List.zipWith g as bs) → Fr h₀ L h (fun z => if z = y then some (.ref D) else m z) → News h₀ L h ((D, lst zs) :: news) → (∀ p ∈ news, p.1 < D) → Q .next { s with heap := h, toks := tk }) :
    wpAny (model prog w) A (call (.type "zip") [.ref l1, .ref l2]) (SrcZ prog w A h₀ L m g y Q) E s := by
  have lt1 : l1 < s.heap.objs.size := by obtain ⟨_, e, _⟩ := hl1; exact Heap.lt_size e
  have lt2 : l2 < s.heap.objs.size := by obtain ⟨_, e, _⟩ := hl2; exact Heap.lt_size e
  refine call_zip_2 hl1 hl2 fun h' hz hTI hTO hi1 hi2 hsz hk => ?_
  exact ⟨s.heap.objs.size, l1, l2, xs, ys, as, bs, news, rfl, hsz, hz, hTI, hTO, hi1, hi2, hl1.at fun o e => hk _ o e, hl2.at fun o e => hk _ o e, ha, hb, hal, hbl, lt1, lt2, F.ns.lt, hh, F.keeps hk, N.grown hk, (fun p hp => Heap.lt_size (N p hp).1),
    Nat.le_of_lt (Nat.lt_of_le_of_lt F.above F.ns.lt), fun zs D h tk hz F' N' hn _ => fin zs D h tk hz F' N' hn⟩
end
end Mine
end PartZipC

section PartRest
open PySem PySem.W PySem.Calls PyProof.Rows
set_option maxRecDepth 100000
namespace Mine
local macro_rules | `(tactic| walk_at $s:str) => `(tactic| k_extra $s)
theorem rowsU {w : World} {mean mg mb} {news : List (Addr × Obj)} {dp un : Nat} {gd : Option (List Code)} {cn : Str} {cs : Scope} {a : Addr} {ccd : Value} {cl : List (Str × Addr)} {outer : List Env} {A₀ : Around} {base h₀ : Heap} {L : Addr} {m : Str → Option Value} {s : Shared} {Q E : Value → Shared → Prop}
    (B : Below A₀ base outer h₀) (F : Fr h₀ L s.heap m) (X : (hd.heap_39 w.params).In h₀) (N : News h₀ L s.heap news) (T : Top hd.view_39 (looseW hd.view_39 [Str.ofString "_law_generator"]) mean mg mb h₀) (hk : cs.kind = .function)
    (hd' : dp + 15 < recursionLimit) (hu : un + 80 < cLine)
    (ret : ∀ (R D1 D2 D3 D4 : Addr) (y1 y2 y3 y4 : List Value) (n : Nat) (h' : Heap) (tk' : Nat), Fr h₀ L h' m → News h₀ L h' (five R D1 D2 D3 D4 y1 y2 y3 y4 n ++ news) → IntsAre y1 (rowN 1) → IntsAre y2 (rowN 2) → IntsAre y3 (rowN 3) → IntsAre y4 (rowN 4) → Q (.ref R) { s with heap := h', toks := tk' }) :
      wpAny (model PySem.Challenge.rw_kk0012_01.row.prog w) (ktrTop dp un gd cn cs L a ccd cl outer) (call (.ref 71) []) Q E s := by
  refine rowsC dp un gd cn cs a ccd cl outer A₀ base h₀ L m s Q E B F X T hk hd' hu ?_
  intro R D1 D2 D3 D4 y1 y2 y3 y4 n h' tk' st F' hnew i1 i2 i3 i4
  refine ret R D1 D2 D3 D4 y1 y2 y3 y4 n h' tk' F' (fun p hp => ?_) i1 i2 i3 i4
  rcases List.mem_append.mp hp with hp | hp
  · exact News.push1 F (News.nil) st (hnew p hp).1 (hnew p hp).2 p (List.mem_singleton.mpr rfl)
  · exact News.stays N st p hp
def restF (r : List Int) : List Int := r.take 7 ++ [Builtin.bitXor (r.getD 7 0) 1]
def restI (ns : List Int) : List Int := restF ((ns ++ (List.replicate (Int.toNat 8) [0]).flatten).foldl rstep rinit)
abbrev RList (r : List Int) (h₀ : Heap) (L : Addr) (m : Str → Option Value) (s : Shared) (Q : Value → Shared → Prop) : Prop :=
  ∀ (D : Addr) (ys : List Value) (n : Nat) (h' : Heap) (tk' : Nat), s.heap.StaysIn h' → Fr h₀ L h' m → h'.get? D = some (W.listOf ys.toArray n) → s.heap.get? D = none → IntsAre ys r → Q (.ref D) { s with heap := h', toks := tk' }
theorem list_ret {h₀ h' : Heap} {L L' : Addr} {m m' : Str → Option Value} {s : Shared} {Q : Value → Shared → Prop} {r : List Int} {D : Addr} {ys : List Value} {n tk' : Nat} {news' : List (Addr × Obj)} (hret : RList r h₀ L m s Q) (F' : Fr s.heap L' h' m') (N' : News s.heap L' h' news') (F : Fr h₀ L h' m) (hm : (D, W.listOf ys.toArray n) ∈ news') (hi : IntsAre ys r) : Q (.ref D) { s with heap := h', toks := tk' } :=
  hret D ys n h' tk' F'.keep F (N' _ hm).1 (N' _ hm).2.2 hi
theorem isl_news {h₀ h : Heap} {L l : Addr} {xs : List Value} {n : Nat} {news : List (Addr × Obj)} (N : News h₀ L h news) (hm : (l, W.listOf xs.toArray n) ∈ news) : h.IsList l xs.toArray := ⟨_, (N _ hm).1, rfl, n, rfl⟩
theorem isl_base {h₀ h : Heap} {L l : Addr} {m : Str → Option Value} {xs : List Value} (F : Fr h₀ L h m) (hl : h₀.IsList l xs.toArray) : h.IsList l xs.toArray := hl.at fun o e => F.keep l o e
theorem rin_t {top : Int} {r : List Int} {k : Nat} {zs : List Value} (h : Builtin.bitAnd (top.fdiv (2 ^ Int.toNat (0 + (k : Int)))) 1 ≠ 0) (hz : IntsAre zs (List.zipWith Builtin.bitXor r (rowN k))) : IntsAre zs (rin top r k) := by
  unfold rin
  have e : Int.toNat (0 + (k : Int)) = k := by omega
  rw [e] at h
  rw [if_neg h]
  exact hz
theorem rin_f {top : Int} {r : List Int} {k : Nat} {zs : List Value} (h : Builtin.bitAnd (top.fdiv (2 ^ Int.toNat (0 + (k : Int)))) 1 = 0) (hz : IntsAre zs r) : IntsAre zs (rin top r k) := by
  unfold rin
  have e : Int.toNat (0 + (k : Int)) = k := by omega
  rw [e] at h
  rw [if_pos h]
  exact hz
set_option maxHeartbeats 8000000 in
theorem restC {w : World} {mean mg mb} (l : Addr) (vs : List Value) (ns : List Int) (hi : IntsAre vs ns) (hlen : ns.length ≤ 1000) : 
  ∀ (dp un : Nat) (gd : Option (List Code)) (cn : Str) (cs : Scope) (a : Addr) (ccd : Value) (cl : List (Str × Addr)) (outer : List Env) (A₀ : Around) (base h₀ : Heap) (L : Addr) (m : Str → Option Value) (s : Shared) (Q E : Value → Shared → Prop),
    Below A₀ base outer h₀ → Fr h₀ L s.heap m → (hd.heap_39 w.params).In h₀ → Top hd.view_39 (looseW hd.view_39 [Str.ofString "_law_generator"]) mean mg mb h₀ → cs.kind = .function →
    s.heap.IsList l vs.toArray → dp + 25 < recursionLimit → un + 120 < cLine → RList (restI ns) h₀ L m s Q →
      wpAny (model PySem.Challenge.rw_kk0012_01.row.prog w) (ktrTop dp un gd cn cs L a ccd cl outer) (call (.ref 76) [.ref l]) Q E s := by
  w_top off
  k_with_none
  k_with "call ref" => (k_here; k_dflt (refine rowsU (by first | (with_reducible (k_asm)) | (k_asm)) (by first | (with_reducible (k_asm)) | (k_asm)) (by first | (with_reducible (k_asm)) | (k_asm)) (by first | (with_reducible (k_asm)) | (k_asm)) (by first | (with_reducible (k_asm)) | (k_asm)) (by first | (with_reducible (first | exact rfl | assumption)) | (first | exact rfl | assumption)) (by first | (with_reducible (ktr_room)) | (ktr_room)) (by first | (with_reducible (ktr_units)) | (ktr_units)) ?_); intro R9 D9 D9 D9 D9 y9 y9 y9 y9 n9 h9 tk9 F9 N9 i9 i9 i9 i9; (try dsimp only [List.cons_append, List.nil_append] at N9); (try dsimp only); (try k_fold))
  k_with "exec For" => ((rename Fr _ _ _ _ => lF'); (with_unfolding_all refine For_invVF lF' (by first | (with_reducible (exact rfl)) | (exact rfl)) (by first | (with_reducible (exact rfl)) | (exact rfl)) ?_; k_whole))
  k_with "exec For Name Call cons nil" => ((rename Fr _ _ _ _ => lF'); (with_unfolding_all refine For_invVF lF' (by first | (with_reducible (exact rfl)) | (exact rfl)) (by first | (with_reducible (exact rfl)) | (exact rfl)) ?_; k_whole))
  k_with "pyIter ref" => ((with_reducible show wpAny _ _ (pyIter (Value.ref _)) (fun it s₂ => LoopAtV _ _ _ _ _ _ _ _ _ it s₂) _ _); refine Hold.out ?_)
  k_with "AnyPost" => (refine any_in (by assumption) (by first | (with_reducible (first | exact rin_t (by assumption) (by assumption) | exact rin_f (by assumption) (by assumption))) | (first | exact rin_t (by assumption) (by assumption) | exact rin_f (by assumption) (by assumption))) (by assumption) (by assumption) (by rfl) (by rfl) (by rfl) (by kcf_all) (by kcf_m) (by omega) (by k_all))
  k_with "exec Assign cons ListComp" => (k_here; k_dflt (refine Assign_ListComp_Z Builtin.bitXor (F₀ := by k_asm) (by rfl) (by with_unfolding_all rfl) (by with_unfolding_all rfl) (by decide) (by rfl) (by decide) (by rfl) (by rfl) (by decide) (by rfl) (by rfl) (elt_xor (by rfl) (by rfl) (by rfl) (by decide) (by decide)) ?_))
  k_with "call type:zip" => (k_here; k_dflt (refine zip_src (by rfl) (by k_asm) (by k_asm) (by first | exact isl_news (by k_asm) (by k_mem)) (by first | exact isl_news (by k_asm) (by k_mem) | exact isl_base (by k_asm) (by assumption)) (by assumption) (by assumption) (by rfl) (by first | exact rowN_len _ | rfl) ?_); intro zs9 D9 h9 tk9 hz9 F9 N9 l9; (try k_lt l9))
  k_fill
  intro dp un gd cn cs a ccd cl outer A₀ base h₀ L m s Q E B F X T hk hls hd' hu hret
  refine wpAny_call ?_
  k_dflt (refine' enter0 ?k1 ?k2 ?k3 ?k5 ?kA ?kF ?kK ?k6 ?k7 ?k8 ?k9 ?kB ?_ ?c2 ?c3 ?c4 ?c5)
  (case kA => exact rfl); (case kF => exact rfl); (case kK => assumption); (case k1 => k_asm); (case k2 => k_asm); (case k3 => k_asm); (case k5 => k_asm); (case k6 => k_is); (case k7 => k_is); (case k8 => ktr_room); (case k9 => exact BindsTo.of_eq rfl); (case c5 => decide); (case kB => exact locs rfl); (case c2 => exact rfl); (case c3 => exact rfl); (case c4 => exact rfl)
  intro L' h' FG' F' N' B' X' T'
  dsimp only
  (try k_fold)
  obtain ⟨vsG, hG, hIG⟩ : ∃ vs, s.heap.IsList 59 (List.toArray vs) ∧ IntsAre vs (rowN 0) := ⟨_, ⟨_, X' 59 _ (by k_is), rfl, _, rfl⟩, (by repeat constructor)⟩
  k_steps
  refine ⟨?_⟩
  refine' rest_loop (by rfl) ?hi ?hy (by assumption) (by assumption) rfl rfl ?_ ?_
  case hi => assumption
  case hy => repeat constructor
  · intro i n t u a ys na r h tk I oI hn hr hys hr8 hne F1 N1
    obtain ⟨r0, r1, r2, r3, r4, r5, r6, r7, t0, t1, t2, t3, t4, t5, t6, t7, rfl, rfl⟩ := ints8 hys hr8
    k_steps
    refine ⟨?_⟩
    refine' inner_loop (by rfl) (by assumption) (by assumption) (by assumption) ?hy2 ?hy8 ?hyr ?hyw ?hyt ?hya ?_ ?_
    case hya => omega
    case hyr => rfl
    case hyw => rfl
    case hyt => rfl
    case hy2 => exact .cons _ _ (.cons _ _ (.cons _ _ (.cons _ _ (.cons _ _ (.cons _ _ (.cons _ _ (.cons _ _ .nil)))))))
    case hy8 => rfl
    · intro i t u a ys na r h tk I2 oI2 hi5 hr2 hys2 hr82 hai2 hne2 F2 N2
      obtain ⟨q0, q1, q2, q3, q4, q5, q6, q7, s0, s1, s2, s3, s4, s5, s6, s7, rfl, rfl⟩ := ints8 hys2 hr82
      have hi5' : i = 0 ∨ i = 1 ∨ i = 2 ∨ i = 3 ∨ i = 4 := by omega
      rcases hi5' with rfl | rfl | rfl | rfl | rfl
      all_goals k_steps
    · intro m₁ a ys na h tk hys3 e1 e2 e3 F3 N3
      k_steps
      exact any_out hn hr hys3 F3 N3 e1 e2 (by kcf_all) (by kcf_m) (by k_all)
  · intro u a ys na h tk hys F1 N1
    generalize hgr : List.foldl rstep rinit (ns ++ (List.replicate (Int.toNat 8) [0]).flatten) = r at hys
    have hr8 : r.length = 8 := hgr ▸ rfold_len _ rfl
    obtain ⟨r0, r1, r2, r3, r4, r5, r6, r7, t0, t1, t2, t3, t4, t5, t6, t7, rfl, rfl⟩ := ints8 hys hr8
    k_steps
    exact list_ret hret (by assumption) (by assumption) (by assumption) (by kcf_m) (by unfold restI; rw [hgr]; exact .cons _ _ (.cons _ _ (.cons _ _ (.cons _ _ (.cons _ _ (.cons _ _ (.cons _ _ (.cons _ _ .nil))))))))
end Mine
end PartRest

section PartPlain1
open PySem PySem.W PySem.Calls PyProof.Rows
set_option maxRecDepth 100000
namespace Mine
abbrev zi (l : List Nat) : List Int := l.map fun (n : Nat) => (n : Int)
def rowX : Nat → List Nat
  | 0 => [30, 23, 15, 14, 10, 6, 12, 9]
  | k + 1 => (rowX k).map fun x => if x < 16 then 2 * x else (2 * x) ^^^ 41
theorem dbl_nat (x : Nat) : dbl (x : Int) = ((if x < 16 then 2 * x else (2 * x) ^^^ 41 : Nat) : Int) := by
  unfold dbl
  by_cases h : x < 16
  · rw [if_pos h, if_pos (by omega)]; omega
  · rw [if_neg h, if_neg (by omega)]
    have e : (2 : Int) * (x : Int) = ((2 * x : Nat) : Int) := by omega
    rw [e]
    exact natXor (2 * x) 41
theorem rowN_eq : ∀ k, rowN k = zi (rowX k)
  | 0 => rfl
  | k + 1 => by
    show (rowN k).map dbl = _
    rw [rowN_eq k]
    unfold zi
    show _ = ((rowX k).map _).map _
    rw [List.map_map, List.map_map]
    exact List.map_congr_left fun x _ => dbl_nat x
def rinX (top : Nat) (r : List Nat) (k : Nat) : List Nat := if (top >>> k) &&& 1 = 0 then r else List.zipWith (· ^^^ ·) r (rowX k)
def rstepX (r : List Nat) (sym : Nat) : List Nat := (List.range 5).foldl (rinX (r.getD 0 0)) (r.drop 1 ++ [sym])
def rinitX : List Nat := [0, 0, 0, 0, 0, 0, 0, 1]
def restX (ns : List Nat) : List Nat := let r := (ns ++ List.replicate 8 0).foldl rstepX rinitX; r.take 7 ++ [(r.getD 7 0) ^^^ 1]
theorem zw_nat : ∀ a b : List Nat, List.zipWith Builtin.bitXor (zi a) (zi b) = zi (List.zipWith (· ^^^ ·) a b)
  | [], _ => by simp [zi]
  | _ :: _, [] => by simp [zi]
  | x :: a, y :: b => by
    have h := zw_nat a b
    unfold zi at h ⊢
    rw [List.map_cons, List.map_cons, List.zipWith_cons_cons, List.zipWith_cons_cons, List.map_cons, h, natXor]
theorem rin_nat (top : Nat) (r : List Nat) (k : Nat) : rin (top : Int) (zi r) k = zi (rinX top r k) := by
  unfold rin rinX
  have e : Builtin.bitAnd ((top : Int).fdiv (2 ^ k)) 1 = (((top >>> k) &&& 1 : Nat) : Int) := by rw [natShr]; exact natAnd _ 1
  rw [e]
  by_cases h : (top >>> k) &&& 1 = 0
  · rw [if_pos h, if_pos (by rw [h]; rfl)]
  · rw [if_neg h, if_neg (by intro q; exact h (Int.natCast_inj.mp q)), rowN_eq, zw_nat]
theorem rinf_nat (top : Nat) : ∀ (l : List Nat) (r : List Nat), l.foldl (rin (top : Int)) (zi r) = zi (l.foldl (rinX top) r)
  | [], _ => rfl
  | k :: l, r => by rw [List.foldl_cons, List.foldl_cons, rin_nat, rinf_nat]
theorem getD_zi (l : List Nat) (i : Nat) : (zi l).getD i 0 = ((l.getD i 0 : Nat) : Int) := by
  simp only [zi, List.getD_eq_getElem?_getD, List.getElem?_map]
  cases l[i]? <;> rfl
theorem rstep_nat (r : List Nat) (s : Nat) : rstep (zi r) (s : Int) = zi (rstepX r s) := by
  unfold rstep rstepX
  rw [getD_zi, ← rinf_nat]
  congr 1
  simp [rsh, zi]
theorem rfold_nat : ∀ (l r : List Nat), (zi l).foldl rstep (zi r) = zi (l.foldl rstepX r)
  | [], _ => rfl
  | s :: l, r => by
    show (zi l).foldl rstep (rstep (zi r) (s : Int)) = _
    rw [rstep_nat, rfold_nat]
    rfl
theorem rowX_lt : ∀ k, ∀ x ∈ rowX k, x < 32
  | 0 => by decide
  | k + 1 => by
    intro x hx
    obtain ⟨y, hy, rfl⟩ := List.mem_map.mp hx
    have h := rowX_lt k y hy
    by_cases q : y < 16
    · rw [if_pos q]; omega
    · rw [if_neg q]
      have : ∀ y : Fin 32, 16 ≤ y.val → (2 * y.val) ^^^ 41 < 32 := by decide
      exact this ⟨y, h⟩ (by show 16 ≤ y; omega)
theorem zw_lt {a b : List Nat} (ha : ∀ x ∈ a, x < 32) (hb : ∀ x ∈ b, x < 32) : ∀ x ∈ List.zipWith (· ^^^ ·) a b, x < 32 := by
  induction a generalizing b with
  | nil => intro x hx; simp at hx
  | cons p a ih =>
    cases b with
    | nil => intro x hx; simp at hx
    | cons q b =>
      intro x hx
      rw [List.zipWith_cons_cons] at hx
      rcases List.mem_cons.mp hx with rfl | hx
      · exact Nat.xor_lt_two_pow (n := 5) (ha p (.head _)) (hb q (.head _))
      · exact ih (fun x h => ha x (.tail _ h)) (fun x h => hb x (.tail _ h)) x hx
theorem rinX_lt {top : Nat} {r : List Nat} {k : Nat} (h : ∀ x ∈ r, x < 32) : ∀ x ∈ rinX top r k, x < 32 := by
  unfold rinX
  split
  · exact h
  · exact zw_lt h (rowX_lt k)
theorem rinXf_lt {top : Nat} : ∀ (l : List Nat) {r : List Nat}, (∀ x ∈ r, x < 32) → ∀ x ∈ l.foldl (rinX top) r, x < 32
  | [], _, h => h
  | _ :: l, _, h => rinXf_lt l (rinX_lt h)
theorem rstepX_lt {r : List Nat} {s : Nat} (h : ∀ x ∈ r, x < 32) (hs : s < 32) : ∀ x ∈ rstepX r s, x < 32 := rinXf_lt _ fun x hx => by
  rcases List.mem_append.mp hx with hx | hx
  · exact h x (List.mem_of_mem_drop hx)
  · rw [List.mem_singleton.mp hx]; exact hs
theorem rfoldX_lt : ∀ (l : List Nat) {r : List Nat}, (∀ x ∈ l, x < 32) → (∀ x ∈ r, x < 32) → ∀ x ∈ l.foldl rstepX r, x < 32
  | [], _, _, h => h
  | s :: l, _, hl, h => rfoldX_lt l (fun x hx => hl x (.tail _ hx)) (rstepX_lt h (hl s (.head _)))
theorem getD_lt {r : List Nat} (h : ∀ x ∈ r, x < 32) (i : Nat) : r.getD i 0 < 32 := by
  rw [List.getD_eq_getElem?_getD]
  cases e : r[i]? with
  | none => decide
  | some x => exact h x (List.mem_of_getElem? e)
theorem restX_lt {ns : List Nat} (h : ∀ x ∈ ns, x < 32) : ∀ x ∈ restX ns, x < 32 := by
  have hr : ∀ x ∈ (ns ++ List.replicate 8 0).foldl rstepX rinitX, x < 32 := rfoldX_lt _ (fun x hx => by
    rcases List.mem_append.mp hx with hx | hx
    · exact h x hx
    · rw [List.eq_of_mem_replicate hx]; decide) (by decide)
  intro x hx
  rcases List.mem_append.mp hx with hx | hx
  · exact hr x (List.mem_of_mem_take hx)
  · rw [List.mem_singleton.mp hx]
    exact Nat.xor_lt_two_pow (n := 5) (getD_lt hr 7) (by decide)
end Mine
end PartPlain1

section PartToldL
open PySem PySem.W PySem.Calls PyProof.Rows
set_option maxRecDepth 100000
namespace Mine
def tst (N : Nat) (st : List Nat × Nat) (k p : Nat) : List Nat × Nat := if k % 3 = 2 ∨ k + 1 = N then (st.1 ++ [p % 32] ++ [3 * st.2 + p / 32], 0) else (st.1 ++ [p % 32], 3 * st.2 + p / 32)
def tsy (ps : List Nat) : Nat → List Nat × Nat
  | 0 => ([], 0)
  | i + 1 => tst ps.length (tsy ps i) i (ps.getD i 0)
def syms (ps : List Nat) : List Nat := (tsy ps ps.length).1
def toldL (ps : List Nat) : Str := cx (restX (syms ps))
theorem restI_nat (ns : List Nat) : restI (zi ns) = zi (restX ns) := by
  unfold restI restX
  have e : zi ns ++ (List.replicate (Int.toNat 8) [(0 : Int)]).flatten = zi (ns ++ List.replicate 8 0) := by simp [zi]
  have e2 : rinit = zi rinitX := rfl
  rw [e, e2, rfold_nat]
  generalize (ns ++ List.replicate 8 0).foldl rstepX rinitX = r
  unfold restF
  have e3 : Builtin.bitXor ((zi r).getD 7 0) 1 = (((r.getD 7 0) ^^^ 1 : Nat) : Int) := by rw [getD_zi]; exact natXor _ 1
  rw [e3]
  simp [zi]
theorem tst_lt {N k p : Nat} {st : List Nat × Nat} (h1 : ∀ x ∈ st.1, x < 32) (h2 : st.2 < 3 ^ (k % 3)) (hp : p < 95) : (∀ x ∈ (tst N st k p).1, x < 32) ∧ (tst N st k p).2 < 3 ^ ((k + 1) % 3) := by
  obtain ⟨l, c⟩ := st
  dsimp only at h1 h2
  have hc : 3 * c + p / 32 < 27 ∧ (k % 3 ≠ 2 → 3 * c + p / 32 < 3 ^ ((k + 1) % 3)) := by
    have h3 : k % 3 = 0 ∨ k % 3 = 1 ∨ k % 3 = 2 := by omega
    rcases h3 with h | h | h
    · rw [h] at h2
      have e : (k + 1) % 3 = 1 := by omega
      rw [e]
      have h4 : c < 1 := h2
      refine ⟨by omega, fun _ => ?_⟩
      show _ < 3
      omega
    · rw [h] at h2
      have e : (k + 1) % 3 = 2 := by omega
      rw [e]
      have h4 : c < 3 := h2
      refine ⟨by omega, fun _ => ?_⟩
      show _ < 9
      omega
    · rw [h] at h2
      have h4 : c < 9 := h2
      exact ⟨by omega, fun q => absurd h q⟩
  have hl : ∀ x ∈ l ++ [p % 32], x < 32 := fun x hx => by
    rcases List.mem_append.mp hx with hx | hx
    · exact h1 x hx
    · rw [List.mem_singleton.mp hx]; omega
  unfold tst
  by_cases q : k % 3 = 2 ∨ k + 1 = N
  · rw [if_pos q]
    refine ⟨fun x hx => ?_, Nat.pow_pos (by decide)⟩
    rcases List.mem_append.mp hx with hx | hx
    · exact hl x hx
    · rw [List.mem_singleton.mp hx]; exact Nat.lt_trans hc.1 (by decide)
  · rw [if_neg q]
    exact ⟨hl, hc.2 (fun h => q (.inl h))⟩
theorem tsy_lt {ps : List Nat} (hps : ∀ p ∈ ps, p < 95) : ∀ i, i ≤ ps.length → (∀ x ∈ (tsy ps i).1, x < 32) ∧ (tsy ps i).2 < 3 ^ (i % 3)
  | 0, _ => ⟨(fun x hx => by cases hx), by show 0 < 1; decide⟩
  | i + 1, hi => by
    obtain ⟨h1, h2⟩ := tsy_lt hps i (by omega)
    have hp : ps.getD i 0 < 95 := by
      rw [List.getD_eq_getElem?_getD, List.getElem?_eq_getElem (by omega)]
      exact hps _ (List.getElem_mem (by omega))
    exact tst_lt h1 h2 hp
theorem syms_lt {ps : List Nat} (hps : ∀ p ∈ ps, p < 95) : ∀ x ∈ syms ps, x < 32 := (tsy_lt hps _ (Nat.le_refl _)).1
theorem tsy_len (ps : List Nat) : ∀ i, (tsy ps i).1.length ≤ 2 * i
  | 0 => Nat.le_refl _
  | i + 1 => by
    have h := tsy_len ps i
    show (tst _ _ _ _).1.length ≤ _
    unfold tst
    split <;> simp only [List.length_append, List.length_singleton] <;> omega
abbrev nSyms : Str := Str.ofString "symbols"
abbrev nCls : Str := Str.ofString "classes"
abbrev nPlaces : Str := Str.ofString "places"
section
variable {prog : Program} {w : World} {A : Around} {E : Value → Shared → Prop} {s : Shared} {env : Env} {h₀ : Heap} {body : List Stmt} {Q : Flow → Shared → Prop}
def JT (ps : List Nat) (l a : Addr) (i : Nat) (m : Str → Option Value) (nx : List (Addr × Obj)) : Prop :=
  ∃ (ys : List Value) (na : Nat) (tc : Tok), IntsAre ys (zi (tsy ps i).1) ∧ nx = [(a, listOf ys.toArray na)] ∧ m nSyms = some (.ref a) ∧ m nCls = some (.int ((tsy ps i).2 : Int) tc) ∧ m nPlaces = some (.ref l)
theorem told_loop {m₀ : Str → Option Value} {r l a : Addr} {b : Int} {e₀ u₀ v₀ t₀ : Tok} {na : Nat} {ps : List Nat}
    (hh : A.handled = none) (hr : IsRange s.heap r 0 b 1 e₀ u₀ v₀) (hb : b = (ps.length : Int)) (hsmall : Builtin.Range.small 0 b 1 = true) (F : Fr h₀ env.locals s.heap m₀)
    (N : News h₀ env.locals s.heap [(a, listOf #[] na)]) (h1 : m₀ nSyms = some (.ref a)) (h2 : m₀ nCls = some (.int 0 t₀)) (h3 : m₀ nPlaces = some (.ref l))
    (turn : ∀ i t (u : Str → Option Value) ys na tc h tk I oI, i < ps.length → IntsAre ys (zi (tsy ps i).1) → @Ne Nat a I →
      Fr h₀ env.locals h (fun y => if y = Str.ofString "k" then some (.int (0 + (i : Int)) t) else if y = nSyms then some (.ref a) else if y = nCls then some (.int ((tsy ps i).2 : Int) tc) else if y = nPlaces then some (.ref l) else u y) →
      News h₀ env.locals h [(I, oI), (a, listOf ys.toArray na)] →
      wpAny (model prog w) A (execs body env) (AnyPost h₀ env.locals (JT ps l a (i + 1)) I oI { s with heap := h, toks := tk } Q) E { s with heap := h, toks := tk })
    (done : ∀ (u : Str → Option Value) ys na tc h tk, IntsAre ys (zi (syms ps)) →
      Fr h₀ env.locals h (fun y => if y = Str.ofString "k" then u (Str.ofString "k") else if y = nSyms then some (.ref a) else if y = nCls then some (.int ((tsy ps ps.length).2 : Int) tc) else if y = nPlaces then some (.ref l) else u y) →
      News h₀ env.locals h [(a, listOf ys.toArray na)] → Q .next { s with heap := h, toks := tk }) :
    wpAny (model prog w) A (pyIter (.ref r)) (fun it s₂ => LoopAtV prog w A h₀ env (Str.ofString "k") body Q E it s₂) E s := by
  subst hb
  refine iterR_any (n := ps.length) (JT ps l a) hh hr hsmall (by rw [rangeSize_nat]; omega) F N ⟨[], na, t₀, .nil, rfl, h1, h2, h3⟩ ?_ ?_
  · rintro i t m₁ news₁ h tk I oI hn hoff ⟨ys, na, tc, hys, rfl, h1, h2, h3⟩ F₁ N₁
    exact turn i t m₁ ys na tc h tk I oI hn hys (hoff _ (.head _)) (Fr.congr2 F₁ (three_names h1 h2 h3)) N₁
  · rintro m₁ news₁ h tk ⟨ys, na, tc, hys, rfl, h1, h2, h3⟩ F₁ N₁
    refine done m₁ ys na tc h tk hys (Fr.congr2 F₁ fun y => ?_) N₁
    have := three_names (x := Str.ofString "k") (v := m₁ (Str.ofString "k")) h1 h2 h3 y
    rw [← this]
    by_cases e : y = Str.ofString "k"
    · rw [if_pos e, e]
    · rw [if_neg e]
theorem any_told {h₀ h' : Heap} {L : Addr} {ps : List Nat} {l a I : Addr} {ys : List Value} {na i : Nat} {tc : Tok} {m' : Str → Option Value} {oI : Obj} {s₁ : Shared} {tk : Nat} {news' : List (Addr × Obj)} {Q : Flow → Shared → Prop} {c : Int}
    (hys : IntsAre ys (zi (tsy ps (i + 1)).1)) (hc : c = ((tsy ps (i + 1)).2 : Int)) (F : Fr h₀ L h' m') (N : News h₀ L h' news') (h1 : m' nSyms = some (.ref a)) (h2 : m' nCls = some (.int c tc)) (h3 : m' nPlaces = some (.ref l))
    (hin : (a, listOf ys.toArray na) ∈ news') (hI : (I, oI) ∈ news') (hne : @Ne Nat a I) :
    AnyPost h₀ L (JT ps l a (i + 1)) I oI s₁ Q .next { s₁ with heap := h', toks := tk } := by
  subst hc
  exact ⟨h', tk, m', news', [(a, listOf ys.toArray na)], rfl, F, N, (fun p hp => by rw [List.mem_singleton.mp hp]; exact hin), hI, (fun p hp => by rw [List.mem_singleton.mp hp]; exact hne), ys, na, tc, hys, rfl, h1, h2, h3⟩
end
theorem told_v (ps : List Nat) (i : Nat) : ((zi ps).getD (0 + (i : Int)).toNat 0).fmod 32 = ((ps.getD i 0 % 32 : Nat) : Int) := by
  have e : (0 + (i : Int)).toNat = i := by omega
  rw [e, getD_zi]
  exact (Int.fmod_eq_emod_of_nonneg _ (by decide)).trans (Int.natCast_emod _ 32).symm
theorem told_d (ps : List Nat) (i c : Nat) : 3 * (c : Int) + ((zi ps).getD (0 + (i : Int)).toNat 0).fdiv 32 = ((3 * c + ps.getD i 0 / 32 : Nat) : Int) := by
  have e : (0 + (i : Int)).toNat = i := by omega
  have e2 : ((ps.getD i 0 : Nat) : Int).fdiv 32 = ((ps.getD i 0 / 32 : Nat) : Int) := (Int.fdiv_eq_ediv_of_nonneg _ (by decide)).trans (Int.natCast_ediv _ 32).symm
  rw [e, getD_zi, e2]
  omega
theorem zi_snoc (l : List Nat) (x : Nat) : zi (l ++ [x]) = zi l ++ [(x : Int)] := by simp [zi]
theorem told_flush {ps : List Nat} {i : Nat} (hq : (0 + (i : Int)).fmod 3 = 2 ∨ 0 + (i : Int) + 1 = ((zi ps).length : Int)) :
    zi (tsy ps (i + 1)).1 = zi (tsy ps i).1 ++ [((zi ps).getD (0 + (i : Int)).toNat 0).fmod 32] ++ [3 * ((tsy ps i).2 : Int) + ((zi ps).getD (0 + (i : Int)).toNat 0).fdiv 32] ∧ (0 : Int) = ((tsy ps (i + 1)).2 : Int) := by
  have h : i % 3 = 2 ∨ i + 1 = ps.length := by
    have e : (0 + (i : Int)).fmod 3 = ((i % 3 : Nat) : Int) := by
      rw [Int.zero_add]
      exact (Int.fmod_eq_emod_of_nonneg _ (by decide)).trans (Int.natCast_emod _ 3).symm
    have e2 : (zi ps).length = ps.length := by simp [zi]
    rw [e, e2] at hq
    omega
  have e : tsy ps (i + 1) = ((tsy ps i).1 ++ [ps.getD i 0 % 32] ++ [3 * (tsy ps i).2 + ps.getD i 0 / 32], 0) := if_pos h
  rw [e, told_v, told_d]
  refine ⟨?_, rfl⟩
  rw [zi_snoc, zi_snoc]
theorem told_keep {ps : List Nat} {i : Nat} (hq : (0 + (i : Int)).fmod 3 ≠ 2) (hq2 : 0 + (i : Int) + 1 ≠ ((zi ps).length : Int)) :
    zi (tsy ps (i + 1)).1 = zi (tsy ps i).1 ++ [((zi ps).getD (0 + (i : Int)).toNat 0).fmod 32] ∧ 3 * ((tsy ps i).2 : Int) + ((zi ps).getD (0 + (i : Int)).toNat 0).fdiv 32 = ((tsy ps (i + 1)).2 : Int) := by
  have h : ¬ (i % 3 = 2 ∨ i + 1 = ps.length) := by
    have e : (0 + (i : Int)).fmod 3 = ((i % 3 : Nat) : Int) := by
      rw [Int.zero_add]
      exact (Int.fmod_eq_emod_of_nonneg _ (by decide)).trans (Int.natCast_emod _ 3).symm
    have e2 : (zi ps).length = ps.length := by simp [zi]
    rw [e] at hq
    rw [e2] at hq2
    omega
  have e : tsy ps (i + 1) = ((tsy ps i).1 ++ [ps.getD i 0 % 32], 3 * (tsy ps i).2 + ps.getD i 0 / 32) := if_neg h
  rw [e, told_v, told_d]
  refine ⟨?_, rfl⟩
  rw [zi_snoc]
theorem ints_two {ys : List Value} {l r : List Int} {a b : Int} {t u : Tok} (h : IntsAre ys l) (e : r = l ++ [a] ++ [b]) : IntsAre (ys ++ [.int a t] ++ [.int b u]) r := by
  subst e
  exact IntsAre.append (IntsAre.append h (.cons _ _ .nil)) (.cons _ _ .nil)
theorem ints_one {ys : List Value} {l r : List Int} {a : Int} {t : Tok} (h : IntsAre ys l) (e : r = l ++ [a]) : IntsAre (ys ++ [.int a t]) r := by
  subst e
  exact IntsAre.append h (.cons _ _ .nil)
theorem rowX_len : ∀ k, (rowX k).length = 8
  | 0 => rfl
  | k + 1 => by show ((rowX k).map _).length = 8; rw [List.length_map]; exact rowX_len k
theorem rinX_len {top : Nat} {r : List Nat} {k : Nat} (h : r.length = 8) : (rinX top r k).length = 8 := by
  unfold rinX
  split
  · exact h
  · rw [List.length_zipWith, h, rowX_len]; rfl
theorem rinXf_len {top : Nat} : ∀ (l : List Nat) {r : List Nat}, r.length = 8 → (l.foldl (rinX top) r).length = 8
  | [], _, h => h
  | _ :: l, _, h => rinXf_len l (rinX_len h)
theorem rstepX_len {r : List Nat} {sym : Nat} (h : r.length = 8) : (rstepX r sym).length = 8 := rinXf_len _ (by simp [h])
theorem rfoldX_len : ∀ (l : List Nat) {r : List Nat}, r.length = 8 → (l.foldl rstepX r).length = 8
  | [], _, h => h
  | _ :: l, _, h => rfoldX_len l (rstepX_len h)
theorem restX_len (ns : List Nat) : (restX ns).length = 8 := by
  have h := rfoldX_len (ns ++ List.replicate 8 0) (r := rinitX) rfl
  show (List.take 7 _ ++ [_]).length = 8
  rw [List.length_append, List.length_take, h]
  rfl
theorem comp_bound {ps : List Nat} (hps : ∀ p ∈ ps, p < 95) {k : Int} (h : k ∈ zi (restX (syms ps))) : 0 ≤ k ∧ k < ((32 : Nat) : Int) := by
  obtain ⟨n, hn, rfl⟩ := List.mem_map.mp h
  have := restX_lt (syms_lt hps) n hn
  omega
theorem item_ckI {k : Int} (h : 0 ≤ k ∧ k < ((32 : Nat) : Int)) : (⟨#[ck k.toNat]⟩ : Str) = Txt.item CKT k := by
  obtain ⟨n, rfl⟩ := Int.eq_ofNat_of_zero_le h.1
  exact (item_ck (by omega)).symm
theorem join_told (l : List Nat) : Txt.join (Str.ofString "") ((zi l).map fun k => (⟨#[ck k.toNat]⟩ : Str)) = cx l := by
  rw [join_one]
  unfold cx zi
  rw [List.map_map]
  rfl
theorem sz_ints {vs : List Value} {ns : List Int} (h : IntsAre vs ns) (hl : ns.length = 8) : vs.toArray.size ≤ sizeLine := sz8 (h.length.trans hl)
end Mine
end PartToldL

section PartTold
open PySem PySem.W PySem.Calls PyProof.Rows
set_option maxRecDepth 100000
namespace Mine
local macro_rules | `(tactic| walk_at $s:str) => `(tactic| k_extra $s)
theorem restU {w : World} {mean mg mb} {l : Addr} {ys : List Value} {ss : List Nat} {news : List (Addr × Obj)} {dp un : Nat} {gd : Option (List Code)} {cn : Str} {cs : Scope} {a : Addr} {ccd : Value} {cl : List (Str × Addr)} {outer : List Env} {A₀ : Around} {base h₀ : Heap} {L : Addr} {m : Str → Option Value} {s : Shared} {Q E : Value → Shared → Prop}
    (B : Below A₀ base outer h₀) (F : Fr h₀ L s.heap m) (X : (hd.heap_39 w.params).In h₀) (N : News h₀ L s.heap news) (T : Top hd.view_39 (looseW hd.view_39 [Str.ofString "_law_generator"]) mean mg mb h₀) (hk : cs.kind = .function)
    (hl : s.heap.IsList l ys.toArray) (hi : IntsAre ys (zi ss)) (hlen : ss.length ≤ 1000) (hd' : dp + 25 < recursionLimit) (hu : un + 120 < cLine)
    (ret : ∀ (D : Addr) (zs : List Value) (n : Nat) (h' : Heap) (tk' : Nat), Fr h₀ L h' m → News h₀ L h' ((D, W.listOf zs.toArray n) :: news) → (∀ p ∈ news, p.1 ≠ D) → IntsAre zs (zi (restX ss)) → Q (.ref D) { s with heap := h', toks := tk' }) :
      wpAny (model PySem.Challenge.rw_kk0012_01.row.prog w) (ktrTop dp un gd cn cs L a ccd cl outer) (call (.ref 76) [.ref l]) Q E s := by
  refine restC l ys (zi ss) hi (by simpa [zi] using hlen) dp un gd cn cs a ccd cl outer A₀ base h₀ L m s Q E B F X T hk hl hd' hu ?_
  intro D zs n h' tk' st F' hD hn hz
  rw [restI_nat] at hz
  refine ret D zs n h' tk' F' (News.push1 F N st hD hn) (fun p hp e => ?_) hz
  have := (N p hp).1
  rw [e, hn] at this
  cases this
set_option maxHeartbeats 8000000 in
theorem toldC {w : World} {mean mg mb} (l : Addr) (vs : List Value) (ps : List Nat) (hi : IntsAre vs (zi ps)) (hps : ∀ p ∈ ps, p < 95) (hlen : ps.length ≤ 400) : 
  ∀ (dp un : Nat) (gd : Option (List Code)) (cn : Str) (cs : Scope) (a : Addr) (ccd : Value) (cl : List (Str × Addr)) (outer : List Env) (A₀ : Around) (base h₀ : Heap) (L : Addr) (m : Str → Option Value) (s : Shared) (Q E : Value → Shared → Prop),
    Below A₀ base outer h₀ → Fr h₀ L s.heap m → (hd.heap_39 w.params).In h₀ → Top hd.view_39 (looseW hd.view_39 [Str.ofString "_law_generator"]) mean mg mb h₀ → cs.kind = .function →
    s.heap.IsList l vs.toArray → dp + 35 < recursionLimit → un + 160 < cLine → RStr0 (toldL ps) h₀ L m s Q →
      wpAny (model PySem.Challenge.rw_kk0012_01.row.prog w) (ktrTop dp un gd cn cs L a ccd cl outer) (call (.ref 81) [.ref l]) Q E s := by
  w_top off
  k_with_none
  k_with "call ref" => (k_here; k_dflt (refine restU (by first | (with_reducible (k_asm)) | (k_asm)) (by first | (with_reducible (k_asm)) | (k_asm)) (by first | (with_reducible (k_asm)) | (k_asm)) (by first | (with_reducible (k_asm)) | (k_asm)) (by first | (with_reducible (k_asm)) | (k_asm)) (by first | (with_reducible (first | exact rfl | assumption)) | (first | exact rfl | assumption)) (by first | (with_reducible (exact isl_news (by k_asm) (by k_mem))) | (exact isl_news (by k_asm) (by k_mem))) (by first | (with_reducible (assumption)) | (assumption)) (by first | (with_reducible (assumption)) | (assumption)) (by first | (with_reducible (ktr_room)) | (ktr_room)) (by first | (with_reducible (ktr_units)) | (ktr_units)) ?_); intro D9 z9 n9 h9 tk9 F9 N9 l9 i9; (try (simp only [List.forall_mem_cons] at l9)); (try dsimp only); (try k_fold))
  k_with "exec For" => ((rename Fr _ _ _ _ => lF'); (with_unfolding_all refine For_invVF lF' (by first | (with_reducible (exact rfl)) | (exact rfl)) (by first | (with_reducible (exact rfl)) | (exact rfl)) ?_; k_whole))
  k_with "exec For Name Call cons nil" => ((rename Fr _ _ _ _ => lF'); (with_unfolding_all refine For_invVF lF' (by first | (with_reducible (exact rfl)) | (exact rfl)) (by first | (with_reducible (exact rfl)) | (exact rfl)) ?_; k_whole))
  k_with "pyIter ref" => ((with_reducible show wpAny _ _ (pyIter (Value.ref _)) (fun it s₂ => LoopAtV _ _ _ _ _ _ _ _ _ it s₂) _ _); refine Hold.out ?_)
  k_with "call builtin:list.append" => (k_here; (with_reducible show wpAny _ _ (call (Value.builtin _) [Value.ref _, _]) _ _ _); k_dflt (refine append_K (by first | (with_reducible (k_asm)) | (k_asm)) (by first | (with_reducible (k_asm)) | (k_asm)) (by first | (with_reducible (k_upd)) | (k_upd)) ?_ (by first | (with_reducible ((simp only [List.size_toArray, Array.size_push, List.length_append, List.length_cons, List.length_nil, PySem.sizeLine_eq]; omega))) | ((simp only [List.size_toArray, Array.size_push, List.length_append, List.length_cons, List.length_nil, PySem.sizeLine_eq]; omega))); k_whole); intro h' F' N'; (try k_sweep))
  k_with "AnyPost" => ((rename News _ _ _ _ => nE'); (try simp only [List.push_toArray] at nE'); first | exact any_told (ints_two (by assumption) (told_flush (.inl (by assumption))).1) (told_flush (.inl (by assumption))).2 (by assumption) nE' (by rfl) (by rfl) (by rfl) (by kcf_m) (by kcf_m) (by assumption) | exact any_told (ints_two (by assumption) (told_flush (.inr (by assumption))).1) (told_flush (.inr (by assumption))).2 (by assumption) nE' (by rfl) (by rfl) (by rfl) (by kcf_m) (by kcf_m) (by assumption) | exact any_told (ints_one (by assumption) (told_keep (by assumption) (by assumption)).1) (told_keep (by assumption) (by assumption)).2 (by assumption) nE' (by rfl) (by rfl) (by rfl) (by kcf_m) (by kcf_m) (by assumption))
  k_with "eval ListComp" => (k_here; k_dflt (refine LCg.ListComp_U (F₀ := by k_asm) (by with_unfolding_all rfl) (by decide) (by rfl) (by decide) (by rfl) ?_))
  k_with "CompSrc" => (k_here; k_dflt (refine LCg.CompSrc.ledger (by rfl) (by k_asm) (by k_asm) (by k_mem) (by exact sz_ints (by assumption) (by assumption)) ?_; intro g'; (refine' kct_list (fun k => ⟨#[ck k.toNat]⟩) (by assumption) (fun k' t' I' oI' C' oC' D' m' ys' h' tk' E' hk' hC' hx' F' N' off' ne' => ?_) ?_); (all_goals (try (simp only [LCg.Off3, and_true] at off'))); (all_goals (try ((show KPfMark → _); intro hMark'))); (all_goals (try (replace hk' := comp_bound (by assumption) hk')))))
  k_with "subscriptTail" => (k_here; (with_reducible show wpAny _ _ (subscriptTail _ _ (Value.str _ _) (Value.int _ _)) _ _ _); (refine KXi.item (n := 32) (by decide +kernel) (by omega) (by omega) (by decide) ?_); intro kxiE)
  k_with "subscriptTail Name Name str int" => (k_here; (with_reducible show wpAny _ _ (subscriptTail _ _ (Value.str _ _) (Value.int _ _)) _ _ _); (refine KXi.item (n := 32) (by decide +kernel) (by omega) (by omega) (by decide) ?_); intro kxiE)
  k_with "KCtEl" => exact kct_el (item_ckI (by assumption)) (by with_unfolding_all rfl) (by with_unfolding_all rfl)
  k_fill
  intro dp un gd cn cs a ccd cl outer A₀ base h₀ L m s Q E B F X T hk hls hd' hu hret
  refine wpAny_call ?_
  k_dflt (refine' enter0 ?k1 ?k2 ?k3 ?k5 ?kA ?kF ?kK ?k6 ?k7 ?k8 ?k9 ?kB ?_ ?c2 ?c3 ?c4 ?c5)
  (case kA => exact rfl); (case kF => exact rfl); (case kK => assumption); (case k1 => k_asm); (case k2 => k_asm); (case k3 => k_asm); (case k5 => k_asm); (case k6 => k_is); (case k7 => k_is); (case k8 => ktr_room); (case k9 => exact BindsTo.of_eq rfl); (case c5 => decide); (case kB => exact locs rfl); (case c2 => exact rfl); (case c3 => exact rfl); (case c4 => exact rfl)
  intro L' h' FG' F' N' B' X' T'
  dsimp only
  (try k_fold)
  have hzl : (zi ps).length = ps.length := by simp [zi]
  have hvl : vs.length = ps.length := by rw [hi.length, hzl]
  k_steps
  refine ⟨?_⟩
  refine' told_loop (ps := ps) (by rfl) (by assumption) ?hb ?hs (by assumption) (by assumption) ?h1 ?h2 ?h3 ?_ ?_
  case h1 => rfl
  case h2 => rfl
  case h3 => rfl
  case hb => rw [hzl]
  case hs => rw [hzl]; exact small_one (by omega) (by omega) (by omega) (by omega)
  · intro i t u ys na tc h tk I oI hin hys hne F1 N1
    have hysl : ys.length ≤ 800 := by have h1 := hys.length; have h2 := tsy_len ps i; simp only [zi, List.length_map] at h1; omega
    k_steps
  · intro u ys na tc h tk hys F1 N1
    have hrl := restX_len (syms ps)
    have hrz : (zi (restX (syms ps))).length = 8 := by simp only [zi, List.length_map]; exact hrl
    have hsl : (syms ps).length ≤ 1000 := by have := tsy_len ps ps.length; show (tsy ps ps.length).1.length ≤ 1000; omega
    k_steps
    exact str_ret hret (join_told _) (by assumption) (by assumption)
end Mine
end PartTold

section PartTxt1
open PySem PySem.W PySem.Calls PyProof.Rows
set_option maxRecDepth 100000
namespace Mine
abbrev HASH : Str := Str.ofString "#"
theorem hash_eq : HASH = ⟨#[35]⟩ := by decide
def bare (x : Str) : Str := ⟨(x.cps.toList.takeWhile fun n => !(n == 35)).toArray⟩
theorem takeWhile_free {p : Nat → Bool} : ∀ {a b : List Nat}, (∀ n ∈ a, p n = true) → (∀ n r, b = n :: r → p n = false) → (a ++ b).takeWhile p = a
  | [], [], _, _ => rfl
  | [], n :: r, _, h => by rw [List.nil_append, List.takeWhile_cons, h n r rfl]; rfl
  | x :: a, b, ha, hb => by rw [List.cons_append, List.takeWhile_cons, ha x (.head _), if_pos rfl, takeWhile_free (fun n h => ha n (.tail _ h)) hb]
theorem split_head (x : Str) : ∃ r, Txt.split x HASH = bare x :: r := by
  rw [hash_eq]
  have hj := StrLaws.join_split x ⟨#[35]⟩
  have hf := StrLaws.split_free x 35
  cases hs : Txt.split x ⟨#[35]⟩ with
  | nil =>
    exfalso
    unfold Txt.split at hs
    split at hs
    · cases hs
    · split at hs
      · cases hs
      · have h := congrArg List.length hs
        rw [length_partsBetween] at h
        simp at h
  | cons p r =>
    refine ⟨r, ?_⟩
    rw [hs] at hj hf
    have hp : ∀ n ∈ p.cps.toList, (!(n == 35)) = true := fun n hn => by
      have := hf p (.head _)
      simp only [Bool.not_eq_true', beq_eq_false_iff_ne, ne_eq]
      intro e
      exact this (e ▸ hn)
    have : bare x = p := by
      unfold bare
      refine Str.ext' (Array.toList_inj.mp ?_)
      show List.takeWhile _ _ = p.cps.toList
      rw [← hj]
      cases r with
      | nil =>
        show List.takeWhile _ p.cps.toList = _
        have := takeWhile_free (p := fun n => !(n == 35)) (a := p.cps.toList) (b := []) hp (fun n r e => by cases e)
        rwa [List.append_nil] at this
      | cons q r =>
        show List.takeWhile _ (p ++ ⟨#[35]⟩ ++ Str.join ⟨#[35]⟩ (q :: r)).cps.toList = _
        rw [Str.cps_append, Str.cps_append, Array.toList_append, Array.toList_append, List.append_assoc]
        exact takeWhile_free hp (fun n r e => by
          have : n = 35 := by
            have := congrArg List.head? e
            simpa using this.symm
          rw [this]; rfl)
    rw [this]
theorem split_vals {x : Str} {b : Str} (hb : bare x = b) {l : List (Str × Tok)} (e : l.map (·.1) = Txt.split x HASH) : ∃ t l', l = (b, t) :: l' := by
  obtain ⟨r, hr⟩ := split_head x
  rw [hr, hb] at e
  cases l with
  | nil => cases e
  | cons p l =>
    obtain ⟨p1, p2⟩ := p
    have : p1 = b := (List.cons.inj e).1
    exact ⟨p2, l, by rw [this]⟩
theorem nohash {x b : Str} (h : (Builtin.Str.occurrences x HASH 0 x.length 1).isEmpty = true) (hb : bare x = b) : x = b := by
  rw [← hb]
  have h1 := StrLaws.found_one x 35
  rw [← hash_eq, h] at h1
  have h2 : 35 ∉ x.cps.toList := by simpa using h1
  unfold bare
  refine Str.ext' (Array.toList_inj.mp ?_)
  show x.cps.toList = List.takeWhile _ x.cps.toList
  have := takeWhile_free (p := fun n => !(n == 35)) (a := x.cps.toList) (b := []) (fun n hn => by
    simp only [Bool.not_eq_true', beq_eq_false_iff_ne, ne_eq]
    intro e
    exact h2 (e ▸ hn)) (fun n r e => by cases e)
  rw [List.append_nil] at this
  exact this.symm
theorem told_len (ps : List Nat) : (told ps).length = 8 := rfl
end Mine
end PartTxt1

section PartAddc
open PySem PySem.W PySem.Calls PyProof.Rows
set_option maxRecDepth 100000
namespace Mine
local macro_rules | `(tactic| walk_at $s:str) => `(tactic| k_extra $s)
theorem chkU {w : World} {mean mg mb} {x : Str} {ps : List Nat} {t2 : Tok} {news : List (Addr × Obj)} {dp un : Nat} {gd : Option (List Code)} {cn : Str} {cs : Scope} {a : Addr} {ccd : Value} {cl : List (Str × Addr)} {outer : List Env} {A₀ : Around} {base h₀ : Heap} {L : Addr} {m : Str → Option Value} {s : Shared} {Q E : Value → Shared → Prop}
    (B : Below A₀ base outer h₀) (F : Fr h₀ L s.heap m) (X : (hd.heap_39 w.params).In h₀) (N : News h₀ L s.heap news) (T : Top hd.view_39 (looseW hd.view_39 [Str.ofString "_law_generator"]) mean mg mb h₀) (hk : cs.kind = .function)
    (hx : x = tx ps) (hps : ∀ p ∈ ps, p < 95) (hlen : ps.length < 1000) (hd' : dp + 15 < recursionLimit) (hu : un + 80 < cLine)
    (ret : ∀ (t : Tok) (h' : Heap) (tk' : Nat), Fr h₀ L h' m → News h₀ L h' news → Q (.str (told ps) t) { s with heap := h', toks := tk' }) :
      wpAny (model PySem.Challenge.rw_kk0012_01.row.prog w) (ktrTop dp un gd cn cs L a ccd cl outer) (call (.ref 51) [.str x t2]) Q E s := by
  subst hx
  refine chkC ps hps t2 dp un gd cn cs a ccd cl outer A₀ base h₀ L m s Q E B F X T hk (by rw [tx_length]; exact hlen) hd' hu ?_
  intro t h' tk' st F'
  exact ret t h' tk' F' (News.stays N st)
set_option maxHeartbeats 8000000 in
theorem addC {w : World} {mean mg mb} (x : Str) (tx2 : Tok) (ps : List Nat) (hps : ∀ p ∈ ps, p < 95) (hlen : ps.length < 900) (hxl : x.length < 1000) (hb : bare x = tx ps) : 
  ∀ (dp un : Nat) (gd : Option (List Code)) (cn : Str) (cs : Scope) (a : Addr) (ccd : Value) (cl : List (Str × Addr)) (outer : List Env) (A₀ : Around) (base h₀ : Heap) (L : Addr) (m : Str → Option Value) (s : Shared) (Q E : Value → Shared → Prop),
    Below A₀ base outer h₀ → Fr h₀ L s.heap m → (hd.heap_39 w.params).In h₀ → Top hd.view_39 (looseW hd.view_39 [Str.ofString "_law_generator"]) mean mg mb h₀ → cs.kind = .function →
    dp + 25 < recursionLimit → un + 120 < cLine → RStr0 (tx ps ++ Str.ofString "#" ++ told ps) h₀ L m s Q →
      wpAny (model PySem.Challenge.rw_kk0012_01.row.prog w) (ktrTop dp un gd cn cs L a ccd cl outer) (call (.ref 58) [.str x tx2]) Q E s := by
  w_top off
  k_with_none
  k_with "call builtin:str.split" => (k_here; (refine KSpl.split1 (by k_asm) (by k_asm) (by decide) ?_ (by rw [PySem.sizeLine_eq]; omega)); intro D' l' h' k' e' a' F' N' l1; clear a'; (obtain ⟨t9, l9, e9⟩ := split_vals (by assumption) e'); subst e9; clear e'; simp only [strValues, List.map_cons] at N'; (try k_lt l1))
  k_with "call ref" => (k_here; k_dflt (refine chkU (by first | (with_reducible (k_asm)) | (k_asm)) (by first | (with_reducible (k_asm)) | (k_asm)) (by first | (with_reducible (k_asm)) | (k_asm)) (by first | (with_reducible (k_asm)) | (k_asm)) (by first | (with_reducible (k_asm)) | (k_asm)) (by first | (with_reducible (first | exact rfl | assumption)) | (first | exact rfl | assumption)) (by first | (with_reducible (first | exact rfl | exact nohash (by assumption) (by assumption))) | (first | exact rfl | exact nohash (by assumption) (by assumption))) (by first | (with_reducible (assumption)) | (assumption)) (by first | (with_reducible (omega)) | (omega)) (by first | (with_reducible (ktr_room)) | (ktr_room)) (by first | (with_reducible (ktr_units)) | (ktr_units)) ?_); intro t9 h9 tk9 F9 N9; (try dsimp only); (try k_fold))
  k_fill
  intro dp un gd cn cs a ccd cl outer A₀ base h₀ L m s Q E B F X T hk hd' hu hret
  refine wpAny_call ?_
  k_dflt (refine' enter0 ?k1 ?k2 ?k3 ?k5 ?kA ?kF ?kK ?k6 ?k7 ?k8 ?k9 ?kB ?_ ?c2 ?c3 ?c4 ?c5)
  (case kA => exact rfl); (case kF => exact rfl); (case kK => assumption); (case k1 => k_asm); (case k2 => k_asm); (case k3 => k_asm); (case k5 => k_asm); (case k6 => k_is); (case k7 => k_is); (case k8 => ktr_room); (case k9 => exact BindsTo.of_eq rfl); (case c5 => decide); (case kB => exact locs rfl); (case c2 => exact rfl); (case c3 => exact rfl); (case c4 => exact rfl)
  intro L' h' FG' F' N' B' X' T'
  dsimp only
  (try k_fold)
  have htl := tx_length ps
  have htd := told_len ps
  k_steps
  · exact str_ret hret (by rw [nohash (by assumption) hb]) (by assumption) (by assumption)
  · exact str_ret hret rfl (by assumption) (by assumption)
end Mine
end PartAddc

section PartFmt
open PySem PySem.W PySem.Calls PyProof.Rows
set_option maxRecDepth 100000
namespace Mine
set_option maxHeartbeats 1000000 in
theorem fmtBad {prog : Program} {w : World} {A : Around} {E : Value → Shared → Prop} {s : Shared} {t u : Tok} {Q : Value → Shared → Prop} {y : Str} (hy : y.length ≤ 1000000) (h : ∀ (r : Str) (t' : Tok) (k : Nat), Q (.str r t') { s with toks := k }) :
    wpAny (model prog w) A (binaryOp .Mod (.str (Str.ofString "Invalid character '%s' in the input string") t) (.str y u)) Q E s := by
  refine' KPc.mod_str ?kpcF hy ?kpcm ?_
  (case kpcF => kpc_eq)
  (case kpcm => k_dflt kpc_run_s)
  intro _ _
  exact h _ _ _
end Mine
end PartFmt

section PartExc1
open PySem PySem.W PySem.Calls PyProof.Rows
set_option maxRecDepth 100000
namespace Mine
theorem raiseX {prog : Program} {w : World} {A : Around} {E : Value → Shared → Prop} {s : Shared} {name : Str} {scope : Scope} {L a : Addr} {cd : Value} {cl : List (Str × Addr)} {h₀ : Heap} {m mg : Str → Option Value}
    {x : Str} {C : Addr} {B newId initId : String} {bm : List Value} {np cpos pos : Pos} {Q : Flow → Shared → Prop} {e₀ : Expr}
    (F : Fr h₀ L s.heap m) (hg : h₀.Ns mainGlobals mg) (O : OwnCls x C bm newId mg h₀) (FB : ExcBaseFacts B newId initId bm) (hh : A.handled = none)
    (h : wpAny (model prog w) A (spliced (backTo cpos (starEach [e₀] (envX name scope L a cd cl)))) (fun vs s₂ => vs.length ≤ sizeLine ∧ (∀ b o, h₀.get? b = some o → s₂.heap.get? b = some o) ∧
      ∀ h' e, Heap.MadeExcOf s₂.heap h' e (.ref C) vs → E (.ref e) { s₂ with heap := h' }) E s)
    (he : starEach [e₀] (envX name scope L a cd cl) = [(false, eval e₀ (envX name scope L a cd cl))])
    (hk : scope.kind = .function) (hx : (envX name scope L a cd cl).kindOf x = some .globalImplicit) (hd : (x == ("__debug__" : Str)) = false) :
    wpAny (model prog w) A (exec (.Raise (some (.Call (.Name x np) [e₀] [] cpos)) none pos) (envX name scope L a cd cl)) Q E s := by
  obtain ⟨tl, N, nm, q, bs, hdct, sn, sub, ab, col, dd, k0, k1, k2, k3, k5, mN, hC, hN, hni, T⟩ := O.obj
  refine wpAny_Raise_call_subT (C := C) (nm := nm) (q := q) (N := N) (bs := bs) (bm := tl) (hdct := hdct) (sn := sn) (sub := sub) (ab := ab) (col := col) (dd := dd) (k0 := k0) (k1 := k1) (k2 := k2) (k3 := k3) (k5 := k5)
    FB (mN := mN) (T.hasType FB.hasBase) hh (by rw [he]; rfl) hni
    (Calls.Name_function_global hk hx (Calls.loadGlobal_global (env := envX name scope L a cd cl) (hg.keeps F.keep) O.bound ⟨rfl, ?_⟩) hd)
  rw [he] at h ⊢
  exact Calls.evalArgs_plain (wpAny_mono h (fun vs s₂ h₂ => ⟨rfl, h₂.1, h₂.2.1 _ _ hC, hN.keeps h₂.2.1, T.keeps h₂.2.1, h₂.2.2⟩) fun _ _ y => y)
theorem leaveX {M : Model} {A : Around} {E : Value → Shared → Prop} {s' : Shared} {base g h : Heap} {outer : List Env} {e : Addr} {m : Str → Option Value} {env : Env} {L : Addr} {Q : Unit → Shared → Prop} {news : List (Addr × Obj)} {cls : Value} {vs : List Value}
    (K : Below A base outer g) (hx : Heap.MadeExcOf h s'.heap e cls vs) (F : Fr g L h m) (N : News g L h news) (hf : env.frame = some L) (hk : env.scope.kind = .function)
    (hQ : ∀ h' t, RaisedK base outer e cls t vs news h' → g.UpToSlots h' → Q () { s' with heap := h' }) :
    wpAny M (A.deeper env) (leaving env (.ref e)) Q E s' := by
  have K' := pushX K F hf hk
  have hin : ∀ v ∈ (env :: outer), ∀ b, v.frame = some b → b ∈ (env :: outer).filterMap (·.frame) := fun v he b hb => List.mem_filterMap.mpr ⟨v, he, hb⟩
  have st : base.StaysIn (hideAll h ((env :: outer).filterMap (·.frame))) := fun b o q => hideAll_get _ (K'.stays b o q) fun hm => by
    rw [(K'.frames.mem hm).1] at q; cases q
  have hl : ∀ q ∈ news, (hideAll h ((env :: outer).filterMap (·.frame))).get? q.1 = some q.2 ∧ base.get? q.1 = none := fun q hq => by
    refine ⟨hideAll_get _ (N q hq).1 fun hm => ?_, fresh_of_stays K.stays (N q hq).2.2⟩
    obtain ⟨v, he, hv⟩ := List.mem_filterMap.mp hm
    rcases List.mem_cons.mp he with rfl | he
    · rw [hf] at hv
      exact (N q hq).2.1 (Option.some.inj hv).symm
    · obtain ⟨o, ho, _⟩ := (K.frames.mem (List.mem_filterMap.mpr ⟨v, he, hv⟩)).2
      rw [(N q hq).2.2] at ho; cases ho
  exact wpAny_leaves_madeW K'.stack hf (fun b o q => of_hideAll _ q) (funFrames_hide K'.frames hin) hx fun h' t x1 x2 x3 x4 =>
    hQ h' t ⟨⟨_, st, hl, x1, x3⟩, x2⟩ (((Heap.UpToSlots.of_keeps F.keep).trans (Heap.UpToSlots.of_keeps hx.keeps)).trans x4)
end Mine
end PartExc1

section PartExc2
open PySem PySem.W PySem.Calls PyProof.Rows PySem.Spec
set_option maxRecDepth 100000
namespace Mine
section
variable {prog : Program} {w : World} {A A₀ : Around} {s : Shared} {K : Frag} {L : Addr} {h₀ base : Heap} {m mg mb : Str → Option Value} {p : Program} {loose : List Str} {mean : ExcName → Option Value}
theorem enterS0 {env : Env} {R : Result → Shared → Prop} {name qual : Str} {params : Arguments} {body : List Stmt} {scope : Scope} {dV kV doc pm cdv ct oc : Value} {an od : Option Addr} {osl : Array (Option Value)} {f : Addr} {args : Args} {binds : List (Str × Value)}
    (B : Below A₀ base [] h₀) (F : Fr h₀ L s.heap m) (X₀ : K.In h₀) (T : Top p loose mean mg mb h₀) (hA : A.frames = some [env]) (hf : env.frame = some L) (hke : env.scope.kind = .function)
    (ho : K.lookup f = some ⟨oc, od, .func (fnOf name qual params body scope dV kV doc pm an cdv ct), osl⟩) (hcd : codeIn K cdv qual = true) (hroom : A.depth < recursionLimit)
    (hbind : BindsTo s (fnOf name qual params body scope dV kV doc pm an cdv ct) args binds) (hloc : ∀ y ∈ binds, scope.names.lookup y.1 = some .local)
    (h : ∀ L' h₁, Fr h₀ L s.heap m → Fr s.heap L' h₁ (fun y => binds.reverse.lookup y) → News s.heap L' h₁ [] → Below A base [env] s.heap → K.In s.heap → Top p loose mean mg mb s.heap → KtsDicts ([env].filterMap (·.frame)) s.heap →
      wpAny (model prog w) (A.deeper (envOf qual scope L' f cdv)) (execs body (envOf qual scope L' f cdv))
        (fun fl s' => LeaveS0 ([env].filterMap (·.frame)) h₀ L m s.heap R (match fl with | .ret v => v | _ => .none) s')
        (fun e s' => wpAny (model prog w) (A.deeper (envOf qual scope L' f cdv)) (leaving (envOf qual scope L' f cdv) e) (fun _ s'' => R (.error e) s'') (fun e' s'' => R (.error e') s'') s')
        { s with heap := h₁, toks := s.toks + binds.length })
    (hco : scope.isCoroutine = false) (hgen : scope.isGenerator = false) (hk : scope.kind = .function)
    (hcell : ∀ x ∈ scope.names, x.2 ≠ .cell) : codeAny (model prog w) A (.call (.ref f) args) R s := by
  obtain ⟨FG, BG, st, lv⟩ := groundX (R := R) (news := []) B F (fun _ hp => nomatch hp) hA hf hke
  have Xs : K.In s.heap := X₀.keeps F.keep
  obtain ⟨oL, es, ep, hLg, hLd, hLk, hLf⟩ := id F.ns
  have hfs : ∀ b, b ∈ [env].filterMap (·.frame) → b = L := fun b hb => by
    rw [List.filterMap_cons_some hf] at hb
    simpa using hb
  refine codeAny_call_def (fd := fnX name qual params body scope [] dV kV doc pm an cdv ct) (body := body) (binds := binds) hroom (Xs _ _ ho) rfl (T.nolimit.keeps F.keep) (codeRec_of Xs hcd) rfl hbind hcell hloc (fun h₁ hns hk₁ => ?_) hco hgen hk
  refine wpAny_mono (h s.heap.objs.size h₁ FG ⟨hns, fun b o e => hk₁ b o e, Nat.le_refl _⟩ (fun _ hp => nomatch hp) BG Xs (T.keeps F.keep) (fun b hb => by
    rw [hfs b hb]; exact ⟨oL, es, ep, hLg, hLd⟩)) (fun fl s' hl => ?_) fun _ _ y => y
  obtain ⟨g', L', m', news', T', F', N', k⟩ := hl
  have nL₀ : h₀.get? L = none := kts_self F
  obtain ⟨sl, hs⟩ := T'.up hLg
  refine k ⟨⟨_, es, ep, F'.keep _ _ hs, hLd, hLk, hLf⟩, fun b o e => F'.keep b o (T'.other b o (F.keep b o e) (fun q => by
    rw [hfs b q, nL₀] at e
    cases e)), F.above⟩ fun p hp => ⟨(N' p hp).1, fun q => ?_, ?_⟩
  · have := (N' p hp).2.2; rw [q, hs] at this; cases this
  · cases q : h₀.get? p.1 with
    | none => rfl
    | some o =>
      obtain ⟨sl', hs'⟩ := T'.up (F.keep _ _ q)
      have := (N' p hp).2.2
      rw [hs'] at this
      cases this
end
theorem leaveXS {M : Model} {A : Around} {E : Value → Shared → Prop} {s' : Shared} {base g h : Heap} {outer : List Env} {e : Addr} {m : Str → Option Value} {env : Env} {L : Addr} {Q : Unit → Shared → Prop} {news : List (Addr × Obj)} {cls : Value} {vs : List Value}
    (K : Below A base outer g) (hx : Heap.MadeExcOf h s'.heap e cls vs) (F : Fr g L h m) (N : News g L h news) (hf : env.frame = some L) (hk : env.scope.kind = .function)
    (hQ : ∀ h' t, RaisedS base g outer e cls t vs news h' → g.UpToSlots h' → Q () { s' with heap := h' }) :
    wpAny M (A.deeper env) (leaving env (.ref e)) Q E s' := by
  have K' := pushX K F hf hk
  have hmem : ∀ b, b ∈ (env :: outer).filterMap (·.frame) → b = L ∨ b ∈ outer.filterMap (·.frame) := fun b hb => by
    rw [List.filterMap_cons_some hf] at hb
    exact List.mem_cons.mp hb
  have hin : ∀ v ∈ (env :: outer), ∀ b, v.frame = some b → b ∈ (env :: outer).filterMap (·.frame) := fun v he b hb => List.mem_filterMap.mpr ⟨v, he, hb⟩
  have st : base.StaysIn (hideAll h ((env :: outer).filterMap (·.frame))) := fun b o q => hideAll_get _ (K'.stays b o q) fun hm => by
    rw [(K'.frames.mem hm).1] at q; cases q
  have sg : ∀ b o, g.get? b = some o → b ∉ outer.filterMap (·.frame) → (hideAll h ((env :: outer).filterMap (·.frame))).get? b = some o := fun b o q nm => hideAll_get _ (F.keep b o q) fun hm => by
    rcases hmem b hm with z | z
    · rw [z, kts_self F] at q
      cases q
    · exact nm z
  have hl : ∀ q ∈ news, (hideAll h ((env :: outer).filterMap (·.frame))).get? q.1 = some q.2 ∧ g.get? q.1 = none ∧ base.get? q.1 = none := fun q hq => by
    refine ⟨hideAll_get _ (N q hq).1 fun hm => ?_, (N q hq).2.2, fresh_of_stays K.stays (N q hq).2.2⟩
    rcases hmem _ hm with z | z
    · exact (N q hq).2.1 z
    · obtain ⟨o, ho, _⟩ := (K.frames.mem z).2
      rw [(N q hq).2.2] at ho; cases ho
  exact wpAny_leaves_madeW K'.stack hf (fun b o q => of_hideAll _ q) (funFrames_hide K'.frames hin) hx fun h' t x1 x2 x3 x4 =>
    hQ h' t ⟨⟨_, st, sg, hl, x1, x3⟩, x2⟩ (((Heap.UpToSlots.of_keeps F.keep).trans (Heap.UpToSlots.of_keeps hx.keeps)).trans x4)
end Mine
end PartExc2

section PartRefu
open PySem PySem.W PySem.Calls PyProof.Rows
set_option maxRecDepth 100000
namespace Mine
local macro_rules | `(tactic| walk_at $s:str) => `(tactic| k_extra $s)
theorem nat_ne_m1 (p : Nat) : ¬ ((p : Nat) : Int) = -1 := by omega
def badT (ps qs : List Nat) (z : Nat) : Str := tx ps ++ ⟨#[z]⟩ ++ tx qs
theorem bad_codes (ps qs : List Nat) (z : Nat) : KStt.codes (badT ps qs z) = (ps.map fun p => ((sg p : Nat) : Int)) ++ (z : Int) :: (qs.map fun p => ((sg p : Nat) : Int)) := by
  unfold KStt.codes badT
  rw [Str.cps_append, Str.cps_append, Array.toList_append, Array.toList_append]
  simp [tx, List.map_map, Function.comp_def]
theorem turnBad {ps qs : List Nat} {z : Nat} {pre post : List Int} {n : Nat} (h : KStt.codes (badT ps qs z) = pre ++ (n : Int) :: post) (hl : pre.length ≤ ps.length) :
    (pre.length < ps.length ∧ ∃ p, ps[pre.length]? = some p ∧ p ∈ ps ∧ n = sg p) ∨ n = z := by
  rw [bad_codes] at h
  have h2 := congrArg (fun l => l[pre.length]?) h
  simp only [List.getElem?_append_right (Nat.le_refl _), Nat.sub_self, List.getElem?_cons_zero] at h2
  by_cases hlt : pre.length < ps.length
  · left
    rw [List.getElem?_append_left (by simpa using hlt), List.getElem?_map, Option.map_eq_some_iff] at h2
    obtain ⟨p, hp, e⟩ := h2
    exact ⟨hlt, p, hp, List.mem_of_getElem? hp, (Int.natCast_inj.mp e).symm⟩
  · right
    have e : pre.length = ps.length := by omega
    rw [List.getElem?_append_right (by simp; omega)] at h2
    simp [e] at h2
    omega
def SInv2 (ps : List Nat) (pre : List Int) (σ : CS) : Prop := pre.length ≤ ps.length ∧ SInv ps pre σ
theorem sInv2 {ps : List Nat} {k : Nat} {pre : List Int} {σ : CS} (hp : pre.length < ps.length) (h : SInv ps (pre ++ [(k : Int)]) σ) : SInv2 ps (pre ++ [(k : Int)]) σ := ⟨by rw [List.length_append, List.length_singleton]; omega, h⟩
local macro_rules | `(tactic| walk_at "call ref") => `(tactic| (
  k_here
  (with_reducible show wpAny _ _ (call (Value.ref 51) _) _ _ _)
  refine wpAny_call ?_
  k_dflt (refine' enter0C ?k1 ?k2 ?k3 ?k5 ?kA ?kF ?kK ?k6 ?k7 ?k8 ?k9 ?kB ?kD ?_ ?c2 ?c3 ?c4)
  (case kA => exact rfl)
  (case kF => exact rfl)
  (case kK => first | exact rfl | assumption)
  (case k1 => k_asm)
  (case k2 => k_asm)
  (case k3 => k_asm)
  (case k5 => k_asm)
  (case k6 => k_is)
  (case k7 => k_is)
  (case k8 => ktr_room)
  (case k9 => exact BindsTo.of_eq rfl)
  (case kB => exact rfl)
  (case kD => decide +kernel)
  (case c2 => exact rfl)
  (case c3 => exact rfl)
  (case c4 => exact rfl)
  intro L' h' tk' cells' FG' F' N' Y' B' X' T'
  k_cells Y'
  (try dsimp only)
  (try k_fold)))
set_option maxHeartbeats 8000000 in
theorem refC {w : World} {mean mg mb} (ps qs : List Nat) (z : Nat) (t2 : Tok) (hps : ∀ p ∈ ps, p < 95) (hz : Txt.find SGT ⟨#[z]⟩ = -1) (hlen : (badT ps qs z).length < 1000) : 
  ∀ (dp un : Nat) (gd : Option (List Code)) (cn : Str) (cs : Scope) (a : Addr) (ccd : Value) (cl : List (Str × Addr)) (A₀ : Around) (base h₀ : Heap) (L : Addr) (m : Str → Option Value) (s : Shared) (Q E : Value → Shared → Prop),
    Below A₀ base [] h₀ → Fr h₀ L s.heap m → (hd.heap_39 w.params).In h₀ → Top hd.view_39 (looseW hd.view_39 [Str.ofString "_law_generator"]) mean mg mb h₀ → (hd.heap_39 w.params).In base → Top hd.view_39 (looseW hd.view_39 [Str.ofString "_law_generator"]) mean mg mb base → cs.kind = .function →
    dp + 25 < recursionLimit → un + 120 < cLine → (∀ (h' : Heap) (tk' : Nat), Fr h₀ L h' m → Q (.bool true) { s with heap := h', toks := tk' }) →
      wpAny (model PySem.Challenge.rw_kk0012_01.row.prog w) (ktrTop dp un gd cn cs L a ccd cl []) (call (.ref 88) [.str (badT ps qs z) t2]) Q E s := by
  w_top off
  k_with_none
  k_with "call ref" => (k_here; k_dflt (refine polyU (by first | (with_reducible (k_asm)) | (k_asm)) (by first | (with_reducible (k_asm)) | (k_asm)) (by first | (with_reducible (k_asm)) | (k_asm)) (by first | (with_reducible (k_asm)) | (k_asm)) (by first | (with_reducible (k_asm)) | (k_asm)) (by first | (with_reducible (first | exact rfl | assumption)) | (first | exact rfl | assumption)) (by first | (with_reducible (exact Int.natCast_nonneg _)) | (exact Int.natCast_nonneg _)) (by first | (with_reducible (first | exact nn_mask _ | exact nn_cls _ _ | exact Int.natCast_nonneg _ | decide)) | (first | exact nn_mask _ | exact nn_cls _ _ | exact Int.natCast_nonneg _ | decide)) (by first | (with_reducible (ktr_room)) | (ktr_room)) (by first | (with_reducible (ktr_units)) | (ktr_units)) ?_); intro t9 h9 tk9 F9 N9; (try dsimp only); (try k_fold))
  k_with "call builtin:str.find" => ((refine KXw.find (by assumption) ?_); intro _ _)
  k_with "exec Raise some none" => (k_here; k_dflt (refine raiseX (by first | (with_reducible (k_asm)) | (k_asm)) (by first | (with_reducible (exact TopRead.g (by k_asm))) | (exact TopRead.g (by k_asm))) (by first | (with_reducible (exact own_of_in (by k_asm) (by k_asm) (by k_is) (by k_exc))) | (exact own_of_in (by k_asm) (by k_asm) (by k_is) (by k_exc))) PySem.F.excBase_Exception (by first | (with_reducible (first | rfl | assumption)) | (first | rfl | assumption)) ?_ (by first | (with_reducible (rfl)) | (rfl)) (by first | (with_reducible (rfl)) | (rfl)) (by first | (with_reducible (rfl)) | (rfl)) (by first | (with_reducible (decide)) | (decide)); k_whole))
  k_with "exec Raise some none" => exact absurd (by assumption) (nat_ne_m1 _)
  k_with "InvEndN" => ((rename News _ _ _ _ => nE'); (refine kst_end (σ := CS) ⟨_, _, _, _, _, _, _⟩ (by assumption) nE' (by first | kst_in | kst_inAny) (by first | (intro p hp; kst_mem) | kst_anyIn) (by rfl) (by assumption) (by kst_all) (by kst_same) (by first | exact sInv2 (by assumption) (sInv_t (by assumption) (by assumption) rfl rfl rfl) | exact sInv2 (by assumption) (sInv_f (by assumption) (by assumption) rfl rfl rfl))))
  k_with "binaryOp Mod str str" => ((refine fmtBad (by show 1 ≤ 1000000; decide) ?_); intro r9 t9 k9)
  k_with "leaving ref" => (k_here; k_dflt (refine leaveXS (by first | (with_reducible (assumption)) | (assumption)) (by first | (with_reducible (assumption)) | (assumption)) (by first | (with_reducible (assumption)) | (assumption)) (by first | (with_reducible (k_asm)) | (k_asm)) (by first | (with_reducible (rfl)) | (rfl)) (by first | (with_reducible (rfl)) | (rfl)) ?_; k_whole); intro h' t' S' U'; (try dsimp only at S' U' ⊢))
  k_fill
  intro dp un gd cn cs a ccd cl A₀ base h₀ L m s Q E B F X T XB TB hk hd' hu hret
  refine wpAny_call ?_
  k_dflt (refine' enterS0 ?k1 ?k2 ?k3 ?k5 ?kA ?kF ?kK ?k6 ?k7 ?k8 ?k9 ?kB ?_ ?c2 ?c3 ?c4 ?c5)
  (case kA => exact rfl); (case kF => exact rfl); (case kK => assumption); (case k1 => k_asm); (case k2 => k_asm); (case k3 => k_asm); (case k5 => k_asm); (case k6 => k_is); (case k7 => k_is); (case k8 => ktr_room); (case k9 => exact BindsTo.of_eq rfl); (case c5 => decide); (case kB => exact locs rfl); (case c2 => exact rfl); (case c3 => exact rfl); (case c4 => exact rfl)
  intro L' h' FG' F' N' B' X' T' D'
  (try dsimp only)
  (try k_fold)
  (k_with "pyIter str" => fail)
  k_steps
  with_unfolding_all refine' KStt.kst_text (fun (σ : CS) => [(_, σ.o), (_, _)]) csPs csFacts [Str.ofString "pos"] (SInv2 ps) ⟨1, 0, 0, _, _, _, _⟩ (by rfl) ?kF ?kN ?kf ?kk ?kp ?_ ?_
  case kF => assumption
  case kN => with_unfolding_all assumption
  case kf => with_unfolding_all assumption
  case kk => kst_all
  case kp => exact ⟨Nat.zero_le _, rfl, rfl, rfl⟩
  · intro σ pre post n t u h tk own e hoff hf hp' F1 N1
    obtain ⟨c, cls, n, t1, t2, t3, o⟩ := σ
    dsimp only [kstB, csPs] at F1
    dsimp only [List.cons_append, List.nil_append] at N1
    simp only [List.map_cons, List.map_nil] at hoff
    dsimp only [csFacts] at hf
    obtain ⟨hle, h1, h2, h3⟩ := hp'
    dsimp only at h1 h2 h3
    subst h1 h2 h3
    rcases turnBad e hle with ⟨hlt, p, hpp, hpm, rfl⟩ | rfl
    · have hfind := find_sg (hps p hpm)
      clear e
      (try k_fold)
      k_steps
    · clear e
      (try k_fold)
      iterate 46 (first | (k_unfold; (try dsimp only)) | walk1 | (dsimp only; walk1))
      all_goals (first | exact hret _ _ (by assumption) | skip)
  · intro σ u h tk hf hp' F1 N1
    exfalso
    have h1 := hp'.1
    rw [bad_codes] at h1
    simp at h1
    omega
end Mine
end PartRefu

section PartDist0
set_option maxRecDepth 100000
namespace Mine
/-- x times a packed vector of eight symbols over GF(32) -/
def mx (v : Nat) : Nat := ((v &&& 532021755375) <<< 1) ^^^ ((v &&& 567489872400) >>> 4) ^^^ (((v &&& 567489872400) >>> 4) <<< 3)
def bit1 (k i v : Nat) : Nat := if k.testBit i then v else 0
def sm (k v : Nat) : Nat := bit1 k 0 v ^^^ bit1 k 1 (mx v) ^^^ bit1 k 2 (mx (mx v)) ^^^ bit1 k 3 (mx (mx (mx v))) ^^^ bit1 k 4 (mx (mx (mx (mx v))))
def co (p v : Nat) : Nat := (v >>> (5 * p)) &&& 31
def red (p u v : Nat) : Nat := sm (co p u) v ^^^ sm (co p v) u
def piv (v : Nat) : Nat := if co 0 v ≠ 0 then 0 else if co 1 v ≠ 0 then 1 else if co 2 v ≠ 0 then 2 else if co 3 v ≠ 0 then 3 else if co 4 v ≠ 0 then 4 else if co 5 v ≠ 0 then 5 else if co 6 v ≠ 0 then 6 else 7
def tv (c : Nat) : Nat := ((c &&& 34359738367) <<< 5) ^^^ sm (c >>> 35) 1056006543753
def xs : Nat → Nat → List Nat
  | 0, _ => []
  | n + 1, v => v :: xs n (tv v)
/-- every vector of the list, with each pair behind it, stays off nought -/
def chk1 (l : List Nat) : Bool := l.all (· != 0)
def chk2 : List Nat → Bool
  | [] => true
  | u :: r => u != 0 && chk1 (r.map (red (piv u) u)) && chk2 r
def chk3 : List Nat → Bool
  | [] => true
  | u :: r => u != 0 && chk2 (r.map (red (piv u) u)) && chk3 r
theorem l31 : (xs 31 (tv 1)).map (red 0 1) = [32, 1024, 32768, 1048576, 33554432, 1073741824, 34359738368, 1056006543744, 389796260224, 219324579552, 894673685504, 1045299771488, 605760181760, 209654232416, 723121897120, 556552176288, 373367126208, 288672731072, 351134064224, 716662414112, 706176215488, 1041702565568, 757340242592, 947113224384, 686722988608, 842122530528, 897758450752, 937985028960, 291529968800, 322524737760, 687853953440] := by decide +kernel
theorem c0of31 : chk2 ([1024, 32768, 1048576, 33554432, 1073741824, 34359738368, 1056006543744, 389796260224, 219324579552, 894673685504, 1045299771488, 605760181760, 209654232416, 723121897120, 556552176288, 373367126208, 288672731072, 351134064224, 716662414112, 706176215488, 1041702565568, 757340242592, 947113224384, 686722988608, 842122530528, 897758450752, 937985028960, 291529968800, 322524737760, 687853953440].map (red (piv 32) 32)) = true := by decide +kernel
theorem c1of31 : chk2 ([32768, 1048576, 33554432, 1073741824, 34359738368, 1056006543744, 389796260224, 219324579552, 894673685504, 1045299771488, 605760181760, 209654232416, 723121897120, 556552176288, 373367126208, 288672731072, 351134064224, 716662414112, 706176215488, 1041702565568, 757340242592, 947113224384, 686722988608, 842122530528, 897758450752, 937985028960, 291529968800, 322524737760, 687853953440].map (red (piv 1024) 1024)) = true := by decide +kernel
theorem c2of31 : chk2 ([1048576, 33554432, 1073741824, 34359738368, 1056006543744, 389796260224, 219324579552, 894673685504, 1045299771488, 605760181760, 209654232416, 723121897120, 556552176288, 373367126208, 288672731072, 351134064224, 716662414112, 706176215488, 1041702565568, 757340242592, 947113224384, 686722988608, 842122530528, 897758450752, 937985028960, 291529968800, 322524737760, 687853953440].map (red (piv 32768) 32768)) = true := by decide +kernel
theorem c3of31 : chk2 ([33554432, 1073741824, 34359738368, 1056006543744, 389796260224, 219324579552, 894673685504, 1045299771488, 605760181760, 209654232416, 723121897120, 556552176288, 373367126208, 288672731072, 351134064224, 716662414112, 706176215488, 1041702565568, 757340242592, 947113224384, 686722988608, 842122530528, 897758450752, 937985028960, 291529968800, 322524737760, 687853953440].map (red (piv 1048576) 1048576)) = true := by decide +kernel
theorem c4of31 : chk2 ([1073741824, 34359738368, 1056006543744, 389796260224, 219324579552, 894673685504, 1045299771488, 605760181760, 209654232416, 723121897120, 556552176288, 373367126208, 288672731072, 351134064224, 716662414112, 706176215488, 1041702565568, 757340242592, 947113224384, 686722988608, 842122530528, 897758450752, 937985028960, 291529968800, 322524737760, 687853953440].map (red (piv 33554432) 33554432)) = true := by decide +kernel
theorem c5of31 : chk2 ([34359738368, 1056006543744, 389796260224, 219324579552, 894673685504, 1045299771488, 605760181760, 209654232416, 723121897120, 556552176288, 373367126208, 288672731072, 351134064224, 716662414112, 706176215488, 1041702565568, 757340242592, 947113224384, 686722988608, 842122530528, 897758450752, 937985028960, 291529968800, 322524737760, 687853953440].map (red (piv 1073741824) 1073741824)) = true := by decide +kernel
theorem c6of31 : chk2 ([1056006543744, 389796260224, 219324579552, 894673685504, 1045299771488, 605760181760, 209654232416, 723121897120, 556552176288, 373367126208, 288672731072, 351134064224, 716662414112, 706176215488, 1041702565568, 757340242592, 947113224384, 686722988608, 842122530528, 897758450752, 937985028960, 291529968800, 322524737760, 687853953440].map (red (piv 34359738368) 34359738368)) = true := by decide +kernel
theorem c7of31 : chk2 ([389796260224, 219324579552, 894673685504, 1045299771488, 605760181760, 209654232416, 723121897120, 556552176288, 373367126208, 288672731072, 351134064224, 716662414112, 706176215488, 1041702565568, 757340242592, 947113224384, 686722988608, 842122530528, 897758450752, 937985028960, 291529968800, 322524737760, 687853953440].map (red (piv 1056006543744) 1056006543744)) = true := by decide +kernel
theorem c8of31 : chk2 ([219324579552, 894673685504, 1045299771488, 605760181760, 209654232416, 723121897120, 556552176288, 373367126208, 288672731072, 351134064224, 716662414112, 706176215488, 1041702565568, 757340242592, 947113224384, 686722988608, 842122530528, 897758450752, 937985028960, 291529968800, 322524737760, 687853953440].map (red (piv 389796260224) 389796260224)) = true := by decide +kernel
theorem c9of31 : chk2 ([894673685504, 1045299771488, 605760181760, 209654232416, 723121897120, 556552176288, 373367126208, 288672731072, 351134064224, 716662414112, 706176215488, 1041702565568, 757340242592, 947113224384, 686722988608, 842122530528, 897758450752, 937985028960, 291529968800, 322524737760, 687853953440].map (red (piv 219324579552) 219324579552)) = true := by decide +kernel
theorem c10of31 : chk2 ([1045299771488, 605760181760, 209654232416, 723121897120, 556552176288, 373367126208, 288672731072, 351134064224, 716662414112, 706176215488, 1041702565568, 757340242592, 947113224384, 686722988608, 842122530528, 897758450752, 937985028960, 291529968800, 322524737760, 687853953440].map (red (piv 894673685504) 894673685504)) = true := by decide +kernel
theorem c11of31 : chk2 ([605760181760, 209654232416, 723121897120, 556552176288, 373367126208, 288672731072, 351134064224, 716662414112, 706176215488, 1041702565568, 757340242592, 947113224384, 686722988608, 842122530528, 897758450752, 937985028960, 291529968800, 322524737760, 687853953440].map (red (piv 1045299771488) 1045299771488)) = true := by decide +kernel
theorem c12of31 : chk2 ([209654232416, 723121897120, 556552176288, 373367126208, 288672731072, 351134064224, 716662414112, 706176215488, 1041702565568, 757340242592, 947113224384, 686722988608, 842122530528, 897758450752, 937985028960, 291529968800, 322524737760, 687853953440].map (red (piv 605760181760) 605760181760)) = true := by decide +kernel
theorem c13of31 : chk2 ([723121897120, 556552176288, 373367126208, 288672731072, 351134064224, 716662414112, 706176215488, 1041702565568, 757340242592, 947113224384, 686722988608, 842122530528, 897758450752, 937985028960, 291529968800, 322524737760, 687853953440].map (red (piv 209654232416) 209654232416)) = true := by decide +kernel
theorem c14of31 : chk2 ([556552176288, 373367126208, 288672731072, 351134064224, 716662414112, 706176215488, 1041702565568, 757340242592, 947113224384, 686722988608, 842122530528, 897758450752, 937985028960, 291529968800, 322524737760, 687853953440].map (red (piv 723121897120) 723121897120)) = true := by decide +kernel
theorem c15of31 : chk2 ([373367126208, 288672731072, 351134064224, 716662414112, 706176215488, 1041702565568, 757340242592, 947113224384, 686722988608, 842122530528, 897758450752, 937985028960, 291529968800, 322524737760, 687853953440].map (red (piv 556552176288) 556552176288)) = true := by decide +kernel
theorem c16of31 : chk2 ([288672731072, 351134064224, 716662414112, 706176215488, 1041702565568, 757340242592, 947113224384, 686722988608, 842122530528, 897758450752, 937985028960, 291529968800, 322524737760, 687853953440].map (red (piv 373367126208) 373367126208)) = true := by decide +kernel
theorem c17of31 : chk2 ([351134064224, 716662414112, 706176215488, 1041702565568, 757340242592, 947113224384, 686722988608, 842122530528, 897758450752, 937985028960, 291529968800, 322524737760, 687853953440].map (red (piv 288672731072) 288672731072)) = true := by decide +kernel
theorem c18of31 : chk2 ([716662414112, 706176215488, 1041702565568, 757340242592, 947113224384, 686722988608, 842122530528, 897758450752, 937985028960, 291529968800, 322524737760, 687853953440].map (red (piv 351134064224) 351134064224)) = true := by decide +kernel
theorem c19of31 : chk2 ([706176215488, 1041702565568, 757340242592, 947113224384, 686722988608, 842122530528, 897758450752, 937985028960, 291529968800, 322524737760, 687853953440].map (red (piv 716662414112) 716662414112)) = true := by decide +kernel
theorem c20of31 : chk2 ([1041702565568, 757340242592, 947113224384, 686722988608, 842122530528, 897758450752, 937985028960, 291529968800, 322524737760, 687853953440].map (red (piv 706176215488) 706176215488)) = true := by decide +kernel
theorem c21of31 : chk2 ([757340242592, 947113224384, 686722988608, 842122530528, 897758450752, 937985028960, 291529968800, 322524737760, 687853953440].map (red (piv 1041702565568) 1041702565568)) = true := by decide +kernel
theorem c22of31 : chk2 ([947113224384, 686722988608, 842122530528, 897758450752, 937985028960, 291529968800, 322524737760, 687853953440].map (red (piv 757340242592) 757340242592)) = true := by decide +kernel
theorem c23of31 : chk2 ([686722988608, 842122530528, 897758450752, 937985028960, 291529968800, 322524737760, 687853953440].map (red (piv 947113224384) 947113224384)) = true := by decide +kernel
theorem c24of31 : chk2 ([842122530528, 897758450752, 937985028960, 291529968800, 322524737760, 687853953440].map (red (piv 686722988608) 686722988608)) = true := by decide +kernel
theorem c25of31 : chk2 ([897758450752, 937985028960, 291529968800, 322524737760, 687853953440].map (red (piv 842122530528) 842122530528)) = true := by decide +kernel
theorem c26of31 : chk2 ([937985028960, 291529968800, 322524737760, 687853953440].map (red (piv 897758450752) 897758450752)) = true := by decide +kernel
theorem c27of31 : chk2 ([291529968800, 322524737760, 687853953440].map (red (piv 937985028960) 937985028960)) = true := by decide +kernel
theorem c28of31 : chk2 ([322524737760, 687853953440].map (red (piv 291529968800) 291529968800)) = true := by decide +kernel
theorem c29of31 : chk2 ([687853953440].map (red (piv 322524737760) 322524737760)) = true := by decide +kernel
theorem c30of31 : chk2 ([].map (red (piv 687853953440) 687853953440)) = true := by decide +kernel
theorem c3_nil : chk3 [] = true := rfl
theorem c3_cons {u : Nat} {r : List Nat} (h1 : u ≠ 0) (h2 : chk2 (r.map (red (piv u) u)) = true) (h3 : chk3 r = true) : chk3 (u :: r) = true := by
  unfold chk3
  rw [h2, h3, Bool.and_true, Bool.and_true]
  simpa using h1
theorem all_ok : chk3 ((xs 31 (tv 1)).map (red 0 1)) = true := by
  rw [l31]
  exact c3_cons (by decide) c0of31 (c3_cons (by decide) c1of31 (c3_cons (by decide) c2of31 (c3_cons (by decide) c3of31 (c3_cons (by decide) c4of31 (c3_cons (by decide) c5of31 (c3_cons (by decide) c6of31 (c3_cons (by decide) c7of31 (c3_cons (by decide) c8of31 (c3_cons (by decide) c9of31 (c3_cons (by decide) c10of31 (c3_cons (by decide) c11of31 (c3_cons (by decide) c12of31 (c3_cons (by decide) c13of31 (c3_cons (by decide) c14of31 (c3_cons (by decide) c15of31 (c3_cons (by decide) c16of31 (c3_cons (by decide) c17of31 (c3_cons (by decide) c18of31 (c3_cons (by decide) c19of31 (c3_cons (by decide) c20of31 (c3_cons (by decide) c21of31 (c3_cons (by decide) c22of31 (c3_cons (by decide) c23of31 (c3_cons (by decide) c24of31 (c3_cons (by decide) c25of31 (c3_cons (by decide) c26of31 (c3_cons (by decide) c27of31 (c3_cons (by decide) c28of31 (c3_cons (by decide) c29of31 (c3_cons (by decide) c30of31 (c3_nil)))))))))))))))))))))))))))))))
end Mine
end PartDist0

section PartDist1
set_option maxRecDepth 100000
namespace Mine
theorem xswap (a b c d : Nat) : (a ^^^ b) ^^^ (c ^^^ d) = (a ^^^ c) ^^^ (b ^^^ d) := by
  rw [Nat.xor_assoc, Nat.xor_assoc, ← Nat.xor_assoc b c d, Nat.xor_comm b c, Nat.xor_assoc c b d]
theorem mx_xor (a b : Nat) : mx (a ^^^ b) = mx a ^^^ mx b := by
  unfold mx
  simp only [Nat.and_xor_distrib_right, Nat.shiftLeft_xor_distrib, Nat.shiftRight_xor_distrib]
  ac_rfl
theorem mx_zero : mx 0 = 0 := rfl
theorem bit1_xor (k i a b : Nat) : bit1 k i (a ^^^ b) = bit1 k i a ^^^ bit1 k i b := by
  unfold bit1
  split
  · rfl
  · rfl
theorem bit1_k (k j i a : Nat) : bit1 (k ^^^ j) i a = bit1 k i a ^^^ bit1 j i a := by
  unfold bit1
  rw [Nat.testBit_xor]
  cases k.testBit i <;> cases j.testBit i <;> simp
theorem bit1_zero (k i : Nat) : bit1 k i 0 = 0 := by unfold bit1; split <;> rfl
theorem bit1_mx (k i a : Nat) : bit1 k i (mx a) = mx (bit1 k i a) := by unfold bit1; split <;> rfl
theorem sm_xor (k a b : Nat) : sm k (a ^^^ b) = sm k a ^^^ sm k b := by
  unfold sm
  simp only [mx_xor, bit1_xor]
  ac_rfl
theorem sm_k (k j a : Nat) : sm (k ^^^ j) a = sm k a ^^^ sm j a := by
  unfold sm
  simp only [bit1_k]
  ac_rfl
theorem sm_zero (k : Nat) : sm k 0 = 0 := by
  unfold sm
  simp only [mx_zero, bit1_zero]
  rfl
theorem sm_mx (k a : Nat) : sm k (mx a) = mx (sm k a) := by
  unfold sm
  simp only [bit1_mx, mx_xor]
theorem sm_bit1 (a b i v : Nat) : sm a (bit1 b i v) = bit1 b i (sm a v) := by
  unfold bit1
  split
  · rfl
  · exact sm_zero a
theorem sm_comm (a b v : Nat) : sm a (sm b v) = sm b (sm a v) := by
  conv => lhs; rw [show sm b v = bit1 b 0 v ^^^ bit1 b 1 (mx v) ^^^ bit1 b 2 (mx (mx v)) ^^^ bit1 b 3 (mx (mx (mx v))) ^^^ bit1 b 4 (mx (mx (mx (mx v)))) from rfl]
  rw [sm_xor, sm_xor, sm_xor, sm_xor, sm_bit1, sm_bit1, sm_bit1, sm_bit1, sm_bit1]
  simp only [sm_mx]
  rfl
theorem xor_lt40 {a b n : Nat} (ha : a < 2 ^ n) (hb : b < 2 ^ n) : a ^^^ b < 2 ^ n := Nat.xor_lt_two_pow ha hb
theorem lin_ext {f : Nat → Nat} (hf : ∀ a b, f (a ^^^ b) = f a ^^^ f b) (h0 : f 0 = 0) : ∀ (n : Nat), (∀ i, i < n → f (2 ^ i) = 2 ^ i) → ∀ w, w < 2 ^ n → f w = w
  | 0, _, w, hw => by
    have : w = 0 := by simp at hw; omega
    rw [this, h0]
  | n + 1, h, w, hw => by
    have ih := lin_ext hf h0 n (fun i hi => h i (by omega))
    by_cases hb : w < 2 ^ n
    · exact ih w hb
    · have h2 : 2 ^ (n + 1) = 2 ^ n + 2 ^ n := by rw [Nat.pow_succ]; omega
      have e : w = (w - 2 ^ n) ^^^ 2 ^ n := by
        have e1 : (w - 2 ^ n) ^^^ 2 ^ n = 2 ^ n + (w - 2 ^ n) := by
          rw [Nat.xor_comm]
          have hlt : w - 2 ^ n < 2 ^ n := by omega
          have q := Nat.two_pow_add_eq_or_of_lt hlt 1
          rw [Nat.mul_one] at q
          rw [q]
          apply Nat.eq_of_testBit_eq
          intro j
          rw [Nat.testBit_xor, Nat.testBit_or]
          by_cases hj : j = n
          · subst hj
            rw [Nat.testBit_lt_two_pow hlt]
            simp
          · rw [Nat.testBit_two_pow_of_ne (Ne.symm hj)]
            simp
        rw [e1]; omega
      conv => lhs; rw [e]
      rw [hf, ih _ (by omega), h n (by omega)]
      exact e.symm
theorem inv_all : (List.range 32).all (fun e => e == 0 || (List.range 32).any (fun k => (List.range 40).all (fun i => sm k (sm e (2 ^ i)) == 2 ^ i))) = true := by decide +kernel
theorem sm_nz {e w : Nat} (he : e < 32) (hw : w < 2 ^ 40) (h : sm e w = 0) : e = 0 ∨ w = 0 := by
  have h1 := List.all_eq_true.mp inv_all e (List.mem_range.mpr he)
  rw [Bool.or_eq_true] at h1
  rcases h1 with h1 | h1
  · exact .inl (eq_of_beq h1)
  · right
    obtain ⟨k, _, hk⟩ := List.any_eq_true.mp h1
    have h2 := lin_ext (f := fun w => sm k (sm e w)) (fun a b => by show sm k (sm e (a ^^^ b)) = _; rw [sm_xor, sm_xor]) (by show sm k (sm e 0) = 0; rw [sm_zero, sm_zero]) 40
      (fun i hi => eq_of_beq (List.all_eq_true.mp hk i (List.mem_range.mpr hi))) w hw
    rw [← h2]
    show sm k (sm e w) = 0
    rw [h, sm_zero]
end Mine
end PartDist1

section PartDist2
set_option maxRecDepth 100000
namespace Mine
theorem lin_eq {f g : Nat → Nat} (hf : ∀ a b, f (a ^^^ b) = f a ^^^ f b) (hg : ∀ a b, g (a ^^^ b) = g a ^^^ g b) (f0 : f 0 = 0) (g0 : g 0 = 0) (n : Nat) (h : ∀ i, i < n → f (2 ^ i) = g (2 ^ i)) (w : Nat) (hw : w < 2 ^ n) : f w = g w := by
  have h2 := lin_ext (f := fun w => f w ^^^ g w ^^^ w) (fun a b => by show f (a ^^^ b) ^^^ g (a ^^^ b) ^^^ (a ^^^ b) = _; rw [hf, hg]; ac_rfl) (by show f 0 ^^^ g 0 ^^^ 0 = 0; rw [f0, g0]; rfl) n
    (fun i hi => by show f (2 ^ i) ^^^ g (2 ^ i) ^^^ 2 ^ i = _; rw [h i hi, Nat.xor_self, Nat.zero_xor]) w hw
  have h3 : f w ^^^ g w ^^^ w = w := h2
  have h4 : f w ^^^ g w = 0 := by
    have := congrArg (· ^^^ w) h3
    simpa [Nat.xor_assoc] using this
  have h5 := congrArg (· ^^^ g w) h4
  simpa [Nat.xor_assoc] using h5
theorem co_xor (p a b : Nat) : co p (a ^^^ b) = co p a ^^^ co p b := by
  unfold co
  simp only [Nat.and_xor_distrib_right, Nat.shiftRight_xor_distrib]
theorem co_zero (p : Nat) : co p 0 = 0 := by unfold co; simp
theorem co_lt (p a : Nat) : co p a < 2 ^ 5 := Nat.lt_of_le_of_lt Nat.and_le_right (by decide)
theorem co_mx_all : (List.range 8).all (fun p => (List.range 40).all (fun i => co p (mx (2 ^ i)) == mx (co p (2 ^ i)))) = true := by decide +kernel
theorem co_mx {p : Nat} (hp : p < 8) {v : Nat} (hv : v < 2 ^ 40) : co p (mx v) = mx (co p v) :=
  lin_eq (f := fun v => co p (mx v)) (g := fun v => mx (co p v)) (fun a b => by show co p (mx (a ^^^ b)) = _; rw [mx_xor, co_xor]) (fun a b => by show mx (co p (a ^^^ b)) = _; rw [co_xor, mx_xor])
    (by show co p (mx 0) = 0; rw [mx_zero, co_zero]) (by show mx (co p 0) = 0; rw [co_zero, mx_zero]) 40
    (fun i hi => eq_of_beq (List.all_eq_true.mp (List.all_eq_true.mp co_mx_all p (List.mem_range.mpr hp)) i (List.mem_range.mpr hi))) v hv
theorem sm_mxk_all : (List.range 5).all (fun j => (List.range 40).all (fun i => sm (mx (2 ^ j)) (2 ^ i) == mx (sm (2 ^ j) (2 ^ i)))) = true := by decide +kernel
theorem zero_sm (v : Nat) : sm 0 v = 0 := by unfold sm bit1; simp
theorem sm_mxk {c : Nat} (hc : c < 2 ^ 5) {v : Nat} (hv : v < 2 ^ 40) : sm (mx c) v = mx (sm c v) :=
  lin_eq (f := fun c => sm (mx c) v) (g := fun c => mx (sm c v)) (fun a b => by show sm (mx (a ^^^ b)) v = _; rw [mx_xor, sm_k]) (fun a b => by show mx (sm (a ^^^ b) v) = _; rw [sm_k, mx_xor])
    (by show sm (mx 0) v = 0; rw [mx_zero, zero_sm]) (by show mx (sm 0 v) = 0; rw [zero_sm, mx_zero]) 5
    (fun j hj => lin_eq (f := fun v => sm (mx (2 ^ j)) v) (g := fun v => mx (sm (2 ^ j) v)) (fun a b => sm_xor _ a b) (fun a b => by show mx (sm (2 ^ j) (a ^^^ b)) = _; rw [sm_xor, mx_xor]) (sm_zero _) (by show mx (sm (2 ^ j) 0) = 0; rw [sm_zero, mx_zero]) 40
      (fun i hi => eq_of_beq (List.all_eq_true.mp (List.all_eq_true.mp sm_mxk_all j (List.mem_range.mpr hj)) i (List.mem_range.mpr hi))) v hv) c hc
end Mine
end PartDist2

section PartDist3
set_option maxRecDepth 100000
namespace Mine
theorem mx_lt {v : Nat} (hv : v < 2 ^ 40) : mx v < 2 ^ 40 := by
  unfold mx
  have h1 : (v &&& 532021755375) <<< 1 < 2 ^ 40 := by
    have := Nat.and_le_right (n := v) (m := 532021755375)
    rw [Nat.shiftLeft_eq]; omega
  have h2 : (v &&& 567489872400) >>> 4 < 2 ^ 36 := by
    have := Nat.and_le_right (n := v) (m := 567489872400)
    rw [Nat.shiftRight_eq_div_pow]; omega
  have h3 : ((v &&& 567489872400) >>> 4) <<< 3 < 2 ^ 40 := by
    rw [Nat.shiftLeft_eq]; omega
  exact xor_lt40 (xor_lt40 h1 (by omega)) h3
theorem mx_lt5 {c : Nat} (hc : c < 2 ^ 5) : mx c < 2 ^ 5 := by
  have : ∀ c : Fin 32, mx c.val < 32 := by decide
  exact this ⟨c, hc⟩
theorem bit1_lt {k i v n : Nat} (hv : v < 2 ^ n) : bit1 k i v < 2 ^ n := by
  unfold bit1
  split
  · exact hv
  · exact Nat.two_pow_pos n
theorem sm_lt {k v : Nat} (hv : v < 2 ^ 40) : sm k v < 2 ^ 40 :=
  xor_lt40 (xor_lt40 (xor_lt40 (xor_lt40 (bit1_lt hv) (bit1_lt (mx_lt hv))) (bit1_lt (mx_lt (mx_lt hv)))) (bit1_lt (mx_lt (mx_lt (mx_lt hv))))) (bit1_lt (mx_lt (mx_lt (mx_lt (mx_lt hv)))))
theorem co_bit1 (p k i v : Nat) : co p (bit1 k i v) = bit1 k i (co p v) := by
  unfold bit1
  split
  · rfl
  · exact co_zero p
theorem co_sm {p k v : Nat} (hp : p < 8) (hv : v < 2 ^ 40) : co p (sm k v) = sm k (co p v) := by
  have m1 := co_mx hp hv
  have m2 := co_mx hp (mx_lt hv)
  have m3 := co_mx hp (mx_lt (mx_lt hv))
  have m4 := co_mx hp (mx_lt (mx_lt (mx_lt hv)))
  unfold sm
  simp only [co_xor, co_bit1]
  rw [m4, m3, m2, m1]
theorem bit1_sm (k i c v : Nat) : sm (bit1 k i c) v = bit1 k i (sm c v) := by
  unfold bit1
  split
  · rfl
  · exact zero_sm v
theorem sm_sm {k c v : Nat} (hc : c < 2 ^ 5) (hv : v < 2 ^ 40) : sm (sm k c) v = sm k (sm c v) := by
  have m1 := sm_mxk hc hv
  have m2 := sm_mxk (mx_lt5 hc) hv
  have m3 := sm_mxk (mx_lt5 (mx_lt5 hc)) hv
  have m4 := sm_mxk (mx_lt5 (mx_lt5 (mx_lt5 hc))) hv
  conv => lhs; rw [show sm k c = bit1 k 0 c ^^^ bit1 k 1 (mx c) ^^^ bit1 k 2 (mx (mx c)) ^^^ bit1 k 3 (mx (mx (mx c))) ^^^ bit1 k 4 (mx (mx (mx (mx c)))) from rfl]
  rw [sm_k, sm_k, sm_k, sm_k, bit1_sm, bit1_sm, bit1_sm, bit1_sm, bit1_sm, m4, m3, m2, m1]
  rfl
theorem red_xor (p u a b : Nat) : red p u (a ^^^ b) = red p u a ^^^ red p u b := by
  unfold red
  rw [sm_xor, co_xor, sm_k]
  ac_rfl
theorem red_sm {p u k v : Nat} (hp : p < 8) (hu : u < 2 ^ 40) (hv : v < 2 ^ 40) : red p u (sm k v) = sm k (red p u v) := by
  unfold red
  rw [co_sm hp hv, sm_comm, sm_sm (co_lt p v) hu, sm_xor]
theorem red_self (p u : Nat) : red p u u = 0 := by unfold red; exact Nat.xor_self _
theorem red_lt {p u v : Nat} (hu : u < 2 ^ 40) (hv : v < 2 ^ 40) : red p u v < 2 ^ 40 := xor_lt40 (sm_lt hv) (sm_lt hu)
theorem red_zero (p u : Nat) : red p u 0 = 0 := by unfold red; rw [sm_zero, co_zero, zero_sm]; rfl
end Mine
end PartDist3

section PartDist4
set_option maxRecDepth 100000
namespace Mine
def comb : List Nat → List Nat → Nat
  | u :: l, e :: es => sm e u ^^^ comb l es
  | _, _ => 0
theorem comb_zero : ∀ (l es : List Nat), (∀ e ∈ es, e = 0) → comb l es = 0
  | [], _, _ => by simp [comb]
  | _ :: _, [], _ => by simp [comb]
  | u :: l, e :: es, h => by
    have h0 : e = 0 := h e (.head _)
    show sm e u ^^^ comb l es = 0
    rw [h0, zero_sm, comb_zero l es fun x hx => h x (.tail _ hx)]
    rfl
theorem red_comb {p u : Nat} (hp : p < 8) (hu : u < 2 ^ 40) : ∀ (l es : List Nat), (∀ v ∈ l, v < 2 ^ 40) → red p u (comb l es) = comb (l.map (red p u)) es
  | [], _, _ => by simp [comb, red_zero]
  | _ :: _, [], _ => by simp [comb, red_zero]
  | v :: l, e :: es, h => by
    show red p u (sm e v ^^^ comb l es) = sm e (red p u v) ^^^ comb (l.map (red p u)) es
    rw [red_xor, red_sm hp hu (h v (.head _)), red_comb hp hu l es fun x hx => h x (.tail _ hx)]
abbrev cnt (es : List Nat) : Nat := es.countP (· != 0)
theorem cnt_zero {es : List Nat} (h : cnt es = 0) : ∀ e ∈ es, e = 0 := fun e he => by
  have := List.countP_eq_zero.mp h e he
  simpa using this
theorem cnt_cons {e : Nat} {es : List Nat} (he : e ≠ 0) : cnt (e :: es) = cnt es + 1 := by
  unfold cnt
  rw [List.countP_cons_of_pos (by simpa using he)]
def Snd (n : Nat) (C : List Nat → Bool) : Prop := ∀ (l es : List Nat), C l = true → (∀ v ∈ l, v < 2 ^ 40) → (∀ e ∈ es, e < 32) → es.length = l.length → cnt es ≤ n → comb l es = 0 → ∀ e ∈ es, e = 0
theorem snd1 : Snd 1 chk1 := by
  intro l
  induction l with
  | nil =>
    intro es _ _ _ hl _ _ e he
    cases es with
    | nil => cases he
    | cons => cases hl
  | cons u r ih =>
    intro es hc hv hes hl hn h0
    cases es with
    | nil => cases hl
    | cons e es =>
      simp only [chk1, List.all_cons, Bool.and_eq_true, bne_iff_ne, ne_eq] at hc
      by_cases he : e = 0
      · have h1 : comb r es = 0 := by
          have : sm e u ^^^ comb r es = 0 := h0
          rwa [he, zero_sm, Nat.zero_xor] at this
        have hn' : cnt es ≤ 1 := by
          have : cnt (e :: es) = cnt es := List.countP_cons_of_neg (by simp [he])
          omega
        have q := ih es hc.2 (fun v h => hv v (.tail _ h)) (fun x h => hes x (.tail _ h)) (Nat.succ.inj hl) hn' h1
        intro x hx
        rcases List.mem_cons.mp hx with rfl | hx
        · exact he
        · exact q x hx
      · exfalso
        rw [cnt_cons he] at hn
        have hz := comb_zero r es (cnt_zero (by omega))
        have h1 : sm e u = 0 := by
          have : sm e u ^^^ comb r es = 0 := h0
          rwa [hz, Nat.xor_zero] at this
        rcases sm_nz (hes e (.head _)) (hv u (.head _)) h1 with q | q
        · exact he q
        · exact hc.1 q
theorem piv_lt (v : Nat) : piv v < 8 := by unfold piv; (repeat' split) <;> decide
theorem snd_step {n : Nat} {C D : List Nat → Bool} (hC : Snd n C) (hD : ∀ u r, D (u :: r) = true → u ≠ 0 ∧ C (r.map (red (piv u) u)) = true ∧ D r = true) : Snd (n + 1) D := by
  intro l
  induction l with
  | nil =>
    intro es _ _ _ hl _ _ e he
    cases es with
    | nil => cases he
    | cons => cases hl
  | cons u r ih =>
    intro es hc hv hes hl hn h0
    obtain ⟨c1, c2, c3⟩ := hD u r hc
    cases es with
    | nil => cases hl
    | cons e es =>
      by_cases he : e = 0
      · have h1 : comb r es = 0 := by
          have : sm e u ^^^ comb r es = 0 := h0
          rwa [he, zero_sm, Nat.zero_xor] at this
        have hn' : cnt es ≤ n + 1 := by
          have : cnt (e :: es) = cnt es := List.countP_cons_of_neg (by simp [he])
          omega
        have q := ih es c3 (fun v h => hv v (.tail _ h)) (fun x h => hes x (.tail _ h)) (Nat.succ.inj hl) hn' h1
        intro x hx
        rcases List.mem_cons.mp hx with rfl | hx
        · exact he
        · exact q x hx
      · exfalso
        rw [cnt_cons he] at hn
        have hu := hv u (.head _)
        have hr : comb (r.map (red (piv u) u)) es = 0 := by
          have : red (piv u) u (sm e u ^^^ comb r es) = 0 := by rw [show sm e u ^^^ comb r es = 0 from h0, red_zero]
          rw [red_xor, red_sm (piv_lt u) hu hu, red_self, sm_zero, Nat.zero_xor, red_comb (piv_lt u) hu r es fun v h => hv v (.tail _ h)] at this
          exact this
        have hall := hC _ es c2 (fun v h => by
          obtain ⟨x, hx, rfl⟩ := List.mem_map.mp h
          exact red_lt hu (hv x (.tail _ hx))) (fun x h => hes x (.tail _ h)) (by rw [List.length_map]; exact Nat.succ.inj hl) (by omega) hr
        have hz := comb_zero r es hall
        have h1 : sm e u = 0 := by
          have : sm e u ^^^ comb r es = 0 := h0
          rwa [hz, Nat.xor_zero] at this
        rcases sm_nz (hes e (.head _)) hu h1 with q | q
        · exact he q
        · exact c1 q
theorem snd2 : Snd 2 chk2 := snd_step snd1 fun u r h => by
  simp only [chk2, Bool.and_eq_true, bne_iff_ne, ne_eq] at h
  exact ⟨h.1.1, h.1.2, h.2⟩
theorem snd3 : Snd 3 chk3 := snd_step snd2 fun u r h => by
  simp only [chk3, Bool.and_eq_true, bne_iff_ne, ne_eq] at h
  exact ⟨h.1.1, h.1.2, h.2⟩
end Mine
end PartDist4

section PartDist5
set_option maxRecDepth 100000
namespace Mine
theorem and_pow_cases (c k : Nat) (g : Nat) (i : Nat) (hk : k = 2 ^ i) : pmIf c k g 0 = bit1 c i g := by
  subst hk
  unfold pmIf bit1
  have h := Nat.testBit_eq_decide_div_mod_eq (x := c) (i := i)
  have e : c &&& 2 ^ i = (c / 2 ^ i % 2) * 2 ^ i := PySem.W.kbt_nat i c
  rw [e, h]
  rcases Nat.mod_two_eq_zero_or_one (c / 2 ^ i) with q | q <;> rw [q] <;> simp
theorem pmIf_split (c k g v : Nat) : pmIf c k g v = v ^^^ pmIf c k g 0 := by
  unfold pmIf
  split <;> simp
theorem gens : mx 1056006543753 = 730107360018 ∧ mx 730107360018 = 118834127661 ∧ mx 118834127661 = 236335490938 ∧ mx 236335490938 = 430795026429 := by decide +kernel
theorem pm_tv (c v : Nat) : pm c v = tv c ^^^ v := by
  unfold pm tv
  rw [pmIf_split _ 16, pmIf_split _ 8, pmIf_split _ 4, pmIf_split _ 2, pmIf_split _ 1]
  rw [and_pow_cases _ 1 _ 0 rfl, and_pow_cases _ 2 _ 1 rfl, and_pow_cases _ 4 _ 2 rfl, and_pow_cases _ 8 _ 3 rfl, and_pow_cases _ 16 _ 4 rfl]
  obtain ⟨g1, g2, g3, g4⟩ := gens
  unfold sm
  rw [g1, g2, g3, g4]
  ac_rfl
end Mine
end PartDist5

section PartDist6
set_option maxRecDepth 100000
namespace Mine
theorem tv_xor (a b : Nat) : tv (a ^^^ b) = tv a ^^^ tv b := by
  unfold tv
  simp only [Nat.and_xor_distrib_right, Nat.shiftLeft_xor_distrib, Nat.shiftRight_xor_distrib, sm_k]
  ac_rfl
theorem tv_zero : tv 0 = 0 := by decide +kernel
/-- the step back -/
def bk (w : Nat) : Nat := ((w ^^^ sm (sm 11 (w &&& 31)) 1056006543753) >>> 5) ^^^ ((sm 11 (w &&& 31)) <<< 35)
theorem bk_xor (a b : Nat) : bk (a ^^^ b) = bk a ^^^ bk b := by
  unfold bk
  rw [Nat.and_xor_distrib_right, sm_xor, sm_k, Nat.shiftLeft_xor_distrib, xswap a b, Nat.shiftRight_xor_distrib]
  exact xswap _ _ _ _
theorem bk_all : (List.range 40).all (fun i => bk (tv (2 ^ i)) == 2 ^ i) = true := by decide +kernel
theorem bk_tv {v : Nat} (hv : v < 2 ^ 40) : bk (tv v) = v :=
  lin_ext (f := fun v => bk (tv v)) (fun a b => by show bk (tv (a ^^^ b)) = _; rw [tv_xor, bk_xor]) (by show bk (tv 0) = 0; rw [tv_zero]; decide +kernel) 40
    (fun i hi => eq_of_beq (List.all_eq_true.mp bk_all i (List.mem_range.mpr hi))) v hv
theorem tv_inj {v : Nat} (hv : v < 2 ^ 40) (h : tv v = 0) : v = 0 := by
  rw [← bk_tv hv, h]; decide +kernel
end Mine
end PartDist6

section PartDist7
set_option maxRecDepth 100000
namespace Mine
theorem fold_xor : ∀ (s s' : List Nat) (c c' : Nat), s.length = s'.length → s.foldl pm c ^^^ s'.foldl pm c' = (List.zipWith (· ^^^ ·) s s').foldl pm (c ^^^ c')
  | [], [], _, _, _ => rfl
  | [], _ :: _, _, _, h => by cases h
  | _ :: _, [], _, _, h => by cases h
  | x :: s, y :: s', c, c', h => by
    rw [List.foldl_cons, List.foldl_cons, fold_xor s s' _ _ (Nat.succ.inj h), List.zipWith_cons_cons, List.foldl_cons]
    congr 1
    rw [pm_tv, pm_tv, pm_tv, tv_xor]
    exact xswap _ _ _ _
end Mine
end PartDist7

section PartDist8
set_option maxRecDepth 100000
namespace Mine
theorem tv_mx_all : (List.range 40).all (fun i => tv (mx (2 ^ i)) == mx (tv (2 ^ i))) = true := by decide +kernel
theorem tv_mx {v : Nat} (hv : v < 2 ^ 40) : tv (mx v) = mx (tv v) :=
  lin_eq (f := fun v => tv (mx v)) (g := fun v => mx (tv v)) (fun a b => by show tv (mx (a ^^^ b)) = _; rw [mx_xor, tv_xor]) (fun a b => by show mx (tv (a ^^^ b)) = _; rw [tv_xor, mx_xor])
    (by show tv (mx 0) = 0; rw [mx_zero, tv_zero]) (by show mx (tv 0) = 0; rw [tv_zero, mx_zero]) 40
    (fun i hi => eq_of_beq (List.all_eq_true.mp tv_mx_all i (List.mem_range.mpr hi))) v hv
theorem tv_bit1 (k i v : Nat) : tv (bit1 k i v) = bit1 k i (tv v) := by
  unfold bit1
  split
  · rfl
  · exact tv_zero
theorem tv_sm {k v : Nat} (hv : v < 2 ^ 40) : tv (sm k v) = sm k (tv v) := by
  have m1 := tv_mx hv
  have m2 := tv_mx (mx_lt hv)
  have m3 := tv_mx (mx_lt (mx_lt hv))
  have m4 := tv_mx (mx_lt (mx_lt (mx_lt hv)))
  unfold sm
  simp only [tv_xor, tv_bit1]
  rw [m4, m3, m2, m1]
theorem tv_comb : ∀ (l es : List Nat), (∀ v ∈ l, v < 2 ^ 40) → tv (comb l es) = comb (l.map tv) es
  | [], _, _ => by simp [comb, tv_zero]
  | _ :: _, [], _ => by simp [comb, tv_zero]
  | v :: l, e :: es, h => by
    show tv (sm e v ^^^ comb l es) = sm e (tv v) ^^^ comb (l.map tv) es
    rw [tv_xor, tv_sm (h v (.head _)), tv_comb l es fun x hx => h x (.tail _ hx)]
theorem xs_map : ∀ (n v : Nat), xs n (tv v) = (xs n v).map tv
  | 0, _ => rfl
  | n + 1, v => by
    show tv v :: xs n (tv (tv v)) = tv v :: (xs n (tv v)).map tv
    rw [xs_map n (tv v)]
theorem sm_one {x : Nat} (hx : x < 32) : sm x 1 = x := by
  have : ∀ x : Fin 32, sm x.val 1 = x.val := by decide +kernel
  exact this ⟨x, hx⟩
end Mine
end PartDist8

section PartDist9
set_option maxRecDepth 100000
namespace Mine
theorem tv_lt (c : Nat) : tv c < 2 ^ 40 := by
  unfold tv
  refine xor_lt40 ?_ (sm_lt (by decide))
  have := Nat.and_le_right (n := c) (m := 34359738367)
  rw [Nat.shiftLeft_eq]; omega
theorem xs_lt : ∀ (n v : Nat), v < 2 ^ 40 → ∀ x ∈ xs n v, x < 2 ^ 40
  | 0, _, _, x, hx => by cases hx
  | n + 1, v, hv, x, hx => by
    rcases List.mem_cons.mp hx with rfl | hx
    · exact hv
    · exact xs_lt n (tv v) (tv_lt v) x hx
theorem xs_len : ∀ (n v : Nat), (xs n v).length = n
  | 0, _ => rfl
  | n + 1, v => by show (xs n (tv v)).length + 1 = n + 1; rw [xs_len]
theorem fold_comb : ∀ (es : List Nat), (∀ e ∈ es, e < 32) → es.reverse.foldl pm 0 = comb (xs es.length 1) es
  | [], _ => rfl
  | x :: es, h => by
    rw [List.reverse_cons, List.foldl_append, List.foldl_cons, List.foldl_nil, fold_comb es fun e he => h e (.tail _ he), pm_tv, tv_comb _ _ (xs_lt _ _ (by decide)), ← xs_map]
    show _ = sm x 1 ^^^ comb (xs es.length (tv 1)) es
    rw [sm_one (h x (.head _)), Nat.xor_comm]
theorem comb_pad : ∀ (es : List Nat) (m v : Nat), comb (xs (es.length + m) v) (es ++ List.replicate m 0) = comb (xs es.length v) es
  | [], m, v => by
    rw [List.nil_append, comb_zero _ _ fun e he => List.eq_of_mem_replicate he]
    rfl
  | e :: es, m, v => by
    have e1 : (e :: es).length + m = (es.length + m) + 1 := by rw [List.length_cons]; omega
    rw [e1]
    show sm e v ^^^ comb (xs (es.length + m) (tv v)) (es ++ List.replicate m 0) = sm e v ^^^ comb (xs es.length (tv v)) es
    rw [comb_pad es m (tv v)]
theorem dist : ∀ (es : List Nat), es.length ≤ 32 → (∀ e ∈ es, e < 32) → cnt es ≤ 4 → comb (xs es.length 1) es = 0 → ∀ e ∈ es, e = 0
  | [], _, _, _, _, e, he => by cases he
  | x :: es, hl, h, hn, h0, e, he => by
    have h0' : sm x 1 ^^^ comb (xs es.length (tv 1)) es = 0 := h0
    by_cases hx : x = 0
    · rw [hx, zero_sm, Nat.zero_xor, xs_map, ← tv_comb _ _ (xs_lt _ _ (by decide))] at h0'
      have hc : comb (xs es.length 1) es < 2 ^ 40 := by
        have : ∀ (l es : List Nat), (∀ v ∈ l, v < 2 ^ 40) → comb l es < 2 ^ 40 := by
          intro l
          induction l with
          | nil => intro es _; simp [comb]
          | cons u l ih =>
            intro es hv
            cases es with
            | nil => simp [comb]
            | cons e es => exact xor_lt40 (sm_lt (hv u (.head _))) (ih es fun v hh => hv v (.tail _ hh))
        exact this _ _ (xs_lt _ _ (by decide))
      have h1 := tv_inj hc h0'
      have hn' : cnt es ≤ 4 := by
        have : cnt (x :: es) = cnt es := List.countP_cons_of_neg (by simp [hx])
        omega
      have q := dist es (by rw [List.length_cons] at hl; omega) (fun e he => h e (.tail _ he)) hn' h1
      rcases List.mem_cons.mp he with rfl | he
      · exact hx
      · exact q e he
    · exfalso
      rw [cnt_cons hx] at hn
      rw [List.length_cons] at hl
      have hpad := comb_pad es (31 - es.length) (tv 1)
      rw [show es.length + (31 - es.length) = 31 by omega] at hpad
      have hr : comb ((xs 31 (tv 1)).map (red 0 1)) (es ++ List.replicate (31 - es.length) 0) = 0 := by
        rw [← red_comb (by decide) (by decide) _ _ (xs_lt 31 (tv 1) (tv_lt 1)), hpad]
        have h2 : red 0 1 (sm x 1 ^^^ comb (xs es.length (tv 1)) es) = 0 := by rw [h0', red_zero]
        rw [red_xor, red_sm (by decide) (by decide) (by decide), red_self, sm_zero, Nat.zero_xor] at h2
        exact h2
      have hcnt : cnt (es ++ List.replicate (31 - es.length) 0) ≤ 3 := by
        have e2 : cnt (es ++ List.replicate (31 - es.length) 0) = cnt es + cnt (List.replicate (31 - es.length) 0) := List.countP_append
        have e3 : cnt (List.replicate (31 - es.length) 0) = 0 := List.countP_eq_zero.mpr fun a ha => by rw [List.eq_of_mem_replicate ha]; simp
        omega
      have hall := snd3 _ _ all_ok (fun v hv => by
        obtain ⟨y, hy, rfl⟩ := List.mem_map.mp hv
        exact red_lt (by decide) (xs_lt 31 (tv 1) (tv_lt 1) y hy)) (fun e he => by
        rcases List.mem_append.mp he with he | he
        · exact h e (.tail _ he)
        · rw [List.eq_of_mem_replicate he]; decide) (by rw [List.length_append, List.length_replicate, List.length_map, xs_len]; omega) hcnt hr
      have hz : comb (xs es.length (tv 1)) es = 0 := comb_zero _ _ fun e he => hall e (List.mem_append.mpr (.inl he))
      rw [hz, Nat.xor_zero, sm_one (h x (.head _))] at h0'
      exact hx h0'
end Mine
end PartDist9

section PartPack
set_option maxRecDepth 100000
namespace Mine
def pack (r : List Nat) : Nat := r.foldl (fun a d => (a <<< 5) ^^^ d) 0
theorem pack_fold (r : List Nat) : ∀ a b : Nat, r.foldl (fun a d => (a <<< 5) ^^^ d) (a ^^^ b) = (a <<< (5 * r.length)) ^^^ r.foldl (fun a d => (a <<< 5) ^^^ d) b := by
  induction r with
  | nil => intro a b; simp
  | cons d r ih =>
    intro a b
    rw [List.foldl_cons, List.foldl_cons, Nat.shiftLeft_xor_distrib, Nat.xor_assoc, ih, List.length_cons, ← Nat.shiftLeft_add]
    congr 2
    omega
theorem pack_cons (t : Nat) (q : List Nat) : pack (t :: q) = (t <<< (5 * q.length)) ^^^ pack q := by
  unfold pack
  rw [List.foldl_cons]
  have := pack_fold q t 0
  simpa using this
theorem pack_lt : ∀ (q : List Nat), (∀ x ∈ q, x < 32) → pack q < 2 ^ (5 * q.length)
  | [], _ => by decide
  | t :: q, h => by
    rw [pack_cons, List.length_cons]
    have h1 := pack_lt q fun x hx => h x (.tail _ hx)
    have e : 5 * (q.length + 1) = 5 * q.length + 5 := by omega
    have h2 : t <<< (5 * q.length) < 2 ^ (5 * (q.length + 1)) := by
      have ht := h t (.head _)
      rw [Nat.shiftLeft_eq, e, Nat.pow_add, Nat.mul_comm]
      exact Nat.mul_lt_mul_of_pos_left ht (Nat.two_pow_pos _)
    exact Nat.xor_lt_two_pow h2 (Nat.lt_of_lt_of_le h1 (Nat.pow_le_pow_right (by decide) (by omega)))
theorem pack_snoc (q : List Nat) (s : Nat) : pack (q ++ [s]) = (pack q <<< 5) ^^^ s := by
  unfold pack
  rw [List.foldl_append]
  rfl
theorem pack_zip : ∀ (a b : List Nat), a.length = b.length → pack (List.zipWith (· ^^^ ·) a b) = pack a ^^^ pack b
  | [], [], _ => rfl
  | [], _ :: _, h => by cases h
  | _ :: _, [], h => by cases h
  | x :: a, y :: b, h => by
    have hl := Nat.succ.inj h
    rw [List.zipWith_cons_cons, pack_cons, pack_cons, pack_cons, pack_zip a b hl, List.length_zipWith, ← hl, Nat.min_self, Nat.shiftLeft_xor_distrib]
    exact xswap _ _ _ _
theorem rows_pack : pack (rowX 0) = 1056006543753 ∧ pack (rowX 1) = mx 1056006543753 ∧ pack (rowX 2) = mx (mx 1056006543753) ∧ pack (rowX 3) = mx (mx (mx 1056006543753)) ∧ pack (rowX 4) = mx (mx (mx (mx 1056006543753))) := by decide +kernel
theorem pack_rin {top k : Nat} {r : List Nat} (h : r.length = 8) : pack (rinX top r k) = pack r ^^^ bit1 top k (pack (rowX k)) := by
  unfold rinX bit1
  have e : ((top >>> k) &&& 1 = 0) = (top.testBit k = false) := by
    unfold Nat.testBit
    simp [Nat.and_comm]
  by_cases q : top.testBit k = true
  · rw [if_pos q, if_neg (by rw [e, q]; simp), pack_zip _ _ (by rw [h, rowX_len])]
  · rw [if_neg q, if_pos (by rw [e]; simpa using q), Nat.xor_zero]
end Mine
end PartPack

section PartPack2
set_option maxRecDepth 100000
namespace Mine
theorem top_of {t : Nat} {q : List Nat} (hq : q.length = 7) (h : ∀ x ∈ q, x < 32) : pack (t :: q) >>> 35 = t ∧ pack (t :: q) &&& 34359738367 = pack q := by
  have hp := pack_lt q h
  rw [hq] at hp
  have hp' : pack q < 2 ^ 35 := hp
  rw [pack_cons, hq]
  constructor
  · rw [Nat.shiftRight_xor_distrib, Nat.shiftLeft_shiftRight, Nat.shiftRight_eq_div_pow (pack q), Nat.div_eq_of_lt hp', Nat.xor_zero]
  · have e : (34359738367 : Nat) = 2 ^ 35 - 1 := by decide
    rw [e, Nat.and_two_pow_sub_one_eq_mod, Nat.xor_mod_two_pow, Nat.shiftLeft_eq, Nat.mul_mod_left, Nat.zero_xor, Nat.mod_eq_of_lt hp']
theorem pack_step {r : List Nat} {s : Nat} (h : r.length = 8) (hr : ∀ x ∈ r, x < 32) : pack (rstepX r s) = pm (pack r) s := by
  cases r with
  | nil => cases h
  | cons t q =>
    have hq : q.length = 7 := Nat.succ.inj h
    obtain ⟨h1, h2⟩ := top_of (t := t) hq fun x hx => hr x (.tail _ hx)
    have l0 : (q ++ [s]).length = 8 := by rw [List.length_append, hq]; rfl
    obtain ⟨g0, g1, g2, g3, g4⟩ := rows_pack
    rw [pm_tv]
    unfold tv
    rw [h1, h2]
    show pack ([0, 1, 2, 3, 4].foldl (rinX t) (q ++ [s])) = _
    simp only [List.foldl_cons, List.foldl_nil]
    rw [pack_rin (rinX_len (rinX_len (rinX_len (rinX_len l0)))), pack_rin (rinX_len (rinX_len (rinX_len l0))), pack_rin (rinX_len (rinX_len l0)), pack_rin (rinX_len l0), pack_rin l0, pack_snoc, g0, g1, g2, g3, g4]
    unfold sm
    ac_rfl
theorem pack_folds : ∀ (l : List Nat) {r : List Nat}, r.length = 8 → (∀ x ∈ r, x < 32) → (∀ x ∈ l, x < 32) → pack (l.foldl rstepX r) = l.foldl pm (pack r)
  | [], _, _, _, _ => rfl
  | s :: l, r, h, hr, hl => by
    rw [List.foldl_cons, List.foldl_cons, pack_folds l (rstepX_len h) (rstepX_lt hr (hl s (.head _))) fun x hx => hl x (.tail _ hx), pack_step h hr]
theorem and31_mod (n : Nat) : n &&& 31 = n % 32 := by
  have e : (31 : Nat) = 2 ^ 5 - 1 := by decide
  rw [e, Nat.and_two_pow_sub_one_eq_mod]
theorem dig {q : List Nat} {s : Nat} (h : s < 32) : pack (q ++ [s]) >>> 5 = pack q ∧ pack (q ++ [s]) &&& 31 = s := by
  rw [pack_snoc]
  constructor
  · rw [Nat.shiftRight_xor_distrib, Nat.shiftLeft_shiftRight, Nat.shiftRight_eq_div_pow s, Nat.div_eq_of_lt h, Nat.xor_zero]
  · have e : (31 : Nat) = 2 ^ 5 - 1 := by decide
    rw [e, Nat.and_two_pow_sub_one_eq_mod, Nat.xor_mod_two_pow, Nat.shiftLeft_eq, Nat.mul_mod_left, Nat.zero_xor, Nat.mod_eq_of_lt h]
theorem unpack8 {a b c d e f g h : Nat} (ha : a < 32) (hb : b < 32) (hc : c < 32) (hd : d < 32) (he : e < 32) (hf : f < 32) (hg : g < 32) (hh : h < 32) :
    lets (pack [a, b, c, d, e, f, g, h]) = [a, b, c, d, e, f, g, h] := by
  obtain ⟨s8, d8⟩ := dig (q := [a, b, c, d, e, f, g]) hh
  obtain ⟨s7, d7⟩ := dig (q := [a, b, c, d, e, f]) hg
  obtain ⟨s6, d6⟩ := dig (q := [a, b, c, d, e]) hf
  obtain ⟨s5, d5⟩ := dig (q := [a, b, c, d]) he
  obtain ⟨s4, d4⟩ := dig (q := [a, b, c]) hd
  obtain ⟨s3, d3⟩ := dig (q := [a, b]) hc
  obtain ⟨s2, d2⟩ := dig (q := [a]) hb
  obtain ⟨s1, d1⟩ := dig (q := []) ha
  simp only [List.cons_append, List.nil_append] at s8 d8 s7 d7 s6 d6 s5 d5 s4 d4 s3 d3 s2 d2 s1 d1
  have st : ∀ x k : Nat, x >>> (5 + k) = (x >>> 5) >>> k := fun x k => Nat.shiftRight_add x 5 k
  show [pack [a, b, c, d, e, f, g, h] >>> (5 + (5 + (5 + (5 + (5 + (5 + 5)))))) &&& 31, pack [a, b, c, d, e, f, g, h] >>> (5 + (5 + (5 + (5 + (5 + 5))))) &&& 31, pack [a, b, c, d, e, f, g, h] >>> (5 + (5 + (5 + (5 + 5)))) &&& 31,
    pack [a, b, c, d, e, f, g, h] >>> (5 + (5 + (5 + 5))) &&& 31, pack [a, b, c, d, e, f, g, h] >>> (5 + (5 + 5)) &&& 31, pack [a, b, c, d, e, f, g, h] >>> (5 + 5) &&& 31, pack [a, b, c, d, e, f, g, h] >>> 5 &&& 31, pack [a, b, c, d, e, f, g, h] >>> 0 &&& 31] = _
  simp only [st, s8, s7, s6, s5, s4, s3, s2, Nat.shiftRight_zero, d8, d7, d6, d5, d4, d3, d2, d1]
theorem eight {r : List Nat} (h : r.length = 8) : ∃ a b c d e f g i, r = [a, b, c, d, e, f, g, i] := by
  match r, h with
  | [a, b, c, d, e, f, g, i], _ => exact ⟨a, b, c, d, e, f, g, i, rfl⟩
theorem unpackL {r : List Nat} (h : r.length = 8) (hr : ∀ x ∈ r, x < 32) : lets (pack r) = r := by
  obtain ⟨a, b, c, d, e, f, g, i, rfl⟩ := eight h
  exact unpack8 (hr _ (by simp)) (hr _ (by simp)) (hr _ (by simp)) (hr _ (by simp)) (hr _ (by simp)) (hr _ (by simp)) (hr _ (by simp)) (hr _ (by simp))
def fin1 (r : List Nat) : List Nat := r.take 7 ++ [(r.getD 7 0) ^^^ 1]
theorem pack_fin1 {r : List Nat} (h : r.length = 8) : pack (fin1 r) = pack r ^^^ 1 := by
  obtain ⟨a, b, c, d, e, f, g, i, rfl⟩ := eight h
  show pack ([a, b, c, d, e, f, g] ++ [i ^^^ 1]) = pack ([a, b, c, d, e, f, g] ++ [i]) ^^^ 1
  rw [pack_snoc, pack_snoc, Nat.xor_assoc]
theorem rinit_ok : rinitX.length = 8 ∧ (∀ x ∈ rinitX, x < 32) ∧ pack rinitX = 1 := by decide +kernel
def z8 : List Nat := [0, 0, 0, 0, 0, 0, 0, 0]
theorem restX_pack {ns : List Nat} (h : ∀ x ∈ ns, x < 32) : pack (restX ns) = (ns ++ z8).foldl pm 1 ^^^ 1 := by
  have hz : ∀ x ∈ ns ++ z8, x < 32 := fun x hx => by
    rcases List.mem_append.mp hx with hx | hx
    · exact h x hx
    · have : ∀ x ∈ z8, x < 32 := by decide
      exact this x hx
  show pack (fin1 ((ns ++ z8).foldl rstepX rinitX)) = _
  rw [pack_fin1 (rfoldX_len _ rinit_ok.1), pack_folds _ rinit_ok.1 rinit_ok.2.1 hz, rinit_ok.2.2]
theorem restX_lets {ns : List Nat} (h : ∀ x ∈ ns, x < 32) : restX ns = lets ((ns ++ z8).foldl pm 1 ^^^ 1) := by
  rw [← restX_pack h, unpackL (restX_len ns) (restX_lt h)]
theorem fin8_fold (c : Nat) : fin8 c = z8.foldl pm c ^^^ 1 := rfl
end Mine
end PartPack2

section PartPlain2
set_option maxRecDepth 100000
namespace Mine
theorem shr5 (p : Nat) : p >>> 5 = p / 32 := Nat.shiftRight_eq_div_pow p 5
theorem take_succ {ps : List Nat} {i : Nat} (h : i < ps.length) : ps.take (i + 1) = ps.take i ++ [ps.getD i 0] := by
  rw [List.take_add_one, List.getD_eq_getElem?_getD, List.getElem?_eq_getElem h]
  rfl
theorem run_tsy (ps : List Nat) : ∀ i, i < ps.length → (tsy ps i).1.foldl pm 1 = (run (ps.take i)).1 ∧ (tsy ps i).2 = (run (ps.take i)).2.1 ∧ (run (ps.take i)).2.2 = i % 3
  | 0, _ => ⟨rfl, rfl, rfl⟩
  | i + 1, h => by
    obtain ⟨h1, h2, h3⟩ := run_tsy ps i (by omega)
    rw [take_succ (by omega), run_snoc]
    show (tst ps.length (tsy ps i) i (ps.getD i 0)).1.foldl pm 1 = _ ∧ (tst ps.length (tsy ps i) i (ps.getD i 0)).2 = _ ∧ _
    generalize ps.getD i 0 = p
    generalize run (ps.take i) = st at *
    obtain ⟨c, cls, n⟩ := st
    dsimp only at h1 h2 h3
    unfold tst stp
    dsimp only
    rw [and31_mod, shr5]
    by_cases q : i % 3 = 2
    · rw [if_pos (.inl q), if_pos (by omega)]
      dsimp only
      rw [List.foldl_append, List.foldl_append, List.foldl_cons, List.foldl_nil, List.foldl_cons, List.foldl_nil, h1, h2, Nat.mul_comm]
      exact ⟨rfl, rfl, by omega⟩
    · rw [if_neg (by omega), if_neg (by omega)]
      dsimp only
      rw [List.foldl_append, List.foldl_cons, List.foldl_nil, h1, h2, Nat.mul_comm]
      exact ⟨rfl, rfl, by omega⟩
theorem syms_fold (ps : List Nat) : (syms ps).foldl pm 1 = (if 0 < (run ps).2.2 then pm (run ps).1 (run ps).2.1 else (run ps).1) := by
  unfold syms
  cases hn : ps.length with
  | zero =>
    have : ps = [] := List.length_eq_zero_iff.mp hn
    subst this
    rfl
  | succ i =>
    obtain ⟨h1, h2, h3⟩ := run_tsy ps i (by omega)
    have e : ps = ps.take i ++ [ps.getD i 0] := by
      rw [← take_succ (by omega), ← hn, List.take_length]
    have e2 : run ps = stp (run (ps.take i)) (ps.getD i 0) := by
      conv => lhs; rw [e]
      rw [run_snoc]
    rw [e2]
    show (tst ps.length (tsy ps i) i (ps.getD i 0)).1.foldl pm 1 = _
    generalize ps.getD i 0 = p
    generalize run (ps.take i) = st at *
    obtain ⟨c, cls, n⟩ := st
    dsimp only at h1 h2 h3
    unfold tst stp
    dsimp only
    rw [and31_mod, shr5, if_pos (.inr hn.symm)]
    dsimp only
    rw [List.foldl_append, List.foldl_append, List.foldl_cons, List.foldl_nil, List.foldl_cons, List.foldl_nil, h1, h2, Nat.mul_comm 3]
    by_cases q : n + 1 = 3
    · rw [if_pos q]
      rfl
    · rw [if_neg q]
      exact (if_pos (Nat.succ_pos n)).symm
theorem told_eq {ps : List Nat} (hps : ∀ p ∈ ps, p < 95) : toldL ps = told ps := by
  unfold toldL told
  rw [restX_lets (syms_lt hps), List.foldl_append, syms_fold]
  rfl
end Mine
end PartPlain2

section PartPlain3
set_option maxRecDepth 100000
namespace Mine
def w1 (p t : Nat) : Nat := (if p % 32 = t % 32 then 0 else 1) + (if p / 32 = t / 32 then 0 else 1)
def wt (ps ts : List Nat) : Nat := (List.zipWith w1 ps ts).sum
def Good (W : Nat) (ps ts : List Nat) : Prop := ts.length = ps.length ∧ (∀ t ∈ ts, t < 95) ∧ wt ps ts ≤ W
def dif (a b : List Nat) : List Nat := List.zipWith (· ^^^ ·) a b
def ne01 (a b : Nat) : Nat := if a = b then 0 else 1
theorem dif_snoc {a b : List Nat} (h : a.length = b.length) (x y : Nat) : dif (a ++ [x]) (b ++ [y]) = dif a b ++ [x ^^^ y] := by
  unfold dif
  rw [List.zipWith_append h]
  rfl
theorem xor_zero_iff (x y : Nat) : x ^^^ y = 0 ↔ x = y := by
  constructor
  · intro h
    have h2 := congrArg (· ^^^ y) h
    simpa [Nat.xor_assoc] using h2
  · intro h
    rw [h, Nat.xor_self]
theorem cnt_snoc (l : List Nat) (x y : Nat) : cnt (l ++ [x ^^^ y]) = cnt l + ne01 x y := by
  unfold cnt ne01
  rw [List.countP_append]
  congr 1
  by_cases h : x = y
  · rw [if_pos h, (xor_zero_iff x y).mpr h]; rfl
  · rw [if_neg h]
    have : x ^^^ y ≠ 0 := fun q => h ((xor_zero_iff x y).mp q)
    rw [List.countP_cons_of_pos (by simpa using this)]
    rfl
theorem zero_snoc {l : List Nat} {x y : Nat} (h : ∀ e ∈ l ++ [x ^^^ y], e = 0) : (∀ e ∈ l, e = 0) ∧ x = y :=
  ⟨fun e he => h e (List.mem_append.mpr (.inl he)), (xor_zero_iff x y).mp (h _ (List.mem_append.mpr (.inr (List.mem_singleton.mpr rfl))))⟩
structure Inv (ps ts : List Nat) (i : Nat) (a b : List Nat × Nat) : Prop where
  len : a.1.length = b.1.length
  cnt : cnt (dif a.1 b.1) + ne01 a.2 b.2 ≤ wt (ps.take i) (ts.take i)
  inj : (∀ e ∈ dif a.1 b.1, e = 0) → a.2 = b.2 → ps.take i = ts.take i
theorem wt_snoc {a b : List Nat} (h : a.length = b.length) (x y : Nat) : wt (a ++ [x]) (b ++ [y]) = wt a b + w1 x y := by
  unfold wt
  rw [List.zipWith_append h, List.sum_append]
  simp
theorem w1_ne (p t : Nat) : w1 p t = ne01 (p % 32) (t % 32) + ne01 (p / 32) (t / 32) := rfl
theorem ne01_cls (c d p t : Nat) : ne01 (3 * c + p) (3 * d + t) ≤ ne01 c d + ne01 p t := by
  unfold ne01
  split <;> split <;> split <;> omega
theorem inv_step {ps ts : List Nat} {i : Nat} {a b : List Nat × Nat} (hi : i < ps.length) (hl : ts.length = ps.length) (hp : ps.getD i 0 < 95) (ht : ts.getD i 0 < 95) (I : Inv ps ts i a b) :
    Inv ps ts (i + 1) (tst ps.length a i (ps.getD i 0)) (tst ts.length b i (ts.getD i 0)) := by
  obtain ⟨la, ca⟩ := a
  obtain ⟨lb, cb⟩ := b
  obtain ⟨h1, h2, h3⟩ := I
  dsimp only at h1 h2 h3
  have e1 := take_succ (ps := ps) hi
  have e2 := take_succ (ps := ts) (i := i) (by omega)
  have hlt : (ps.take i).length = (ts.take i).length := by rw [List.length_take, List.length_take, hl]
  rw [hl]
  generalize ps.getD i 0 = p at *
  generalize ts.getD i 0 = t at *
  have hc := ne01_cls ca cb (p / 32) (t / 32)
  by_cases q : i % 3 = 2 ∨ i + 1 = ps.length
  · have ta : tst ps.length (la, ca) i p = (la ++ [p % 32] ++ [3 * ca + p / 32], 0) := if_pos q
    have tb : tst ps.length (lb, cb) i t = (lb ++ [t % 32] ++ [3 * cb + t / 32], 0) := if_pos q
    rw [ta, tb]
    have g1 : (la ++ [p % 32]).length = (lb ++ [t % 32]).length := by rw [List.length_append, List.length_append, h1]; rfl
    refine ⟨?_, ?_, ?_⟩
    · show (la ++ [p % 32] ++ [_]).length = (lb ++ [t % 32] ++ [_]).length
      simp only [List.length_append, List.length_singleton, h1]
    · show cnt (dif (la ++ [p % 32] ++ [3 * ca + p / 32]) (lb ++ [t % 32] ++ [3 * cb + t / 32])) + ne01 0 0 ≤ _
      rw [dif_snoc g1, dif_snoc h1, cnt_snoc, cnt_snoc, e1, e2, wt_snoc hlt, w1_ne]
      have : ne01 0 0 = 0 := rfl
      omega
    · intro hz _
      have hz' : ∀ e ∈ dif (la ++ [p % 32] ++ [3 * ca + p / 32]) (lb ++ [t % 32] ++ [3 * cb + t / 32]), e = 0 := hz
      rw [dif_snoc g1, dif_snoc h1] at hz'
      obtain ⟨z1, z2⟩ := zero_snoc hz'
      obtain ⟨z3, z4⟩ := zero_snoc z1
      rw [e1, e2, h3 z3 (by omega)]
      congr 2
      omega
  · have ta : tst ps.length (la, ca) i p = (la ++ [p % 32], 3 * ca + p / 32) := if_neg q
    have tb : tst ps.length (lb, cb) i t = (lb ++ [t % 32], 3 * cb + t / 32) := if_neg q
    rw [ta, tb]
    refine ⟨?_, ?_, ?_⟩
    · show (la ++ [p % 32]).length = (lb ++ [t % 32]).length
      rw [List.length_append, List.length_append, h1]; rfl
    · show cnt (dif (la ++ [p % 32]) (lb ++ [t % 32])) + ne01 (3 * ca + p / 32) (3 * cb + t / 32) ≤ _
      rw [dif_snoc h1, cnt_snoc, e1, e2, wt_snoc hlt, w1_ne]
      omega
    · intro hz hcl
      have hz' : ∀ e ∈ dif (la ++ [p % 32]) (lb ++ [t % 32]), e = 0 := hz
      have hcl' : 3 * ca + p / 32 = 3 * cb + t / 32 := hcl
      rw [dif_snoc h1] at hz'
      obtain ⟨z3, z4⟩ := zero_snoc hz'
      rw [e1, e2, h3 z3 (by omega)]
      congr 2
      omega
theorem getD_lt95 {ps : List Nat} (hps : ∀ p ∈ ps, p < 95) (i : Nat) : ps.getD i 0 < 95 := by
  rw [List.getD_eq_getElem?_getD]
  cases e : ps[i]? with
  | none => decide
  | some x => exact hps x (List.mem_of_getElem? e)
theorem inv_all2 {ps ts : List Nat} (hl : ts.length = ps.length) (hps : ∀ p ∈ ps, p < 95) (hts : ∀ p ∈ ts, p < 95) : ∀ i, i ≤ ps.length → Inv ps ts i (tsy ps i) (tsy ts i)
  | 0, _ => ⟨rfl, Nat.le_refl _, fun _ _ => rfl⟩
  | i + 1, h => inv_step (by omega) hl (getD_lt95 hps i) (getD_lt95 hts i) (inv_all2 hl hps hts i (by omega))
theorem tsy_end (ps : List Nat) : (tsy ps ps.length).2 = 0 := by
  cases hn : ps.length with
  | zero => rfl
  | succ i =>
    show (tst ps.length (tsy ps i) i (ps.getD i 0)).2 = 0
    unfold tst
    rw [if_pos (.inr hn.symm)]
theorem tsy_len2 (ps : List Nat) : ∀ i, i < ps.length → (tsy ps i).1.length = i + i / 3
  | 0, _ => rfl
  | i + 1, h => by
    have h1 := tsy_len2 ps i (by omega)
    show (tst ps.length (tsy ps i) i (ps.getD i 0)).1.length = _
    unfold tst
    by_cases q : i % 3 = 2
    · rw [if_pos (.inl q)]
      simp only [List.length_append, List.length_singleton]
      omega
    · rw [if_neg (by omega)]
      simp only [List.length_append, List.length_singleton]
      omega
theorem syms_len {ps : List Nat} (h : ps.length ≤ 24) : (syms ps).length ≤ 32 := by
  unfold syms
  cases hn : ps.length with
  | zero => exact Nat.zero_le _
  | succ i =>
    have h1 := tsy_len2 ps i (by omega)
    show (tst ps.length (tsy ps i) i (ps.getD i 0)).1.length ≤ 32
    unfold tst
    rw [if_pos (.inr hn.symm)]
    simp only [List.length_append, List.length_singleton]
    omega
theorem pm_zero (c : Nat) : pm c 0 = tv c := by rw [pm_tv, Nat.xor_zero]
theorem fold_lt : ∀ (d : List Nat) (c : Nat), (∀ e ∈ d, e < 32) → c < 2 ^ 40 → d.foldl pm c < 2 ^ 40
  | [], _, _, h => h
  | e :: d, c, h, hc => fold_lt d _ (fun x hx => h x (.tail _ hx)) (by
    rw [pm_tv]
    exact xor_lt40 (tv_lt c) (Nat.lt_trans (h e (.head _)) (by decide)))
theorem strip8 {c : Nat} (hc : c < 2 ^ 40) (h : z8.foldl pm c = 0) : c = 0 := by
  simp only [z8, List.foldl_cons, List.foldl_nil, pm_zero] at h
  exact tv_inj hc (tv_inj (tv_lt _) (tv_inj (tv_lt _) (tv_inj (tv_lt _) (tv_inj (tv_lt _) (tv_inj (tv_lt _) (tv_inj (tv_lt _) (tv_inj (tv_lt _) h)))))))
theorem ck_inj_all : (List.range 32).all (fun a => (List.range 32).all fun b => ck a != ck b || a == b) = true := by decide +kernel
theorem ck_inj {a b : Nat} (ha : a < 32) (hb : b < 32) (h : ck a = ck b) : a = b := by
  have h1 := List.all_eq_true.mp (List.all_eq_true.mp ck_inj_all a (List.mem_range.mpr ha)) b (List.mem_range.mpr hb)
  rw [h] at h1
  simpa using h1
theorem map_ck_inj : ∀ {a b : List Nat}, (∀ x ∈ a, x < 32) → (∀ x ∈ b, x < 32) → a.map ck = b.map ck → a = b
  | [], [], _, _, _ => rfl
  | [], _ :: _, _, _, h => by cases h
  | _ :: _, [], _, _, h => by cases h
  | x :: a, y :: b, ha, hb, h => by
    have h1 := List.cons.inj h
    rw [ck_inj (ha x (.head _)) (hb y (.head _)) h1.1, map_ck_inj (fun x hx => ha x (.tail _ hx)) (fun x hx => hb x (.tail _ hx)) h1.2]
theorem cx_inj {a b : List Nat} (ha : ∀ x ∈ a, x < 32) (hb : ∀ x ∈ b, x < 32) (h : cx a = cx b) : a = b := by
  refine map_ck_inj ha hb ?_
  have : (⟨(a.map ck).toArray⟩ : PySem.Str) = ⟨(b.map ck).toArray⟩ := h
  injection this with h2
  simpa using h2
theorem syms_fold_eq {ps ts : List Nat} (hps : ∀ p ∈ ps, p < 95) (hts : ∀ p ∈ ts, p < 95) (h : told ts = told ps) : (syms ts ++ z8).foldl pm 1 = (syms ps ++ z8).foldl pm 1 := by
  rw [← told_eq hps, ← told_eq hts] at h
  have h1 : restX (syms ts) = restX (syms ps) := cx_inj (restX_lt (syms_lt hts)) (restX_lt (syms_lt hps)) h
  have h2 := congrArg pack h1
  rw [restX_pack (syms_lt hts), restX_pack (syms_lt hps)] at h2
  have h3 := congrArg (· ^^^ 1) h2
  simpa [Nat.xor_assoc] using h3
theorem dist_told {ps ts : List Nat} (hps : ∀ p ∈ ps, p < 95) (hl : ps.length ≤ 24) (hg : Good 4 ps ts) (h : told ts = told ps) : ts = ps := by
  obtain ⟨hlen, hts, hw⟩ := hg
  have hI := inv_all2 hlen hps hts ps.length (Nat.le_refl _)
  have et : tsy ts ps.length = tsy ts ts.length := by rw [hlen]
  rw [et] at hI
  have e := syms_fold_eq hps hts h
  have hll : (syms ts).length = (syms ps).length := hI.len.symm
  have hx := fold_xor (syms ps ++ z8) (syms ts ++ z8) 1 1 (by rw [List.length_append, List.length_append, hll])
  rw [e, Nat.xor_self, Nat.xor_self, List.zipWith_append hll.symm, List.foldl_append] at hx
  have hz : List.zipWith (· ^^^ ·) z8 z8 = z8 := rfl
  rw [hz] at hx
  have hd32 : ∀ x ∈ dif (syms ps) (syms ts), x < 32 := zw_lt (syms_lt hps) (syms_lt hts)
  have h0 : (dif (syms ps) (syms ts)).foldl pm 0 = 0 := strip8 (fold_lt _ _ hd32 (by decide)) hx.symm
  have hcnt : cnt (dif (syms ps) (syms ts)) ≤ 4 := by
    have h1 := hI.cnt
    rw [List.take_length, show ts.take ps.length = ts by rw [← hlen, List.take_length]] at h1
    exact Nat.le_trans (Nat.le_trans (Nat.le_add_right _ _) h1) hw
  have hdl : (dif (syms ps) (syms ts)).length ≤ 32 := by
    unfold dif
    rw [List.length_zipWith]
    exact Nat.le_trans (Nat.min_le_left _ _) (syms_len hl)
  have hall : ∀ e ∈ (dif (syms ps) (syms ts)).reverse, e = 0 := by
    refine dist _ (by rw [List.length_reverse]; exact hdl) (fun e he => hd32 e (List.mem_reverse.mp he)) (by
      have : cnt (dif (syms ps) (syms ts)).reverse = cnt (dif (syms ps) (syms ts)) := List.countP_reverse
      omega) ?_
    rw [← fold_comb _ (fun e he => hd32 e (List.mem_reverse.mp he)), List.reverse_reverse]
    exact h0
  have hzero : ∀ e ∈ dif (syms ps) (syms ts), e = 0 := fun e he => hall e (List.mem_reverse.mpr he)
  have hj := hI.inj hzero (by rw [tsy_end ps, tsy_end ts])
  rw [List.take_length, show ts.take ps.length = ts by rw [← hlen, List.take_length]] at hj
  exact hj.symm
theorem dist_law {ps ts : List Nat} (hps : ∀ p ∈ ps, p < 95) (hl : ps.length ≤ 24) (hg : Good 4 ps ts) (hne : ¬ zi ts = zi ps) : told ts ≠ told ps :=
  fun h => hne (by rw [dist_told hps hl hg h])
end Mine
end PartPlain3

section PartLawL
open PySem PySem.W PySem.Calls PyProof.Rows
set_option maxRecDepth 100000
namespace Mine
theorem numU {w : World} {mean mg mb} {l : Addr} {vs : List Value} {ns : List Int} {k : Int} {t2 : Tok} {news : List (Addr × Obj)} {dp un : Nat} {gd : Option (List Code)} {cn : Str} {cs : Scope} {a : Addr} {ccd : Value} {cl : List (Str × Addr)} {outer : List Env} {A₀ : Around} {base h₀ : Heap} {L : Addr} {m : Str → Option Value} {s : Shared} {Q E : Value → Shared → Prop}
    (B : Below A₀ base outer h₀) (F : Fr h₀ L s.heap m) (X : (hd.heap_39 w.params).In h₀) (N : News h₀ L s.heap news) (T : Top hd.view_39 (looseW hd.view_39 [Str.ofString "_law_generator"]) mean mg mb h₀) (hk : cs.kind = .function)
    (hl : base.IsList l vs.toArray) (hi : IntsAre vs ns) (hL : PyData.layable0 (.list (ns.map .int)) = true) (h0 : 0 ≤ k) (h1 : k < 1000) (hd' : dp + 5 < recursionLimit) (hu : un + 40 < cLine)
    (ret : ∀ (t : Tok) (h' : Heap) (tk' : Nat), Fr h₀ L h' m → News h₀ L h' news → Q (.int (num ns k.toNat) t) { s with heap := h', toks := tk' }) :
      wpAny (model PySem.Challenge.rw_kk0012_01.row.prog w) (ktrTop dp un gd cn cs L a ccd cl outer) (call (.ref 66) [.ref l, .int k t2]) Q E s := by
  obtain ⟨k', rfl⟩ := Int.eq_ofNat_of_zero_le h0
  exact numC news l vs ns k' t2 dp un gd cn cs a ccd cl outer A₀ base h₀ L m s Q E B F X N T hk hl hi hL (by omega) hd' hu ret
theorem isl_lst {h₀ h : Heap} {L l : Addr} {xs : List Value} {news : List (Addr × Obj)} (N : News h₀ L h news) (hm : (l, LCg.lst xs) ∈ news) : h.IsList l xs.toArray := ⟨_, (N _ hm).1, rfl, _, rfl⟩
def pl (ns : List Int) (k : Nat) : Nat := ((num ns (1 + k) * 37).fmod 95).toNat
def plI (ns : List Int) (k : Int) : Int := (num ns (1 + k).toNat * 37).fmod 95
theorem fmod_pos (a : Int) {b : Int} (h : 0 < b) : 0 ≤ a.fmod b ∧ a.fmod b < b := ⟨Int.fmod_nonneg_of_pos a h, Int.fmod_lt_of_pos a h⟩
theorem pl_lt (ns : List Int) (k : Nat) : pl ns k < 95 := by
  have h := fmod_pos (num ns (1 + k) * 37) (b := 95) (by decide)
  unfold pl
  omega
def pls (ns : List Int) (c : Nat) : List Nat := (List.range c).map (pl ns)
theorem pls_eq (ns : List Int) (c : Nat) : (rangeKs 0 c).map (plI ns) = zi (pls ns c) := by
  unfold pls zi rangeKs
  rw [List.map_map, List.map_map]
  refine List.map_congr_left fun k _ => ?_
  have h := fmod_pos (num ns (1 + k) * 37) (b := 95) (by decide)
  show (num ns (1 + (0 + (k : Int))).toNat * 37).fmod 95 = ((pl ns k : Nat) : Int)
  have e : (1 + (0 + (k : Int))).toNat = 1 + k := by omega
  rw [e]
  unfold pl
  omega
theorem pls_lt (ns : List Int) (c : Nat) : ∀ p ∈ pls ns c, p < 95 := fun p hp => by
  obtain ⟨k, _, rfl⟩ := List.mem_map.mp hp
  exact pl_lt ns k
theorem pls_len (ns : List Int) (c : Nat) : (pls ns c).length = c := by simp [pls]

theorem cnt_ex {x : Int} (h1 : 0 ≤ x) (h2 : x < 24) : ∃ c : Nat, 1 + x = (c : Int) ∧ 1 ≤ c ∧ c ≤ 24 := ⟨(1 + x).toNat, by omega, by omega, by omega⟩
theorem places_are {ns : List Int} {ys : List Value} {x : Int} {c : Nat} (hc : 1 + x = (c : Int)) (h : IntsAre ys (List.map (fun k' => (num ns (1 + k').toNat * 37).fmod 95) (rangeKs 0 (1 + x - 0).toNat))) : ∃ ps : List Nat, IntsAre ys (zi ps) ∧ ps.length = c ∧ ∀ p ∈ ps, p < 95 := by
  have e : (1 + x - 0).toNat = c := by omega
  rw [e] at h
  refine ⟨pls ns c, ?_, pls_len ns c, pls_lt ns c⟩
  rw [← pls_eq]
  exact h
theorem z_bound {ps : List Nat} (hps : ∀ p ∈ ps, p < 95) {k : Int} (h : k ∈ zi ps) : 0 ≤ k ∧ k < ((95 : Nat) : Int) := by
  obtain ⟨n, hn, rfl⟩ := List.mem_map.mp h
  have := hps n hn
  omega
theorem item_sgI {k : Int} (h : 0 ≤ k ∧ k < ((95 : Nat) : Int)) : (⟨#[sg k.toNat]⟩ : Str) = Txt.item SGT k := by
  obtain ⟨n, rfl⟩ := Int.eq_ofNat_of_zero_le h.1
  exact (item_sg (by omega)).symm
theorem join_tx (l : List Nat) : Txt.join (Str.ofString "") ((zi l).map fun k => (⟨#[sg k.toNat]⟩ : Str)) = tx l := by
  rw [join_one]
  unfold tx zi
  rw [List.map_map]
  rfl
theorem sz24 {vs : List Value} {ps : List Nat} (h : IntsAre vs (zi ps)) (hl : ps.length ≤ 24) : vs.toArray.size ≤ sizeLine := by
  have h1 := h.length
  simp only [zi, List.length_map] at h1
  rw [List.size_toArray, PySem.sizeLine_eq]; omega

theorem chkV {w : World} {mean mg mb} {x : Str} {ps : List Nat} {t2 : Tok} {news : List (Addr × Obj)} {dp un : Nat} {gd : Option (List Code)} {cn : Str} {cs : Scope} {a : Addr} {ccd : Value} {cl : List (Str × Addr)} {outer : List Env} {A₀ : Around} {base h₀ : Heap} {L : Addr} {m : Str → Option Value} {s : Shared} {Q E : Value → Shared → Prop}
    (B : Below A₀ base outer h₀) (F : Fr h₀ L s.heap m) (X : (hd.heap_39 w.params).In h₀) (N : News h₀ L s.heap news) (T : Top hd.view_39 (looseW hd.view_39 [Str.ofString "_law_generator"]) mean mg mb h₀) (hk : cs.kind = .function)
    (hx : x = tx ps) (hps : ∀ p ∈ ps, p < 95) (hlen : ps.length ≤ 24) (hd' : dp + 15 < recursionLimit) (hu : un + 80 < cLine)
    (ret : ∀ (t : Tok) (h' : Heap) (tk' : Nat), Fr h₀ L h' m → News h₀ L h' news → Q (.str (told ps) t) { s with heap := h', toks := tk' }) :
      wpAny (model PySem.Challenge.rw_kk0012_01.row.prog w) (ktrTop dp un gd cn cs L a ccd cl outer) (call (.ref 51) [.str x t2]) Q E s := by
  subst hx
  refine chkC ps hps t2 dp un gd cn cs a ccd cl outer A₀ base h₀ L m s Q E B F X T hk (by rw [tx_length]; omega) hd' hu ?_
  intro t h' tk' st F'
  exact ret t h' tk' F' (News.stays N st)
theorem toldU {w : World} {mean mg mb} {l : Addr} {vs : List Value} {ps : List Nat} {news : List (Addr × Obj)} {dp un : Nat} {gd : Option (List Code)} {cn : Str} {cs : Scope} {a : Addr} {ccd : Value} {cl : List (Str × Addr)} {outer : List Env} {A₀ : Around} {base h₀ : Heap} {L : Addr} {m : Str → Option Value} {s : Shared} {Q E : Value → Shared → Prop}
    (B : Below A₀ base outer h₀) (F : Fr h₀ L s.heap m) (X : (hd.heap_39 w.params).In h₀) (N : News h₀ L s.heap news) (T : Top hd.view_39 (looseW hd.view_39 [Str.ofString "_law_generator"]) mean mg mb h₀) (hk : cs.kind = .function)
    (hl : s.heap.IsList l vs.toArray) (hi : IntsAre vs (zi ps)) (hps : ∀ p ∈ ps, p < 95) (hlen : ps.length ≤ 24) (hd' : dp + 35 < recursionLimit) (hu : un + 160 < cLine)
    (ret : ∀ (t : Tok) (h' : Heap) (tk' : Nat), Fr h₀ L h' m → News h₀ L h' news → Q (.str (told ps) t) { s with heap := h', toks := tk' }) :
      wpAny (model PySem.Challenge.rw_kk0012_01.row.prog w) (ktrTop dp un gd cn cs L a ccd cl outer) (call (.ref 81) [.ref l]) Q E s := by
  refine toldC l vs ps hi hps (by omega) dp un gd cn cs a ccd cl outer A₀ base h₀ L m s Q E B F X T hk hl hd' hu ?_
  intro t h' tk' st F'
  rw [told_eq hps]
  exact ret t h' tk' F' (News.stays N st)
theorem addU {w : World} {mean mg mb} {x : Str} {ps : List Nat} {t2 : Tok} {news : List (Addr × Obj)} {dp un : Nat} {gd : Option (List Code)} {cn : Str} {cs : Scope} {a : Addr} {ccd : Value} {cl : List (Str × Addr)} {outer : List Env} {A₀ : Around} {base h₀ : Heap} {L : Addr} {m : Str → Option Value} {s : Shared} {Q E : Value → Shared → Prop}
    (B : Below A₀ base outer h₀) (F : Fr h₀ L s.heap m) (X : (hd.heap_39 w.params).In h₀) (N : News h₀ L s.heap news) (T : Top hd.view_39 (looseW hd.view_39 [Str.ofString "_law_generator"]) mean mg mb h₀) (hk : cs.kind = .function)
    (hb : bare x = tx ps) (hps : ∀ p ∈ ps, p < 95) (hlen : ps.length ≤ 24) (hxl : x.length < 1000) (hd' : dp + 25 < recursionLimit) (hu : un + 120 < cLine)
    (ret : ∀ (t : Tok) (h' : Heap) (tk' : Nat), Fr h₀ L h' m → News h₀ L h' news → Q (.str (tx ps ++ Str.ofString "#" ++ told ps) t) { s with heap := h', toks := tk' }) :
      wpAny (model PySem.Challenge.rw_kk0012_01.row.prog w) (ktrTop dp un gd cn cs L a ccd cl outer) (call (.ref 58) [.str x t2]) Q E s := by
  refine addC x t2 ps hps (by omega) hxl hb dp un gd cn cs a ccd cl outer A₀ base h₀ L m s Q E B F X T hk hd' hu ?_
  intro t h' tk' st F'
  exact ret t h' tk' F' (News.stays N st)
theorem ne_same {prog : Program} {w : World} {A : Around} {E : Value → Shared → Prop} {s : Shared} {x y : Str} {t u : Tok} {Q : Value → Shared → Prop} (e : x = y) (h : Q (.bool false) s) : wpAny (model prog w) A (compareOp .NotEq (.str x t) (.str y u)) Q E s := by
  subst e
  refine ne_str ?_
  rw [show (x != x) = false from by simp]
  exact h
theorem eq_differs {prog : Program} {w : World} {A : Around} {E : Value → Shared → Prop} {s : Shared} {x y : Str} {t u : Tok} {Q : Value → Shared → Prop} (e : x ≠ y) (h : Q (.bool false) s) : wpAny (model prog w) A (compareOp .Eq (.str x t) (.str y u)) Q E s := by
  refine eq_str ?_
  rw [show (x == y) = false from by rw [beq_eq_false_iff_ne]; exact e]
  exact h
theorem bare_tx (ps : List Nat) : ∃ qs : List Nat, bare (tx ps) = tx qs ∧ qs = ps.take qs.length ∧ (∀ p ∈ qs, sg p ≠ 35) ∧ qs.length ≤ ps.length := by
  refine ⟨ps.takeWhile fun p => !(sg p == 35), ?_, ?_, ?_, ?_⟩
  · unfold bare tx
    refine congrArg (fun l : List Nat => (⟨l.toArray⟩ : Str)) ?_
    show (ps.map sg).takeWhile _ = _
    rw [List.takeWhile_map]
    rfl
  · have h := List.takeWhile_prefix (l := ps) (fun p => !(sg p == 35))
    exact List.prefix_iff_eq_take.mp h
  · intro p hp
    have h := List.all_takeWhile (p := fun p => !(sg p == 35)) (l := ps)
    have := List.all_eq_true.mp h p hp
    simpa using this
  · exact (List.takeWhile_prefix (l := ps) (fun p => !(sg p == 35))).length_le
theorem bare_due {qs : List Nat} (h : ∀ p ∈ qs, sg p ≠ 35) (x : Str) : bare (tx qs ++ Str.ofString "#" ++ x) = tx qs := by
  unfold bare
  refine Str.ext' (Array.toList_inj.mp ?_)
  show List.takeWhile _ (tx qs ++ Str.ofString "#" ++ x).cps.toList = (tx qs).cps.toList
  rw [Str.cps_append, Str.cps_append, Array.toList_append, Array.toList_append, List.append_assoc]
  refine takeWhile_free (fun n hn => ?_) (fun n r e => ?_)
  · have hn' : n ∈ qs.map sg := hn
    obtain ⟨p, hp, rfl⟩ := List.mem_map.mp hn'
    have := h p hp
    simpa using this
  · have hh : (Str.ofString "#").cps.toList = [35] := by decide
    rw [hh] at e
    have : n = 35 := by
      have := congrArg List.head? e
      simpa using this.symm
    rw [this]; rfl
theorem slice_zi {ws : List Value} {ps qs : List Nat} (hq : qs = ps.take qs.length) (h : IntsAre ws (List.take ((tx qs).length : Int).toNat (zi ps))) : IntsAre ws (zi qs) := by
  have e : ((tx qs).length : Int).toNat = qs.length := by rw [tx_length]; rfl
  rw [e] at h
  have e2 : List.take qs.length (zi ps) = zi qs := by
    unfold zi
    rw [← List.map_take, ← hq]
  rw [e2] at h
  exact h
theorem due_len {qs : List Nat} (h : qs.length ≤ 24) : (tx qs ++ Str.ofString "#" ++ told qs).length < 1000 := by
  have e1 := tx_length qs
  have e2 := told_len qs
  have e3 : (Str.ofString "#").length = 1 := by decide
  unfold Str.length at *
  rw [Str.cps_append, Str.cps_append, Array.size_append, Array.size_append]
  omega
theorem text_len {ps : List Nat} (h : ps.length ≤ 24) : (tx ps).length < 1000 := by
  rw [tx_length]; omega
theorem slice_due (qs : List Nat) : told qs = Txt.slice (tx qs ++ Str.ofString "#" ++ told qs) (some (((tx qs).length : Int) + 1)) none := by
  have e1 := tx_length qs
  have e2 := told_len qs
  have e3 : (Str.ofString "#").length = 1 := by decide
  have e4 : (tx qs ++ Str.ofString "#" ++ told qs).length = qs.length + 9 := by
    unfold Str.length at *
    rw [Str.cps_append, Str.cps_append, Array.size_append, Array.size_append]
    omega
  rw [slice_from_eq (b := ((qs.length + 9 : Nat) : Int)) (by omega) (by omega) (by omega)]
  refine Str.ext' (Array.toList_inj.mp ?_)
  show _ = List.take _ (List.drop _ (tx qs ++ Str.ofString "#" ++ told qs).cps.toList)
  rw [Str.cps_append, Str.cps_append, Array.toList_append, Array.toList_append]
  have e5 : (((tx qs).length : Int) + 1).toNat = ((tx qs).cps.toList ++ (Str.ofString "#").cps.toList).length := by
    rw [List.length_append, Array.length_toList, Array.length_toList]
    unfold Str.length at *
    omega
  rw [e5, List.drop_left]
  rw [List.take_of_length_le]
  rw [Array.length_toList]
  unfold Str.length at *
  omega
theorem slice_to_tx {ps : List Nat} {k : Int} (h0 : 0 ≤ k) (h1 : k ≤ ps.length) : Txt.slice (tx ps) none (some k) = tx (ps.take k.toNat) := by
  have e1 := tx_length ps
  rw [eq_of_beq (slice_closes_to (x := tx ps) (j := k) ⟨h0, by rw [Array.length_toList]; unfold Str.length at e1; omega⟩)]
  refine Str.ext' (Array.toList_inj.mp ?_)
  show List.take _ (List.drop _ (ps.map sg)) = (ps.take k.toNat).map sg
  rw [List.map_take]
  simp
theorem slice_from_tx {ps : List Nat} {k : Int} (h0 : 0 ≤ k) (h1 : k ≤ ps.length) : Txt.slice (tx ps) (some k) none = tx (ps.drop k.toNat) := by
  have e1 := tx_length ps
  rw [slice_from_eq (b := (ps.length : Int)) h0 (by omega) (by omega)]
  refine Str.ext' (Array.toList_inj.mp ?_)
  show List.take _ (List.drop _ (ps.map sg)) = (ps.drop k.toNat).map sg
  rw [List.map_drop, List.take_of_length_le]
  rw [List.length_drop, List.length_map]
  omega
end Mine
end PartLawL

section PartLawLoop
open PySem PySem.W PySem.Calls PyProof.Rows
set_option maxRecDepth 100000
namespace Mine
theorem w1_self (p : Nat) : w1 p p = 0 := by simp [w1]
theorem wt_self : ∀ ps : List Nat, wt ps ps = 0
  | [] => rfl
  | p :: ps => by
    have h := wt_self ps
    unfold wt at *
    rw [List.zipWith_cons_cons, List.sum_cons, w1_self, h]
theorem good_self {ps : List Nat} (h : ∀ p ∈ ps, p < 95) : Good 0 ps ps := ⟨rfl, h, Nat.le_of_eq (wt_self ps)⟩
theorem good_more {W W' : Nat} {ps ts : List Nat} (h : Good W ps ts) (hw : W ≤ W') : Good W' ps ts := ⟨h.1, h.2.1, Nat.le_trans h.2.2 hw⟩
theorem wt_set : ∀ (ps ts : List Nat) (i v : Nat), i < ps.length → wt ps (ts.set i v) ≤ wt ps ts + w1 (ps.getD i 0) v
  | [], _, _, _, h => absurd h (Nat.not_lt_zero _)
  | _ :: _, [], _, _, _ => by simp [wt]
  | p :: ps, t :: ts, 0, v, _ => by
    show wt (p :: ps) (v :: ts) ≤ _
    unfold wt
    rw [List.zipWith_cons_cons, List.zipWith_cons_cons, List.sum_cons, List.sum_cons]
    show _ ≤ _ + w1 p v
    omega
  | p :: ps, t :: ts, i + 1, v, h => by
    have h2 := wt_set ps ts i v (Nat.lt_of_succ_lt_succ h)
    show wt (p :: ps) (t :: ts.set i v) ≤ _
    unfold wt at *
    rw [List.zipWith_cons_cons, List.zipWith_cons_cons, List.sum_cons, List.sum_cons]
    show _ ≤ _ + w1 (ps.getD i 0) v
    omega
theorem good_set {W d : Nat} {ps ts : List Nat} {i v : Nat} (h : Good W ps ts) (hi : i < ps.length) (hv : v < 95) (hd : w1 (ps.getD i 0) v ≤ d) : Good (W + d) ps (ts.set i v) := by
  refine ⟨by rw [List.length_set]; exact h.1, fun t ht => ?_, Nat.le_trans (wt_set ps ts i v hi) (Nat.add_le_add h.2.2 hd)⟩
  rcases List.mem_or_eq_of_mem_set ht with q | q
  · exact h.2.1 t q
  · rw [q]; exact hv
theorem zi_set (ts : List Nat) (i v : Nat) : (zi ts).set i (v : Int) = zi (ts.set i v) := by
  unfold zi
  rw [List.map_set]
def over : List (Str × Option Value) → (Str → Option Value) → Str → Option Value
  | [], m, y => m y
  | (a, v) :: r, m, y => if y = a then v else over r m y
theorem over_eq : ∀ (l : List (Str × Option Value)) (m : Str → Option Value), (∀ p ∈ l, m p.1 = p.2) → ∀ y, m y = over l m y
  | [], _, _, _ => rfl
  | (a, v) :: r, m, h, y => by
    show m y = if y = a then v else over r m y
    by_cases e : y = a
    · rw [if_pos e, e]; exact h (a, v) (.head _)
    · rw [if_neg e]; exact over_eq r m (fun p hp => h p (.tail _ hp)) y
section
variable {prog : Program} {w : World} {A : Around} {E : Value → Shared → Prop} {s : Shared} {env : Env} {h₀ : Heap} {body : List Stmt} {Q : Flow → Shared → Prop}
def JTurn (d : Nat) (ps : List Nat) (a P : Addr) (c : Int) (tc t4 t5 : Tok) (x4 x5 : Str) (fx : List (Addr × Obj)) (i : Nat) (m : Str → Option Value) (nx : List (Addr × Obj)) : Prop :=
  ∃ (ts : List Nat) (ys : List Value) (na : Nat), Good (d * i) ps ts ∧ IntsAre ys (zi ts) ∧ nx = (a, listOf ys.toArray na) :: fx ∧ m (Str.ofString "turned") = some (.ref a) ∧ m (Str.ofString "places") = some (.ref P) ∧ m (Str.ofString "count") = some (.int c tc) ∧ m (Str.ofString "told") = some (.str x4 t4) ∧ m (Str.ofString "text") = some (.str x5 t5)
theorem turn_loop (d : Nat) {n : Nat} {ps : List Nat} {m₀ : Str → Option Value} {r a P C : Addr} {b : Int} {e₀ u₀ v₀ : Tok} {ys : List Value} {na : Nat} {oP oC : Obj} {c : Int} {tc t4 t5 : Tok} {x4 x5 : Str}
    (hh : A.handled = none) (hr : IsRange s.heap r 0 b 1 e₀ u₀ v₀) (hb : b = (n : Int)) (hsmall : Builtin.Range.small 0 b 1 = true) (F : Fr h₀ env.locals s.heap m₀)
    (N : News h₀ env.locals s.heap [(a, listOf ys.toArray na), (P, oP), (C, oC)]) (hps : ∀ p ∈ ps, p < 95) (hy : IntsAre ys (zi ps))
    (h1 : m₀ (Str.ofString "turned") = some (.ref a)) (h2 : m₀ (Str.ofString "places") = some (.ref P)) (h3 : m₀ (Str.ofString "count") = some (.int c tc)) (h4 : m₀ (Str.ofString "told") = some (.str x4 t4)) (h5 : m₀ (Str.ofString "text") = some (.str x5 t5))
    (turn : ∀ i t (u : Str → Option Value) ts ys na h tk I oI, i < n → Good (d * i) ps ts → IntsAre ys (zi ts) → ((@Ne Nat a I) ∧ (@Ne Nat P I) ∧ (@Ne Nat C I)) →
      Fr h₀ env.locals h (fun y => if y = Str.ofString "k" then some (.int (0 + (i : Int)) t) else if y = Str.ofString "turned" then some (.ref a) else if y = Str.ofString "places" then some (.ref P) else if y = Str.ofString "count" then some (.int c tc)
        else if y = Str.ofString "told" then some (.str x4 t4) else if y = Str.ofString "text" then some (.str x5 t5) else u y) →
      News h₀ env.locals h [(I, oI), (a, listOf ys.toArray na), (P, oP), (C, oC)] →
      wpAny (model prog w) A (execs body env) (AnyPost h₀ env.locals (JTurn d ps a P c tc t4 t5 x4 x5 [(P, oP), (C, oC)] (i + 1)) I oI { s with heap := h, toks := tk } Q) E { s with heap := h, toks := tk })
    (done : ∀ (u : Str → Option Value) ts ys na h tk, Good (d * n) ps ts → IntsAre ys (zi ts) →
      Fr h₀ env.locals h (fun y => if y = Str.ofString "turned" then some (.ref a) else if y = Str.ofString "places" then some (.ref P) else if y = Str.ofString "count" then some (.int c tc)
        else if y = Str.ofString "told" then some (.str x4 t4) else if y = Str.ofString "text" then some (.str x5 t5) else u y) →
      News h₀ env.locals h [(a, listOf ys.toArray na), (P, oP), (C, oC)] → Q .next { s with heap := h, toks := tk }) :
    wpAny (model prog w) A (pyIter (.ref r)) (fun it s₂ => LoopAtV prog w A h₀ env (Str.ofString "k") body Q E it s₂) E s := by
  subst hb
  have ov : ∀ m : Str → Option Value, m (Str.ofString "turned") = some (.ref a) → m (Str.ofString "places") = some (.ref P) → m (Str.ofString "count") = some (.int c tc) → m (Str.ofString "told") = some (.str x4 t4) → m (Str.ofString "text") = some (.str x5 t5) →
      ∀ y, m y = over [(Str.ofString "turned", some (.ref a)), (Str.ofString "places", some (.ref P)), (Str.ofString "count", some (.int c tc)), (Str.ofString "told", some (.str x4 t4)), (Str.ofString "text", some (.str x5 t5))] m y := by
    intro m g1 g2 g3 g4 g5
    refine over_eq _ m fun p hp => ?_
    simp only [List.mem_cons, List.not_mem_nil, or_false] at hp
    rcases hp with rfl | rfl | rfl | rfl | rfl
    · exact g1
    · exact g2
    · exact g3
    · exact g4
    · exact g5
  refine iterR_any (n := n) (JTurn d ps a P c tc t4 t5 x4 x5 [(P, oP), (C, oC)]) hh hr hsmall (by rw [rangeSize_nat]; omega) F N ⟨ps, ys, na, good_more (good_self hps) (Nat.zero_le _), hy, rfl, h1, h2, h3, h4, h5⟩ ?_ ?_
  · rintro i t m₁ news₁ h tk I oI hn hoff ⟨ts, ys, na, hg, hys, rfl, g1, g2, g3, g4, g5⟩ F₁ N₁
    refine turn i t m₁ ts ys na h tk I oI hn hg hys ?_ (Fr.congr2 F₁ fun y => ?_) N₁
    · simp only [List.forall_mem_cons] at hoff
      obtain ⟨q1, q2, q3, _⟩ := hoff
      exact ⟨q1, q2, q3⟩
    · by_cases e : y = Str.ofString "k"
      · rw [if_pos e, if_pos e]
      · rw [if_neg e, if_neg e]
        exact ov m₁ g1 g2 g3 g4 g5 y
  · rintro m₁ news₁ h tk ⟨ts, ys, na, hg, hys, rfl, g1, g2, g3, g4, g5⟩ F₁ N₁
    exact done m₁ ts ys na h tk hg hys (Fr.congr2 F₁ fun y => ov m₁ g1 g2 g3 g4 g5 y) N₁
theorem any_turn {h₀ h' : Heap} {L : Addr} {d : Nat} {ps ts' : List Nat} {a P I : Addr} {ys' : List Value} {na i : Nat} {c : Int} {tc t4 t5 : Tok} {x4 x5 : Str} {fx : List (Addr × Obj)} {m' : Str → Option Value} {oI : Obj} {s₁ : Shared} {tk : Nat} {news' : List (Addr × Obj)} {Q : Flow → Shared → Prop}
    (hg : Good (d * i + d) ps ts') (hys : IntsAre ys' (zi ts')) (F : Fr h₀ L h' m') (N : News h₀ L h' news') (h1 : m' (Str.ofString "turned") = some (.ref a)) (h2 : m' (Str.ofString "places") = some (.ref P)) (h3 : m' (Str.ofString "count") = some (.int c tc)) (h4 : m' (Str.ofString "told") = some (.str x4 t4)) (h5 : m' (Str.ofString "text") = some (.str x5 t5))
    (hin : ∀ p ∈ (a, listOf ys'.toArray na) :: fx, p ∈ news') (hI : (I, oI) ∈ news') (hne : ∀ p ∈ (a, listOf ys'.toArray na) :: fx, p.1 ≠ I) :
    AnyPost h₀ L (JTurn d ps a P c tc t4 t5 x4 x5 fx (i + 1)) I oI s₁ Q .next { s₁ with heap := h', toks := tk } :=
  ⟨h', tk, m', news', (a, listOf ys'.toArray na) :: fx, rfl, F, N, hin, hI, hne, ts', ys', na, hg, hys, rfl, h1, h2, h3, h4, h5⟩
end
theorem b2 (x : Int) : 0 ≤ 1 + x.fmod 2 ∧ 1 + x.fmod 2 ≤ ((2 : Nat) : Int) := by
  have h := fmod_pos x (b := 2) (by decide)
  omega
theorem b4 (x : Int) : 0 ≤ 1 + x.fmod 4 ∧ 1 + x.fmod 4 ≤ ((4 : Nat) : Int) := by
  have h := fmod_pos x (b := 4) (by decide)
  omega
section
variable {prog : Program} {w : World} {A : Around} {E : Value → Shared → Prop} {s : Shared} {env : Env} {h₀ : Heap} {body : List Stmt} {Q : Flow → Shared → Prop}
theorem turn_loop4 (d k : Nat) {ps : List Nat} {m₀ : Str → Option Value} {r a P C : Addr} {b : Int} {e₀ u₀ v₀ : Tok} {ys : List Value} {na : Nat} {oP oC : Obj} {c : Int} {tc t4 t5 : Tok} {x4 x5 : Str}
    (hk : k ≤ 4) (hdk : d * k ≤ 4) (hb : 0 ≤ b ∧ b ≤ (k : Int))
    (hh : A.handled = none) (hr : IsRange s.heap r 0 b 1 e₀ u₀ v₀) (F : Fr h₀ env.locals s.heap m₀)
    (N : News h₀ env.locals s.heap [(a, listOf ys.toArray na), (P, oP), (C, oC)]) (hps : ∀ p ∈ ps, p < 95) (hy : IntsAre ys (zi ps))
    (h1 : m₀ (Str.ofString "turned") = some (.ref a)) (h2 : m₀ (Str.ofString "places") = some (.ref P)) (h3 : m₀ (Str.ofString "count") = some (.int c tc)) (h4 : m₀ (Str.ofString "told") = some (.str x4 t4)) (h5 : m₀ (Str.ofString "text") = some (.str x5 t5))
    (turn : ∀ i t (u : Str → Option Value) ts ys na h tk I oI, i < k → Good (d * i) ps ts → IntsAre ys (zi ts) → ((@Ne Nat a I) ∧ (@Ne Nat P I) ∧ (@Ne Nat C I)) →
      Fr h₀ env.locals h (fun y => if y = Str.ofString "k" then some (.int (0 + (i : Int)) t) else if y = Str.ofString "turned" then some (.ref a) else if y = Str.ofString "places" then some (.ref P) else if y = Str.ofString "count" then some (.int c tc)
        else if y = Str.ofString "told" then some (.str x4 t4) else if y = Str.ofString "text" then some (.str x5 t5) else u y) →
      News h₀ env.locals h [(I, oI), (a, listOf ys.toArray na), (P, oP), (C, oC)] →
      wpAny (model prog w) A (execs body env) (AnyPost h₀ env.locals (JTurn d ps a P c tc t4 t5 x4 x5 [(P, oP), (C, oC)] (i + 1)) I oI { s with heap := h, toks := tk } Q) E { s with heap := h, toks := tk })
    (done : ∀ (u : Str → Option Value) ts ys na h tk, Good 4 ps ts → IntsAre ys (zi ts) →
      Fr h₀ env.locals h (fun y => if y = Str.ofString "turned" then some (.ref a) else if y = Str.ofString "places" then some (.ref P) else if y = Str.ofString "count" then some (.int c tc)
        else if y = Str.ofString "told" then some (.str x4 t4) else if y = Str.ofString "text" then some (.str x5 t5) else u y) →
      News h₀ env.locals h [(a, listOf ys.toArray na), (P, oP), (C, oC)] → Q .next { s with heap := h, toks := tk }) :
    wpAny (model prog w) A (pyIter (.ref r)) (fun it s₂ => LoopAtV prog w A h₀ env (Str.ofString "k") body Q E it s₂) E s := by
  obtain ⟨n, hn⟩ := Int.eq_ofNat_of_zero_le hb.1
  have hnk : n ≤ k := by omega
  refine turn_loop d (n := n) hh hr hn (small_one (by omega) (by omega) (by omega) (by omega)) F N hps hy h1 h2 h3 h4 h5 (fun i t u ts ys na h tk I oI hi => turn i t u ts ys na h tk I oI (by omega)) (fun u ts ys na h tk hg => done u ts ys na h tk (good_more hg (Nat.le_trans (Nat.mul_le_mul_left d hnk) hdk)))
end
theorem set_are {vs : List Value} {ts : List Nat} {j : Nat} {x : Int} (hx : 0 ≤ x) (h : IntsAre vs ((zi ts).set j x)) : IntsAre vs (zi (ts.set j x.toNat)) := by
  have e : ((x.toNat : Nat) : Int) = x := by omega
  rw [← zi_set, e]
  exact h
theorem w1_two (p t : Nat) : w1 p t ≤ 2 := by unfold w1; split <;> split <;> omega
theorem at_lt {c : Nat} (h : 1 ≤ c) (y : Int) : (y.fmod (c : Int)).toNat < c := by
  have := fmod_pos y (b := (c : Int)) (by omega)
  omega
theorem turn_good1 {ps ts : List Nat} {i c : Nat} (y z : Int) (hg : Good (2 * i) ps ts) (hc : 1 ≤ c) (hpl : ps.length = c) : Good (2 * i + 2) ps (ts.set (y.fmod (c : Int)).toNat (z.fmod 95).toNat) := by
  have hz := fmod_pos z (b := 95) (by decide)
  exact good_set hg (by rw [hpl]; exact at_lt hc y) (by omega) (w1_two _ _)
inductive Mid (h₀ : Heap) (L : Addr) (ps : List Nat) (a P : Addr) (c : Int) (tc t4 t5 : Tok) (x4 x5 : Str) (fx : List (Addr × Obj)) (s₀ : Shared) : Flow → Shared → Prop
  | mk (u : Str → Option Value) (ts : List Nat) (ys : List Value) (na : Nat) (h : Heap) (tk : Nat) (hg : Good 4 ps ts) (hy : IntsAre ys (zi ts))
    (F : Fr h₀ L h (fun y => if y = Str.ofString "turned" then some (.ref a) else if y = Str.ofString "places" then some (.ref P) else if y = Str.ofString "count" then some (.int c tc)
        else if y = Str.ofString "told" then some (.str x4 t4) else if y = Str.ofString "text" then some (.str x5 t5) else u y))
    (N : News h₀ L h ((a, listOf ys.toArray na) :: fx)) : Mid h₀ L ps a P c tc t4 t5 x4 x5 fx s₀ .next { s₀ with heap := h, toks := tk }
theorem mid_cut {M : Model} {A : Around} {E : Value → Shared → Prop} {s : Shared} {h₀ : Heap} {L : Addr} {x : Sem Flow} {Q : Flow → Shared → Prop} (ps : List Nat) {m₀ : Str → Option Value} {a P : Addr} {o1 : Obj} {fx : List (Addr × Obj)} {c : Int} {tc t4 t5 : Tok} {x4 x5 : Str}
    (F : Fr h₀ L s.heap m₀) (N : News h₀ L s.heap ((a, o1) :: fx))
    (h1 : m₀ (Str.ofString "turned") = some (.ref a)) (h2 : m₀ (Str.ofString "places") = some (.ref P)) (h3 : m₀ (Str.ofString "count") = some (.int c tc)) (h4 : m₀ (Str.ofString "told") = some (.str x4 t4)) (h5 : m₀ (Str.ofString "text") = some (.str x5 t5))
    (main : wpAny M A x (Mid h₀ L ps a P c tc t4 t5 x4 x5 fx s) E s)
    (next : ∀ (u : Str → Option Value) ts ys na h tk, Good 4 ps ts → IntsAre ys (zi ts) →
      Fr h₀ L h (fun y => if y = Str.ofString "turned" then some (.ref a) else if y = Str.ofString "places" then some (.ref P) else if y = Str.ofString "count" then some (.int c tc)
        else if y = Str.ofString "told" then some (.str x4 t4) else if y = Str.ofString "text" then some (.str x5 t5) else u y) →
      News h₀ L h ((a, listOf ys.toArray na) :: fx) → Q .next { s with heap := h, toks := tk }) : wpAny M A x Q E s := by
  refine wpAny_mono main (fun f s' hm => ?_) fun _ _ y => y
  cases hm with
  | mk u ts ys na h tk hg hy F N => exact next u ts ys na h tk hg hy F N
inductive Mid2 (h₀ : Heap) (L : Addr) (c : Int) (tc t5 : Tok) (x5 : Str) (fx : List (Addr × Obj)) (s₀ : Shared) : Flow → Shared → Prop
  | mk (m : Str → Option Value) (news : List (Addr × Obj)) (h : Heap) (tk : Nat) (h3 : m (Str.ofString "count") = some (.int c tc)) (h5 : m (Str.ofString "text") = some (.str x5 t5))
    (F : Fr h₀ L h m) (N : News h₀ L h news) (hs : ∀ p ∈ fx, p ∈ news) : Mid2 h₀ L c tc t5 x5 fx s₀ .next { s₀ with heap := h, toks := tk }
theorem mid_cut2 {M : Model} {A : Around} {E : Value → Shared → Prop} {s : Shared} {h₀ : Heap} {L : Addr} {x : Sem Flow} {Q : Flow → Shared → Prop} {m₀ : Str → Option Value} {a P C : Addr} {o1 o2 o3 : Obj} {c : Int} {tc t5 : Tok} {x5 : Str}
    (F : Fr h₀ L s.heap m₀) (N : News h₀ L s.heap [(a, o1), (P, o2), (C, o3)])
    (h3 : m₀ (Str.ofString "count") = some (.int c tc)) (h5 : m₀ (Str.ofString "text") = some (.str x5 t5))
    (main : wpAny M A x (Mid2 h₀ L c tc t5 x5 [(C, o3)] s) E s)
    (next : ∀ (u : Str → Option Value) h tk,
      Fr h₀ L h (fun y => if y = Str.ofString "count" then some (.int c tc) else if y = Str.ofString "text" then some (.str x5 t5) else u y) →
      News h₀ L h [(C, o3)] → Q .next { s with heap := h, toks := tk }) : wpAny M A x Q E s := by
  refine wpAny_mono main (fun f s' hm => ?_) fun _ _ y => y
  cases hm with
  | mk m news h tk h3 h5 F N hs =>
    refine next m h tk (Fr.congr2 F fun y => ?_) fun p hp => N p (hs p hp)
    by_cases e : y = Str.ofString "count"
    · rw [if_pos e, e, h3]
    · rw [if_neg e]
      by_cases e2 : y = Str.ofString "text"
      · rw [if_pos e2, e2, h5]
      · rw [if_neg e2]
def Chg (p x : Int) : Prop := 0 ≤ x ∧ x < 95 ∧ ∀ n m : Nat, p = (n : Int) → x = (m : Int) → w1 n m ≤ 1
theorem w1_one {n m : Nat} (h : n % 32 = m % 32 ∨ n / 32 = m / 32) : w1 n m ≤ 1 := by
  unfold w1
  rcases h with h | h
  · rw [if_pos h]; split <;> omega
  · rw [if_pos h]; split <;> omega
theorem chgA {ps : List Nat} {j : Nat} {z : Int} (h : (zi ps).getD j 0 < 32) : Chg ((zi ps).getD j 0) (((zi ps).getD j 0 + 1 + z.fmod 31).fmod 32) := by
  rw [getD_zi] at *
  generalize ps.getD j 0 = g at *
  have h2 := fmod_pos ((g : Int) + 1 + z.fmod 31) (b := 32) (by decide)
  generalize ((g : Int) + 1 + z.fmod 31).fmod 32 = x at *
  refine ⟨h2.1, by omega, fun n m hn hm => w1_one (.inr ?_)⟩
  omega
theorem chgB {ps : List Nat} {j : Nat} (h : ¬ (zi ps).getD j 0 < 32) (h2 : (zi ps).getD j 0 < 50) : Chg ((zi ps).getD j 0) ((zi ps).getD j 0 + 32) := by
  rw [getD_zi] at *
  generalize ps.getD j 0 = g at *
  refine ⟨by omega, by omega, fun n m hn hm => w1_one (.inl ?_)⟩
  omega
theorem chgC {ps : List Nat} {j : Nat} (h : 64 ≤ (zi ps).getD j 0) (h2 : (zi ps).getD j 0 < 82) : Chg ((zi ps).getD j 0) ((zi ps).getD j 0 - 32) := by
  rw [getD_zi] at *
  generalize ps.getD j 0 = g at *
  refine ⟨by omega, by omega, fun n m hn hm => w1_one (.inl ?_)⟩
  omega
theorem chgD {ps : List Nat} {j : Nat} (h : ¬ (zi ps).getD j 0 < 82) (h2 : (zi ps).getD j 0 < 90) : Chg ((zi ps).getD j 0) ((zi ps).getD j 0 - 64) := by
  rw [getD_zi] at *
  generalize ps.getD j 0 = g at *
  refine ⟨by omega, by omega, fun n m hn hm => w1_one (.inl ?_)⟩
  omega
theorem turn_good2 {ps ts : List Nat} {i c : Nat} {y x : Int} (hg : Good (1 * i) ps ts) (hc : 1 ≤ c) (hpl : ps.length = c) (hx : Chg ((zi ps).getD (y.fmod (c : Int)).toNat 0) x) : Good (1 * i + 1) ps (ts.set (y.fmod (c : Int)).toNat x.toNat) := by
  refine good_set hg (by rw [hpl]; exact at_lt hc y) (by have := hx.1; have := hx.2.1; omega) ?_
  refine hx.2.2 _ _ (getD_zi _ _) ?_
  have := hx.1
  omega
theorem turn_keep {ps ts : List Nat} {i : Nat} (hg : Good (1 * i) ps ts) : Good (1 * i + 1) ps ts := good_more hg (Nat.le_succ _)
theorem turn_set2 {vs : List Value} {ps ts : List Nat} {i c : Nat} {y x : Int} (h : IntsAre vs ((zi ts).set (y.fmod (c : Int)).toNat x)) (hg : Good (1 * i) ps ts) (hc : 1 ≤ c) (hpl : ps.length = c) (hx : Chg ((zi ps).getD (y.fmod (c : Int)).toNat 0) x) :
    ∃ ts', Good (1 * i + 1) ps ts' ∧ IntsAre vs (zi ts') := ⟨_, turn_good2 hg hc hpl hx, set_are hx.1 h⟩
theorem turn_set1 {vs : List Value} {ps ts : List Nat} {i c : Nat} {y z : Int} (h : IntsAre vs ((zi ts).set (y.fmod (c : Int)).toNat (z.fmod 95))) (hg : Good (2 * i) ps ts) (hc : 1 ≤ c) (hpl : ps.length = c) :
    ∃ ts', Good (2 * i + 2) ps ts' ∧ IntsAre vs (zi ts') := ⟨_, turn_good1 y z hg hc hpl, set_are (fmod_pos z (by decide)).1 h⟩
theorem ne3 {a P C I : Addr} {o1 o2 o3 : Obj} (h : (@Ne Nat a I) ∧ (@Ne Nat P I) ∧ (@Ne Nat C I)) : ∀ p ∈ [(a, o1), (P, o2), (C, o3)], p.1 ≠ I := fun p hp => by
  simp only [List.mem_cons, List.not_mem_nil, or_false] at hp
  rcases hp with rfl | rfl | rfl
  · exact h.1
  · exact h.2.1
  · exact h.2.2
theorem find_absent {x : Str} {c : Nat} (h : c ∉ x.cps.toList) : Txt.find x ⟨#[c]⟩ = -1 := by
  have h1 := StrLaws.found_one x c
  unfold Txt.find
  cases hh : Builtin.Str.occurrences x ⟨#[c]⟩ 0 x.length 1 with
  | nil => rfl
  | cons i r =>
    rw [hh] at h1
    simp [h] at h1
theorem signs_range : ∀ z ∈ signs, 32 ≤ z ∧ z < 127 := by decide +kernel
theorem find_bad {z : Nat} (h : z < 32 ∨ 127 ≤ z) : Txt.find SGT ⟨#[z]⟩ = -1 := by
  refine find_absent ?_
  rw [sgt_eq]
  intro hm
  have := signs_range z hm
  omega
theorem badT_len (a b : List Nat) (z : Nat) : (badT a b z).length = a.length + 1 + b.length := by
  have e1 := tx_length a
  have e2 := tx_length b
  unfold badT Str.length at *
  rw [Str.cps_append, Str.cps_append, Array.size_append, Array.size_append, e1, e2]
  rfl
theorem badA {y : Int} (h : y.fmod 260 < 32) : Txt.find SGT ⟨#[(y.fmod 260).toNat]⟩ = -1 := by
  have h1 := fmod_pos y (b := 260) (by decide)
  exact find_bad (by omega)
theorem badB {y : Int} (h : ¬ y.fmod 260 < 32) : Txt.find SGT ⟨#[(y.fmod 260 + 95).toNat]⟩ = -1 := by
  have h1 := fmod_pos y (b := 260) (by decide)
  exact find_bad (by omega)
theorem refV {w : World} {mean mg mb} {ps : List Nat} {z c : Nat} {y : Int} {t2 : Tok} {dp un : Nat} {gd : Option (List Code)} {cn : Str} {cs : Scope} {a : Addr} {ccd : Value} {cl : List (Str × Addr)} {A₀ : Around} {base h₀ : Heap} {L : Addr} {m : Str → Option Value} {s : Shared} {Q E : Value → Shared → Prop}
    (B : Below A₀ base [] h₀) (F : Fr h₀ L s.heap m) (X : (hd.heap_39 w.params).In h₀) (T : Top hd.view_39 (looseW hd.view_39 [Str.ofString "_law_generator"]) mean mg mb h₀) (XB : (hd.heap_39 w.params).In base) (TB : Top hd.view_39 (looseW hd.view_39 [Str.ofString "_law_generator"]) mean mg mb base) (hk : cs.kind = .function)
    (hps : ∀ p ∈ ps, p < 95) (hpl : ps.length = c) (hc : c ≤ 24) (hz : Txt.find SGT ⟨#[z]⟩ = -1) (hd' : dp + 25 < recursionLimit) (hu : un + 120 < cLine)
    (ret : ∀ (h' : Heap) (tk' : Nat), Fr h₀ L h' m → Q (.bool true) { s with heap := h', toks := tk' }) :
      wpAny (model PySem.Challenge.rw_kk0012_01.row.prog w) (ktrTop dp un gd cn cs L a ccd cl []) (call (.ref 88) [.str (Txt.slice (tx ps) none (some (y.fmod ((c : Int) + 1))) ++ ⟨#[z]⟩ ++ Txt.slice (tx ps) (some (y.fmod ((c : Int) + 1))) none) t2]) Q E s := by
  have h1 := fmod_pos y (b := (c : Int) + 1) (by omega)
  rw [slice_to_tx h1.1 (by omega), slice_from_tx h1.1 (by omega)]
  refine refC (ps.take _) (ps.drop _) z t2 (fun p hp => hps p (List.mem_of_mem_take hp)) hz ?_ dp un gd cn cs a ccd cl A₀ base h₀ L m s Q E B F X T XB TB hk hd' hu ret
  rw [badT_len, List.length_take, List.length_drop]
  omega
theorem news3 {h₀ h : Heap} {L a b1 b2 b3 p c : Addr} {o1 o2 o3 o4 o5 o6 : Obj} (N : News h₀ L h [(a, o1), (b1, o2), (b2, o3), (b3, o4), (p, o5), (c, o6)]) : News h₀ L h [(a, o1), (p, o5), (c, o6)] := fun q hq => N q (by
  simp only [List.mem_cons, List.not_mem_nil, or_false] at hq ⊢
  rcases hq with h | h | h <;> simp [h])
end Mine
end PartLawLoop

section PartLaw8
open PySem PySem.W PySem.Calls PyProof.Rows
set_option maxRecDepth 100000
namespace Mine
local macro_rules | `(tactic| walk_at $s:str) => `(tactic| k_extra $s)
set_option maxHeartbeats 8000000 in
theorem lawT : PySem.Challenge.rw_kk0012_01.Holds := hd (by
  w_top off
  k_with_none
  k_with "call ref" => (k_here; (with_reducible show wpAny _ _ (call (Value.ref 66) _) _ _ _); k_dflt (refine numU (by first | (with_reducible (k_asm)) | (k_asm)) (by first | (with_reducible (k_asm)) | (k_asm)) (by first | (with_reducible (k_asm)) | (k_asm)) (by first | (with_reducible (k_asm)) | (k_asm)) (by first | (with_reducible (k_asm)) | (k_asm)) (by first | (with_reducible (first | exact rfl | assumption)) | (first | exact rfl | assumption)) (by first | (with_reducible (assumption)) | (assumption)) (by first | (with_reducible (assumption)) | (assumption)) (by first | (with_reducible (assumption)) | (assumption)) (by first | (with_reducible (omega)) | (omega)) (by first | (with_reducible (omega)) | (omega)) (by first | (with_reducible (ktr_room)) | (ktr_room)) (by first | (with_reducible (ktr_units)) | (ktr_units)) ?_); intro t9 h9 tk9 F9 N9; (try dsimp only); (try k_fold))
  k_with "call ref" => (k_here; (with_reducible show wpAny _ _ (call (Value.ref 51) _) _ _ _); k_dflt (refine chkV (by first | (with_reducible (k_asm)) | (k_asm)) (by first | (with_reducible (k_asm)) | (k_asm)) (by first | (with_reducible (k_asm)) | (k_asm)) (by first | (with_reducible (k_asm)) | (k_asm)) (by first | (with_reducible (k_asm)) | (k_asm)) (by first | (with_reducible (first | exact rfl | assumption)) | (first | exact rfl | assumption)) (by first | (with_reducible (first | exact rfl | exact join_tx _)) | (first | exact rfl | exact join_tx _)) (by first | (with_reducible (assumption)) | (assumption)) (by first | (with_reducible (assumption)) | (assumption)) (by first | (with_reducible (ktr_room)) | (ktr_room)) (by first | (with_reducible (ktr_units)) | (ktr_units)) ?_); intro t9 h9 tk9 F9 N9; (try dsimp only); (try k_fold))
  k_with "call ref" => (k_here; (with_reducible show wpAny _ _ (call (Value.ref 81) _) _ _ _); k_dflt (refine toldU (by first | (with_reducible (k_asm)) | (k_asm)) (by first | (with_reducible (k_asm)) | (k_asm)) (by first | (with_reducible (k_asm)) | (k_asm)) (by first | (with_reducible (k_asm)) | (k_asm)) (by first | (with_reducible (k_asm)) | (k_asm)) (by first | (with_reducible (first | exact rfl | assumption)) | (first | exact rfl | assumption)) (by first | (with_reducible (first | k_dflt (exact isl_lst (by k_asm) (by k_mem)) | k_dflt (exact isl_news (by k_asm) (by k_mem)))) | (first | k_dflt (exact isl_lst (by k_asm) (by k_mem)) | k_dflt (exact isl_news (by k_asm) (by k_mem)))) (by first | (with_reducible (first | assumption | exact slice_zi (by assumption) (by assumption))) | (first | assumption | exact slice_zi (by assumption) (by assumption))) (by first | (with_reducible (assumption)) | (assumption)) (by first | (with_reducible (assumption)) | (assumption)) (by first | (with_reducible (ktr_room)) | (ktr_room)) (by first | (with_reducible (ktr_units)) | (ktr_units)) ?_); intro t9 h9 tk9 F9 N9; (try dsimp only); (try k_fold))
  k_with "call ref" => (k_here; (with_reducible show wpAny _ _ (call (Value.ref 58) _) _ _ _); k_dflt (refine addU (by first | (with_reducible (k_asm)) | (k_asm)) (by first | (with_reducible (k_asm)) | (k_asm)) (by first | (with_reducible (k_asm)) | (k_asm)) (by first | (with_reducible (k_asm)) | (k_asm)) (by first | (with_reducible (k_asm)) | (k_asm)) (by first | (with_reducible (first | exact rfl | assumption)) | (first | exact rfl | assumption)) (by first | (with_reducible (assumption)) | (assumption)) (by first | (with_reducible (assumption)) | (assumption)) (by first | (with_reducible (assumption)) | (assumption)) (by first | (with_reducible (first | exact text_len (by assumption) | exact due_len (by assumption))) | (first | exact text_len (by assumption) | exact due_len (by assumption))) (by first | (with_reducible (ktr_room)) | (ktr_room)) (by first | (with_reducible (ktr_units)) | (ktr_units)) ?_); intro t9 h9 tk9 F9 N9; (try dsimp only); (try k_fold))
  k_with "call ref" => (k_here; (with_reducible show wpAny _ _ (call (Value.ref 88) _) _ _ _); k_dflt (refine refV (by first | (with_reducible (k_asm)) | (k_asm)) (by first | (with_reducible (k_asm)) | (k_asm)) (by first | (with_reducible (k_asm)) | (k_asm)) (by first | (with_reducible (k_asm)) | (k_asm)) (by first | (with_reducible (k_asm)) | (k_asm)) (by first | (with_reducible (k_asm)) | (k_asm)) (by first | (with_reducible (first | exact rfl | assumption)) | (first | exact rfl | assumption)) (by first | (with_reducible (assumption)) | (assumption)) (by first | (with_reducible (assumption)) | (assumption)) (by first | (with_reducible (assumption)) | (assumption)) (by first | (with_reducible (first | exact badA (by assumption) | exact badB (by assumption))) | (first | exact badA (by assumption) | exact badB (by assumption))) (by first | (with_reducible (ktr_room)) | (ktr_room)) (by first | (with_reducible (ktr_units)) | (ktr_units)) ?_); intro h9 tk9 F9; (try dsimp only); (try k_fold))
  k_with "CompSrc" => (k_here; k_dflt (refine LCg.CompSrc.ledger (by rfl) (by k_asm) (by k_asm) (by k_mem) (by exact sz24 (by assumption) (by assumption)) ?_; intro g'; (refine' kct_list (fun k => ⟨#[sg k.toNat]⟩) (by assumption) (fun k' t' I' oI' C' oC' D' m' ys' h' tk' E' hk' hC' hx' F' N' off' ne' => ?_) ?_); (all_goals (try (simp only [LCg.Off3, and_true] at off'))); (all_goals (try ((show KPfMark → _); intro hMark'))); (all_goals (try (replace hk' := z_bound (by assumption) hk')))))
  k_with "subscriptTail Name Name str int" => (k_here; (with_reducible show wpAny _ _ (subscriptTail _ _ (Value.str _ _) (Value.int _ _)) _ _ _); (refine KXi.item (n := 95) (by decide +kernel) (by omega) (by omega) (by decide) ?_); intro kxiE)
  k_with "KCtEl" => exact kct_el (item_sgI (by assumption)) (by with_unfolding_all rfl) (by with_unfolding_all rfl)
  k_with "compareOp NotEq str str" => (refine ne_same (by first | rfl | exact slice_due _) ?_)
  k_with "compareOp Eq str str" => (refine eq_differs (dist_law (by assumption) (by assumption) (by assumption) (by assumption)) ?_)
  k_with "call builtin:str.split" => (k_here; (refine KSpl.split1 (by k_asm) (by k_asm) (by decide) ?_ (by rw [PySem.sizeLine_eq]; omega)); intro D' l' h' k' e' a' F' N' l1; clear a'; (obtain ⟨t9, l9, e9⟩ := split_vals (by assumption) e'); subst e9; clear e'; simp only [strValues, List.map_cons] at N'; (try k_lt l1))
  k_with "Mid" => exact Mid.mk _ _ _ _ _ _ (by assumption) (by assumption) (by assumption) (by assumption)
  k_with "Mid2" => ((rename News _ _ _ _ => nE'); (rename Fr _ _ _ _ => fE'); exact Mid2.mk _ _ _ _ (by rfl) (by rfl) fE' nE' (by kcf_all))
  k_with "AnyPost" => (refine Hold.out ?_)
  k_with "exec For" => ((rename Fr _ _ _ _ => lF'); (with_unfolding_all refine For_invVF lF' (by first | (with_reducible (exact rfl)) | (exact rfl)) (by first | (with_reducible (exact rfl)) | (exact rfl)) ?_; k_whole))
  k_with "exec For Name Call cons nil" => ((rename Fr _ _ _ _ => lF'); (with_unfolding_all refine For_invVF lF' (by first | (with_reducible (exact rfl)) | (exact rfl)) (by first | (with_reducible (exact rfl)) | (exact rfl)) ?_; k_whole))
  k_with "pyIter ref" => ((with_reducible show wpAny _ _ (pyIter (Value.ref _)) (fun it s₂ => LoopAtV _ _ _ _ _ _ _ _ _ it s₂) _ _); refine Hold.out ?_)
  k_go0
  all_goals (try k_fold)
  iterate 57 (first | (k_unfold; (try dsimp only)) | walk1 | (dsimp only; walk1))
  rename 0 ≤ Int.fmod _ 24 => hlo
  rename Int.fmod _ 24 < 24 => hhi
  rename Fr _ _ _ _ => F'
  rename IntsAre _ (List.map _ (rangeKs _ _)) => hI8
  obtain ⟨c, hc, hc1, hc2⟩ := cnt_ex hlo hhi
  rw [hc] at F'
  obtain ⟨ps, hIp, hpl, hps⟩ := places_are hc hI8
  clear hI8
  have hpl2 : ps.length ≤ 24 := by omega
  obtain ⟨qs, hbt, hqt, hqf, hql⟩ := bare_tx ps
  have hqp : ∀ p ∈ qs, p < 95 := fun p hp => hps p (List.mem_of_mem_take (by rw [← hqt]; exact hp))
  have hbd := bare_due hqf (told qs)
  have htxl := tx_length ps
  have hqxl := tx_length qs
  have hql2 : qs.length ≤ 24 := by omega
  have htdl := told_len qs
  iterate 18 (first | (k_unfold; (try dsimp only)) | walk1 | (dsimp only; walk1))
  rw [join_tx]
  iterate 172 (first | (k_unfold; (try dsimp only)) | walk1 | (dsimp only; walk1))
  rename News _ _ _ _ => NN
  replace NN := news3 NN
  refine mid_cut ps (by assumption) (by assumption) (by rfl) (by rfl) (by rfl) (by rfl) (by rfl) ?_ ?_
  · iterate 10 (first | (k_unfold; (try dsimp only)) | walk1 | (dsimp only; walk1))
    · iterate 20 (first | (k_unfold; (try dsimp only)) | walk1 | (dsimp only; walk1))
      refine ⟨?_⟩
      refine turn_loop4 2 2 (ps := ps) (by decide) (by decide) (b2 _) (by rfl) (by assumption) (by assumption) (by assumption) hps (by assumption) (by rfl) (by rfl) (by rfl) (by rfl) (by rfl) ?_ ?_
      · intro i t u ts ys na h tk I oI hi hg hys hne F1 N1
        dsimp only [envOfC] at F1 N1
        have hgl : ts.length = ps.length := hg.1
        k_steps
        refine ⟨?_⟩
        rename News _ _ _ _ => nE'
        rename Fr _ _ _ _ => fE'
        rename IntsAre _ (List.set _ _ _) => iE'
        obtain ⟨ts', e1, e2⟩ := turn_set1 iE' hg hc1 hpl
        exact any_turn e1 e2 fE' nE' (by rfl) (by rfl) (by rfl) (by rfl) (by rfl) (by kcf_all) (by kcf_m) (ne3 hne)
      · intro u ts ys na h tk hg hys F1 N1
        dsimp only [envOfC] at F1 N1
        k_steps
    · iterate 20 (first | (k_unfold; (try dsimp only)) | walk1 | (dsimp only; walk1))
      refine ⟨?_⟩
      refine turn_loop4 1 4 (ps := ps) (by decide) (by decide) (b4 _) (by rfl) (by assumption) (by assumption) (by assumption) hps (by assumption) (by rfl) (by rfl) (by rfl) (by rfl) (by rfl) ?_ ?_
      · intro i t u ts ys na h tk I oI hi hg hys hne F1 N1
        dsimp only [envOfC] at F1 N1
        have hgl : ts.length = ps.length := hg.1
        k_steps
        all_goals refine ⟨?_⟩
        all_goals (rename News _ _ _ _ => nE')
        all_goals (rename Fr _ _ _ _ => fE')
        · rename IntsAre _ (List.set _ _ _) => iE'
          obtain ⟨ts', e1, e2⟩ := turn_set2 iE' hg hc1 hpl (chgA (by with_reducible assumption))
          exact any_turn e1 e2 fE' nE' (by rfl) (by rfl) (by rfl) (by rfl) (by rfl) (by kcf_all) (by kcf_m) (ne3 hne)
        · rename IntsAre _ (List.set _ _ _) => iE'
          obtain ⟨ts', e1, e2⟩ := turn_set2 iE' hg hc1 hpl (chgB (by with_reducible assumption) (by with_reducible assumption))
          exact any_turn e1 e2 fE' nE' (by rfl) (by rfl) (by rfl) (by rfl) (by rfl) (by kcf_all) (by kcf_m) (ne3 hne)
        · rename IntsAre _ (List.set _ _ _) => iE'
          obtain ⟨ts', e1, e2⟩ := turn_set2 iE' hg hc1 hpl (chgC (by with_reducible assumption) (by with_reducible assumption))
          exact any_turn e1 e2 fE' nE' (by rfl) (by rfl) (by rfl) (by rfl) (by rfl) (by kcf_all) (by kcf_m) (ne3 hne)
        · rename IntsAre _ (List.set _ _ _) => iE'
          obtain ⟨ts', e1, e2⟩ := turn_set2 iE' hg hc1 hpl (chgD (by with_reducible assumption) (by with_reducible assumption))
          exact any_turn e1 e2 fE' nE' (by rfl) (by rfl) (by rfl) (by rfl) (by rfl) (by kcf_all) (by kcf_m) (ne3 hne)
        · exact any_turn (turn_keep hg) hys fE' nE' (by rfl) (by rfl) (by rfl) (by rfl) (by rfl) (by kcf_all) (by kcf_m) (ne3 hne)
        · exact any_turn (turn_keep hg) hys fE' nE' (by rfl) (by rfl) (by rfl) (by rfl) (by rfl) (by kcf_all) (by kcf_m) (ne3 hne)
      · intro u ts ys na h tk hg hys F1 N1
        dsimp only [envOfC] at F1 N1
        k_steps
  · intro u ts ys na h tk hg hys F1 N1
    have hgl : ts.length = ps.length := hg.1
    have hg95 := hg.2.1
    have hgl2 : ts.length ≤ 24 := by omega
    iterate 1 (first | (k_unfold; (try dsimp only)) | walk1 | (dsimp only; walk1))
    refine mid_cut2 F1 N1 (by rfl) (by rfl) ?_ ?_
    · k_steps
    · intro u h tk F2 N2
      k_steps)
end Mine
end PartLaw8

open PySem PySem.W PyProof.Rows
theorem PySem.Challenge.cw_kk0012_01_holds : PySem.Challenge.rw_kk0012_01.Holds := by
  exact Mine.lawT
