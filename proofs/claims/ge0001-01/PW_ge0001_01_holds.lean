import PyProof.Rows.All
import Wide.All
import OpenK.AllK
import Wide.FinOn
import PyProof.TupleKey
import PyProof.EqAt
import PyProof.NeKinds
import PySem.Challenge.RW_ge0001_01

set_option Elab.async false

section
open PySem PySem.W PyProof.Rows
set_option maxRecDepth 100000
set_option maxHeartbeats 8000000
namespace Mine
open_top hd for PySem.Challenge.rw_ge0001_01
end Mine
end

section
open PySem PySem.W PySem.Calls PyProof.Rows
set_option maxRecDepth 100000
set_option maxHeartbeats 8000000
namespace Mine


/-- the part of the heap that stands -/
structure Gr (w : World) (mean : ExcName → Option Value) (mg mb : Str → Option Value) (h : Heap) : Prop where
  K : (hd.heap_39 w.params).In h
  T : Top hd.view_39 (looseW hd.view_39 [Str.ofString "insort_left", Str.ofString "bisect_left"]) mean mg mb h
theorem Gr.keeps {w : World} {mean : ExcName → Option Value} {mg mb : Str → Option Value} {h h' : Heap} (G : Gr w mean mg mb h) (k : ∀ b o, h.get? b = some o → h'.get? b = some o) : Gr w mean mg mb h' :=
  ⟨G.K.keeps k, G.T.keeps k⟩

/-- room above a frame -/
structure Room (A : Around) (d u : Nat) : Prop where
  hh : A.handled = none
  hd : A.depth ≤ d
  hu : A.units ≤ u

theorem Room.deeper {A : Around} {d u : Nat} (R : Room A d u) (env : Env) : Room (A.deeper env) (d + 1) (u + 3) := ⟨R.hh, Nat.succ_le_succ R.hd, Nat.add_le_add_right R.hu 3⟩
theorem Room.le {A : Around} {d u d' u' : Nat} (R : Room A d u) (h1 : d ≤ d') (h2 : u ≤ u') : Room A d' u' := ⟨R.hh, Nat.le_trans R.hd h1, Nat.le_trans R.hu h2⟩

section
variable {w : World} {mean : ExcName → Option Value} {mg mb : Str → Option Value} {A : Around} {Q E : Value → Shared → Prop} {s : Shared}
theorem enterB {name qual : Str} {params : Arguments} {body : List Stmt} {scope : Scope} {dV kV doc pm cdv ct oc : Value} {an od : Option Addr} {osl : Array (Option Value)} {f : Addr} {args : List Value} {binds : List (Str × Value)} {B : Heap}
    (G : Gr w mean mg mb B) (hB : ∀ b o, B.get? b = some o → s.heap.get? b = some o) (hBs : B.objs.size ≤ s.heap.objs.size)
    (ho : (hd.heap_39 w.params).lookup f = some ⟨oc, od, .func (fnOf name qual params body scope dV kV doc pm an cdv ct), osl⟩)
    (hcd : codeIn (hd.heap_39 w.params) cdv qual = true) (hroom : A.depth < recursionLimit)
    (hbind : BindsTo s (fnOf name qual params body scope dV kV doc pm an cdv ct) ⟨args, []⟩ binds) (hloc : ∀ y ∈ binds, scope.names.lookup y.1 = some .local)
    (h : ∀ h₁, Fr B s.heap.objs.size h₁ (fun y => binds.reverse.lookup y) → (∀ b o, s.heap.get? b = some o → h₁.get? b = some o) → (hd.heap_39 w.params).In B → Top hd.view_39 (looseW hd.view_39 [Str.ofString "insort_left", Str.ofString "bisect_left"]) mean mg mb B →
      wpAny (model PySem.Challenge.rw_ge0001_01.row.prog w) (A.deeper (envOf qual scope s.heap.objs.size f cdv)) (execs body (envOf qual scope s.heap.objs.size f cdv))
        (fun fl s' => Q (match fl with | .ret v => v | _ => .none) s') (fun _ _ => False) { s with heap := h₁, toks := s.toks + binds.length })
    (hco : scope.isCoroutine = false) (hgen : scope.isGenerator = false) (hk : scope.kind = .function) (hcell : ∀ x ∈ scope.names, x.2 ≠ .cell) :
    wpAny (model PySem.Challenge.rw_ge0001_01.row.prog w) A (call (.ref f) args) Q E s := by
  have G' := G.keeps hB
  refine wpAny_call ?_
  refine codeAny_call_def (fd := fnX name qual params body scope [] dV kV doc pm an cdv ct) (body := body) (binds := binds) hroom (G'.K _ _ ho) rfl G'.T.nolimit (codeRec_of G'.K hcd) rfl hbind hcell hloc (fun h₁ hns hk₁ => ?_) hco hgen hk
  exact wpAny_mono (h h₁ ⟨hns, fun b o e => hk₁ b o (hB b o e), hBs⟩ hk₁ G.K G.T) (fun fl s' hl => hl) fun _ _ y => y.elim
theorem enter0 {name qual : Str} {params : Arguments} {body : List Stmt} {scope : Scope} {dV kV doc pm cdv ct oc : Value} {an od : Option Addr} {osl : Array (Option Value)} {f : Addr} {args : List Value} {binds : List (Str × Value)}
    (G : Gr w mean mg mb s.heap) (ho : (hd.heap_39 w.params).lookup f = some ⟨oc, od, .func (fnOf name qual params body scope dV kV doc pm an cdv ct), osl⟩)
    (hcd : codeIn (hd.heap_39 w.params) cdv qual = true) (hroom : A.depth < recursionLimit)
    (hbind : BindsTo s (fnOf name qual params body scope dV kV doc pm an cdv ct) ⟨args, []⟩ binds) (hloc : ∀ y ∈ binds, scope.names.lookup y.1 = some .local)
    (h : ∀ h₁, Fr s.heap s.heap.objs.size h₁ (fun y => binds.reverse.lookup y) → News s.heap s.heap.objs.size h₁ [] → (hd.heap_39 w.params).In s.heap → Top hd.view_39 (looseW hd.view_39 [Str.ofString "insort_left", Str.ofString "bisect_left"]) mean mg mb s.heap →
      wpAny (model PySem.Challenge.rw_ge0001_01.row.prog w) (A.deeper (envOf qual scope s.heap.objs.size f cdv)) (execs body (envOf qual scope s.heap.objs.size f cdv))
        (fun fl s' => Q (match fl with | .ret v => v | _ => .none) s') (fun _ _ => False) { s with heap := h₁, toks := s.toks + binds.length })
    (hco : scope.isCoroutine = false) (hgen : scope.isGenerator = false) (hk : scope.kind = .function) (hcell : ∀ x ∈ scope.names, x.2 ≠ .cell) :
    wpAny (model PySem.Challenge.rw_ge0001_01.row.prog w) A (call (.ref f) args) Q E s :=
  enterB G (fun _ _ e => e) (Nat.le_refl _) ho hcd hroom hbind hloc (fun h₁ F _ K T => h h₁ F News.nil K T) hco hgen hk hcell
theorem enterC {name qual : Str} {params : Arguments} {body : List Stmt} {scope : Scope} {dV kV doc pm cdv ct oc : Value} {an od : Option Addr} {osl : Array (Option Value)} {f : Addr} {args : List Value} {binds : List (Str × Value)}
    (G : Gr w mean mg mb s.heap) (ho : (hd.heap_39 w.params).lookup f = some ⟨oc, od, .func (fnOf name qual params body scope dV kV doc pm an cdv ct), osl⟩)
    (hcd : codeIn (hd.heap_39 w.params) cdv qual = true) (hroom : A.depth < recursionLimit)
    (hbind : BindsTo s (fnOf name qual params body scope dV kV doc pm an cdv ct) ⟨args, []⟩ binds) (hkind : (binds.all fun y => scope.names.lookup y.1 == some .local || scope.names.lookup y.1 == some .cell) = true)
    (hnd : ((cellsFrom 0 scope.names []).map (·.1)).Nodup)
    (h : ∀ h₁ tk cells, Fr s.heap s.heap.objs.size h₁ (bindL (envOfC qual scope s.heap.objs.size f cdv).kindOf binds fun _ => none) → News s.heap s.heap.objs.size h₁ cells →
      CellsAre (bindC (envOfC qual scope s.heap.objs.size f cdv).kindOf binds fun _ => none) (cellsFrom (s.heap.objs.size + 1) scope.names []) cells →
      (hd.heap_39 w.params).In s.heap → Top hd.view_39 (looseW hd.view_39 [Str.ofString "insort_left", Str.ofString "bisect_left"]) mean mg mb s.heap →
      wpAny (model PySem.Challenge.rw_ge0001_01.row.prog w) (A.deeper (envOfC qual scope s.heap.objs.size f cdv)) (execs body (envOfC qual scope s.heap.objs.size f cdv))
        (fun fl s' => Q (match fl with | .ret v => v | _ => .none) s') (fun _ _ => False) { s with heap := h₁, toks := tk })
    (hco : scope.isCoroutine = false) (hgen : scope.isGenerator = false) (hk : scope.kind = .function) :
    wpAny (model PySem.Challenge.rw_ge0001_01.row.prog w) A (call (.ref f) args) Q E s := by
  refine wpAny_call ?_
  refine codeAny_call_function hroom (G.K _ _ ho) (fd := fnX name qual params body scope [] dV kV doc pm an cdv ct) rfl hco hgen rfl (codeRec_of G.K hcd) (hbind _ _ _ _ ?_)
  refine wpAny_newFunctionEnv_cells hk (kindsX hkind _) fun env' he s' x => ?_
  subst he
  refine ⟨G.T.nolimit.keeps x.toInCall.keep, codeAny_func ?_⟩
  obtain ⟨h₁, tk, rfl, _⟩ := x.done
  have hk₁ := x.toInCall.keep
  obtain ⟨cells, NC, Y⟩ := Cl.news (h₀ := s.heap) (Nat.le_refl _) fun n c hm => ⟨x.cell n c (lookup_of_mem_nodup (cellsFrom_names scope.names 0 (s.heap.objs.size + 1) [] [] rfl ▸ hnd) hm), x.above n c hm⟩
  exact wpAny_mono (h h₁ tk cells ⟨x.toInCall.ns, hk₁, Nat.le_refl _⟩ NC Y G.K G.T) (fun fl s' hl => hl) fun _ _ y => y.elim
end
end Mine
end

section
open PySem PySem.W PySem.Calls PyProof.Rows
set_option maxRecDepth 100000
set_option maxHeartbeats 4000000
namespace Mine

/-- v is a tuple of these ints -/
def TI (h : Heap) (v : Value) (xs : List Int) : Prop := ∃ a vs, v = .ref a ∧ h.get? a = some { cls := .type "tuple", data := .seq vs.toArray } ∧ IntsAre vs xs
theorem TI.keeps {h h' : Heap} {v : Value} {xs : List Int} (x : TI h v xs) (k : ∀ b o, h.get? b = some o → h'.get? b = some o) : TI h' v xs :=
  let ⟨a, vs, e, ho, hi⟩ := x; ⟨a, vs, e, k _ _ ho, hi⟩

/-- every tuple stays -/
def TO (o : Obj) : Prop := o.cls = .type "tuple" ∧ ∃ its n, o.data = .seq its n
def KT (h h' : Heap) : Prop := ∀ b o, TO o → h.get? b = some o → h'.get? b = some o
theorem KT.refl (h : Heap) : KT h h := fun _ _ _ e => e
theorem KT.trans {h h' h'' : Heap} (x : KT h h') (y : KT h' h'') : KT h h'' := fun b o c e => y b o c (x b o c e)
theorem KT.ext {h h' : Heap} (k : ∀ b o, h.get? b = some o → h'.get? b = some o) : KT h h' := fun b o _ e => k b o e
theorem KT.but {h h' : Heap} {a : Addr} {o : Obj} (ha : h.get? a = some o) (hc : ¬ TO o) (k : ∀ b o, b ≠ a → h.get? b = some o → h'.get? b = some o) : KT h h' := fun b o' c e =>
  k b o' (fun q => by subst q; rw [ha] at e; cases e; exact hc c) e
theorem KT.off {h h' : Heap} {wr : List Addr} (hw : ∀ b ∈ wr, ∀ o, h.get? b = some o → ¬ TO o) (k : ∀ b o, b ∉ wr → h.get? b = some o → h'.get? b = some o) : KT h h' := fun b o' c e =>
  k b o' (fun q => hw b q o' e c) e
theorem TI.kt {h h' : Heap} {v : Value} {xs : List Int} (x : TI h v xs) (k : KT h h') : TI h' v xs :=
  let ⟨a, vs, e, ho, hi⟩ := x; ⟨a, vs, e, k _ _ ⟨rfl, _, _, rfl⟩ ho, hi⟩
theorem not_TO_dict {o : Obj} {es : Array DictEntry} {n : Nat} (h : o.data = .dict es n) : ¬ TO o := fun ⟨_, _, _, e⟩ => by rw [h] at e; cases e
theorem not_TO_list {its : Array Value} {n : Nat} : ¬ TO { cls := .type "list", data := .seq its n } := fun x => by have := x.1; simp at this
theorem not_TO_cls {o : Obj} (h : o.cls ≠ .type "tuple") : ¬ TO o := fun x => h x.1

/-- lexicographic: less -/
def ltL : List Int → List Int → Bool
  | [], [] => false
  | [], _ :: _ => true
  | _ :: _, [] => false
  | x :: xs, y :: ys => if x = y then ltL xs ys else decide (x < y)

section
variable {prog : Program} {w : World} {A : Around} {E : Value → Shared → Prop} {s : Shared}

theorem eqB_int {a b : Int} {t u : Tok} {Q : Bool → Shared → Prop} (h : Q (decide (a = b)) s) : wpAny (model prog w) A (eqBool (.int a t) (.int b u)) Q E s := wpAny_eqBool_int h

theorem tup_lt_tree {xs ys : List Int} {us vs : List Value} {a b : Addr} {P : Fin → Shared → Prop}
    (ha : s.heap.get? a = some { cls := .type "tuple", data := .seq us.toArray }) (hi : IntsAre us xs)
    (hb : s.heap.get? b = some { cls := .type "tuple", data := .seq vs.toArray }) (hj : IntsAre vs ys) (h : P (.done (.ret (.bool (ltL xs ys)))) s) :
    wpAny (model prog w) A (Builtin.«tuple.__lt__» ⟨[.ref a, .ref b], []⟩) P E s := by
  have hTb : s.TypeIs (.ref b) "tuple" := ⟨_, hb, rfl⟩
  show wpAny _ _ (isInstance (.ref b) (.type "tuple") >>= _) _ _ s
  refine wpAny_bind (wpAny_isInstance hTb isSubtype_tuple_tuple ?_)
  simp only [Bool.not_true, Bool.false_eq_true, if_false]
  refine wpAny_bind (wpAny_tupleItemsOf ha rfl ?_)
  refine wpAny_bind (wpAny_tupleItemsOf hb rfl ?_)
  refine wpAny_bind ?_
  refine wpAny_forIn_list _
    (fun rest r s' => r.1 = none ∧ s' = s ∧ ∃ x' y' xs' ys', rest = List.zip xs' ys' ∧ IntsAre xs' x' ∧ IntsAre ys' y' ∧ ltL x' y' = ltL xs ys ∧ (decide (xs'.length < ys'.length)) = decide (us.toArray.size < vs.toArray.size))
    _ ?_ ?_ _ _ ⟨rfl, rfl, xs, ys, us, vs, by simp, hi, hj, rfl, by simp⟩
  · rintro ⟨u, v⟩ rest r s' ⟨hr, rfl, x', y', xs', ys', hz, hx', hy', hdec, hlen⟩
    cases hx' with
    | nil => simp at hz
    | cons k1 t1 hx'' =>
      cases hy' with
      | nil => simp at hz
      | cons k2 t2 hy'' =>
        simp only [List.zip_cons_cons, List.cons.injEq, Prod.mk.injEq] at hz
        obtain ⟨⟨rfl, rfl⟩, rfl⟩ := hz
        refine wpAny_bind (eqB_int ?_)
        by_cases hk : k1 = k2
        · subst hk
          rw [decide_eq_true rfl]
          simp only [Bool.not_true, Bool.false_eq_true, if_false]
          refine wpAny_pure ⟨rfl, rfl, _, _, _, _, rfl, hx'', hy'', ?_, by simpa using hlen⟩
          rw [← hdec]; simp [ltL]
        · rw [decide_eq_false hk]
          simp only [Bool.not_false, if_true]
          have hf : ltL xs ys = decide (k1 < k2) := by rw [← hdec]; simp [ltL, hk]
          rw [hf] at h
          exact wpAny_bind (wpAny_rule (wpAny_bind (lt_int (wpAny_bind (wpAny_pure (wpAny_pure (wpAny_pure h)))))))
  · rintro ⟨r1, r2⟩ s' ⟨hr, rfl, x', y', xs', ys', hz, hx', hy', hdec, hlen⟩
    simp only at hr
    subst hr
    refine wpAny_pure ?_
    have hfin : decide (us.toArray.size < vs.toArray.size) = ltL xs ys := by
      rw [← hdec, ← hlen]
      cases hx' with
      | nil =>
        cases hy' with
        | nil => simp [ltL]
        | cons _ _ => simp [ltL]
      | cons _ _ =>
        cases hy' with
        | nil => simp [ltL]
        | cons _ _ => simp at hz
    show P (.done (.ret (.bool (decide (us.toArray.size < vs.toArray.size))))) s'
    rw [hfin]; exact h

theorem lt_tup {xs ys : List Int} {u v : Value} {Q : Value → Shared → Prop} (hu : A.units < cLine) (hx : TI s.heap u xs) (hy : TI s.heap v ys) (h : Q (.bool (ltL xs ys)) s) :
    wpAny (model prog w) A (compareOp .Lt u v) Q E s := by
  obtain ⟨a, us, rfl, ha, hi⟩ := hx
  obtain ⟨b, vs, rfl, hb, hj⟩ := hy
  refine cmp_ofLt (wpAny_richCompare_same_room (op := .Lt) ⟨_, ha, rfl⟩ ⟨_, hb, rfl⟩ F.slot_tuple_lt
      (wpAny_call_entry F.slot_tuple_lt ⟨_, ha, rfl⟩ F.entry_tuple_lt (tup_lt_tree ha hi hb hj ⟨_, rfl, (fun e => nomatch e), h⟩) (F.args_tuple_lt_2 _ _)) hu)
theorem tup_ge_tree {xs ys : List Int} {us vs : List Value} {a b : Addr} {P : Fin → Shared → Prop}
    (ha : s.heap.get? a = some { cls := .type "tuple", data := .seq us.toArray }) (hi : IntsAre us xs)
    (hb : s.heap.get? b = some { cls := .type "tuple", data := .seq vs.toArray }) (hj : IntsAre vs ys) (h : P (.done (.ret (.bool (!ltL xs ys)))) s) :
    wpAny (model prog w) A (Builtin.«tuple.__ge__» ⟨[.ref a, .ref b], []⟩) P E s := by
  have hTb : s.TypeIs (.ref b) "tuple" := ⟨_, hb, rfl⟩
  show wpAny _ _ (isInstance (.ref b) (.type "tuple") >>= _) _ _ s
  refine wpAny_bind (wpAny_isInstance hTb isSubtype_tuple_tuple ?_)
  simp only [Bool.not_true, Bool.false_eq_true, if_false]
  refine wpAny_bind (wpAny_tupleItemsOf ha rfl ?_)
  refine wpAny_bind (wpAny_tupleItemsOf hb rfl ?_)
  refine wpAny_bind ?_
  refine wpAny_forIn_list _
    (fun rest r s' => r.1 = none ∧ s' = s ∧ ∃ x' y' xs' ys', rest = List.zip xs' ys' ∧ IntsAre xs' x' ∧ IntsAre ys' y' ∧ ltL x' y' = ltL xs ys ∧ (decide (xs'.length ≥ ys'.length)) = decide (us.toArray.size ≥ vs.toArray.size))
    _ ?_ ?_ _ _ ⟨rfl, rfl, xs, ys, us, vs, by simp, hi, hj, rfl, by simp⟩
  · rintro ⟨u, v⟩ rest r s' ⟨hr, rfl, x', y', xs', ys', hz, hx', hy', hdec, hlen⟩
    cases hx' with
    | nil => simp at hz
    | cons k1 t1 hx'' =>
      cases hy' with
      | nil => simp at hz
      | cons k2 t2 hy'' =>
        simp only [List.zip_cons_cons, List.cons.injEq, Prod.mk.injEq] at hz
        obtain ⟨⟨rfl, rfl⟩, rfl⟩ := hz
        refine wpAny_bind (eqB_int ?_)
        by_cases hk : k1 = k2
        · subst hk
          rw [decide_eq_true rfl]
          simp only [Bool.not_true, Bool.false_eq_true, if_false]
          refine wpAny_pure ⟨rfl, rfl, _, _, _, _, rfl, hx'', hy'', ?_, by simpa using hlen⟩
          rw [← hdec]; simp [ltL]
        · rw [decide_eq_false hk]
          simp only [Bool.not_false, if_true]
          have hf : (!ltL xs ys) = decide (k1 ≥ k2) := by
            rw [← hdec]; simp only [ltL, if_neg hk]
            by_cases hl : k1 < k2
            · have hn : ¬ k1 ≥ k2 := by omega
              simp [hl, hn]
            · have hn : k1 ≥ k2 := by omega
              simp [hl, hn]
          rw [hf] at h
          exact wpAny_bind (wpAny_rule (wpAny_bind (PySem.P.ge_int (wpAny_bind (wpAny_pure (wpAny_pure (wpAny_pure h)))))))
  · rintro ⟨r1, r2⟩ s' ⟨hr, rfl, x', y', xs', ys', hz, hx', hy', hdec, hlen⟩
    simp only at hr
    subst hr
    refine wpAny_pure ?_
    have hfin : decide (us.toArray.size ≥ vs.toArray.size) = (!ltL xs ys) := by
      rw [← hdec, ← hlen]
      cases hx' with
      | nil =>
        cases hy' with
        | nil => simp [ltL]
        | cons _ _ => simp [ltL]
      | cons _ _ =>
        cases hy' with
        | nil => simp [ltL]
        | cons _ _ => simp at hz
    show P (.done (.ret (.bool (decide (us.toArray.size ≥ vs.toArray.size))))) s'
    rw [hfin]; exact h

theorem ge_tup {xs ys : List Int} {u v : Value} {Q : Value → Shared → Prop} (hu : A.units < cLine) (hx : TI s.heap u xs) (hy : TI s.heap v ys) (h : Q (.bool (!ltL xs ys)) s) :
    wpAny (model prog w) A (compareOp .GtE u v) Q E s := by
  obtain ⟨a, us, rfl, ha, hi⟩ := hx
  obtain ⟨b, vs, rfl, hb, hj⟩ := hy
  refine cmp_ofGtE (wpAny_richCompare_same_room (op := .GtE) ⟨_, ha, rfl⟩ ⟨_, hb, rfl⟩ F.slot_tuple_ge
      (wpAny_call_entry F.slot_tuple_ge ⟨_, ha, rfl⟩ F.entry_tuple_ge (tup_ge_tree ha hi hb hj ⟨_, rfl, (fun e => nomatch e), h⟩) (F.args_tuple_ge_2 _ _)) hu)
end
end Mine
end

section
open PySem PySem.W PySem.Calls PyProof.Rows
set_option maxRecDepth 100000
set_option maxHeartbeats 8000000
namespace Mine

/-- bisect's while -/
def bisF (f : Nat → Bool) : Nat → Nat → Nat → Nat
  | 0, lo, _ => lo
  | n + 1, lo, hi => if lo < hi then (if f ((lo + hi) / 2) then bisF f n ((lo + hi) / 2 + 1) hi else bisF f n lo ((lo + hi) / 2)) else lo
theorem bisF_fuel (f : Nat → Bool) : ∀ n m lo hi, hi - lo ≤ n → hi - lo ≤ m → bisF f n lo hi = bisF f m lo hi
  | 0, 0, _, _, _, _ => rfl
  | 0, m + 1, lo, hi, h, _ => by simp only [bisF]; rw [if_neg (by omega)]
  | n + 1, 0, lo, hi, _, h => by simp only [bisF]; rw [if_neg (by omega)]
  | n + 1, m + 1, lo, hi, h1, h2 => by
    simp only [bisF]
    by_cases hl : lo < hi
    · rw [if_pos hl, if_pos hl, bisF_fuel f n m _ hi (by omega) (by omega), bisF_fuel f n m lo _ (by omega) (by omega)]
    · rw [if_neg hl, if_neg hl]
def bisL (xss : List (List Int)) (xs : List Int) : Nat := bisF (fun i => ltL (xss.getD i []) xs) xss.length 0 xss.length
theorem bisF_le (f : Nat → Bool) : ∀ n lo hi, lo ≤ hi → bisF f n lo hi ≤ hi
  | 0, _, _, h => h
  | n + 1, lo, hi, h => by
    simp only [bisF]
    by_cases hl : lo < hi
    · rw [if_pos hl]; split
      · exact bisF_le f n _ hi (by omega)
      · exact Nat.le_trans (bisF_le f n lo _ (by omega)) (by omega)
    · rw [if_neg hl]; exact h
theorem bisL_le (xss : List (List Int)) (xs : List Int) : bisL xss xs ≤ xss.length := bisF_le _ _ _ _ (Nat.zero_le _)

/-- each of these is a tuple of the ints -/
inductive Tups (h : Heap) : List Value → List (List Int) → Prop
  | nil : Tups h [] []
  | cons {v xs vs xss} : TI h v xs → Tups h vs xss → Tups h (v :: vs) (xs :: xss)
theorem Tups.keeps {h h' : Heap} {vs : List Value} {xss : List (List Int)} (x : Tups h vs xss) (k : ∀ b o, h.get? b = some o → h'.get? b = some o) : Tups h' vs xss := by
  induction x with
  | nil => exact .nil
  | cons t _ ih => exact .cons (t.keeps k) ih
theorem Tups.length {h : Heap} {vs : List Value} {xss : List (List Int)} (x : Tups h vs xss) : vs.length = xss.length := by
  induction x with
  | nil => rfl
  | cons _ _ ih => simp [ih]
theorem Tups.get {h : Heap} {vs : List Value} {xss : List (List Int)} (x : Tups h vs xss) : ∀ {i : Nat}, i < vs.length → ∃ v, vs[i]? = some v ∧ TI h v (xss.getD i []) := by
  induction x with
  | nil => intro i h; exact absurd h (Nat.not_lt_zero _)
  | cons t r ih =>
    intro i hi
    cases i with
    | zero => exact ⟨_, rfl, t⟩
    | succ i => obtain ⟨v, h1, h2⟩ := ih (i := i) (by simpa using hi); exact ⟨v, by simpa using h1, by simpa using h2⟩

local macro_rules | `(tactic| walk_at "S") => `(tactic| repeat' (
  (fail_if_success (with_reducible show wpAny _ _ (exec (Stmt.While _ _ _ _) _) _ _ _));
  (fail_if_success (with_reducible show wpAny _ _ (exec (Stmt.For _ _ _ _ _) _) _ _ _));
  (fail_if_success (with_reducible show wpAny _ _ (eval (Expr.ListComp _ _ _ _) _) _ _ _));
  (fail_if_success (with_reducible show wpAny _ _ (call (Value.ref _) _ _) _ _ _));
  (first | (k_unfold; (try dsimp only)) | walk1 | (dsimp only; walk1) | fail "no step")))
local macro_rules | `(tactic| walk_at "eval Name") => `(tactic| (k_here; k_dflt (refine' ld ?k1 ?k2 ?_; (case k1 => k_asm); (case k2 => assumption); k_whole)))

theorem item_ref {prog w A E s} {value slice : PySem.Expr} {l : Addr} {vs : List Value} {k : Int} {u : Tok} {v : Value} {Q : Value → Shared → Prop}
    (hl : s.heap.IsList l vs.toArray) (h0 : 0 ≤ k) (hhi : k < 2 ^ 63) (hx : vs[k.toNat]? = some v) (h : Q v s)
    (hs : subscripted slice false (.ref l) (.int k u) = operate [.ref l, .int k u] (getItem (.ref l) (.int k u)) := by with_unfolding_all rfl) :
    wpAny (model prog w) A (subscriptTail value slice (.ref l) (.int k u)) Q E s :=
  tail_any hl.typeIs slot_list_getitem.lookup (wpAny_getItem_list hl h0 hhi (by simpa using hx) h) hs

theorem bis_fn {w : World} {mean : ExcName → Option Value} {mg mb : Str → Option Value} {A : Around} {Q E : Value → Shared → Prop} {s : Shared} {a : Addr} {x : Value} {args : List Value}
   {vs : List Value} {xss : List (List Int)} {xs : List Int}
   (G : Gr w mean mg mb s.heap) (R : Room A 950 9500) (hl : s.heap.IsList a vs.toArray) (hz : vs.length ≤ 1000) (hT : Tups s.heap vs xss) (hx : TI s.heap x xs)
   (ha : args = [.ref a, x] ∨ ∃ t, args = [.ref a, x, .int 0 t, .none])
   (h : ∀ t h' tk, (∀ b o, s.heap.get? b = some o → h'.get? b = some o) → Q (.int (bisL xss xs : Nat) t) { s with heap := h', toks := tk }) :
   wpAny (model PySem.Challenge.rw_ge0001_01.row.prog w) A (call (.ref 46) args) Q E s := by
  have KX := G.K
  revert KX
  k_fill
  intro KX
  rcases ha with rfl | ⟨t0, rfl⟩
  all_goals (
    k_dflt (refine' enter0 G ?k6 ?k7 ?k8 ?k9 ?kB ?_ ?c2 ?c3 ?c4 ?c5)
    case k6 => k_is
    case k7 => k_is
    case k8 => exact Nat.lt_of_le_of_lt R.hd (by decide)
    case k9 => (refine' kp_binds ?kx ?ke; (case kx => k_in); (case ke => exact fun _ => rfl))
    case c5 => decide
    case kB => exact locs rfl
    case c2 => exact rfl
    case c3 => exact rfl
    case c4 => exact rfl
    intro h1 F' N' X' T'
    (try dsimp only)
    k_fold
    walk_at "S"
    refine Calls.call_len_list (hl.at fun o e => F'.keep _ o e) (by simp only [List.size_toArray]; omega) ?_
    walk_at "S"

    rename Fr _ _ _ _ => F1
    rename News _ _ _ _ => N1
    have hlen := hT.length
    refine While_inv (fun n m news => news = [] ∧ ∃ (lo hi : Nat) (t1 t2 : Tok), n = hi - lo ∧ lo ≤ hi ∧ hi ≤ vs.length ∧ m (Str.ofString "lo") = some (.int lo t1) ∧ m (Str.ofString "hi") = some (.int hi t2) ∧
      m (Str.ofString "a") = some (.ref a) ∧ m (Str.ofString "x") = some x ∧ bisF (fun i => ltL (xss.getD i []) xs) (hi - lo) lo hi = bisL xss xs) (n₀ := vs.length) F1 N1
      ⟨rfl, 0, vs.length, _, _, rfl, Nat.zero_le _, Nat.le_refl _, rfl, by simp; rfl, rfl, rfl, by rw [hlen]; rfl⟩ ?_ ?_
    · rintro n m news h2 tk2 F2 N2 ⟨rfl, lo, hi, t1, t2, rfl, h1, h2, m1, m2, m3, m4, hb⟩
      walk_at "S"
      · rename (lo : Int) < hi => hlt
        rename Fr _ _ _ _ => F3
        rename News _ _ _ _ => N3
        have hmid : Int.fdiv ((lo : Int) + (hi : Int)) 2 = (((lo + hi) / 2 : Nat) : Int) := by
          rw [Int.fdiv_eq_ediv_of_nonneg _ (by decide)]; omega
        rw [hmid] at F3
        rw [hmid]
        obtain ⟨v, hv, tv⟩ := hT.get (i := (lo + hi) / 2) (by omega)
        refine item_ref (hl.at fun o e => F3.keep _ o e) (by omega) (by omega) (by rw [Int.toNat_natCast]; exact hv) ?_
        walk_at "S"
        refine lt_tup (by have := R.hu; show A.units + 3 < 9900; omega) (tv.keeps F3.keep) (hx.keeps F3.keep) ?_
        have hf : bisF (fun i => ltL (xss.getD i []) xs) (hi - lo) lo hi = if ltL (xss.getD ((lo + hi) / 2) []) xs then bisF (fun i => ltL (xss.getD i []) xs) (hi - lo - 1) ((lo + hi) / 2 + 1) hi else bisF (fun i => ltL (xss.getD i []) xs) (hi - lo - 1) lo ((lo + hi) / 2) := by
          conv => lhs; rw [show hi - lo = hi - lo - 1 + 1 by omega]
          simp only [bisF]
          rw [if_pos (show lo < hi by omega)]
        walk_at "S"
        · rename ltL _ _ = true => hc
          rename Fr _ _ _ _ => F4
          rename News _ _ _ _ => N4
          rw [hc, if_pos rfl] at hf
          exact WhileStep.intro F4 N4 (n' := hi - ((lo + hi) / 2 + 1)) (by omega) ⟨rfl, (lo + hi) / 2 + 1, hi, _, t2, rfl, by omega, h2, rfl, m2, m3, m4, by rw [← hb, hf]; exact bisF_fuel _ _ _ _ _ (Nat.le_refl _) (by omega)⟩
        · rename ltL _ _ = false => hc
          rename Fr _ _ _ _ => F4
          rename News _ _ _ _ => N4
          rw [hc, if_neg (by decide)] at hf
          exact WhileStep.intro F4 N4 (n' := (lo + hi) / 2 - lo) (by omega) ⟨rfl, lo, (lo + hi) / 2, t1, _, rfl, by omega, by omega, m1, rfl, m3, m4, by rw [← hb, hf]; exact bisF_fuel _ _ _ _ _ (Nat.le_refl _) (by omega)⟩
      · rename ¬ (lo : Int) < hi => hlt
        have e0 : hi - lo = 0 := by omega
        rw [e0] at hb
        have e1 : lo = bisL xss xs := hb
        dsimp only [qk]
        rw [e1]
        exact h _ _ _ F2.keep
    · intro _ _ x; exact x.elim)
end Mine
end

section
open PySem PySem.W PySem.Calls PyProof.Rows
set_option maxRecDepth 100000
set_option maxHeartbeats 8000000
namespace Mine
section
variable {prog : Program} {w : World} {A : Around} {E : Value → Shared → Prop} {s : Shared}
theorem insert_arr {l : Addr} {its : Array Value} {n : Nat} {k : Int} {u : Tok} {y : Value} {Q : Value → Shared → Prop} (ho : s.heap.get? l = some (listOf its n)) (hf : Builtin.List.listFitsIndex k = true) (hsz : its.size ≤ sizeLine)
    (h : ∀ h' n', Heap.SameBut l s.heap h' → h'.get? l = some (listOf (have k' := if k < 0 then (k + ((its.size : Nat) : Int)).toNat else min k.toNat its.size; (its.extract 0 k').push y ++ its.extract k') n') → Q .none { s with heap := h' }) :
    wpAny (model prog w) A (call (.builtin "list.insert") [.ref l, .int k u, y]) Q E s := by
  have hc0 : ¬(!Builtin.List.listFitsIndex k) = true := by rw [hf]; decide
  have g := @PySem.AutoListH.list_insert_list_int_val_1 l its n k u y hc0 hsz
  refine call_meets F.slot_list_insert ⟨_, ho, rfl⟩ F.entry_list_insert (F.args_list_insert_3 _ _ _) g ?_
  refine ⟨ho, ?_⟩
  exact h _ _ (Heap.SameBut.update ..) (Heap.get?_update_self _ ho rfl)
theorem insert_at {l : Addr} {vs : List Value} {n k : Nat} {u : Tok} {y : Value} {Q : Value → Shared → Prop} (ho : s.heap.get? l = some (listOf vs.toArray n)) (hk : k ≤ vs.length) (hz : vs.length ≤ 1000)
    (h : ∀ h' n', Heap.SameBut l s.heap h' → h'.get? l = some (listOf (vs.take k ++ y :: vs.drop k).toArray n') → Q .none { s with heap := h' }) :
    wpAny (model prog w) A (call (.builtin "list.insert") [.ref l, .int (k : Int) u, y]) Q E s := by
  have hsz : vs.toArray.size ≤ sizeLine := by simp only [List.size_toArray, sizeLine]; omega
  have hz2 : vs.toArray.size = vs.length := List.size_toArray
  have e0 : vs = vs.toArray.toList := rfl
  generalize hi : vs.toArray = its at ho hsz hz2 e0
  refine insert_arr ho (fitsIndex_of (by omega) (by omega)) hsz fun h' n' hs hg => h h' n' hs ?_
  rw [hg]
  have e1 : ¬ ((k : Int) < 0) := by omega
  have e2 : min (k : Int).toNat its.size = k := by rw [Int.toNat_natCast, hz2]; omega
  simp only [if_neg e1, e2]
  subst hi
  have e3 : (vs.toArray.extract 0 k).push y ++ vs.toArray.extract k = (vs.take k ++ y :: vs.drop k).toArray := by
    apply Array.ext'
    simp [List.extract_eq_take_drop]
    exact List.take_of_length_le (by simp)
  rw [e3]
end

local macro_rules | `(tactic| walk_at "S") => `(tactic| repeat' (
  (fail_if_success (with_reducible show wpAny _ _ (exec (Stmt.While _ _ _ _) _) _ _ _));
  (fail_if_success (with_reducible show wpAny _ _ (exec (Stmt.For _ _ _ _ _) _) _ _ _));
  (fail_if_success (with_reducible show wpAny _ _ (eval (Expr.ListComp _ _ _ _) _) _ _ _));
  (fail_if_success (with_reducible show wpAny _ _ (call (Value.ref _) _ _) _ _ _));
  (first | (k_unfold; (try dsimp only)) | walk1 | (dsimp only; walk1) | fail "no step")))

theorem ins_fn {w : World} {mean : ExcName → Option Value} {mg mb : Str → Option Value} {A : Around} {Q E : Value → Shared → Prop} {s : Shared} {l : Addr} {x : Value} {n : Nat}
   {vs : List Value} {xss : List (List Int)} {xs : List Int}
   (G : Gr w mean mg mb (hideAll s.heap [l])) (R : Room A 940 9400) (hl : s.heap.get? l = some (listOf vs.toArray n)) (hz : vs.length ≤ 999) (hT : Tups s.heap vs xss) (hx : TI s.heap x xs)
   (h : ∀ h' tk n', (∀ b o, b ≠ l → s.heap.get? b = some o → h'.get? b = some o) → h'.get? l = some (listOf (vs.take (bisL xss xs) ++ x :: vs.drop (bisL xss xs)).toArray n') → Q .none { s with heap := h', toks := tk }) :
   wpAny (model PySem.Challenge.rw_ge0001_01.row.prog w) A (call (.ref 37) [.ref l, x]) Q E s := by
  have KX := G.K
  revert KX
  k_fill
  intro KX
  have G' : Gr w mean mg mb s.heap := G.keeps fun _ _ e => of_hideAll _ e
  have KX' := G'.K
  k_dflt (refine' enterB G ?kb ?kc ?k6 ?k7 ?k8 ?k9 ?kB ?_ ?c2 ?c3 ?c4 ?c5)
  case kb => exact fun _ _ e => of_hideAll _ e
  case kc => exact Nat.le_of_eq (hideAll_size _ _)
  case k6 => k_is
  case k7 => k_is
  case k8 => exact Nat.lt_of_le_of_lt R.hd (by decide)
  case k9 => (refine' kp_binds ?kx ?ke; (case kx => exact KX'); (case ke => exact fun _ => rfl))
  case c5 => decide
  case kB => exact locs rfl
  case c2 => exact rfl
  case c3 => exact rfl
  case c4 => exact rfl
  clear KX KX'
  intro h1 F' hk1 X' T'
  (try dsimp only)
  k_fold
  have N' : News (hideAll s.heap [l]) s.heap.objs.size h1 [(l, listOf vs.toArray n)] := by
    intro p hp
    rw [List.mem_singleton.mp hp]
    exact ⟨hk1 _ _ hl, Nat.ne_of_lt (Heap.lt_size hl), hideAll_none _ (List.mem_singleton.mpr rfl)⟩
  walk_at "S"
  refine bis_fn (vs := vs) (xss := xss) (xs := xs) (G'.keeps hk1) ((R.deeper _).le (by decide) (by decide)) ⟨_, hk1 _ _ hl, rfl, _, rfl⟩ (by omega) (hT.keeps hk1) (hx.keeps hk1) (.inr ⟨_, rfl⟩) ?_
  intro t2 h2 tk2 hk2
  have F2 := F'.keeps hk2
  have N2 := N'.grown hk2
  clear F' N'
  walk_at "S"
  rename Fr _ _ _ _ => F3
  rename News _ _ _ _ => N3
  have z := N3 (l, listOf vs.toArray n) (.head _)
  have hlen := hT.length
  refine insert_at z.1 (by rw [hlen]; exact bisL_le xss xs) (by omega) ?_
  intro h4 n4 hs4 hl4
  have F4 := F3.change hs4 z.2.1 z.2.2
  have hk4 : ∀ b o, b ≠ l → s.heap.get? b = some o → h4.get? b = some o := fun b o hb e => (hs4.2 b hb).trans (F3.keep _ _ (hideAll_get _ e fun hm => hb (List.mem_singleton.mp hm)))
  clear F3 N3
  walk_at "S"
  exact h _ _ _ hk4 hl4
end Mine
end

section
open PySem PySem.W PySem.Calls PyProof.Rows
set_option maxRecDepth 100000
set_option maxHeartbeats 8000000
namespace Mine
def partedI : Nat → Nat → Nat
  | 0, n => if n = 0 then 1 else 0
  | _ + 1, 0 => 0
  | m + 1, n + 1 => partedI m n + (n + 1) * partedI m (n + 1)
theorem partedI_small : ∀ m, m ≤ 5 → ∀ n, n ≤ 5 → partedI m n ≤ 1000 := by decide

local macro_rules | `(tactic| walk_at "S") => `(tactic| repeat' (
  (fail_if_success (with_reducible show wpAny _ _ (exec (Stmt.While _ _ _ _) _) _ _ _));
  (fail_if_success (with_reducible show wpAny _ _ (exec (Stmt.For _ _ _ _ _) _) _ _ _));
  (fail_if_success (with_reducible show wpAny _ _ (eval (Expr.ListComp _ _ _ _) _) _ _ _));
  (fail_if_success (with_reducible show wpAny _ _ (call (Value.ref _) _ _) _ _ _));
  (first | (k_unfold; (try dsimp only)) | walk1 | (dsimp only; walk1) | fail "no step")))

theorem partedI_zero (n : Nat) : partedI 0 n = if n = 0 then 1 else 0 := rfl
theorem partedI_none (m : Nat) : partedI (m + 1) 0 = 0 := rfl
theorem partedI_step (m n : Nat) : partedI (m + 1) (n + 1) = partedI m n + (n + 1) * partedI m (n + 1) := rfl

theorem parted_fn {w : World} {mean : ExcName → Option Value} {mg mb : Str → Option Value} : ∀ (k : Nat) {A : Around} {Q E : Value → Shared → Prop} {s : Shared} {a b : Int} {ta tb : Tok}
   (_ : a.toNat < k) (_ : k ≤ 6) (_ : 0 ≤ a) (_ : 0 ≤ b) (_ : b ≤ 5)
   (_ : Gr w mean mg mb s.heap) (_ : Room A (900 - k) (6000 - 3 * k))
   (_ : ∀ t h' tk, (∀ b o, s.heap.get? b = some o → h'.get? b = some o) → Q (.int (partedI a.toNat b.toNat : Nat) t) { s with heap := h', toks := tk }),
   wpAny (model PySem.Challenge.rw_ge0001_01.row.prog w) A (call (.ref 70) [.int a ta, .int b tb]) Q E s := by
  intro k
  induction k with
  | zero => intro A Q E s a b ta tb hk; exact absurd hk (Nat.not_lt_zero _)
  | succ k ih =>
    intro A Q E s a b ta tb hk hk6 ha hb hb5 G R h
    have KX := G.K
    revert KX
    k_fill
    intro KX
    k_dflt (refine' enter0 G ?k6 ?k7 ?k8 ?k9 ?kB ?_ ?c2 ?c3 ?c4 ?c5)
    case k6 => k_is
    case k7 => k_is
    case k8 => have := R.hd; show A.depth < 1000; omega
    case k9 => (refine' kp_binds ?kx ?ke; (case kx => k_in); (case ke => exact fun _ => rfl))
    case c5 => decide
    case kB => exact locs rfl
    case c2 => exact rfl
    case c3 => exact rfl
    case c4 => exact rfl
    intro h1 F' N' X' T'
    (try dsimp only)
    k_fold
    walk_at "S"
    · have e : (if (a == b) = true then (1 : Int) else 0) = (partedI a.toNat b.toNat : Nat) := by
        have e0 : a = 0 := by assumption
        subst e0
        show _ = ((partedI 0 b.toNat : Nat) : Int)
        rw [partedI_zero]
        by_cases hb0 : b = 0
        · subst hb0; rfl
        · have h1 : (0 == b) = false := by simp; omega
          have h2 : b.toNat ≠ 0 := by omega
          simp [h1, h2]
      rw [e]
      exact h _ _ _ F'.keep
    · have e : (if (a == b) = true then (1 : Int) else 0) = (partedI a.toNat b.toNat : Nat) := by
        have e0 : b = 0 := by assumption
        have e1 : ¬ a = 0 := by assumption
        subst e0
        obtain ⟨m, rfl⟩ : ∃ m : Nat, a = (m : Int) + 1 := ⟨a.toNat - 1, by omega⟩
        have h1 : (((m : Int) + 1) == 0) = false := by simp; omega
        have h2 : ((m : Int) + 1).toNat = m + 1 := by omega
        rw [h1, h2]
        show _ = ((partedI (m + 1) 0 : Nat) : Int)
        rw [partedI_none]; rfl
      rw [e]
      exact h _ _ _ F'.keep
    · have e0 : ¬ a = 0 := by assumption
      have e1 : ¬ b = 0 := by assumption
      obtain ⟨m, rfl⟩ : ∃ m : Nat, a = (m : Int) + 1 := ⟨a.toNat - 1, by omega⟩
      obtain ⟨n, rfl⟩ : ∃ n : Nat, b = (n : Int) + 1 := ⟨b.toNat - 1, by omega⟩
      have R3 := fun env => (R.deeper env).le (d' := 900 - k) (u' := 6000 - 3 * k) (by omega) (by omega)
      refine ih (by omega) (by omega) (by omega) (by omega) (by omega) (G.keeps F'.keep) (R3 _) ?_
      intro t2 h2 tk2 hk2
      have F2 := F'.keeps hk2
      have N2 := N'.grown hk2
      clear F' N'
      walk_at "S"
      refine ih (by omega) (by omega) (by omega) (by omega) (by omega) (G.keeps F2.keep) (R3 _) ?_
      intro t3 h3 tk3 hk3
      have F3 := F2.keeps hk3
      have N3 := N2.grown hk3
      clear F2 N2
      have e2 : ((m : Int) + 1 - 1).toNat = m := by omega
      have e3 : ((n : Int) + 1 - 1).toNat = n := by omega
      have e4 : ((n : Int) + 1).toNat = n + 1 := by omega
      rw [e2, e4]
      have s1 := partedI_small m (by omega) (n + 1) (by omega)
      walk_at "S"
      rw [e3]
      have e5 : ((partedI ((m : Int) + 1).toNat ((n : Int) + 1).toNat : Nat) : Int) = ((partedI m n : Nat) : Int) + ((n : Int) + 1) * ((partedI m (n + 1) : Nat) : Int) := by
        have e6 : ((m : Int) + 1).toNat = m + 1 := by omega
        rw [e6, e4, partedI_step]
        simp only [Int.natCast_add, Int.natCast_mul, Int.natCast_one]
      rw [← e5]
      exact h _ _ _ F3.keep
end Mine
end

section
open PySem PySem.W PySem.Calls PyProof.Rows
set_option maxRecDepth 100000
set_option maxHeartbeats 4000000
namespace Mine

/-- the end of a turn -/
def TurnR (Q : Flow → Shared → Prop) (h₀ : Heap) (L : Addr) (J : (Str → Option Value) → Heap → Prop) (S : Heap → Prop) (s : Shared) (f : Flow) (s' : Shared) : Prop := match f with
  | .brk => Q .next s'
  | .ret v => Q (.ret v) s'
  | _ => ∃ h' tk' m', s' = { s with heap := h', toks := tk' } ∧ Fr h₀ L h' m' ∧ J m' h' ∧ S h'
theorem TurnR.intro {Q : Flow → Shared → Prop} {h₀ : Heap} {L : Addr} {J : (Str → Option Value) → Heap → Prop} {S : Heap → Prop} {s : Shared} {h' : Heap} {tk' : Nat} {m' : Str → Option Value}
    (F : Fr h₀ L h' m') (hJ : J m' h') (hS : S h') : TurnR Q h₀ L J S s .next { s with heap := h', toks := tk' } := ⟨h', tk', m', rfl, F, hJ, hS⟩

def LoopR (prog : Program) (w : World) (A : Around) (h₀ : Heap) (env : Env) (target : PySem.Expr) (body : List Stmt) (Q : Flow → Shared → Prop) (E : Value → Shared → Prop) (it : Value) (s : Shared) : Prop :=
  ∃ (I : Addr) (fp wr : List Addr) (n : Nat) (P : Nat → Value → Prop) (St : Nat → Heap → Prop) (J : Nat → (Str → Option Value) → Heap → Prop) (m : Str → Option Value),
    it = .ref I ∧ (∀ v, letOwnedTupleGo target (.ref I) v = pure ()) ∧ Walks prog w A I fp wr n P St ∧ St 0 s.heap ∧ Fr h₀ env.locals s.heap m ∧ J 0 m s.heap ∧ env.locals ∉ wr ∧ (∀ b ∈ wr, h₀.get? b = none) ∧
    (∀ i m h h', J i m h → (∀ b o, b ∉ wr → h.get? b = some o → h'.get? b = some o) → J i m h') ∧
    (∀ i v m₁ h₁ tk₁, i < n → P i v → J i m₁ h₁ → St (i + 1) h₁ → Fr h₀ env.locals h₁ m₁ →
      wpAny (model prog w) A (assign target env v) (fun _ s₁ => wpAny (model prog w) A (execs body env) (TurnR Q h₀ env.locals (J (i + 1)) (St (i + 1)) s) E s₁) E { s with heap := h₁, toks := tk₁ }) ∧
    ∀ m' h' tk', J n m' h' → Fr h₀ env.locals h' m' → Q .next { s with heap := h', toks := tk' }

section
variable {prog : Program} {w : World} {A : Around} {E : Value → Shared → Prop} {Q : Flow → Shared → Prop} {s : Shared} {env : Env} {h₀ : Heap}

theorem Fr.butOff {h₀ h h' : Heap} {L : Addr} {m : Str → Option Value} {wr : List Addr} (F : Fr h₀ L h m) (hL : L ∉ wr) (h0 : ∀ b ∈ wr, h₀.get? b = none) (hk : ∀ b o, b ∉ wr → h.get? b = some o → h'.get? b = some o) : Fr h₀ L h' m :=
  ⟨F.ns.at' fun o e => hk L o hL e, fun b o e => hk b o (fun hb => by rw [h0 b hb] at e; cases e) (F.keep b o e), F.above⟩

theorem for_rule {target iter : PySem.Expr} {body : List Stmt} {pos : Pos} (hE : ∀ e s, E e s → False)
    (h : wpAny (model prog w) A (eval iter env) (fun xv s₁ => wpAny (model prog w) A (pyIter xv) (fun it s₂ => LoopR prog w A h₀ env target body Q E it s₂) E s₁) E s)
    (hs : ∀ x, foldedSetIterable iter env x = pure x := by intro _; rfl) :
    wpAny (model prog w) A (exec (.For target iter body [] pos) env) Q E s := by
  refine wpAny_For (wpAny_mono h (fun xv s₁ h₁ => wpAny_mono h₁ (fun it s₂ h₂ => ?_) fun _ _ e => e) fun _ _ e => e) hs
  obtain ⟨I, fp, wr, n, P, St, J, m, rfl, ht, W, st, F, hJ, hL, h0, stab, turn, done⟩ := h₂
  refine codeAny_forLoop (fun k s' => ∃ i m₁ h₁ tk₁, s' = { s₂ with heap := h₁, toks := tk₁ } ∧ i ≤ n ∧ k = n - i ∧ Fr h₀ env.locals h₁ m₁ ∧ J i m₁ h₁ ∧ St i h₁) ?_ n
    ⟨0, m, s₂.heap, s₂.toks, rfl, Nat.zero_le _, rfl, F, hJ, st⟩ ht
  rintro k s' ⟨i, m₁, h₁, tk₁, rfl, hi, rfl, F₁, J₁, st₁⟩
  by_cases hlt : i < n
  · refine W.item i _ _ _ hlt st₁ fun v h₂ tk₂ hPv st₂ hk => ?_
    have F₂ := Fr.butOff F₁ hL h0 hk
    have J₂ := stab _ _ _ _ J₁ hk
    refine wpAny_mono (turn i v m₁ h₂ tk₂ hlt hPv J₂ st₂ F₂) (fun _ s₃ h₃ => wpAny_mono h₃ (fun f s₄ h₄ => ?_) fun _ _ x => (hE _ _ x).elim) fun _ _ x => (hE _ _ x).elim
    cases f with
    | brk => exact h₄
    | ret v => exact h₄
    | next =>
      obtain ⟨h', tk', m', rfl, F', J', S'⟩ := h₄
      exact ⟨n - (i + 1), by omega, i + 1, m', h', tk', rfl, hlt, rfl, F', J', S'⟩
    | cont =>
      obtain ⟨h', tk', m', rfl, F', J', S'⟩ := h₄
      exact ⟨n - (i + 1), by omega, i + 1, m', h', tk', rfl, hlt, rfl, F', J', S'⟩
  · have hin : i = n := by omega
    subst hin
    refine W.done _ _ _ st₁ fun h₂ tk₂ hk => ?_
    exact wpAny_execs_nil (done m₁ h₂ tk₂ (stab _ _ _ _ J₁ hk) (Fr.butOff F₁ hL h0 hk))
end
end Mine
end

section
open PySem PySem.W PySem.Calls PyProof.Rows
set_option maxRecDepth 100000
set_option maxHeartbeats 4000000
namespace Mine

/-- what a comprehension has put into its list behind n items -/
def Outs (p : Nat → Bool) (F : Nat → Heap → Value → Prop) (h : Heap) : Nat → List Value → Prop
  | 0, ys => ys = []
  | n + 1, ys => if p n = true then ∃ ys' y, ys = ys' ++ [y] ∧ Outs p F h n ys' ∧ F n h y else Outs p F h n ys
theorem Outs.keeps {p : Nat → Bool} {F : Nat → Heap → Value → Prop} {h h' : Heap} (mono : ∀ i v, F i h v → F i h' v) : ∀ {n : Nat} {ys : List Value}, Outs p F h n ys → Outs p F h' n ys
  | 0, _, x => x
  | n + 1, ys, x => by
    simp only [Outs] at x ⊢
    split
    · rename_i hp
      rw [if_pos hp] at x
      obtain ⟨ys', y, e, o, f⟩ := x
      exact ⟨ys', y, e, Outs.keeps mono o, mono _ _ f⟩
    · rename_i hp
      rw [if_neg hp] at x
      exact Outs.keeps mono x
theorem Outs.length {p : Nat → Bool} {F : Nat → Heap → Value → Prop} {h : Heap} : ∀ {n : Nat} {ys : List Value}, Outs p F h n ys → ys.length ≤ n
  | 0, _, x => by rw [show _ = [] from x]; exact Nat.le_refl _
  | n + 1, ys, x => by
    simp only [Outs] at x
    split at x
    · obtain ⟨ys', y, e, o, f⟩ := x
      have := Outs.length o
      rw [e, List.length_append, List.length_singleton]; omega
    · have := Outs.length x; omega

section
variable {prog : Program} {w : World} {A : Around} {E : Value → Shared → Prop} {env : Env}

def CompR (prog : Program) (w : World) (A : Around) (env : Env) (scope : Scope) (cl : List (Str × Addr)) (x : Str) (ifs : List PySem.Expr) (elt : PySem.Expr) (Q : Value → Shared → Prop) (it : Value) (s₂ : Shared) : Prop :=
  ∃ (I : Addr) (fp wr : List Addr) (n : Nat) (P : Nat → Value → Prop) (St : Nat → Heap → Prop) (p : Nat → Bool) (F : Nat → Heap → Value → Prop),
    it = .ref I ∧ Walks prog w A I fp wr n P St ∧ n ≤ 100000 ∧ St 0 s₂.heap ∧ (∀ b ∈ fp, b < s₂.heap.objs.size) ∧
    (∀ i h h' v, F i h v → KT h h' → F i h' v) ∧ (∀ i h, St i h → ∀ b ∈ wr, ∀ o, h.get? b = some o → ¬ TO o) ∧
    (∀ C i v h₃ tk₃ m₃, s₂.heap.objs.size ≤ C → i < n → P i v → h₃.Ns C m₃ → m₃ x = some v → (∀ b o, b ∉ wr → s₂.heap.get? b = some o → h₃.get? b = some o) →
      wpAny (model prog w) A (forIn ifs true fun c r => if r = true then do let ok ← isTrue c (compEnvC scope cl C env) (eval c (compEnvC scope cl C env)); pure (ForInStep.yield ok) else pure (ForInStep.yield r))
        (fun ok s₄ => ok = p i ∧ Keeps { s₂ with heap := h₃, toks := tk₃ } s₄ ∧ (ok = true → wpAny (model prog w) A (eval elt (compEnvC scope cl C env)) (fun y s₅ => F i s₅.heap y ∧ Keeps s₄ s₅) (fun _ _ => False) s₄)) (fun _ _ => False) { s₂ with heap := h₃, toks := tk₃ }) ∧
    (∀ D k h' tk ys, s₂.heap.objs.size ≤ D → h'.get? D = some (listOf ys.toArray k) → Outs p F h' n ys → (∀ b o, b ∉ wr → s₂.heap.get? b = some o → h'.get? b = some o) → Q (.ref D) { s₂ with heap := h', toks := tk })

theorem comp1 {s : Shared} {elt iter : PySem.Expr} {x : Str} {px : Pos} {ifs : List PySem.Expr} {scope : Scope} {cl : List (Str × Addr)} {pos : Pos} {Q : Value → Shared → Prop}
    (hclos : closureFor scope env = pure cl) (hcell : ∀ y ∈ scope.names, y.2 ≠ .cell) (hkind : scope.kind = .function)
    (hnames : ∀ y ∈ scope.names, y.2 = .local → scope.names.lookup y.1 = some .local) (hx : scope.names.lookup x = some .local)
    (h : wpAny (model prog w) A (eval iter env) (fun xv s₁ => wpAny (model prog w) A (pyIter xv) (fun it s₂ => CompR prog w A env scope cl x ifs elt Q it s₂) E s₁) E s)
    (hs : ∀ x, foldedSetIterable iter env x = pure x := by intro _; rfl) :
    wpAny (model prog w) A (eval (.ListComp elt [⟨.Name x px, iter, ifs, 0⟩] scope pos) env) Q E s := by
  rw [eval_ListComp]
  refine wpAny_comprehension_free (use := none) rfl hs hclos hkind hnames (wpAny_mono h (fun xv s₁ h₁ => wpAny_mono h₁ (fun it s₂ h₂ => ?_) fun _ _ e => e) fun _ _ e => e)
  obtain ⟨I, fp, wr, n, P, St, p, F, rfl, W, hsz, hst, hfp, mono, hit, turn, fin⟩ := h₂
  refine wpAny_newObj_type (wpAny_newFunctionEnv hcell (by intro y hy; simp at hy) (fun h₁ hns₁ hsb₁ => ?_) hkind)
  dsimp only at hns₁ hsb₁ ⊢
  generalize hH2 : s₂.heap.push { cls := .type "list", dict := none, data := .seq ([] : List Value).toArray } = H2 at hns₁ hsb₁ ⊢
  have hC : H2.objs.size = s₂.heap.objs.size + 1 := by rw [← hH2, Heap.size_push]
  generalize hCe : H2.objs.size = C at hns₁ hsb₁ hC ⊢
  have hDC : s₂.heap.objs.size ≠ C := by rw [hC]; exact Nat.ne_of_lt (Nat.lt_succ_self _)
  have hCle : s₂.heap.objs.size ≤ C := by rw [hC]; exact Nat.le_succ _
  have below : ∀ b o, s₂.heap.get? b = some o → b ≠ C ∧ b ≠ s₂.heap.objs.size := fun b o e => ⟨by rw [hC]; exact Nat.ne_of_lt (Nat.lt_succ_of_lt (Heap.lt_size e)), Nat.ne_of_lt (Heap.lt_size e)⟩
  have hDf : s₂.heap.objs.size ∉ fp := fun hm => Nat.lt_irrefl _ (hfp _ hm)
  have hCf : C ∉ fp := fun hm => absurd (hfp _ hm) (Nat.not_lt.mpr hCle)
  have hCw : C ∉ wr := fun hm => hCf (W.sub _ hm)
  have hDw : s₂.heap.objs.size ∉ wr := fun hm => hDf (W.sub _ hm)
  have old : ∀ b o, s₂.heap.get? b = some o → h₁.get? b = some o := fun b o e => hsb₁.extBut b o (below b o e).1 (Heap.get?_push_of_some _ (hH2 ▸ Heap.get?_push_of_some _ e))
  have hacc : h₁.get? s₂.heap.objs.size = some (listOf ([] : List Value).toArray 0) := hsb₁.extBut _ _ hDC (Heap.get?_push_of_some _ (hH2 ▸ Heap.get?_push_size _ rfl))
  have hst₁ : St 0 h₁ := W.frame _ _ _ hst fun b _ o e => old b o e
  have loop : ∀ tk, codeAny (model prog w) A (.compLoop (.ListComp elt [⟨.Name x px, iter, ifs, 0⟩] scope pos) 0 (.ref I) (.ref s₂.heap.objs.size) (compEnvC scope cl C env))
      (compPost (model prog w) A E none Q (.ref s₂.heap.objs.size) C) { s₂ with heap := h₁, toks := tk } := by
    intro tk
    refine codeAny_compLoop_tests (fun k s' => ∃ i h' tk' m' ys e, s' = { s₂ with heap := h', toks := tk' } ∧ i ≤ n ∧ k = n - i ∧ St i h' ∧ h'.get? s₂.heap.objs.size = some (listOf ys.toArray e) ∧ h'.Ns C m' ∧
      Outs p F h' i ys ∧ (∀ b o, b ∉ wr → s₂.heap.get? b = some o → h'.get? b = some o)) ?_ n ⟨0, h₁, tk, _, [], 0, rfl, Nat.zero_le _, rfl, hst₁, hacc, hns₁, rfl, fun b o _ e => old b o e⟩
    rintro k s' ⟨i, H, tk', m', ys, ep, rfl, hi, rfl, hst', hacc', hn', hO, hk⟩
    by_cases hlt : i < n
    · refine W.item i _ _ _ hlt hst' fun v h₂ tk₂ hPv hst₂ hk₂ => ?_
      obtain ⟨oC, eC, _, hoC, hdC, _⟩ := id (hn'.at' fun o e => hk₂ _ o hCw e)
      refine wpAny_assign_Name (wpAny_storeName_local (lookup_relabel_local hx) (hn'.at' fun o e => hk₂ _ o hCw e) (fun h₃ hn₃ hs₃ => ?_) (by simp [compEnvC, relabel, hkind]))
      have up₃ : ∀ b o, b ≠ C → b ∉ wr → H.get? b = some o → h₃.get? b = some o := fun b o hbC hbf e => hs₃.extBut b o hbC (hk₂ b o hbf e)
      have st₃ : St (i + 1) h₃ := W.frame _ _ _ hst₂ fun b hb o e => hs₃.extBut b o (fun q => hCf (by rw [show b = C from q] at hb; exact hb)) e
      have off₃ : ∀ b o, b ∉ wr → s₂.heap.get? b = some o → h₃.get? b = some o := fun b o hbf e => up₃ b o (below b o e).1 hbf (hk b o hbf e)
      have kt₃ : KT H h₃ := (KT.off (hit _ _ hst') hk₂).trans (KT.but hoC (not_TO_dict hdC) fun b o q e => hs₃.extBut b o q e)
      refine wpAny_mono (turn C i v h₃ _ _ hCle hlt hPv hn₃ (by simp) off₃) (fun ok s₄ h₄ => ?_) fun _ _ e => e.elim
      obtain ⟨rfl, ⟨h₄, tk₄, rfl, hk₄⟩, hel⟩ := h₄
      have acc₄ : h₄.get? s₂.heap.objs.size = some (listOf ys.toArray ep) := hk₄ _ _ (up₃ _ _ hDC hDw hacc')
      have kt₄ : KT H h₄ := kt₃.trans (KT.ext hk₄)
      have st₄ : St (i + 1) h₄ := W.frame _ _ _ st₃ fun b _ o e => hk₄ b o e
      have off₄ : ∀ b o, b ∉ wr → s₂.heap.get? b = some o → h₄.get? b = some o := fun b o hbf e => hk₄ b o (off₃ b o hbf e)
      cases hp : p i with
      | false =>
        simp only [Bool.false_eq_true, if_false]
        refine ⟨n - (i + 1), by omega, i + 1, h₄, tk₄, _, ys, ep, rfl, hlt, rfl, st₄, acc₄, hn₃.keeps hk₄, ?_, off₄⟩
        simp only [Outs, hp, Bool.false_eq_true, if_false]
        exact hO.keeps fun i v f => mono _ _ _ _ f kt₄
      | true =>
        simp only [if_true]
        refine wpAny_mono (hel hp) (fun y s₅ h₅ => ?_) fun _ _ e => e.elim
        obtain ⟨hF, h₅, tk₅, rfl, hk₅⟩ := h₅
        have acc₅ := hk₅ _ _ acc₄
        have hys := hO.length
        refine append_at (hsz := by simp only [List.size_toArray, sizeLine]; omega) acc₅ fun h₆ hs₆ hg₆ => ?_
        have kt₆ : KT h₅ h₆ := KT.but acc₅ not_TO_list fun b o q e => hs₆.extBut b o q e
        refine ⟨n - (i + 1), by omega, i + 1, h₆, tk₅, _, ys ++ [y], ep + 1, rfl, hlt, rfl, ?_, ?_, ((hn₃.keeps hk₄).keeps hk₅).sameBut hs₆ (Ne.symm hDC), ?_, ?_⟩
        · exact W.frame _ _ _ st₄ fun b hb o e => hs₆.extBut b o (fun q => hDf (by rw [show b = s₂.heap.objs.size from q] at hb; exact hb)) (hk₅ b o e)
        · rw [hg₆, List.push_toArray]
        · simp only [Outs, hp, if_true]
          exact ⟨ys, y, rfl, hO.keeps fun i v f => mono _ _ _ _ f (kt₄.trans ((KT.ext hk₅).trans kt₆)), mono _ _ _ _ hF kt₆⟩
        · exact fun b o hbf e => hs₆.extBut b o (below b o e).2 (hk₅ b o (off₄ b o hbf e))
    · have hin : i = n := by omega
      subst hin
      refine W.done _ _ _ hst' fun h₂ tk₂ hk₂ => ?_
      refine ⟨m', hn'.at' fun o e => hk₂ _ o hCw e, fun h₃ hs₃ => ?_⟩
      obtain ⟨oC, eC, _, hoC, hdC, _⟩ := id (hn'.at' fun o e => hk₂ _ o hCw e)
      refine fin s₂.heap.objs.size ep h₃ tk₂ ys (Nat.le_refl _) (hs₃.extBut _ _ hDC (hk₂ _ _ hDw hacc')) (hO.keeps fun i v f => mono _ _ _ _ f ((KT.off (hit _ _ hst') hk₂).trans (KT.but hoC (not_TO_dict hdC) fun b o q e => hs₃.extBut b o q e))) ?_
      exact fun b o hbf e => hs₃.extBut b o (below b o e).1 (hk₂ b o hbf (hk b o hbf e))
  exact codeAny_compStart_list (loop _) (W.self 0 _ _ _ hst₁ (loop _))
end
end Mine
end

section
open PySem PySem.W PySem.Calls PyProof.Rows
set_option maxRecDepth 100000
set_option maxHeartbeats 4000000
namespace Mine
section
variable {M : Model} {A : Around} {E : Value → Shared → Prop} {s : Shared} {K : Frag} {h₀ : Heap} {L : Addr} {m mg mb : Str → Option Value} {p : Program} {loose : List Str} {env : Env} {news : List (Addr × Obj)}
theorem nmL {x : Str} {pos : Pos} {v : Value} {Q : Value → Shared → Prop} (F : Fr h₀ env.locals s.heap m) (hv : m x = some v) (h : Q v s) (hk : env.scope.kind = .function) (hx : env.kindOf x = some .local) (hd : (x == ("__debug__" : Str)) = false) :
    wpAny M A (eval (.Name x pos) env) Q E s := wpAny_Name (wpAny_loadName_local hk hx F.ns hv h) hd
theorem nmC {x : Str} {pos : Pos} {c : Addr} {o : Obj} {v : Value} {Q : Value → Shared → Prop} (N : News h₀ L s.heap news) (hc : env.cells.lookup x = some c) (hm : (c, o) ∈ news) (hd : o.data = .cell (some v)) (h : Q v s)
    (hk : env.scope.kind = .function) (hx : env.kindOf x = some .cell) (hb : (x == ("__debug__" : Str)) = false) :
    wpAny M A (eval (.Name x pos) env) Q E s := wpAny_Name (wpAny_loadName_cell hk hx hc ⟨o, N.get hm, hd⟩ h) hb
theorem nmG {x : Str} {pos : Pos} {v : Value} {Q : Value → Shared → Prop} (F : Fr h₀ L s.heap m) (X : K.In h₀) (T : TopRead p loose mg mb h₀)
    (e : nsIn K mainGlobals x = some (some v)) (h : Q v s) (hg : env.globals = mainGlobals) (hk : env.scope.kind = .function) (hx : env.kindOf x = some .globalImplicit) (hd : (x == ("__debug__" : Str)) = false) :
    wpAny M A (eval (.Name x pos) env) Q E s :=
  Name_function_global hk hx (loadGlobal_global (env := env) (by rw [hg]; exact T.g.keeps F.keep) (mg_of X T.g e) h) hd
theorem nmB {x : Str} {pos : Pos} {v : Value} {Q : Value → Shared → Prop} (F : Fr h₀ L s.heap m) (X : K.In h₀) (T : TopRead p loose mg mb h₀)
    (e : nsIn K mainGlobals x = some none) (hv : bootBuiltins x = some v) (hn : x ≠ "__name__") (h : Q v s) (hg : env.globals = mainGlobals) (hbn : env.builtins = builtinsNs) (hk : env.scope.kind = .function) (hx : env.kindOf x = some .globalImplicit) (hd : (x == ("__debug__" : Str)) = false) :
    wpAny M A (eval (.Name x pos) env) Q E s :=
  Name_function_global hk hx (loadGlobal_builtin (env := env) (by rw [hg]; exact T.g.keeps F.keep) (mg_none_of X T.g e) (by rw [hbn]; exact T.b.keeps F.keep) ((T.builtins x hn).trans hv) h) hd
end
end Mine
end

section
open PySem PySem.W PySem.Calls PyProof.Rows PySem.SeqAt
set_option maxRecDepth 100000
set_option maxHeartbeats 4000000
namespace Mine

/-- an item: an int, told as a list of one; or (b) a tuple of ints -/
def KI (b : Bool) (h : Heap) (v : Value) (xs : List Int) : Prop := match b with
  | true => TI h v xs
  | false => ∃ k t, v = .int k t ∧ xs = [k]
theorem KI.keeps {b : Bool} {h h' : Heap} {v : Value} {xs : List Int} (x : KI b h v xs) (k : ∀ b o, h.get? b = some o → h'.get? b = some o) : KI b h' v xs := by
  cases b with
  | true => exact TI.keeps x k
  | false => exact x
theorem ints_inj : ∀ {vs : List Value} {xs ys : List Int}, IntsAre vs xs → IntsAre vs ys → xs = ys
  | _, _, _, .nil, .nil => rfl
  | _, _, _, .cons k t r, .cons _ _ r' => by rw [ints_inj r r']
theorem TI.inj {h : Heap} {v : Value} {xs ys : List Int} (x : TI h v xs) (y : TI h v ys) : xs = ys := by
  obtain ⟨a, vs, rfl, ho, hi⟩ := x
  obtain ⟨a', vs', e, ho', hi'⟩ := y
  cases e
  rw [ho] at ho'
  simp only [Option.some.injEq, Obj.mk.injEq, Data.seq.injEq, true_and, and_true] at ho'
  have : vs = vs' := by simpa using ho'
  subst this
  exact ints_inj hi hi'
theorem KI.inj {b : Bool} {h : Heap} {v : Value} {xs ys : List Int} (x : KI b h v xs) (y : KI b h v ys) : xs = ys := by
  cases b with
  | true => exact TI.inj x y
  | false => obtain ⟨k, t, rfl, rfl⟩ := x; obtain ⟨k', t', e, rfl⟩ := y; cases e; rfl
theorem items_of_ints (prog : Program) (w : World) : ∀ {vs : List Value} {xs : List Int}, IntsAre vs xs → ItemsAre (intKind prog w) xs vs
  | _, _, .nil => .nil
  | _, _, .cons k t r => .cons (by simp [intKind, Value.isInt]) (items_of_ints prog w r)
theorem key_of_TI (prog : Program) (w : World) {h : Heap} {a : Addr} {xs : List Int} (x : TI h (.ref a) xs) : IsTupleKey (intKind prog w) h xs a := by
  obtain ⟨a', vs, e, ho, hi⟩ := x
  cases e
  exact ⟨_, _, _, ho, rfl, rfl, items_of_ints prog w hi⟩
theorem KI.eqAt {b : Bool} {A : Around} {s : Shared} {u v : Value} {xs ys : List Int} (hu : A.units < cLine) (x : KI b s.heap u xs) (y : KI b s.heap v ys) : EqAt A s u v (decide (xs = ys)) := by
  intro prog w E Q h
  cases b with
  | true =>
    obtain ⟨a, us, rfl, ha⟩ := id x
    obtain ⟨c, vs, rfl, hc⟩ := id y
    exact wpAny_eqBool_tuple hu (key_of_TI prog w x) (key_of_TI prog w y) h
  | false =>
    obtain ⟨k, t, rfl, rfl⟩ := x
    obtain ⟨k', t', rfl, rfl⟩ := y
    refine eqB_int ?_
    simpa using h

inductive KIs (b : Bool) (h : Heap) : List Value → List (List Int) → Prop
  | nil : KIs b h [] []
  | cons {v xs vs xss} : KI b h v xs → KIs b h vs xss → KIs b h (v :: vs) (xs :: xss)
theorem KIs.keeps {b : Bool} {h h' : Heap} {vs : List Value} {xss : List (List Int)} (x : KIs b h vs xss) (k : ∀ b o, h.get? b = some o → h'.get? b = some o) : KIs b h' vs xss := by
  induction x with
  | nil => exact .nil
  | cons t _ ih => exact .cons (t.keeps k) ih
theorem KIs.length {b : Bool} {h : Heap} {vs : List Value} {xss : List (List Int)} (x : KIs b h vs xss) : vs.length = xss.length := by
  induction x with
  | nil => rfl
  | cons _ _ ih => simp [ih]
theorem KIs.snoc {b : Bool} {h : Heap} {vs : List Value} {xss : List (List Int)} (x : KIs b h vs xss) {v : Value} {xs : List Int} (y : KI b h v xs) : KIs b h (vs ++ [v]) (xss ++ [xs]) := by
  induction x with
  | nil => exact .cons y .nil
  | cons t _ ih => exact .cons t ih
theorem KIs.get {b : Bool} {h : Heap} {vs : List Value} {xss : List (List Int)} (x : KIs b h vs xss) : ∀ {i : Nat} {v : Value}, vs[i]? = some v → ∃ xs, xss[i]? = some xs ∧ KI b h v xs := by
  induction x with
  | nil => intro i v h; simp at h
  | cons t r ih =>
    intro i v hi
    cases i with
    | zero => simp at hi; subst hi; exact ⟨_, rfl, t⟩
    | succ i => exact ih (by simpa using hi)
theorem KIs.mem {b : Bool} {h : Heap} {vs : List Value} {xss : List (List Int)} (x : KIs b h vs xss) {v : Value} (hv : v ∈ vs) : ∃ xs, KI b h v xs := by
  induction x with
  | nil => simp at hv
  | cons t r ih =>
    rcases List.mem_cons.mp hv with rfl | hv
    · exact ⟨_, t⟩
    · exact ih hv

/-- is it the item told? -/
noncomputable def isKI (b : Bool) (h : Heap) (xs : List Int) (y : Value) : Bool := @decide (KI b h y xs) (Classical.propDecidable _)
theorem isKI_eq {b : Bool} {h : Heap} {y : Value} {xs ys : List Int} (hy : KI b h y ys) : isKI b h xs y = decide (ys = xs) := by
  unfold isKI
  by_cases e : ys = xs
  · subst e
    rw [decide_eq_true rfl]
    exact @decide_eq_true _ (Classical.propDecidable _) hy
  · rw [decide_eq_false e]
    exact @decide_eq_false _ (Classical.propDecidable _) fun q => e (hy.inj q)
theorem KIs.any {b : Bool} {h : Heap} {vs : List Value} {xss : List (List Int)} (x : KIs b h vs xss) (xs : List Int) : vs.any (isKI b h xs) = decide (xs ∈ xss) := by
  induction x with
  | nil => simp
  | @cons v ys vs xss t r ih =>
    rw [List.any_cons, ih, isKI_eq t]
    by_cases h1 : ys = xs
    · subst h1; simp
    · by_cases h2 : xs ∈ xss
      · simp [h2]
      · simp [h1, h2, Ne.symm h1]
section
variable {prog : Program} {w : World} {A : Around} {E : Value → Shared → Prop} {s : Shared} {b : Bool}
theorem KIs.allAt {vs : List Value} {xss : List (List Int)} (hu : A.units < cLine) (x : KIs b s.heap vs xss) {v : Value} {xs : List Int} (y : KI b s.heap v xs) : ∀ u, u ∈ vs.toArray → EqAt A s u v (isKI b s.heap xs u) := by
  intro u hu'
  obtain ⟨ys, hy⟩ := x.mem (by simpa using hu')
  rw [isKI_eq hy]
  exact KI.eqAt hu hy y

theorem notIn_KI {l : Addr} {vs : List Value} {xss : List (List Int)} {v : Value} {xs : List Int} {Q : Value → Shared → Prop} (hu : A.units + 1 < cLine) (hl : s.heap.IsList l vs.toArray) (x : KIs b s.heap vs xss) (y : KI b s.heap v xs)
    (h : Q (.bool (!decide (xs ∈ xss))) s) : wpAny (model prog w) A (compareOp .NotIn v (.ref l)) Q E s := by
  refine notIn_listAt (isKI b s.heap xs) hl (x.allAt (A := A.in1) hu y) ?_
  have : vs.toArray.any (isKI b s.heap xs) = decide (xs ∈ xss) := by rw [← x.any xs]; simp
  rw [this]; exact h

theorem index_KI {l : Addr} {vs : List Value} {xss : List (List Int)} {v : Value} {xs : List Int} {n : Nat} {Q : Value → Shared → Prop} (hu : A.units + 1 < cLine) (hl : s.heap.get? l = some (listOf vs.toArray n)) (x : KIs b s.heap vs xss) (y : KI b s.heap v xs)
    (hm : xs ∈ xss) (hz : vs.length ≤ 1000) (h : ∀ t tk, Q (.int (xss.idxOf xs : Nat) t) { s with toks := tk }) : wpAny (model prog w) A (call (.builtin "list.index") [.ref l, v]) Q E s := by
  have hlen := x.length
  have hj : xss.idxOf xs < xss.length := List.idxOf_lt_length_of_mem hm
  have at_ : ∀ (m : Nat) (hm' : m < vs.toArray.size), isKI b s.heap xs vs.toArray[m] = decide (xss[m]'(by simpa [hlen] using hm') = xs) := by
    intro m hm'
    obtain ⟨ys, e, hy⟩ := x.get (i := m) (v := vs.toArray[m]) (by simp at hm' ⊢)
    rw [isKI_eq hy]
    have : xss[m]'(by simpa [hlen] using hm') = ys := by
      rw [List.getElem?_eq_getElem (by simpa [hlen] using hm')] at e
      exact Option.some.inj e
    rw [this]
  refine call_meets F.slot_list_index ⟨_, hl, rfl⟩ F.entry_list_index (F.args_list_index_2 _ _) (list_indexAt l vs.toArray n none #[] v (isKI b s.heap xs) (xss.idxOf xs) (by simp; omega) (by omega) ?_ ?_) ?_
  · rw [at_ _ (by simp; omega)]
    exact decide_eq_true (List.getElem_idxOf hj)
  · intro m hm' hlt
    rw [at_ m hm']
    refine decide_eq_false fun q => ?_
    have h3 : m < xss.findIdx (· == xs) := hlt
    have h4 := List.not_of_lt_findIdx h3
    rw [q] at h4
    simp at h4
  · exact ⟨hl, x.allAt (A := A.in1) hu y, h _ _⟩
end
end Mine
end

section
open PySem PySem.W PySem.Calls PyProof.Rows
set_option maxRecDepth 100000
set_option maxHeartbeats 4000000
namespace Mine
section
variable {prog : Program} {w : World} {A : Around} {E : Value → Shared → Prop} {Q : Flow → Shared → Prop} {s : Shared} {env : Env} {h₀ : Heap} {target : PySem.Expr} {body : List Stmt} {m : Str → Option Value}

theorem range_small {a b : Int} (h1 : -1000000 ≤ a) (h2 : a ≤ 1000000) (h3 : -1000000 ≤ b) (h4 : b ≤ 1000000) : Builtin.Range.small a b 1 = true := by
  unfold Builtin.Range.small Builtin.Range.rangeFitsLong
  rw [rangeSize_one]
  simp only [Bool.and_eq_true, Bool.or_eq_true, decide_eq_true_eq, beq_iff_eq]
  have h5 : (if a < b then b - a else 0) = (if a < b then b - a else 0) := rfl
  generalize hz : (if a < b then b - a else 0) = z
  have h6 : -2000000 ≤ z ∧ z ≤ 2000000 := by rw [← hz]; split <;> omega
  refine ⟨⟨⟨⟨⟨by omega, by omega⟩, by omega, by omega⟩, by omega, by omega⟩, by omega, by omega⟩, ?_⟩
  right
  rw [if_pos (by decide)]
  simp only [Bool.and_eq_true, decide_eq_true_eq]
  omega
theorem TurnR.mono {Q : Flow → Shared → Prop} {h₀ : Heap} {L : Addr} {J : (Str → Option Value) → Heap → Prop} {S S' : Heap → Prop} {s : Shared} {f : Flow} {s' : Shared} (h : TurnR Q h₀ L J S s f s')
    (hS : ∀ m' h', Fr h₀ L h' m' → S h' → S' h') : TurnR Q h₀ L J S' s f s' := by
  cases f with
  | brk => exact h
  | ret v => exact h
  | next => obtain ⟨h', tk', m', e, F, J, x⟩ := h; exact ⟨h', tk', m', e, F, J, hS _ _ F x⟩
  | cont => obtain ⟨h', tk', m', e, F, J, x⟩ := h; exact ⟨h', tk', m', e, F, J, hS _ _ F x⟩

theorem list_loop {l : Addr} {vs : List Value} (hh : A.handled = none) (hl : h₀.IsList l vs.toArray) (F : Fr h₀ env.locals s.heap m) (J : Nat → (Str → Option Value) → Heap → Prop) (hJ : J 0 m s.heap)
    (ht : ∀ I v, letOwnedTupleGo target (.ref I) v = pure ())
    (stab : ∀ i m h h', J i m h → (∀ b o, b ≠ s.heap.objs.size → h.get? b = some o → h'.get? b = some o) → J i m h')
    (turn : ∀ i v m₁ h₁ tk₁ oI, vs[i]? = some v → h₁.get? s.heap.objs.size = some oI → J i m₁ h₁ → Fr h₀ env.locals h₁ m₁ →
      wpAny (model prog w) A (assign target env v) (fun _ s₁ => wpAny (model prog w) A (execs body env) (TurnR Q h₀ env.locals (J (i + 1)) (fun h' => h'.get? s.heap.objs.size = some oI) s) E s₁) E { s with heap := h₁, toks := tk₁ })
    (done : ∀ m' h' tk', J vs.length m' h' → Fr h₀ env.locals h' m' → Q .next { s with heap := h', toks := tk' }) :
    wpAny (model prog w) A (pyIter (.ref l)) (fun it s₂ => LoopR prog w A h₀ env target body Q E it s₂) E s := by
  have hls := hl.at fun o e => F.keep _ o e
  have hlt : l < h₀.objs.size := by obtain ⟨_, e, _⟩ := hl; exact Heap.lt_size e
  have hL : env.locals < s.heap.objs.size := F.ns.lt
  have hle : h₀.objs.size ≤ env.locals := F.above
  have hne : l ≠ s.heap.objs.size := Nat.ne_of_lt (Nat.lt_of_lt_of_le hlt (Nat.le_trans hle (Nat.le_of_lt hL)))
  refine wpAny_pyIter_list hls ⟨s.heap.objs.size, [s.heap.objs.size, l], [s.heap.objs.size], vs.toArray.size, _, _, J, m, rfl, ht _, Walks.list hh _ l hne vs.toArray,
    ⟨⟨_, Heap.get?_push_size _ rfl, rfl, rfl⟩, hls.at fun o e => Heap.get?_push_of_some _ e⟩, F.push _, stab _ _ _ _ hJ fun b o _ e => Heap.get?_push_of_some _ e, ?_, ?_, ?_, ?_, ?_⟩
  · exact fun hm => absurd (List.mem_singleton.mp hm) (Nat.ne_of_lt hL)
  · intro b hb; rw [List.mem_singleton.mp hb]; exact Heap.get?_none_of_le (Nat.le_trans hle (Nat.le_of_lt hL))
  · exact fun i m h h' j k => stab i m h h' j fun b o q e => k b o (fun hm => q (List.mem_singleton.mp hm)) e
  · rintro i v m₁ h₁ tk₁ hi hv j ⟨⟨oI, sI, sI2, sI3⟩, sI4⟩ F₁
    refine wpAny_mono (turn i v m₁ h₁ tk₁ oI (by simpa using hv) sI j F₁) (fun _ s₁ x => wpAny_mono x (fun f s₂ y => ?_) fun _ _ z => z) fun _ _ z => z
    exact TurnR.mono y fun m' h' F' x => ⟨⟨_, x, sI2, sI3⟩, hl.at fun o e => F'.keep _ o e⟩
  · intro m' h' tk' j F'
    exact done m' h' tk' (by simpa using j) F'

theorem list_loopN {l : Addr} {vs : List Value} {k : Nat} (hh : A.handled = none) (hl : s.heap.get? l = some (listOf vs.toArray k)) (F : Fr h₀ env.locals s.heap m) (J : Nat → (Str → Option Value) → Heap → Prop) (hJ : J 0 m s.heap)
    (ht : ∀ I v, letOwnedTupleGo target (.ref I) v = pure ())
    (stab : ∀ i m h h', J i m h → (∀ b o, b ≠ s.heap.objs.size → h.get? b = some o → h'.get? b = some o) → J i m h')
    (turn : ∀ i v m₁ h₁ tk₁ oI, vs[i]? = some v → h₁.get? s.heap.objs.size = some oI → h₁.get? l = some (listOf vs.toArray k) → J i m₁ h₁ → Fr h₀ env.locals h₁ m₁ →
      wpAny (model prog w) A (assign target env v) (fun _ s₁ => wpAny (model prog w) A (execs body env) (TurnR Q h₀ env.locals (J (i + 1)) (fun h' => h'.get? s.heap.objs.size = some oI ∧ h'.get? l = some (listOf vs.toArray k)) s) E s₁) E { s with heap := h₁, toks := tk₁ })
    (done : ∀ m' h' tk', J vs.length m' h' → Fr h₀ env.locals h' m' → Q .next { s with heap := h', toks := tk' }) :
    wpAny (model prog w) A (pyIter (.ref l)) (fun it s₂ => LoopR prog w A h₀ env target body Q E it s₂) E s := by
  have hls : s.heap.IsList l vs.toArray := ⟨_, hl, rfl, _, rfl⟩
  have hL : env.locals < s.heap.objs.size := F.ns.lt
  have hle : h₀.objs.size ≤ env.locals := F.above
  have hne : l ≠ s.heap.objs.size := Nat.ne_of_lt (Heap.lt_size hl)
  let J' : Nat → (Str → Option Value) → Heap → Prop := fun i m h => J i m h ∧ h.get? l = some (listOf vs.toArray k)
  refine wpAny_pyIter_list hls ⟨s.heap.objs.size, [s.heap.objs.size, l], [s.heap.objs.size], vs.toArray.size, _, _, J', m, rfl, ht _, Walks.list hh _ l hne vs.toArray,
    ⟨⟨_, Heap.get?_push_size _ rfl, rfl, rfl⟩, hls.at fun o e => Heap.get?_push_of_some _ e⟩, F.push _, ⟨stab _ _ _ _ hJ fun b o _ e => Heap.get?_push_of_some _ e, Heap.get?_push_of_some _ hl⟩, ?_, ?_, ?_, ?_, ?_⟩
  · exact fun hm => absurd (List.mem_singleton.mp hm) (Nat.ne_of_lt hL)
  · intro b hb; rw [List.mem_singleton.mp hb]; exact Heap.get?_none_of_le (Nat.le_trans hle (Nat.le_of_lt hL))
  · rintro i m h h' ⟨j, jl⟩ q
    exact ⟨stab i m h h' j fun b o n e => q b o (fun hm => n (List.mem_singleton.mp hm)) e, q _ _ (fun hm => hne (List.mem_singleton.mp hm)) jl⟩
  · rintro i v m₁ h₁ tk₁ hi hv ⟨j, jl⟩ ⟨⟨oI, sI, sI2, sI3⟩, sI4⟩ F₁
    refine wpAny_mono (turn i v m₁ h₁ tk₁ oI (by simpa using hv) sI jl j F₁) (fun _ s₁ x => wpAny_mono x (fun f s₂ y => ?_) fun _ _ z => z) fun _ _ z => z
    cases f with
    | brk => exact y
    | ret v => exact y
    | next => obtain ⟨h', tk', m', e, F, J, x1, x2⟩ := y; exact ⟨h', tk', m', e, F, ⟨J, x2⟩, ⟨⟨_, x1, sI2, sI3⟩, ⟨_, x2, rfl, _, rfl⟩⟩⟩
    | cont => obtain ⟨h', tk', m', e, F, J, x1, x2⟩ := y; exact ⟨h', tk', m', e, F, ⟨J, x2⟩, ⟨⟨_, x1, sI2, sI3⟩, ⟨_, x2, rfl, _, rfl⟩⟩⟩
  · rintro m' h' tk' ⟨j, _⟩ F'
    exact done m' h' tk' (by simpa using j) F'

theorem range_loop {r : Addr} {a b : Int} {t u v : Tok} {n : Nat} (hh : A.handled = none) (hr : IsRange s.heap r a b 1 t u v) (hn : b - a = n) (hsm : Builtin.Range.small a b 1 = true) (F : Fr h₀ env.locals s.heap m) (J : Nat → (Str → Option Value) → Heap → Prop) (hJ : J 0 m s.heap)
    (ht : ∀ I v, letOwnedTupleGo target (.ref I) v = pure ())
    (stab : ∀ i m h h', J i m h → (∀ b o, b ≠ s.heap.objs.size → h.get? b = some o → h'.get? b = some o) → J i m h')
    (turn : ∀ (i : Nat) tv m₁ h₁ tk₁ oI, i < n → h₁.get? s.heap.objs.size = some oI → J i m₁ h₁ → Fr h₀ env.locals h₁ m₁ →
      wpAny (model prog w) A (assign target env (.int (a + i) tv)) (fun _ s₁ => wpAny (model prog w) A (execs body env) (TurnR Q h₀ env.locals (J (i + 1)) (fun h' => h'.get? s.heap.objs.size = some oI) s) E s₁) E { s with heap := h₁, toks := tk₁ })
    (done : ∀ m' h' tk', J n m' h' → Fr h₀ env.locals h' m' → Q .next { s with heap := h', toks := tk' }) :
    wpAny (model prog w) A (pyIter (.ref r)) (fun it s₂ => LoopR prog w A h₀ env target body Q E it s₂) E s := by
  have hL : env.locals < s.heap.objs.size := F.ns.lt
  have hle : h₀.objs.size ≤ env.locals := F.above
  have hsz : Builtin.Range.rangeSize a b 1 = (n : Int) := by rw [rangeSize_one]; split <;> omega
  refine wpAny_pyIter_range hr hsm ⟨s.heap.objs.size, [s.heap.objs.size], [s.heap.objs.size], n, _, _, J, m, rfl, ht _, Walks.range hh _ a 1 n,
    (by show IsRangeIter _ _ _ _ _; rw [hsz]; simpa using Heap.get?_push_size _ rfl), F.push _, stab _ _ _ _ hJ fun b o _ e => Heap.get?_push_of_some _ e, ?_, ?_, ?_, ?_, done⟩
  · exact fun hm => absurd (List.mem_singleton.mp hm) (Nat.ne_of_lt hL)
  · intro b hb; rw [List.mem_singleton.mp hb]; exact Heap.get?_none_of_le (Nat.le_trans hle (Nat.le_of_lt hL))
  · exact fun i m h h' j k => stab i m h h' j fun b o q e => k b o (fun hm => q (List.mem_singleton.mp hm)) e
  · rintro i v m₁ h₁ tk₁ hi ⟨tv, rfl⟩ j st F₁
    rw [Int.mul_one]
    exact wpAny_mono (turn i tv m₁ h₁ tk₁ _ hi st j F₁) (fun _ s₁ x => wpAny_mono x (fun f s₂ y => TurnR.mono y fun m' h' F' x => x) fun _ _ z => z) fun _ _ z => z
end
end Mine
end

section
open PySem PySem.W PySem.Calls PyProof.Rows
set_option maxRecDepth 100000
set_option maxHeartbeats 8000000
namespace Mine
def dedStep (ks : List (List Int)) (d : List Int) : List (List Int) := ks ++ (if d ∈ ks then [] else [d])
def dedupL (ds : List (List Int)) : List (List Int) := ds.foldl dedStep []
def toldL (ds : List (List Int)) : List Int := ds.map fun d => ((dedupL ds).idxOf d : Nat)
theorem dedStep_in {ks : List (List Int)} {d : List Int} (h : d ∈ ks) : dedStep ks d = ks := by unfold dedStep; rw [if_pos h, List.append_nil]
theorem dedStep_out {ks : List (List Int)} {d : List Int} (h : ¬ d ∈ ks) : dedStep ks d = ks ++ [d] := by unfold dedStep; rw [if_neg h]
theorem ded_keep {d : List Int} : ∀ (ds ks : List (List Int)), d ∈ ks → d ∈ ds.foldl dedStep ks
  | [], _, h => h
  | e :: ds, ks, h => ded_keep ds _ (List.mem_append_left _ h)
theorem ded_has {d : List Int} : ∀ (ds ks : List (List Int)), d ∈ ds → d ∈ ds.foldl dedStep ks
  | [], _, h => by simp at h
  | e :: ds, ks, h => by
    rcases List.mem_cons.mp h with rfl | h
    · refine ded_keep ds _ ?_
      unfold dedStep
      by_cases q : d ∈ ks
      · exact List.mem_append_left _ q
      · simp [q]
    · exact ded_has ds _ h
theorem ded_len : ∀ (ds ks : List (List Int)), (ds.foldl dedStep ks).length ≤ ks.length + ds.length
  | [], _ => Nat.le_refl _
  | e :: ds, ks => by
    have h1 := ded_len ds (dedStep ks e)
    have h2 : (dedStep ks e).length ≤ ks.length + 1 := by unfold dedStep; split <;> simp
    simp only [List.foldl_cons, List.length_cons]; omega

theorem outs_ints {ds : List (List Int)} {g : List Int → Int} {h : Heap} : ∀ (n : Nat) (ys : List Value), n ≤ ds.length →
    Outs (fun _ => true) (fun i _ v => ∃ xs t, ds[i]? = some xs ∧ v = .int (g xs) t) h n ys → IntsAre ys ((ds.take n).map g)
  | 0, ys, _, o => by rw [show ys = [] from o]; exact .nil
  | n + 1, ys, hn, o => by
    simp only [Outs, if_true] at o
    obtain ⟨ys', y, rfl, o', xs, t, hx, rfl⟩ := o
    rw [List.take_add_one, hx]
    simp only [Option.toList_some, List.map_append, List.map_cons, List.map_nil]
    exact (outs_ints n ys' (by omega) o').append (.cons _ t .nil)

local macro_rules | `(tactic| walk_at "S") => `(tactic| repeat' (
  (fail_if_success (with_reducible show wpAny _ _ (exec (Stmt.While _ _ _ _) _) _ _ _));
  (fail_if_success (with_reducible show wpAny _ _ (exec (Stmt.For _ _ _ _ _) _) _ _ _));
  (fail_if_success (with_reducible show wpAny _ _ (eval (Expr.ListComp _ _ _ _) _) _ _ _));
  (fail_if_success (with_reducible show wpAny _ _ (call (Value.ref _) _ _) _ _ _));
  (first | (k_unfold; (try dsimp only)) | walk1 | (dsimp only; walk1) | fail "no step")))

local macro_rules | `(tactic| walk_at "eval Name") => `(tactic| (k_dflt (first
  | (refine' nmL ?F ?v ?_ ?a ?b ?c; (case F => k_asm); (case a => rfl); (case b => rfl); (case c => decide); (case v => first | exact rfl | assumption); k_whole)
  | (refine' nmC ?N ?c ?m ?d ?_ ?a ?b ?e; (case a => rfl); (case b => rfl); (case e => decide); (case N => k_asm); (case c => rfl); (case m => k_mem); (case d => k_asm); k_whole)
  | (refine' nmG ?F ?X ?T ?e ?_ ?g ?a ?b ?c; (case F => k_asm); (case X => k_asm); (case T => k_asm); (case g => rfl); (case a => rfl); (case b => rfl); (case c => decide); (case e => k_is); k_whole)
  | (refine' nmB ?F ?X ?T ?e ?v ?n ?_ ?g ?g2 ?a ?b ?c; (case F => k_asm); (case X => k_asm); (case T => k_asm); (case g => rfl); (case g2 => rfl); (case a => rfl); (case b => rfl); (case c => decide); (case e => k_is); (case v => boot_fast); (case n => decide); k_whole))))

theorem told_fn {w : World} {mean : ExcName → Option Value} {mg mb : Str → Option Value} {A : Around} {Q E : Value → Shared → Prop} {s : Shared} {l : Addr} {b : Bool} {vs : List Value} {ds : List (List Int)}
   (G : Gr w mean mg mb s.heap) (R : Room A 900 6000) (hl : s.heap.IsList l vs.toArray) (hI : KIs b s.heap vs ds) (hz : vs.length ≤ 60)
   (h : ∀ v h' tk, (∀ b o, s.heap.get? b = some o → h'.get? b = some o) → TI h' v (toldL ds) → Q v { s with heap := h', toks := tk }) :
   wpAny (model PySem.Challenge.rw_ge0001_01.row.prog w) A (call (.ref 56) [.ref l]) Q E s := by
  have KX := G.K
  revert KX
  k_fill
  intro KX
  k_dflt (refine' enterC G ?k6 ?k7 ?k8 ?k9 ?kB ?kD ?_ ?c2 ?c3 ?c4)
  case k6 => k_is
  case k7 => k_is
  case k8 => exact Nat.lt_of_le_of_lt R.hd (by decide)
  case k9 => (refine' kp_binds ?kx ?ke; (case kx => k_in); (case ke => exact fun _ => rfl))
  case kB => exact rfl
  case kD => decide +kernel
  case c2 => exact rfl
  case c3 => exact rfl
  case c4 => exact rfl
  intro h1 tk1 cells F' N' Y' X' T'
  k_cells Y'
  (try simp only [List.cons_append, List.nil_append] at N')
  (try dsimp only)
  (try k_unmd)
  k_fold
  walk_at "S"
  rename Fr _ _ _ _ => F1
  rename News _ _ _ _ => N1
  rename _ = Data.cell (some (Value.ref _)) => hc1
  rename s.heap.objs.size + 1 < _ => hk1
  rename_i l0 hA hB oc0
  have hlen := hI.length
  have z1 := N1 (l0, listOf #[] 0) (.head _)
  have z2 := N1 (s.heap.objs.size + 1, oc0) (.tail _ (.head _))
  refine for_rule (h₀ := s.heap) (fun _ _ x => x) ?_
  walk_at "S"
  have hlB := hl.at fun o e => F1.keep _ o e
  have hltB : l < s.heap.objs.size := by obtain ⟨_, e, _⟩ := hl; exact Heap.lt_size e
  have hBs : s.heap.objs.size + 1 < hB.objs.size := Heap.lt_size z2.1
  refine wpAny_pyIter_list hlB ?_
  dsimp only
  generalize hI0 : hB.objs.size = I0
  rw [hI0] at hBs
  have hne : l ≠ I0 := Nat.ne_of_lt (Nat.lt_trans hltB (Nat.lt_trans (Nat.lt_succ_self _) hBs))
  have nI0 : ∀ x o, hB.get? x = some o → x ≠ I0 := fun x o e => by have := Heap.lt_size e; rw [hI0] at this; exact Nat.ne_of_lt this
  refine ⟨I0, [I0, l], [I0], vs.toArray.size, _, _, fun i m h => ∃ (k : Nat) (ks : List Value) (oc : Obj), m (Str.ofString "row") = some (.ref l) ∧ h.get? (s.heap.objs.size + 1) = some oc ∧ oc.data = .cell (some (.ref k)) ∧ h.get? k = some (listOf ks.toArray 0) ∧
      s.heap.objs.size + 1 < k ∧ k ≠ I0 ∧ KIs b s.heap ks ((ds.take i).foldl dedStep []), _, rfl, fun _ => rfl, Walks.list (R.deeper _).hh I0 l hne vs.toArray,
      ⟨⟨_, by rw [← hI0]; exact Heap.get?_push_size _ rfl, rfl, rfl⟩, hlB.at fun o e => Heap.get?_push_of_some _ e⟩, F1.push _, ?_, ?_, ?_, ?_, ?_, ?_⟩
  · exact ⟨l0, [], oc0, rfl, Heap.get?_push_of_some _ z2.1, hc1, Heap.get?_push_of_some _ z1.1, hk1, nI0 _ _ z1.1, .nil⟩
  · intro hm
    have := List.mem_singleton.mp hm
    have e : s.heap.objs.size = I0 := this
    omega
  · intro b hb
    rw [List.mem_singleton.mp hb]
    exact Heap.get?_none_of_le (by omega)
  · rintro i m h h' ⟨k, ks, oc, a1, a2, a3, a4, a5, a6, a7⟩ hk
    exact ⟨k, ks, oc, a1, hk _ _ (fun q => by have e : @Eq Nat _ _ := List.mem_singleton.mp q; omega) a2, a3, hk _ _ (fun q => a6 (List.mem_singleton.mp q)) a4, a5, a6, a7⟩
  · rintro i v m₁ h₁ tk₁ hi hv ⟨k, ks, oc, a1, a2, a3, a4, a5, a6, a7⟩ ⟨⟨oI, sI, sI2, sI3⟩, sI4⟩ F2
    have hv' : vs[i]? = some v := by simpa using hv
    obtain ⟨xs, hx, kx⟩ := hI.get hv'
    have N2 : News s.heap s.heap.objs.size h₁ [(k, listOf ks.toArray 0), (s.heap.objs.size + 1, oc), (I0, oI)] := by
      intro p hp
      rcases List.mem_cons.mp hp with rfl | hp
      · exact ⟨a4, neN (by dsimp only; omega), Heap.get?_none_of_le (Nat.le_of_lt (Nat.lt_trans (Nat.lt_succ_self _) a5))⟩
      · rcases List.mem_cons.mp hp with rfl | hp
        · exact ⟨a2, neN (by dsimp only; omega), Heap.get?_none_of_le (by show _ ≤ s.heap.objs.size + 1; omega)⟩
        · rw [List.mem_singleton.mp hp]
          exact ⟨sI, neN (Nat.ne_of_gt (Nat.lt_trans (Nat.lt_succ_self _) hBs)), Heap.get?_none_of_le (by show _ ≤ I0; omega)⟩
    clear F1 N1
    walk_at "S"
    rename Fr _ _ _ _ => F3
    rename News _ _ _ _ => N3
    refine notIn_KI (by have := R.hu; show A.units + 3 + 1 < 9900; omega) (⟨_, (N3 (k, listOf ks.toArray 0) (.head _)).1, rfl, _, rfl⟩) (a7.keeps F3.keep) (kx.keeps F3.keep) ?_
    have hstep : (ds.take (i + 1)).foldl dedStep [] = dedStep ((ds.take i).foldl dedStep []) xs := by
      rw [List.take_add_one, hx]; simp
    walk_at "S"
    all_goals (
      have hks : ks.length ≤ 60 := by
        have h1 := a7.length
        have h2 := ded_len (ds.take i) []
        have h3 : (ds.take i).length ≤ ds.length := by rw [List.length_take]; omega
        simp only [List.length_nil] at h2
        omega
      rename Fr _ _ _ _ => F5
      rename News _ _ _ _ => N5
      refine add_lists (hsz := by simp only [List.length_nil, List.length_cons, sizeLine]; omega) F5 N5 ⟨_, (N5 (k, listOf ks.toArray 0) (.tail _ (.head _))).1, rfl, _, rfl⟩ ⟨_, (N5 _ (.head _)).1, rfl, _, rfl⟩ (fun h6 F6 N6 => ?_)
      have g1 := ltN (Heap.lt_size (N5 (k, listOf ks.toArray 0) (.tail _ (.head _))).1)
      have g2 := ltN (Heap.lt_size (N5 (I0, oI) (.tail _ (.tail _ (.tail _ (.head _))))).1)
      have g3 := ltN (Heap.lt_size (N5 (s.heap.objs.size + 1, oc) (.tail _ (.tail _ (.head _)))).1)
      have g4 := ltN (Heap.lt_size (N5 _ (.head _)).1)
      dsimp only at g1 g2 g3 g4 F6 N6 ⊢
      clear N5
      walk_at "S"
      rename Fr _ _ _ _ => F7
      rename News _ _ _ _ => N7
      rename _ = Data.cell (some (Value.ref _)) => hc7
      have y0 := N7 _ (.head _)
      have y1 := N7 (s.heap.objs.size + 1, _) (.tail _ (.tail _ (.tail _ (.head _))))
      have y2 := N7 (I0, oI) (.tail _ (.tail _ (.tail _ (.tail _ (.head _)))))
      refine TurnR.intro F7 ?_ ?_
      · refine ⟨_, _, _, a1, y1.1, hc7, y0.1, g3, Nat.ne_of_gt g2, ?_⟩
        rw [hstep]
        first
          | (rename xs ∈ _ => hm; rw [dedStep_in hm, List.append_nil]; exact a7)
          | (rename ¬ xs ∈ _ => hm; rw [dedStep_out hm]; exact a7.snoc kx)
      · exact ⟨⟨_, y2.1, sI2, sI3⟩, hl.at fun o e => F7.keep _ o e⟩)
  · rintro m' h' tk' ⟨k, ks, oc, a1, a2, a3, a4, a5, a6, a7⟩ F2
    have N2 : News s.heap s.heap.objs.size h' [(k, listOf ks.toArray 0), (s.heap.objs.size + 1, oc)] := by
      intro p hp
      rcases List.mem_cons.mp hp with rfl | hp
      · exact ⟨a4, neN (by dsimp only; omega), Heap.get?_none_of_le (Nat.le_of_lt (Nat.lt_trans (Nat.lt_succ_self _) a5))⟩
      · rw [List.mem_singleton.mp hp]
        exact ⟨a2, neN (by dsimp only; omega), Heap.get?_none_of_le (Nat.le_succ _)⟩
    have e7 : (ds.take vs.toArray.size).foldl dedStep [] = dedupL ds := by
      rw [List.size_toArray, hlen, List.take_length]; rfl
    rw [e7] at a7
    dsimp only
    walk_at "S"
    refine comp1 (cl := [(Str.ofString "kinds", s.heap.objs.size + 1)]) (by with_unfolding_all rfl) (by decide) rfl (by decide) (by with_unfolding_all rfl) ?_ (fun _ => rfl)
    walk_at "S"
    have hlC := hl.at fun o e => F2.keep _ o e
    refine wpAny_pyIter_list hlC ?_
    dsimp only
    have hCs : s.heap.objs.size + 1 < h'.objs.size := Heap.lt_size a2
    have kCs : k < h'.objs.size := Heap.lt_size a4
    generalize hI1 : h'.objs.size = I1
    rw [hI1] at hCs kCs
    have hne1 : l ≠ I1 := Nat.ne_of_lt (Nat.lt_trans hltB (Nat.lt_trans (Nat.lt_succ_self _) hCs))
    refine ⟨I1, [I1, l], [I1], vs.toArray.size, _, _, fun _ => true, fun i _ v => ∃ xs t, ds[i]? = some xs ∧ v = .int ((dedupL ds).idxOf xs : Nat) t, rfl, Walks.list (R.deeper _).hh I1 l hne1 vs.toArray, by simp only [List.size_toArray]; omega,
      ⟨⟨_, by rw [← hI1]; exact Heap.get?_push_size _ rfl, rfl, rfl⟩, hlC.at fun o e => Heap.get?_push_of_some _ e⟩, ?_, fun _ _ _ _ f _ => f, ?_, ?_, ?_⟩
    · intro b hb
      rw [Heap.size_push, hI1]
      rcases List.mem_cons.mp hb with rfl | hb
      · exact Nat.lt_succ_self _
      · rw [List.mem_singleton.mp hb]; exact Nat.lt_trans hltB (Nat.lt_trans (Nat.lt_succ_self _) (Nat.lt_trans hCs (Nat.lt_succ_self _)))
    · rintro i h ⟨⟨o', e1, e2, e3⟩, _⟩ b hb o e
      rw [List.mem_singleton.mp hb] at e
      rw [e1] at e
      cases e
      exact not_TO_cls (by rw [e2]; decide)
    · intro C i v h₃ tk₃ m₃ hC hi hv n3 m3 off
      refine wpAny_tests_nil ⟨rfl, ⟨_, _, rfl, fun _ _ e => e⟩, fun _ => ?_⟩
      have offB : ∀ b o, h'.get? b = some o → h₃.get? b = some o := fun b o e => off b o (fun hm => by have e1 := Heap.lt_size e; rw [hI1, List.mem_singleton.mp hm] at e1; exact Nat.lt_irrefl _ e1) (Heap.get?_push_of_some _ e)
      have FC : Fr s.heap C h₃ m₃ := ⟨n3, fun b o e => offB b o (F2.keep b o e), Nat.le_trans (Nat.le_of_lt (Nat.lt_trans (Nat.lt_succ_self _) hCs)) (Nat.le_trans (by rw [Heap.size_push, hI1]; exact Nat.le_succ _) hC)⟩
      have NC := N2.grown offB
      clear F2 N2
      have hv' : vs[i]? = some v := by simpa using hv
      obtain ⟨xs, hx, kx⟩ := hI.get hv'
      walk_at "S"
      refine index_KI (by have := R.hu; show A.units + 3 + 1 < 9900; omega) (NC (k, listOf ks.toArray 0) (.head _)).1 (a7.keeps FC.keep) (kx.keeps FC.keep) (ded_has ds [] (List.mem_of_getElem? hx)) ?_ fun t tk => ?_
      · have h1 := a7.length
        have h2 := ded_len ds []
        have h3 : (dedupL ds).length = (ds.foldl dedStep []).length := rfl
        simp only [List.length_nil] at h2
        omega
      · dsimp only [qk]
        exact ⟨⟨xs, t, hx, rfl⟩, _, _, rfl, fun _ _ e => e⟩
    · intro D kk h4 tk4 ys hD hg hO off
      have offB : ∀ b o, h'.get? b = some o → h4.get? b = some o := fun b o e => off b o (fun hm => by have e1 := Heap.lt_size e; rw [hI1, List.mem_singleton.mp hm] at e1; exact Nat.lt_irrefl _ e1) (Heap.get?_push_of_some _ e)
      have F3 := F2.keeps offB
      have N3 := N2.grown offB
      walk_at "S"
      have hy := outs_ints (g := fun xs => ((dedupL ds).idxOf xs : Nat)) vs.toArray.size ys (by simp only [List.size_toArray]; omega) hO
      have hyl := hO.length
      refine call_tuple_list (hsz := by simp only [List.size_toArray, sizeLine] at hyl ⊢; omega) ⟨_, hg, rfl, _, rfl⟩ fun h5 hk5 => ?_
      dsimp only [qk]
      refine h _ _ _ (fun b o e => Heap.get?_push_of_some _ (hk5 _ _ (F3.keep _ _ e))) ⟨_, ys, rfl, Heap.get?_push_size _ rfl, ?_⟩
      rw [List.size_toArray, hlen, List.take_length] at hy
      exact hy
end Mine
end

section
open PySem PySem.W PySem.Calls PyProof.Rows
set_option maxRecDepth 100000
set_option maxHeartbeats 8000000
namespace Mine
def lastI (l : List Int) : Int := l.getLast?.getD 0
def bellAcc (acc : List Int) (n : Int) : List Int := acc ++ [lastI acc + n]
def bellRow (row : List Int) : List Int := row.foldl bellAcc [lastI row]
def bellN : Nat → List Int
  | 0 => [1]
  | n + 1 => bellRow (bellN n)
theorem bellAcc_ne (acc : List Int) (n : Int) : bellAcc acc n ≠ [] := by unfold bellAcc; simp
theorem bellAcc_fold_ne : ∀ (row acc : List Int), acc ≠ [] → row.foldl bellAcc acc ≠ []
  | [], _, h => h
  | n :: row, acc, _ => bellAcc_fold_ne row _ (bellAcc_ne acc n)
theorem bellN_ne : ∀ n, bellN n ≠ []
  | 0 => by simp [bellN]
  | n + 1 => bellAcc_fold_ne _ _ (by simp)
theorem bellAcc_len : ∀ (row acc : List Int), (row.foldl bellAcc acc).length = acc.length + row.length
  | [], _ => rfl
  | n :: row, acc => by rw [List.foldl_cons, bellAcc_len row]; unfold bellAcc; simp; omega
theorem bellN_len : ∀ n, (bellN n).length = n + 1
  | 0 => rfl
  | n + 1 => by show (bellRow _).length = _; unfold bellRow; rw [bellAcc_len, bellN_len n]; simp; omega

theorem ints_last : ∀ {vs : List Value} {ns : List Int}, IntsAre vs ns → ns ≠ [] → ∃ t, vs.getLast? = some (.int (lastI ns) t)
  | _, _, .nil, h => absurd rfl h
  | _, _, .cons k t .nil, _ => ⟨t, rfl⟩
  | _, _, .cons k t (.cons k' t' r), _ => by
    obtain ⟨t2, e⟩ := ints_last (.cons k' t' r) (by simp)
    exact ⟨t2, by simpa [lastI] using e⟩
section
variable {prog : Program} {w : World} {A : Around} {E : Value → Shared → Prop} {s : Shared}
theorem bell_range {n : Int} {ta : Tok} {Q : Value → Shared → Prop} (h : ∀ r h' tk t u v, (∀ b o, s.heap.get? b = some o → h'.get? b = some o) → IsRange h' r 0 n 1 t u v → Q (.ref r) { s with heap := h', toks := tk }) :
    wpAny (model prog w) A (call (.type "range") [.int n ta]) Q E s :=
  call_range_1 (h _ _ _ _ _ _ (fun _ _ e => Heap.get?_push_of_some _ e) (IsRange.new _ _ _ _ _ _ _))
theorem item_last {value slice : PySem.Expr} {l : Addr} {vs : List Value} {u : Tok} {v : Value} {Q : Value → Shared → Prop}
    (hl : s.heap.IsList l vs.toArray) (hz : vs.length ≤ 1000) (hx : vs.getLast? = some v) (h : Q v s)
    (hs : subscripted slice false (.ref l) (.int (-1) u) = operate [.ref l, .int (-1) u] (getItem (.ref l) (.int (-1) u)) := by with_unfolding_all rfl) :
    wpAny (model prog w) A (subscriptTail value slice (.ref l) (.int (-1) u)) Q E s := by
  have hne : 0 < vs.length := by cases vs with | nil => simp at hx | cons _ _ => simp
  refine tail_any hl.typeIs slot_list_getitem.lookup (wpAny_getItem_list_neg hl (by decide) (by simp only [List.size_toArray]; omega) (by decide) ?_ h) hs
  have e : (-1 + (vs.toArray.size : Int)).toNat = vs.length - 1 := by simp only [List.size_toArray]; omega
  rw [e]
  rw [List.getLast?_eq_getElem?] at hx
  simpa using hx
end

local macro_rules | `(tactic| walk_at "S") => `(tactic| repeat' (
  (fail_if_success (with_reducible show wpAny _ _ (exec (Stmt.While _ _ _ _) _) _ _ _));
  (fail_if_success (with_reducible show wpAny _ _ (exec (Stmt.For _ _ _ _ _) _) _ _ _));
  (fail_if_success (with_reducible show wpAny _ _ (eval (Expr.ListComp _ _ _ _) _) _ _ _));
  (fail_if_success (with_reducible show wpAny _ _ (call (Value.type "range") _ _) _ _ _));
  (fail_if_success (with_reducible show wpAny _ _ (subscriptTail _ _ (Value.ref _) (Value.int _ _)) _ _ _));
  (fail_if_success (with_reducible show wpAny _ _ (pyIter _) _ _ _));
  (fail_if_success (with_reducible show wpAny _ _ (call (Value.builtin "list.append") _) _ _ _));
  (fail_if_success (with_reducible show wpAny _ _ (call (Value.ref _) _ _) _ _ _));
  (first | (k_unfold; (try dsimp only)) | walk1 | (dsimp only; walk1) | fail "no step")))
local macro_rules | `(tactic| walk_at "eval Name") => `(tactic| (k_dflt (first
  | (refine' nmL ?F ?v ?_ ?a ?b ?c; (case F => k_asm); (case a => rfl); (case b => rfl); (case c => decide); (case v => first | with_reducible assumption | exact rfl | assumption); k_whole)
  | (refine' nmC ?N ?c ?m ?d ?_ ?a ?b ?e; (case a => rfl); (case b => rfl); (case e => decide); (case N => k_asm); (case c => rfl); (case m => k_mem); (case d => k_asm); k_whole)
  | (refine' nmG ?F ?X ?T ?e ?_ ?g ?a ?b ?c; (case F => k_asm); (case X => k_asm); (case T => k_asm); (case g => rfl); (case a => rfl); (case b => rfl); (case c => decide); (case e => k_is); k_whole)
  | (refine' nmB ?F ?X ?T ?e ?v ?n ?_ ?g ?g2 ?a ?b ?c; (case F => k_asm); (case X => k_asm); (case T => k_asm); (case g => rfl); (case g2 => rfl); (case a => rfl); (case b => rfl); (case c => decide); (case e => k_is); (case v => boot_fast); (case n => decide); k_whole))))

theorem bell_fn {w : World} {mean : ExcName → Option Value} {mg mb : Str → Option Value} {A : Around} {Q E : Value → Shared → Prop} {s : Shared} {a : Int} {ta : Tok}
   (G : Gr w mean mg mb s.heap) (R : Room A 900 6000) (ha : 1 ≤ a) (ha5 : a ≤ 60)
   (h : ∀ t h' tk, (∀ b o, s.heap.get? b = some o → h'.get? b = some o) → Q (.int (lastI (bellN (a.toNat - 1))) t) { s with heap := h', toks := tk }) :
   wpAny (model PySem.Challenge.rw_ge0001_01.row.prog w) A (call (.ref 63) [.int a ta]) Q E s := by
    have KX := G.K
    revert KX
    k_fill
    intro KX
    k_dflt (refine' enter0 G ?k6 ?k7 ?k8 ?k9 ?kB ?_ ?c2 ?c3 ?c4 ?c5)
    case k6 => k_is
    case k7 => k_is
    case k8 => have := R.hd; show A.depth < 1000; omega
    case k9 => (refine' kp_binds ?kx ?ke; (case kx => k_in); (case ke => exact fun _ => rfl))
    case c5 => decide
    case kB => exact locs rfl
    case c2 => exact rfl
    case c3 => exact rfl
    case c4 => exact rfl
    intro h1 F' N' X' T'
    (try dsimp only)
    (try k_unmd)
    k_fold
    walk_at "S"
    rename Fr _ _ _ _ => F1
    rename News _ _ _ _ => N1
    refine for_rule (h₀ := s.heap) (fun _ _ x => x) ?_
    walk_at "S"
    rename_i l0 _ _ hB
    refine bell_range fun r2 hP tkP t2 u2 v2 up hr => ?_
    have z0 := N1 (l0, _) (.head _)
    have hfit : Builtin.Range.small 0 (a - 1) 1 = true := range_small (by omega) (by omega) (by omega) (by omega)
    have F2 := F1.keeps up
    have z1 : l0 < hP.objs.size := Heap.lt_size (up _ _ z0.1)
    clear F1 N1
    refine range_loop (R.deeper _).hh (n := a.toNat - 1) hr (by omega) hfit F2
      (fun i m h => ∃ (r k : Nat) (rs : List Value), m (Str.ofString "row") = some (.ref r) ∧ h.get? r = some (listOf rs.toArray k) ∧ r ≠ s.heap.objs.size ∧ s.heap.get? r = none ∧ r ≠ hP.objs.size ∧ IntsAre rs (bellN i))
      ⟨l0, 0, _, rfl, up _ _ z0.1, z0.2.1, z0.2.2, Nat.ne_of_lt z1, .cons 1 _ .nil⟩ (fun _ _ => rfl) ?_ ?_ ?_
    · rintro i m h h' ⟨r, k, rs, a1, a2, a3, a4, a5, a6⟩ hk
      exact ⟨r, k, rs, a1, hk _ _ a5 a2, a3, a4, a5, a6⟩
    · rintro i tv m₁ h₁ tk₁ oI hi hI ⟨r, k, rs, a1, a2, a3, a4, a5, a6⟩ F3
      have N3 : News s.heap s.heap.objs.size h₁ [(r, listOf rs.toArray k), (hP.objs.size, oI)] := by
        intro p hp
        rcases List.mem_cons.mp hp with rfl | hp
        · exact ⟨a2, a3, a4⟩
        · rw [List.mem_singleton.mp hp]
          exact ⟨hI, Nat.ne_of_gt F2.ns.lt, Heap.get?_none_of_le (Nat.le_trans F2.above (Nat.le_of_lt F2.ns.lt))⟩
      have hlen := a6.length
      rw [bellN_len] at hlen
      obtain ⟨tl, hlast⟩ := ints_last a6 (bellN_ne i)
      walk_at "S"
      rename Fr _ _ _ _ => F4
      rename News _ _ _ _ => N4
      refine item_last (vs := rs) ⟨_, (N4 (r, _) (.head _)).1, rfl, _, rfl⟩ (by omega) hlast ?_
      walk_at "S"
      rename Fr _ _ _ _ => F5
      rename News _ _ _ _ => N5
      refine for_rule (h₀ := s.heap) (fun _ _ x => x) ?_
      walk_at "S"
      rename_i l1 _ lts hC
      have y0 := N5 (l1, _) (.head _)
      have y1 := N5 (r, _) (.tail _ (.head _))
      have y2 := N5 (hP.objs.size, oI) (.tail _ (.tail _ (.head _)))
      have c0 : l1 ≠ hC.objs.size := Nat.ne_of_lt (Heap.lt_size y0.1)
      have c2 : hP.objs.size ≠ hC.objs.size := Nat.ne_of_lt (Heap.lt_size y2.1)
      have c1 : r ≠ hC.objs.size := Nat.ne_of_lt (Heap.lt_size y1.1)
      refine list_loopN (R.deeper _).hh y1.1 F5
        (fun i' m h => ∃ (b e : Nat) (as' : List Value), m (Str.ofString "after") = some (.ref b) ∧ h.get? b = some (listOf as'.toArray e) ∧ b ≠ s.heap.objs.size ∧ s.heap.get? b = none ∧ b ≠ hC.objs.size ∧ b ≠ hP.objs.size ∧ b ≠ r ∧
          IntsAre as' (((bellN i).take i').foldl bellAcc [lastI (bellN i)]) ∧ h.get? hP.objs.size = some oI)
        ⟨l1, 0, _, rfl, y0.1, y0.2.1, y0.2.2, c0, Nat.ne_of_gt lts.2, Nat.ne_of_gt lts.1, .cons _ _ .nil, y2.1⟩ (fun _ _ => rfl) ?_ ?_ ?_
      · rintro i' m h h' ⟨b, e, as', b1, b2, b3, b4, b5, b6, b7, b8, b9⟩ hk
        exact ⟨b, e, as', b1, hk _ _ b5 b2, b3, b4, b5, b6, b7, b8, hk _ _ c2 b9⟩
      · rintro i' v m₂ h₂ tk₂ oJ hv hJ hr2 ⟨b, e, as', b1, b2, b3, b4, b5, b6, b7, b8, b9⟩ F6
        obtain ⟨n, hn⟩ : ∃ n, (bellN i)[i']? = some n := by
          have h2 := List.getElem?_eq_some_iff.mp hv
          obtain ⟨h3, _⟩ := h2
          exact ⟨_, List.getElem?_eq_getElem (by rw [bellN_len]; omega)⟩
        obtain ⟨tv2, hv2⟩ := a6.get i' n hn
        rw [hv] at hv2
        cases hv2
        have N6 : News s.heap s.heap.objs.size h₂ [(b, listOf as'.toArray e), (r, listOf rs.toArray k), (hP.objs.size, oI), (hC.objs.size, oJ)] := by
          intro p hp
          rcases List.mem_cons.mp hp with rfl | hp
          · exact ⟨b2, b3, b4⟩
          · rcases List.mem_cons.mp hp with rfl | hp
            · exact ⟨hr2, a3, a4⟩
            · rcases List.mem_cons.mp hp with rfl | hp
              · exact ⟨b9, y2.2⟩
              · rw [List.mem_singleton.mp hp]
                exact ⟨hJ, Nat.ne_of_gt F5.ns.lt, Heap.get?_none_of_le (Nat.le_trans F5.above (Nat.le_of_lt F5.ns.lt))⟩
        have hlen2 := b8.length
        rw [bellAcc_len, List.length_take, bellN_len] at hlen2
        simp only [List.length_cons, List.length_nil] at hlen2
        obtain ⟨t3, hlast2⟩ := ints_last b8 (bellAcc_fold_ne _ _ (by simp))
        clear F5 N5
        walk_at "S"
        rename Fr _ _ _ _ => F7
        rename News _ _ _ _ => N7
        refine item_last (vs := as') ⟨_, (N7 (b, _) (.head _)).1, rfl, _, rfl⟩ (by omega) hlast2 ?_
        walk_at "S"
        rename Fr _ _ _ _ => F8
        rename News _ _ _ _ => N8
        have p0 := N8 (b, listOf as'.toArray e) (.head _)
        have p1 := N8 (r, listOf rs.toArray k) (.tail _ (.head _))
        have p2 := N8 (hP.objs.size, oI) (.tail _ (.tail _ (.head _)))
        have p3 := N8 (hC.objs.size, oJ) (.tail _ (.tail _ (.tail _ (.head _))))
        refine append_at (D := b) (hsz := by simp only [List.size_toArray, sizeLine]; omega) p0.1 fun h9 hs9 hg9 => ?_
        have F9 := F8.change hs9 p0.2.1 p0.2.2
        have q1 := hs9.extBut _ _ (neN (Ne.symm b7)) p1.1
        have q2 := hs9.extBut _ _ (neN (Ne.symm b6)) p2.1
        have q3 := hs9.extBut _ _ (neN (Ne.symm b5)) p3.1
        have N9 : News s.heap s.heap.objs.size h9 [] := News.nil
        clear F8 N8
        dsimp only
        walk_at "S"
        rename Fr _ _ _ _ => F8
        refine TurnR.intro F8 ?_ ?_
        · have q := hg9
          rw [List.push_toArray] at q
          refine ⟨b, e + 1, _, b1, q, b3, b4, b5, b6, b7, ?_, q2⟩
          rw [List.take_add_one, hn, List.foldl_append]
          exact b8.append (.cons _ _ .nil)
        · exact ⟨q3, q1⟩
      · rintro m2 h2 tk2 ⟨b, e, as', b1, b2, b3, b4, b5, b6, b7, b8, b9⟩ F6
        rw [show rs.length = (bellN i).length by rw [hlen, bellN_len], List.take_length] at b8
        have N6 : News s.heap s.heap.objs.size h2 [(b, listOf as'.toArray e), (hP.objs.size, oI)] := by
          intro p hp
          rcases List.mem_cons.mp hp with rfl | hp
          · exact ⟨b2, b3, b4⟩
          · rw [List.mem_singleton.mp hp]
            exact ⟨b9, y2.2⟩
        dsimp only
        clear F5 N5
        walk_at "S"
        rename Fr _ _ _ _ => F8
        rename News _ _ _ _ => N8
        refine TurnR.intro F8 ?_ ?_
        · exact ⟨b, e, as', rfl, (N8 (b, _) (.head _)).1, b3, b4, b6, b8⟩
        · exact (N8 (hP.objs.size, oI) (.tail _ (.head _))).1
    · rintro m' h' tk' ⟨r, k, rs, a1, a2, a3, a4, a5, a6⟩ F3
      have N3 : News s.heap s.heap.objs.size h' [(r, listOf rs.toArray k)] := by
        intro p hp
        rw [List.mem_singleton.mp hp]
        exact ⟨a2, a3, a4⟩
      have hlen := a6.length
      rw [bellN_len] at hlen
      obtain ⟨tl, hlast⟩ := ints_last a6 (bellN_ne _)
      dsimp only
      walk_at "S"
      refine item_last (vs := rs) ⟨_, (N3 (r, _) (.head _)).1, rfl, _, rfl⟩ (by omega) hlast ?_
      dsimp only [qk]
      exact h _ _ _ F3.keep
end Mine
end

section
open PySem PySem.W PySem.Calls PyProof.Rows PySem.SeqAt
set_option maxRecDepth 100000
set_option maxHeartbeats 4000000
namespace Mine

/-- a part of a key: an int or a text -/
abbrev MK := Sum Int Str
def MK.is : MK → Value → Bool
  | .inl n, v => Value.isInt n v
  | .inr x, v => Value.isStrOf x v
theorem MK.shape {k : MK} {v : Value} (h : k.is v = true) : (∃ n t, k = .inl n ∧ v = .int n t) ∨ ∃ x t, k = .inr x ∧ v = .str x t := by
  cases k with
  | inl n => obtain ⟨t, e⟩ := Value.isInt_shape h; exact .inl ⟨n, t, rfl, e⟩
  | inr x => obtain ⟨t, e⟩ := Value.isStrOf_shape h; exact .inr ⟨x, t, rfl, e⟩
def mixKind (prog : Program) (w : World) : KeyKind prog w MK where
  is := MK.is
  hash := fun k => match k with
    | .inl n => hashInt n
    | .inr x => hashStr w x
  inj := fun v a b ha hb => by
    rcases MK.shape ha with ⟨n, t, rfl, rfl⟩ | ⟨x, t, rfl, rfl⟩ <;> rcases MK.shape hb with ⟨n', t', rfl, e⟩ | ⟨x', t', rfl, e⟩ <;> cases e <;> rfl
  byValue := fun k v h => by
    rcases MK.shape h with ⟨n, t, rfl, rfl⟩ | ⟨x, t, rfl, rfl⟩ <;> rfl
  pyHash := fun hv h => by
    rcases MK.shape hv with ⟨n, t, rfl, rfl⟩ | ⟨x, t, rfl, rfl⟩
    · exact wpAny_pyHash_int h
    · exact wpAny_pyHash_str h
  eqBool := fun {A E s a b u v Q} hu hv h => by
    rcases MK.shape hu with ⟨n, t, rfl, rfl⟩ | ⟨x, t, rfl, rfl⟩ <;> rcases MK.shape hv with ⟨n', t', rfl, rfl⟩ | ⟨x', t', rfl, rfl⟩
    · refine wpAny_eqBool_int ?_
      have e : decide ((Sum.inl n : MK) = Sum.inl n') = (n == n') := by
        by_cases q : n = n'
        · subst q; simp
        · rw [decide_eq_false (fun e => q (by cases e; rfl)), beq_eq_false_iff_ne.mpr q]
      rw [← e]; exact h
    · exact EqAt.int_str _ _ _ _ prog w E Q (by simpa using h)
    · exact EqAt.str_int _ _ _ _ prog w E Q (by simpa using h)
    · refine wpAny_eqBool_str ?_
      simpa using h
  «strs» := fun k x t v h => by
    rcases MK.shape h with ⟨n, t, rfl, e⟩ | ⟨x', t', rfl, e⟩
    · cases e
    · cases e
      cases v <;> rfl

/-- the key of a number of lots -/
def keyL (k : Int) : List MK := [.inr (Str.ofString "lots"), .inl k, .inr (Str.ofString "way")]
theorem keyL_inj {a b : Int} (h : keyL a = keyL b) : a = b := by simpa [keyL] using h

section
variable {prog : Program} {w : World} {A : Around} {E : Value → Shared → Prop} {s : Shared}

theorem values_call {d : Addr} {o : Obj} {es : Array DictEntry} {ep : Nat} {Q : Value → Shared → Prop} (lo : (d == sysModules) = false) (ho : s.heap.get? d = some o) (hc : o.cls = .type "dict") (hd : o.data = .dict es ep)
    (h : Q (.ref s.heap.objs.size) { s with heap := s.heap.push { cls := .type "dict_values", data := .fields #[.ref d] } }) : wpAny (model prog w) A (call (.builtin "dict.values") [.ref d]) Q E s := by
  have hT : s.TypeIs (.ref d) "dict" := ⟨o, ho, hc⟩
  refine wpAny_call_entry PySem.F.slot_dict_values hT PySem.F.entry_dict_values ?_ (PySem.F.args_dict_values_1 _)
  refine wpAny_bind ?_
  unfold Builtin.Dict.noArgs
  refine wpAny_bind (wpAny_notOrdered_dict hT ?_)
  show wpAny _ _ (pure d) _ _ s
  refine wpAny_pure ?_
  show wpAny _ _ (Builtin.Dict.showsAll d >>= _) _ _ s
  unfold Builtin.Dict.showsAll
  rw [if_neg (by rw [lo]; exact Bool.false_ne_true)]
  refine wpAny_bind (wpAny_pure ?_)
  exact wpAny_bind (wpAny_newObj_type (wpAny_pure ⟨_, rfl, h⟩))

theorem items_call {d : Addr} {o : Obj} {es : Array DictEntry} {ep : Nat} {Q : Value → Shared → Prop} (lo : (d == sysModules) = false) (ho : s.heap.get? d = some o) (hc : o.cls = .type "dict") (hd : o.data = .dict es ep)
    (h : Q (.ref s.heap.objs.size) { s with heap := s.heap.push { cls := .type "dict_items", data := .fields #[.ref d] } }) : wpAny (model prog w) A (call (.builtin "dict.items") [.ref d]) Q E s := by
  have hT : s.TypeIs (.ref d) "dict" := ⟨o, ho, hc⟩
  refine wpAny_call_entry PySem.F.slot_dict_items hT PySem.F.entry_dict_items ?_ (PySem.F.args_dict_items_1 _)
  unfold Builtin.«dict.items»
  refine wpAny_bind ?_
  unfold Builtin.Dict.noArgs
  refine wpAny_bind (wpAny_notOrdered_dict hT ?_)
  show wpAny _ _ (pure d) _ _ s
  refine wpAny_pure ?_
  show wpAny _ _ (Builtin.Dict.showsAll d >>= _) _ _ s
  unfold Builtin.Dict.showsAll
  rw [if_neg (by rw [lo]; exact Bool.false_ne_true)]
  refine wpAny_bind (wpAny_pure ?_)
  exact wpAny_bind (wpAny_newObj_type (wpAny_pure ⟨_, rfl, h⟩))

theorem values_iter {v d : Addr} {o : Obj} {es : Array DictEntry} {ep : Nat} {Q : Value → Shared → Prop} (hv : s.heap.IsValuesView v d) (ho : s.heap.get? d = some o) (hdat : o.data = .dict es ep)
    (hQ : Q (.ref s.heap.objs.size) { s with heap := s.heap.push { cls := .type "dict_valueiterator", data := .fields #[.ref d, .int 0 0, .int es.size 0, .int ep 0] } }) :
    wpAny (model prog w) A (pyIter (.ref v)) Q E s := by
  obtain ⟨ov, hov, hcv, hdv⟩ := id hv
  refine wpAny_pyIter_slot hv.typeIs PySem.F.slot_dict_values_iter (wpAny_call_entry PySem.F.slot_dict_values_iter hv.typeIs PySem.F.entry_dict_values_iter ?_ (PySem.F.args_dict_values_iter_1 _))
  unfold Builtin.«dict_values.__iter__»
  refine wpAny_bind (wpAny_pure ?_)
  refine wpAny_bind ?_
  unfold Builtin.Dict_items.dictOf
  refine wpAny_bind (wpAny_field hov hdv (x := .ref d) rfl (wpAny_pure ?_))
  refine wpAny_bind ?_
  unfold Builtin.Dict_items.newIterator
  refine wpAny_bind (wpAny_dictEntries ho hdat ?_)
  refine wpAny_bind (wpAny_dictEpoch ho hdat ?_)
  have hown : Builtin.Dict_items.ownsTuple "dict_valueiterator" = false := by decide
  simp only [hown, Bool.false_eq_true, if_false]
  refine wpAny_newObj_type (wpAny_pure ⟨_, rfl, "dict_valueiterator", _, ⟨_, Heap.get?_push_size _ rfl, rfl⟩, PySem.F.slot_dict_valueiterator_next.lookup, ?_⟩)
  simpa [rawInt] using hQ

theorem items_iter {v d : Addr} {o : Obj} {es : Array DictEntry} {ep : Nat} {Q : Value → Shared → Prop} (hv : s.heap.IsItemsView v d) (ho : s.heap.get? d = some o) (hdat : o.data = .dict es ep)
    (hQ : Q (.ref s.heap.objs.size) { s with heap := s.heap.push { cls := .type "dict_itemiterator", data := .fields #[.none, .bool false, .ref d, .int 0 0, .int es.size 0, .int ep 0, .none, .none] } }) :
    wpAny (model prog w) A (pyIter (.ref v)) Q E s := by
  obtain ⟨ov, hov, hcv, hdv⟩ := id hv
  refine wpAny_pyIter_slot hv.typeIs PySem.F.slot_dict_items_iter (wpAny_call_entry PySem.F.slot_dict_items_iter hv.typeIs PySem.F.entry_dict_items_iter ?_ (PySem.F.args_dict_items_iter_1 _))
  unfold Builtin.«dict_items.__iter__»
  refine wpAny_bind (wpAny_pure ?_)
  refine wpAny_bind ?_
  unfold Builtin.Dict_items.dictOf
  refine wpAny_bind (wpAny_field hov hdv (x := .ref d) rfl (wpAny_pure ?_))
  refine wpAny_bind ?_
  unfold Builtin.Dict_items.newIterator
  refine wpAny_bind (wpAny_dictEntries ho hdat ?_)
  refine wpAny_bind (wpAny_dictEpoch ho hdat ?_)
  have hown : Builtin.Dict_items.ownsTuple "dict_itemiterator" = true := by decide
  simp only [hown, if_true]
  refine wpAny_newObj_type (wpAny_pure ⟨_, rfl, "dict_itemiterator", _, ⟨_, Heap.get?_push_size _ rfl, rfl⟩, PySem.F.slot_dict_itemiterator_next.lookup, ?_⟩)
    (by simp only [sizeOk, Builtin.Dict_items.ownedTupleFields, List.size_toArray, List.length_append, List.length_cons, List.length_nil, sizeLine_eq]; omega)
  simpa [rawInt, Builtin.Dict_items.ownedTupleFields] using hQ

theorem values_next {it d : Addr} {od : Obj} {es : Array DictEntry} {i ep : Nat} {Q : Option Value → Shared → Prop} (hit : s.heap.IsValIter it d i es.size ep)
    (hod : s.heap.get? d = some od) (hdd : od.data = .dict es ep) (hi : i < es.size)
    (hQ : ∀ h', h'.IsValIter it d (i + 1) es.size ep → Heap.SameBut it s.heap h' → Q (some es[i].val) { s with heap := h' }) :
    wpAny (model prog w) A (pyNext (.ref it)) Q E s := by
  obtain ⟨o, ho, hc, hd⟩ := id hit
  unfold pyNext
  refine wpAny_bind (wpAny_attempt (wpAny_callSpecial?_slot (name := Str.ofString "__next__") hit.typeIs PySem.F.slot_dict_valueiterator_next
    (wpAny_call_entry PySem.F.slot_dict_valueiterator_next hit.typeIs PySem.F.entry_dict_valueiterator_next ?_ (PySem.F.args_dict_valueiterator_next_1 _))))
  refine wpAny_bind (wpAny_pure (wpAny_bind (wpAny_bind ?_)))
  refine wpAny_bind (wpAny_typeNameOfWhole_valiter hit.typeIs (wpAny_pure ?_))
  refine wpAny_bind (wpAny_fieldsOf ho hd ?_)
  have hown : Builtin.Dict_items.ownsTuple "dict_valueiterator" = false := by decide
  simp only [hown, Bool.false_eq_true, if_false]
  show wpAny _ _ (if (Value.ref d == Value.none) = true then _ else _) _ _ s
  rw [if_neg (show ¬ ((Value.ref d == Value.none) = true) from Bool.false_ne_true)]
  refine wpAny_bind (wpAny_pure ?_)
  refine wpAny_bind (wpAny_dictEntries hod hdd ?_)
  rw [if_neg (by simp)]
  refine wpAny_bind (wpAny_pure ?_)
  refine wpAny_bind (wpAny_dictEpoch hod hdd ?_)
  rw [if_neg (by simp)]
  refine wpAny_pure ?_
  simp only [show ¬ ((i : Int) < 0) from by omega, if_false, Int.toNat_natCast, Array.getElem?_eq_getElem hi]
  refine wpAny_bind ?_
  refine wpAny_bind (wpAny_typeNameOfWhole_valiter hit.typeIs (wpAny_pure ?_))
  refine wpAny_bind (wpAny_isOneOf_valiter hit.typeIs ?_)
  show wpAny _ _ (setField (.ref it) 1 (rawInt ((i : Int) + 1)) >>= _) _ _ s
  refine wpAny_bind (wpAny_setField ho hd (by simp) ?_)
  have hit' : (s.heap.update it (Obj.mapFields (·.setIfInBounds 1 (rawInt ((i : Int) + 1))))).IsValIter it d (i + 1) es.size ep :=
    ⟨_, Heap.get?_update_self _ ho (Obj.isFreed_of_fields (Obj.data_mapFields hd _)), (Obj.cls_mapFields ..).trans hc, by rw [Obj.data_mapFields hd]; simp [rawInt]⟩
  refine wpAny_bind (wpAny_holding ?_)
  refine wpAny_bind (wpAny_isOneOf_valiter (s := { s with heap := s.heap.update it (Obj.mapFields (·.setIfInBounds 1 (rawInt ((i : Int) + 1)))) }) hit'.typeIs ?_)
  refine wpAny_bind (wpAny_isOneOf_valiter (s := { s with heap := s.heap.update it (Obj.mapFields (·.setIfInBounds 1 (rawInt ((i : Int) + 1)))) }) hit'.typeIs ?_)
  show wpAny _ _ (pure es[i].val) _ _ _
  exact wpAny_pure (wpAny_pure ⟨_, rfl, wpAny_pure (hQ _ hit' (Heap.SameBut.update ..))⟩)

theorem values_end {it d : Addr} {od : Obj} {es : Array DictEntry} {ep : Nat} {Q : Option Value → Shared → Prop} (hh : A.handled = none) (hit : s.heap.IsValIter it d es.size es.size ep)
    (hod : s.heap.get? d = some od) (hdd : od.data = .dict es ep)
    (hQ : ∀ h', Heap.ExtBut it s.heap h' → Q none { s with heap := h' }) : wpAny (model prog w) A (pyNext (.ref it)) Q E s := by
  obtain ⟨o, ho, hc, hd⟩ := id hit
  unfold pyNext
  refine wpAny_bind (wpAny_attempt (wpAny_callSpecial?_slot (name := Str.ofString "__next__") hit.typeIs PySem.F.slot_dict_valueiterator_next
    (wpAny_call_entry PySem.F.slot_dict_valueiterator_next hit.typeIs PySem.F.entry_dict_valueiterator_next ?_ (PySem.F.args_dict_valueiterator_next_1 _))))
  refine wpAny_bind (wpAny_pure (wpAny_bind (wpAny_bind ?_)))
  refine wpAny_bind (wpAny_typeNameOfWhole_valiter hit.typeIs (wpAny_pure ?_))
  refine wpAny_bind (wpAny_fieldsOf ho hd ?_)
  have hown : Builtin.Dict_items.ownsTuple "dict_valueiterator" = false := by decide
  simp only [hown, Bool.false_eq_true, if_false]
  show wpAny _ _ (if (Value.ref d == Value.none) = true then _ else _) _ _ s
  rw [if_neg (show ¬ ((Value.ref d == Value.none) = true) from Bool.false_ne_true)]
  refine wpAny_bind (wpAny_pure ?_)
  refine wpAny_bind (wpAny_dictEntries hod hdd ?_)
  rw [if_neg (by simp)]
  refine wpAny_bind (wpAny_pure ?_)
  refine wpAny_bind (wpAny_dictEpoch hod hdd ?_)
  rw [if_neg (by simp)]
  refine wpAny_pure ?_
  simp only [show ¬ ((es.size : Int) < 0) from by omega, if_false, Int.toNat_natCast, Array.getElem?_eq_none (Nat.le_refl es.size)]
  refine wpAny_bind ?_
  refine wpAny_bind (wpAny_typeNameOfWhole_valiter hit.typeIs (wpAny_pure ?_))
  show wpAny _ _ (setField (.ref it) 0 .none >>= _) _ _ s
  refine wpAny_bind (wpAny_setField ho hd (by simp) ?_)
  show wpAny _ _ (newExc (.type "StopIteration") [] >>= _) _ _ _
  refine wpAny_bind ?_
  simp only [newExc, newTuple]
  refine wpAny_bind (wpAny_newObj_type ?_ (by size_fits))
  refine wpAny_bind (m := firstArgMember _ _) (wpAny_of_eq (a := Value.none) (by first | rfl | (simp only [firstArgMember]; rfl)) ?_)
  refine wpAny_newObj_type ?_ (by size_fits)
  simp only [raiseNew]
  refine wpAny_bind (wpAny_handled ?_)
  rw [show A.in1.handled = none from hh]
  refine wpAny_bind (wpAny_pure (wpAny_throw ?_))
  refine wpAny_bind (wpAny_isInstance (T := "StopIteration") (b := true) ⟨_, Heap.get?_push_size _ rfl, rfl⟩ isSubtype_stop ?_)
  exact wpAny_pure (hQ _ (((Heap.SameBut.update ..).extBut.push _).push _))

theorem items_next {it d : Addr} {od : Obj} {es : Array DictEntry} {i ep : Nat} {ok ov : Value} {Q : Option Value → Shared → Prop} (hit : IsItemIter s.heap it d i es.size ep ok ov)
    (hod : s.heap.get? d = some od) (hdd : od.data = .dict es ep) (hi : i < es.size)
    (hQ : ∀ h', IsItemIterOut h' it d (i + 1) es.size ep es[i].key es[i].val s.heap.objs.size →
      h'.get? s.heap.objs.size = some { cls := .type "tuple", data := .seq #[es[i].key, es[i].val] } →
      (∀ b o, b ≠ it → s.heap.get? b = some o → h'.get? b = some o) → Q (some (.ref s.heap.objs.size)) { s with heap := h' }) :
    wpAny (model prog w) A (pyNext (.ref it)) Q E s := by
  obtain ⟨hp, g, dr, tk, os⟩ := s
  have hT : Shared.TypeIs ⟨hp, g, dr, tk, os⟩ (.ref it) "dict_itemiterator" := ⟨_, hit, rfl⟩
  unfold pyNext
  refine wpAny_bind (wpAny_attempt (wpAny_callSpecial?_slot (name := Str.ofString "__next__") hT PySem.F.slot_dict_itemiterator_next
    (wpAny_call_entry PySem.F.slot_dict_itemiterator_next hT PySem.F.entry_dict_itemiterator_next ?_ (PySem.F.args_dict_itemiterator_next_1 _))))
  refine wpAny_bind (wpAny_pure (wpAny_bind (wpAny_bind ?_)))
  refine wpAny_bind (wpAny_typeNameOfWhole_itemiter hT (wpAny_pure ?_))
  refine wpAny_bind (wpAny_fieldsOf hit rfl ?_)
  have hown : Builtin.Dict_items.ownsTuple "dict_itemiterator" = true := by decide
  simp only [hown, if_true]
  show wpAny _ _ (if (Value.ref d == Value.none) = true then _ else _) _ _ _
  rw [if_neg (show ¬ ((Value.ref d == Value.none) = true) from Bool.false_ne_true)]
  refine wpAny_bind (wpAny_pure ?_)
  refine wpAny_bind (wpAny_dictEntries hod hdd ?_)
  rw [if_neg (by simp)]
  refine wpAny_bind (wpAny_pure ?_)
  refine wpAny_bind (wpAny_dictEpoch hod hdd ?_)
  rw [if_neg (by simp)]
  refine wpAny_pure ?_
  simp only [show ¬ ((i : Int) < 0) from by omega, if_false, Int.toNat_natCast, Array.getElem?_eq_getElem hi]
  refine wpAny_bind ?_
  refine wpAny_bind (wpAny_typeNameOfWhole_itemiter hT (wpAny_pure ?_))
  refine wpAny_bind (wpAny_isOneOf_itemiter hT ?_)
  show wpAny _ _ (setField (.ref it) 3 (rawInt ((i : Int) + 1)) >>= _) _ _ ⟨hp, g, dr, tk, os⟩
  refine wpAny_bind (wpAny_setField_rec hit (by simp) fun h₁ he₁ hs₁ => ?_)
  replace hs₁ : Heap.SameBut it hp h₁ := hs₁
  replace he₁ : IsItemIter h₁ it d (i + 1) es.size ep ok ov := by
    have e : ((i + 1 : Nat) : Int) = (i : Int) + 1 := by omega
    unfold IsItemIter; rw [e]; simpa [rawInt] using he₁
  have hT₁ : Shared.TypeIs ⟨h₁, g, dr, tk, os⟩ (.ref it) "dict_itemiterator" := ⟨_, he₁, rfl⟩
  refine wpAny_bind (wpAny_holding ?_)
  refine wpAny_bind (wpAny_isOneOf_itemiter hT₁ ?_)
  refine wpAny_bind (wpAny_isOneOf_itemiter hT₁ ?_)
  show wpAny _ _ (Builtin.Dict_items.pairFromOwner (.ref it) 6 es[i].key es[i].val) _ _ ⟨h₁, g, dr, tk, os⟩
  unfold Builtin.Dict_items.pairFromOwner
  refine wpAny_bind (wpAny_newTuple ?_)
  have hz₁ : h₁.objs.size = hp.objs.size := hs₁.1
  have hil : it < hp.objs.size := Heap.lt_size hit
  have he₂ : IsItemIter (h₁.push { cls := .type "tuple", data := .seq #[es[i].key, es[i].val] }) it d (i + 1) es.size ep ok ov := Heap.get?_push_of_some _ he₁
  generalize hh₂ : h₁.push { cls := .type "tuple", data := .seq #[es[i].key, es[i].val] } = h₂ at he₂
  have ht₂ : h₂.get? hp.objs.size = some { cls := .type "tuple", data := .seq #[es[i].key, es[i].val] } := by rw [← hh₂, ← hz₁]; exact Heap.get?_push_size _ rfl
  have hk₂ : ∀ b o, b ≠ it → hp.get? b = some o → h₂.get? b = some o := fun b o hb e => by rw [← hh₂]; exact Heap.get?_push_of_some _ (hs₁.extBut b o hb e)
  show wpAny _ _ (Builtin.Dict_items.ownedTupleIsFree (.ref it) >>= _) _ _ ⟨h₂, g, dr, tk, os⟩
  rw [hz₁]
  clear hh₂ he₁ hs₁ hT₁ hz₁ h₁
  refine wpAny_bind ?_
  unfold Builtin.Dict_items.ownedTupleIsFree
  refine wpAny_bind (wpAny_field he₂ rfl (x := .none) rfl (wpAny_pure ?_))
  simp only [if_true]
  refine wpAny_bind (wpAny_field he₂ rfl (x := ok) rfl ?_)
  refine wpAny_bind (wpAny_field he₂ rfl (x := ov) rfl ?_)
  refine wpAny_bind (wpAny_setField_rec he₂ (by simp) fun h₃ he₃ hs₃ => ?_)
  replace hs₃ : Heap.SameBut it h₂ h₃ := hs₃
  replace he₃ : IsItemIter h₃ it d (i + 1) es.size ep es[i].key ov := he₃
  refine wpAny_bind (wpAny_setField_rec he₃ (by simp) fun h₄ he₄ hs₄ => ?_)
  replace hs₄ : Heap.SameBut it h₃ h₄ := hs₄
  replace he₄ : IsItemIter h₄ it d (i + 1) es.size ep es[i].key es[i].val := he₄
  refine wpAny_bind (wpAny_setField_rec he₄ (by simp) fun h₅ he₅ hs₅ => ?_)
  replace hs₅ : Heap.SameBut it h₄ h₅ := hs₅
  replace he₅ : IsItemIterOut h₅ it d (i + 1) es.size ep es[i].key es[i].val hp.objs.size := he₅
  refine wpAny_bind (wpAny_setField_rec he₅ (by simp) fun h₆ he₆ hs₆ => ?_)
  replace hs₆ : Heap.SameBut it h₅ h₆ := hs₆
  replace he₆ : IsItemIterOut h₆ it d (i + 1) es.size ep es[i].key es[i].val hp.objs.size := he₆
  have up : ∀ b o, b ≠ it → h₂.get? b = some o → h₆.get? b = some o := fun b o hb e => hs₆.extBut b o hb (hs₅.extBut b o hb (hs₄.extBut b o hb (hs₃.extBut b o hb e)))
  exact wpAny_bind (wpAny_letGo (wpAny_pure (wpAny_pure ⟨_, rfl, wpAny_pure (hQ h₆ he₆ (up _ _ (Nat.ne_of_gt hil) ht₂) fun b o hb e => up b o hb (hk₂ b o hb e))⟩)))

theorem items_end {it d : Addr} {od : Obj} {es : Array DictEntry} {ep : Nat} {ok ov : Value} {Q : Option Value → Shared → Prop} (hh : A.handled = none) (hit : IsItemIter s.heap it d es.size es.size ep ok ov)
    (hod : s.heap.get? d = some od) (hdd : od.data = .dict es ep)
    (hQ : ∀ h', Heap.ExtBut it s.heap h' → Q none { s with heap := h' }) : wpAny (model prog w) A (pyNext (.ref it)) Q E s := by
  have hT : s.TypeIs (.ref it) "dict_itemiterator" := ⟨_, hit, rfl⟩
  unfold pyNext
  refine wpAny_bind (wpAny_attempt (wpAny_callSpecial?_slot (name := Str.ofString "__next__") hT PySem.F.slot_dict_itemiterator_next
    (wpAny_call_entry PySem.F.slot_dict_itemiterator_next hT PySem.F.entry_dict_itemiterator_next ?_ (PySem.F.args_dict_itemiterator_next_1 _))))
  refine wpAny_bind (wpAny_pure (wpAny_bind (wpAny_bind ?_)))
  refine wpAny_bind (wpAny_typeNameOfWhole_itemiter hT (wpAny_pure ?_))
  refine wpAny_bind (wpAny_fieldsOf hit rfl ?_)
  have hown : Builtin.Dict_items.ownsTuple "dict_itemiterator" = true := by decide
  simp only [hown, if_true]
  show wpAny _ _ (if (Value.ref d == Value.none) = true then _ else _) _ _ s
  rw [if_neg (show ¬ ((Value.ref d == Value.none) = true) from Bool.false_ne_true)]
  refine wpAny_bind (wpAny_pure ?_)
  refine wpAny_bind (wpAny_dictEntries hod hdd ?_)
  rw [if_neg (by simp)]
  refine wpAny_bind (wpAny_pure ?_)
  refine wpAny_bind (wpAny_dictEpoch hod hdd ?_)
  rw [if_neg (by simp)]
  refine wpAny_pure ?_
  simp only [show ¬ ((es.size : Int) < 0) from by omega, if_false, Int.toNat_natCast, Array.getElem?_eq_none (Nat.le_refl es.size)]
  refine wpAny_bind ?_
  refine wpAny_bind (wpAny_typeNameOfWhole_itemiter hT (wpAny_pure ?_))
  show wpAny _ _ (setField (.ref it) 2 .none >>= _) _ _ s
  refine wpAny_bind (wpAny_setField hit rfl (by simp) ?_)
  show wpAny _ _ (newExc (.type "StopIteration") [] >>= _) _ _ _
  refine wpAny_bind ?_
  simp only [newExc, newTuple]
  refine wpAny_bind (wpAny_newObj_type ?_ (by size_fits))
  refine wpAny_bind (m := firstArgMember _ _) (wpAny_of_eq (a := Value.none) (by first | rfl | (simp only [firstArgMember]; rfl)) ?_)
  refine wpAny_newObj_type ?_ (by size_fits)
  simp only [raiseNew]
  refine wpAny_bind (wpAny_handled ?_)
  rw [show A.in1.handled = none from hh]
  refine wpAny_bind (wpAny_pure (wpAny_throw ?_))
  refine wpAny_bind (wpAny_isInstance (T := "StopIteration") (b := true) ⟨_, Heap.get?_push_size _ rfl, rfl⟩ isSubtype_stop ?_)
  exact wpAny_pure (hQ _ (((Heap.SameBut.update ..).extBut.push _).push _))

theorem values_turns {x : Str} {px : Pos} (hh : A.handled = none) (I d : Addr) (od : Obj) (es : Array DictEntry) (ep : Nat) (hd : od.data = .dict es ep) (hne : d ≠ I) :
    KTurns prog w A (.Name x px) I [I, d] [I] es.size (fun i v _ => ∃ e, es[i]? = some e ∧ v = e.val) (fun i v h => (∃ e, es[i]? = some e ∧ v = e.val) ∧ h.IsValIter I d (i + 1) es.size ep ∧ h.get? d = some od)
      (fun i h => h.IsValIter I d i es.size ep ∧ h.get? d = some od) where
  sub := fun b hb => by simp at hb; simp [hb]
  frame := fun i h h' st hk => ⟨st.1.at fun o e => hk I (by simp) o e, hk d (by simp) _ st.2⟩
  item := fun i s Q E hi st hQ => by
    refine values_next st.1 st.2 hd hi fun h' hit hs => ?_
    exact hQ _ h' s.toks ⟨⟨_, Array.getElem?_eq_getElem hi, rfl⟩, hit, hs.extBut _ _ hne st.2⟩ fun b o hb e => hs.extBut b o (fun h => hb (by simp [h])) e
  go := fun i v s Q E hm hQ => letGo_valiter hm.2.1 (hQ s.heap hm.1 hm.2 fun _ _ _ e => e)
  done := fun s Q E st hQ => values_end hh st.1 st.2 hd fun h' hx => hQ h' s.toks fun b o hb e => hx b o (fun h => hb (by simp [h])) e

theorem items_turns {elts : List PySem.Expr} {kk : Nat} {pos : Pos} (hh : A.handled = none) (I d : Addr) (od : Obj) (es : Array DictEntry) (ep : Nat) (hd : od.data = .dict es ep) (hne : d ≠ I) :
    KTurns prog w A (.Tuple elts kk pos) I [I, d] [I] es.size (fun i v h => ∃ T e, v = .ref T ∧ es[i]? = some e ∧ h.IsTuple T #[e.key, e.val])
      (fun i v h => ∃ T e ok ov, v = .ref T ∧ es[i]? = some e ∧ h.IsTuple T #[e.key, e.val] ∧ IsItemIterOut h I d (i + 1) es.size ep ok ov T ∧ h.get? d = some od ∧ T ≠ I)
      (fun i h => (∃ ok ov, IsItemIter h I d i es.size ep ok ov) ∧ h.get? d = some od) where
  sub := fun b hb => by simp at hb; simp [hb]
  frame := fun i h h' st hk => by
    obtain ⟨⟨ok, ov, he⟩, hm⟩ := st
    exact ⟨⟨ok, ov, hk I (by simp) _ he⟩, hk d (by simp) _ hm⟩
  item := fun i s Q E hi st hQ => by
    obtain ⟨⟨ok, ov, he⟩, hm⟩ := st
    refine items_next he hm hd hi fun h' ho hT hk => ?_
    exact hQ (.ref s.heap.objs.size) h' s.toks ⟨s.heap.objs.size, es[i], _, _, rfl, Array.getElem?_eq_getElem hi, ⟨_, hT, rfl, _, rfl⟩, ho, hk d _ hne hm, Nat.ne_of_gt (Heap.lt_size he)⟩ fun b o hb e => hk b o (fun h => hb (by simp [h])) e
  go := fun i v s Q E hm hQ => by
    obtain ⟨T, e, ok, ov, rfl, hx, hT, ho, hd', hTI⟩ := hm
    refine wpAny_letOwnedTupleGo_items ho fun h' he hs => ?_
    exact hQ h' ⟨T, e, rfl, hx, hT.at fun o e => hs.extBut T o hTI e⟩ ⟨⟨ok, ov, he⟩, hs.extBut d _ hne hd'⟩ fun b o hb e => hs.extBut b o (fun h => hb (by simp [h])) e
  done := fun s Q E st hQ => by
    obtain ⟨⟨ok, ov, he⟩, hm⟩ := st
    exact items_end hh he hm hd fun h' hx => hQ h' s.toks fun b o hb e => hx b o (fun h => hb (by simp [h])) e
end
end Mine
end

section
open PySem PySem.W PySem.Calls PyProof.Rows PySem.SeqAt
set_option maxRecDepth 100000
set_option maxHeartbeats 4000000
namespace Mine

def LoopT (prog : Program) (w : World) (A : Around) (h₀ : Heap) (env : Env) (target : PySem.Expr) (body : List Stmt) (Q : Flow → Shared → Prop) (E : Value → Shared → Prop) (it : Value) (s : Shared) : Prop :=
  ∃ (I : Addr) (fp wr : List Addr) (n : Nat) (P Md : Nat → Value → Heap → Prop) (St : Nat → Heap → Prop) (J : Nat → (Str → Option Value) → Heap → Prop) (m : Str → Option Value),
    it = .ref I ∧ KTurns prog w A target I fp wr n P Md St ∧ St 0 s.heap ∧ Fr h₀ env.locals s.heap m ∧ J 0 m s.heap ∧ env.locals ∉ wr ∧ (∀ b ∈ wr, h₀.get? b = none) ∧
    (∀ i m h h', J i m h → (∀ b o, b ∉ wr → h.get? b = some o → h'.get? b = some o) → J i m h') ∧
    (∀ i v m₁ h₁ tk₁, i < n → P i v h₁ → J i m₁ h₁ → St (i + 1) h₁ → Fr h₀ env.locals h₁ m₁ →
      wpAny (model prog w) A (assign target env v) (fun _ s₁ => wpAny (model prog w) A (execs body env) (TurnR Q h₀ env.locals (J (i + 1)) (St (i + 1)) s) E s₁) E { s with heap := h₁, toks := tk₁ }) ∧
    ∀ m' h' tk', J n m' h' → Fr h₀ env.locals h' m' → Q .next { s with heap := h', toks := tk' }

section
variable {prog : Program} {w : World} {A : Around} {E : Value → Shared → Prop} {Q : Flow → Shared → Prop} {s : Shared} {env : Env} {h₀ : Heap}

theorem for_ruleT {target iter : PySem.Expr} {body : List Stmt} {pos : Pos} (hE : ∀ e s, E e s → False)
    (h : wpAny (model prog w) A (eval iter env) (fun xv s₁ => wpAny (model prog w) A (pyIter xv) (fun it s₂ => LoopT prog w A h₀ env target body Q E it s₂) E s₁) E s)
    (hs : ∀ x, foldedSetIterable iter env x = pure x := by intro _; rfl) :
    wpAny (model prog w) A (exec (.For target iter body [] pos) env) Q E s := by
  refine wpAny_For (wpAny_mono h (fun xv s₁ h₁ => wpAny_mono h₁ (fun it s₂ h₂ => ?_) fun _ _ e => e) fun _ _ e => e) hs
  obtain ⟨I, fp, wr, n, P, Md, St, J, m, rfl, W, st, F, hJ, hL, h0, stab, turn, done⟩ := h₂
  refine codeAny_forLoop_any (fun k s' => ∃ i m₁ h₁ tk₁, s' = { s₂ with heap := h₁, toks := tk₁ } ∧ i ≤ n ∧ k = n - i ∧ Fr h₀ env.locals h₁ m₁ ∧ J i m₁ h₁ ∧ St i h₁) ?_ n
    ⟨0, m, s₂.heap, s₂.toks, rfl, Nat.zero_le _, rfl, F, hJ, st⟩
  rintro k s' ⟨i, m₁, h₁, tk₁, rfl, hi, rfl, F₁, J₁, st₁⟩
  by_cases hlt : i < n
  · refine W.item i _ _ _ hlt st₁ fun v h₂ tk₂ hMd hk => ?_
    refine W.go i v _ _ _ hMd fun h₃ hP st₃ hk₃ => ?_
    have F₂ := Fr.butOff (Fr.butOff F₁ hL h0 hk) hL h0 hk₃
    have J₂ := stab _ _ _ _ (stab _ _ _ _ J₁ hk) hk₃
    refine wpAny_mono (turn i v m₁ h₃ tk₂ hlt hP J₂ st₃ F₂) (fun _ s₃ h₃ => wpAny_mono h₃ (fun f s₄ h₄ => ?_) fun _ _ x => (hE _ _ x).elim) fun _ _ x => (hE _ _ x).elim
    cases f with
    | brk => exact h₄
    | ret v => exact h₄
    | next =>
      obtain ⟨h', tk', m', rfl, F', J', S'⟩ := h₄
      exact ⟨n - (i + 1), by omega, i + 1, m', h', tk', rfl, hlt, rfl, F', J', S'⟩
    | cont =>
      obtain ⟨h', tk', m', rfl, F', J', S'⟩ := h₄
      exact ⟨n - (i + 1), by omega, i + 1, m', h', tk', rfl, hlt, rfl, F', J', S'⟩
  · have hin : i = n := by omega
    subst hin
    refine W.done _ _ _ st₁ fun h₂ tk₂ hk => ?_
    exact wpAny_execs_nil (done m₁ h₂ tk₂ (stab _ _ _ _ J₁ hk) (Fr.butOff F₁ hL h0 hk))

/-- a loop over a dict's values; the dict stands in the base heap -/
theorem values_loop {body : List Stmt} {x : Str} {px : Pos} {d vw : Addr} {od : Obj} {es : Array DictEntry} {ep : Nat} {m : Str → Option Value} (hh : A.handled = none) (hv : s.heap.IsValuesView vw d) (hd : h₀.get? d = some od) (hdd : od.data = .dict es ep)
    (F : Fr h₀ env.locals s.heap m) (J : Nat → (Str → Option Value) → Heap → Prop) (hJ : J 0 m s.heap)
    (stab : ∀ i m h h', J i m h → (∀ b o, b ≠ s.heap.objs.size → h.get? b = some o → h'.get? b = some o) → J i m h')
    (turn : ∀ i e m₁ h₁ tk₁ oI, es[i]? = some e → h₁.get? s.heap.objs.size = some oI → J i m₁ h₁ → Fr h₀ env.locals h₁ m₁ →
      wpAny (model prog w) A (assign (.Name x px) env e.val) (fun _ s₁ => wpAny (model prog w) A (execs body env) (TurnR Q h₀ env.locals (J (i + 1)) (fun h' => h'.get? s.heap.objs.size = some oI) s) E s₁) E { s with heap := h₁, toks := tk₁ })
    (done : ∀ m' h' tk', J es.size m' h' → Fr h₀ env.locals h' m' → Q .next { s with heap := h', toks := tk' }) :
    wpAny (model prog w) A (pyIter (.ref vw)) (fun it s₂ => LoopT prog w A h₀ env (.Name x px) body Q E it s₂) E s := by
  have hds := F.keep _ _ hd
  have hlt : d < h₀.objs.size := Heap.lt_size hd
  have hL : env.locals < s.heap.objs.size := F.ns.lt
  have hle : h₀.objs.size ≤ env.locals := F.above
  have hne : d ≠ s.heap.objs.size := Nat.ne_of_lt (Nat.lt_of_lt_of_le hlt (Nat.le_trans hle (Nat.le_of_lt hL)))
  refine values_iter hv hds hdd ⟨s.heap.objs.size, [s.heap.objs.size, d], [s.heap.objs.size], es.size, _, _, _, J, m, rfl, values_turns hh _ d od es ep hdd hne,
    ⟨⟨_, Heap.get?_push_size _ rfl, rfl, rfl⟩, Heap.get?_push_of_some _ hds⟩, F.push _, stab _ _ _ _ hJ fun b o _ e => Heap.get?_push_of_some _ e, ?_, ?_, ?_, ?_, done⟩
  · exact fun hm => absurd (List.mem_singleton.mp hm) (Nat.ne_of_lt hL)
  · intro b hb; rw [List.mem_singleton.mp hb]; exact Heap.get?_none_of_le (Nat.le_trans hle (Nat.le_of_lt hL))
  · exact fun i m h h' j k => stab i m h h' j fun b o q e => k b o (fun hm => q (List.mem_singleton.mp hm)) e
  · rintro i v m₁ h₁ tk₁ hi ⟨e, he, rfl⟩ j ⟨⟨oI, sI, sI2, sI3⟩, sI4⟩ F₁
    refine wpAny_mono (turn i e m₁ h₁ tk₁ oI he sI j F₁) (fun _ s₁ x => wpAny_mono x (fun f s₂ y => ?_) fun _ _ z => z) fun _ _ z => z
    exact TurnR.mono y fun m' h' F' x => ⟨⟨_, x, sI2, sI3⟩, F'.keep _ _ hd⟩

/-- a loop over a dict's items; the dict stands in the base heap -/
theorem items_loop {body : List Stmt} {elts : List PySem.Expr} {kk : Nat} {px : Pos} {d vw : Addr} {od : Obj} {es : Array DictEntry} {ep : Nat} {m : Str → Option Value} (hh : A.handled = none) (hv : s.heap.IsItemsView vw d) (hd : h₀.get? d = some od) (hdd : od.data = .dict es ep)
    (F : Fr h₀ env.locals s.heap m) (J : Nat → (Str → Option Value) → Heap → Prop) (hJ : J 0 m s.heap)
    (stab : ∀ i m h h', J i m h → (∀ b o, b ≠ s.heap.objs.size → h.get? b = some o → h'.get? b = some o) → J i m h')
    (turn : ∀ i e T m₁ h₁ tk₁ oI, es[i]? = some e → h₁.IsTuple T #[e.key, e.val] → h₁.get? s.heap.objs.size = some oI → J i m₁ h₁ → Fr h₀ env.locals h₁ m₁ →
      wpAny (model prog w) A (assign (.Tuple elts kk px) env (.ref T)) (fun _ s₁ => wpAny (model prog w) A (execs body env) (TurnR Q h₀ env.locals (J (i + 1)) (fun h' => h'.get? s.heap.objs.size = some oI) s) E s₁) E { s with heap := h₁, toks := tk₁ })
    (done : ∀ m' h' tk', J es.size m' h' → Fr h₀ env.locals h' m' → Q .next { s with heap := h', toks := tk' }) :
    wpAny (model prog w) A (pyIter (.ref vw)) (fun it s₂ => LoopT prog w A h₀ env (.Tuple elts kk px) body Q E it s₂) E s := by
  have hds := F.keep _ _ hd
  have hlt : d < h₀.objs.size := Heap.lt_size hd
  have hL : env.locals < s.heap.objs.size := F.ns.lt
  have hle : h₀.objs.size ≤ env.locals := F.above
  have hne : d ≠ s.heap.objs.size := Nat.ne_of_lt (Nat.lt_of_lt_of_le hlt (Nat.le_trans hle (Nat.le_of_lt hL)))
  refine items_iter hv hds hdd ⟨s.heap.objs.size, [s.heap.objs.size, d], [s.heap.objs.size], es.size, _, _, _, J, m, rfl, items_turns hh _ d od es ep hdd hne,
    ⟨⟨_, _, Heap.get?_push_size _ rfl⟩, Heap.get?_push_of_some _ hds⟩, F.push _, stab _ _ _ _ hJ fun b o _ e => Heap.get?_push_of_some _ e, ?_, ?_, ?_, ?_, done⟩
  · exact fun hm => absurd (List.mem_singleton.mp hm) (Nat.ne_of_lt hL)
  · intro b hb; rw [List.mem_singleton.mp hb]; exact Heap.get?_none_of_le (Nat.le_trans hle (Nat.le_of_lt hL))
  · exact fun i m h h' j k => stab i m h h' j fun b o q e => k b o (fun hm => q (List.mem_singleton.mp hm)) e
  · rintro i v m₁ h₁ tk₁ hi ⟨T, e, rfl, he, hT⟩ j ⟨⟨ok, ov, sI⟩, sI4⟩ F₁
    refine wpAny_mono (turn i e T m₁ h₁ tk₁ _ he hT sI j F₁) (fun _ s₁ x => wpAny_mono x (fun f s₂ y => ?_) fun _ _ z => z) fun _ _ z => z
    exact TurnR.mono y fun m' h' F' x => ⟨⟨_, _, x⟩, F'.keep _ _ hd⟩
end

/-- a dict's numbers by lots -/
def getC (D : List (Int × Int)) (k : Int) : Option Int := (D.find? fun p => decide (p.1 = k)).map (·.2)
def putC (k n : Int) (D : List (Int × Int)) : List (Int × Int) := if (getC D k).isSome then D.map (fun p => if p.1 = k then (p.1, n) else p) else D ++ [(k, n)]
def addC (D : List (Int × Int)) (p : Int × Int) : List (Int × Int) := putC p.1 (match getC D p.1 with | some m => m + p.2 | none => p.2) D
def setC (D : List (Int × Int)) (p : Int × Int) : List (Int × Int) := putC p.1 p.2 D
def mergeC (D1 D2 : List (Int × Int)) : List (Int × Int) := D2.foldl addC (D1.foldl setC [])

inductive Ent : List (List MK × Addr × Value) → List (Int × Int) → Prop
  | nil : Ent [] []
  | cons (k : Int) (a : Addr) (n : Int) (t : Tok) {xs D} : Ent xs D → Ent ((keyL k, a, .int n t) :: xs) ((k, n) :: D)
theorem Ent.length {xs D} (x : Ent xs D) : xs.length = D.length := by
  induction x with
  | nil => rfl
  | cons _ _ _ _ _ ih => simp [ih]
theorem Ent.get {xs D} (x : Ent xs D) : ∀ {i : Nat} {y}, xs[i]? = some y → ∃ k a n t, y = (keyL k, a, .int n t) ∧ D[i]? = some (k, n) := by
  induction x with
  | nil => intro i y h; simp at h
  | cons k a n t _ ih =>
    intro i y h
    cases i with
    | zero => simp at h; exact ⟨k, a, n, t, h.symm, rfl⟩
    | succ i => exact ih (by simpa using h)
theorem Ent.snoc {xs D} (x : Ent xs D) (k : Int) (a : Addr) (n : Int) (t : Tok) : Ent (xs ++ [(keyL k, a, .int n t)]) (D ++ [(k, n)]) := by
  induction x with
  | nil => exact .cons k a n t .nil
  | cons k' a' n' t' _ ih => exact .cons k' a' n' t' ih
theorem Ent.atKey {xs D} (x : Ent xs D) (k : Int) : (∃ a n t, atKey xs (keyL k) = some (a, .int n t) ∧ getC D k = some n) ∨ (atKey xs (keyL k) = none ∧ getC D k = none) := by
  induction x with
  | nil => exact .inr ⟨rfl, rfl⟩
  | @cons k' a n t xs D _ ih =>
    by_cases e : k' = k
    · subst e
      exact .inl ⟨a, n, t, by simp [PySem.atKey], by simp [getC]⟩
    · have e' : keyL k' ≠ keyL k := fun q => e (keyL_inj q)
      have h1 : PySem.atKey ((keyL k', a, Value.int n t) :: xs) (keyL k) = PySem.atKey xs (keyL k) := by simp [PySem.atKey, List.find?_cons, e']
      have h2 : getC ((k', n) :: D) k = getC D k := by simp [getC, List.find?_cons, e]
      rw [h1, h2]; exact ih
theorem Ent.put {xs D} (x : Ent xs D) (k n : Int) (t : Tok) : Ent (xs.map (putAt (keyL k) (.int n t))) (D.map (fun p => if p.1 = k then (p.1, n) else p)) := by
  induction x with
  | nil => exact .nil
  | cons k' a n' t' _ ih =>
    by_cases e : k' = k
    · subst e
      simp only [List.map_cons, putAt, if_true]
      exact .cons _ _ _ _ ih
    · have e' : keyL k' ≠ keyL k := fun q => e (keyL_inj q)
      simp only [List.map_cons, putAt, if_neg e, if_neg e']
      exact .cons _ _ _ _ ih
theorem Ent.stored {xs D} (x : Ent xs D) (k : Int) (a : Addr) (n : Int) (t : Tok) : Ent (storedH xs (keyL k) a (.int n t)) (putC k n D) := by
  unfold storedH putC
  rcases x.atKey k with ⟨a', n', t', h1, h2⟩ | ⟨h1, h2⟩
  · rw [h1, h2]; exact x.put k n t
  · rw [h1, h2]; exact x.snoc k a n t

section
variable (prog : Program) (w : World)
/-- the object of a dict of numbers by lots -/
def DObj (xs : List (List MK × Addr × Value)) (o : Obj) : Prop := o.ExactDict ∧ ∃ es ep, o.data = .dict es ep ∧ es.toList = xs.map (entryOfKey (tupleKind (mixKind prog w))) ∧ (xs.map (·.1)).Nodup
def EntIn (h : Heap) (xs : List (List MK × Addr × Value)) : Prop := ∀ x ∈ xs, IsTupleKey (mixKind prog w) h x.1 x.2.1
/-- the dict of numbers by lots -/
def DI (h : Heap) (d : Addr) (D : List (Int × Int)) : Prop := ∃ o xs, h.get? d = some o ∧ DObj prog w xs o ∧ EntIn prog w h xs ∧ Ent xs D
variable {prog : Program} {w : World}
theorem TO_key {h h' : Heap} {ks : List MK} {a : Addr} (x : IsTupleKey (mixKind prog w) h ks a) (k : KT h h') : IsTupleKey (mixKind prog w) h' ks a := by
  obtain ⟨o, items, n, ho, hc, hd, hi⟩ := x
  exact ⟨o, items, n, k _ _ ⟨hc, _, _, hd⟩ ho, hc, hd, hi⟩
theorem EntIn.kt {h h' : Heap} {xs : List (List MK × Addr × Value)} (x : EntIn prog w h xs) (k : KT h h') : EntIn prog w h' xs := fun y hy => TO_key (x y hy) k
theorem DI.kt {h h' : Heap} {d : Addr} {D : List (Int × Int)} (x : DI prog w h d D) (k : KT h h') (hd : ∀ o, h.get? d = some o → h'.get? d = some o) : DI prog w h' d D :=
  let ⟨o, xs, ho, hD, hE, he⟩ := x; ⟨o, xs, hd _ ho, hD, hE.kt k, he⟩
theorem DObj.dictOf {h : Heap} {d : Addr} {o : Obj} {xs : List (List MK × Addr × Value)} (ho : h.get? d = some o) (x : DObj prog w xs o) (hE : EntIn prog w h xs) : h.DictOfH (tupleKind (mixKind prog w)) d xs :=
  let ⟨hc, es, ep, hd, he, hn⟩ := x; ⟨o, es, ep, ho, hc, hd, he, hE, hn⟩
theorem DObj.of {h : Heap} {d : Addr} {xs : List (List MK × Addr × Value)} (x : h.DictOfH (tupleKind (mixKind prog w)) d xs) : ∃ o, h.get? d = some o ∧ DObj prog w xs o ∧ EntIn prog w h xs :=
  let ⟨o, es, ep, ho, hc, hd, he, hE, hn⟩ := x; ⟨o, ho, ⟨hc, es, ep, hd, he, hn⟩, hE⟩
theorem DObj.entry {o : Obj} {xs : List (List MK × Addr × Value)} {es : Array DictEntry} {ep : Nat} (x : DObj prog w xs o) (hd : o.data = .dict es ep) : es.size = xs.length ∧ ∀ (i : Nat) (e : DictEntry), es[i]? = some e → ∃ y : List MK × Addr × Value, xs[i]? = some y ∧ e.key = .ref y.2.1 ∧ e.val = y.2.2 := by
  obtain ⟨hc, es', ep', hd', he, hn⟩ := x
  rw [hd] at hd'
  cases hd'
  refine ⟨size_of_entries he, fun i e hi => ?_⟩
  rw [entry_at he] at hi
  obtain ⟨y, hy, rfl⟩ := Option.map_eq_some_iff.mp hi
  exact ⟨y, hy, rfl, rfl⟩
end
end Mine
end

section
open PySem PySem.W PySem.Calls PyProof.Rows
set_option maxRecDepth 100000
set_option maxHeartbeats 8000000
namespace Mine
def sumC (D : List (Int × Int)) : Int := D.foldl (fun a p => a + p.2) 0
local macro_rules | `(tactic| walk_at "S") => `(tactic| repeat' (
  (fail_if_success (with_reducible show wpAny _ _ (exec (Stmt.While _ _ _ _) _) _ _ _));
  (fail_if_success (with_reducible show wpAny _ _ (exec (Stmt.For _ _ _ _ _) _) _ _ _));
  (fail_if_success (with_reducible show wpAny _ _ (eval (Expr.ListComp _ _ _ _) _) _ _ _));
  (fail_if_success (with_reducible show wpAny _ _ (call (Value.type "range") _ _) _ _ _));
  (fail_if_success (with_reducible show wpAny _ _ (subscriptTail _ _ (Value.ref _) (Value.int _ _)) _ _ _));
  (fail_if_success (with_reducible show wpAny _ _ (pyIter _) _ _ _));
  (fail_if_success (with_reducible show wpAny _ _ (call (Value.ref _) _ _) _ _ _));
  (first | (k_unfold; (try dsimp only)) | walk1 | (dsimp only; walk1) | fail "no step")))
local macro_rules | `(tactic| walk_at "eval Name") => `(tactic| (k_dflt (first
  | (refine' nmL ?F ?v ?_ ?a ?b ?c; (case F => k_asm); (case a => rfl); (case b => rfl); (case c => decide); (case v => first | with_reducible assumption | exact rfl | assumption); k_whole)
  | (refine' nmC ?N ?c ?m ?d ?_ ?a ?b ?e; (case a => rfl); (case b => rfl); (case e => decide); (case N => k_asm); (case c => rfl); (case m => k_mem); (case d => k_asm); k_whole)
  | (refine' nmG ?F ?X ?T ?e ?_ ?g ?a ?b ?c; (case F => k_asm); (case X => k_asm); (case T => k_asm); (case g => rfl); (case a => rfl); (case b => rfl); (case c => decide); (case e => k_is); k_whole)
  | (refine' nmB ?F ?X ?T ?e ?v ?n ?_ ?g ?g2 ?a ?b ?c; (case F => k_asm); (case X => k_asm); (case T => k_asm); (case g => rfl); (case g2 => rfl); (case a => rfl); (case b => rfl); (case c => decide); (case e => k_is); (case v => boot_fast); (case n => decide); k_whole))))


local macro_rules | `(tactic| walk_at "loadName") => `(tactic| (refine' wpAny_loadName_local ?a ?b (Fr.ns ?F) ?v ?_; (case F => k_asm); (case a => rfl); (case b => rfl); (case v => first | with_reducible assumption | exact rfl | assumption); k_whole))
theorem count_fn {w : World} {mean : ExcName → Option Value} {mg mb : Str → Option Value} {A : Around} {Q E : Value → Shared → Prop} {s : Shared} {d : Addr} {D : List (Int × Int)}
   (G : Gr w mean mg mb s.heap) (R : Room A 900 6000) (lo : (d == sysModules) = false) (hD : DI PySem.Challenge.rw_ge0001_01.row.prog w s.heap d D)
   (h : ∀ t h' tk, (∀ b o, s.heap.get? b = some o → h'.get? b = some o) → Q (.int (sumC D) t) { s with heap := h', toks := tk }) :
   wpAny (model PySem.Challenge.rw_ge0001_01.row.prog w) A (call (.ref 28) [.ref d]) Q E s := by
    have KX := G.K
    revert KX
    k_fill
    intro KX
    k_dflt (refine' enter0 G ?k6 ?k7 ?k8 ?k9 ?kB ?_ ?c2 ?c3 ?c4 ?c5)
    case k6 => k_is
    case k7 => k_is
    case k8 => have := R.hd; show A.depth < 1000; omega
    case k9 => (refine' kp_binds ?kx ?ke; (case kx => k_in); (case ke => exact fun _ => rfl))
    case c5 => decide
    case kB => exact locs rfl
    case c2 => exact rfl
    case c3 => exact rfl
    case c4 => exact rfl
    intro h1 F' N' X' T'
    (try dsimp only)
    (try k_unmd)
    k_fold
    walk_at "S"
    rename Fr _ _ _ _ => F1
    rename News _ _ _ _ => N1
    obtain ⟨od, xs, ho, hO, hE, hX⟩ := id hD
    have hO' := hO
    obtain ⟨⟨hc1, hc2, hc3⟩, es, ep, hdd, -, -⟩ := hO'
    obtain ⟨hsz, hent⟩ := hO.entry hdd
    refine for_ruleT (h₀ := s.heap) (fun _ _ x => x) (MethodCall_ ?_)
    walk_at "eval Name"
    have hob := F1.keep _ _ ho
    have hT : ∀ s' : Shared, s'.heap.get? d = some od → s'.TypeIs (.ref d) "dict" := fun s' e => ⟨od, e, hc1⟩
    refine getMethod_builtin (v := .ref d) (T := "dict") (hT _ hob) PySem.F.plainAttrs_dict PySem.F.slot_dict_values PySem.F.type_dict_values (fun b e => by cases e; exact ⟨_, hob, hc2⟩) (callWith_method0 (values_call lo hob hc1 hdd ?_))
    dsimp only
    generalize hPe : Heap.push _ _ = hP
    have hv : hP.IsValuesView _ d := ⟨_, hPe ▸ Heap.get?_push_size _ rfl, rfl, rfl⟩
    have F2 := hPe ▸ F1.push _
    clear F1 N1
    refine values_loop (R.deeper _).hh hv ho hdd F2 (fun i m h => ∃ t, m (Str.ofString "nc") = some (.int (sumC (D.take i)) t)) ⟨_, rfl⟩ ?_ ?_ ?_
    · rintro i m h h' ⟨t, e⟩ hk
      exact ⟨t, e⟩
    · rintro i e m₁ h₁ tk₁ oI he hI ⟨t, hm⟩ F3
      obtain ⟨y, hy, -, hval⟩ := hent _ _ he
      obtain ⟨k, a, n, tn, rfl, hn⟩ := hX.get hy
      have hval' : e.val = .int n tn := hval
      rw [hval']
      have N3 : News s.heap s.heap.objs.size h₁ [(hP.objs.size, oI)] := by
        intro p hp
        rw [List.mem_singleton.mp hp]
        exact ⟨hI, Nat.ne_of_gt F2.ns.lt, Heap.get?_none_of_le (Nat.le_trans F2.above (Nat.le_of_lt F2.ns.lt))⟩
      clear F2
      walk_at "S"
      rename Fr _ _ _ _ => F4
      rename News _ _ _ _ => N4
      refine TurnR.intro F4 ?_ ?_
      case refine_2 => exact (N4 (_, oI) (.head _)).1
      have hs : sumC (D.take (i + 1)) = sumC (D.take i) + n := by
        rw [List.take_add_one, hn]
        unfold sumC
        rw [List.foldl_append]
        rfl
      rw [hs]
      exact ⟨_, rfl⟩
    · rintro m' h' tk' ⟨t, hm⟩ F3
      have hlen : es.size = D.length := by rw [hsz, hX.length]
      rw [hlen, List.take_length] at hm
      have N3 : News s.heap s.heap.objs.size h' [] := News.nil
      dsimp only
      walk_at "S"
      rename Fr _ _ _ _ => F4
      dsimp only [qk]
      exact h _ _ _ F4.keep
end Mine
end

section
open PySem PySem.W PySem.Calls PyProof.Rows PySem.SeqAt
set_option maxRecDepth 100000
set_option maxHeartbeats 4000000
namespace Mine
section
variable {prog : Program} {w : World} {A : Around} {E : Value → Shared → Prop} {s : Shared} {env : Env} {h₀ : Heap} {m : Str → Option Value}
theorem assign_pair {xk xv : Str} {pk pv pt : Pos} {x1} {T : Addr} {key v : Value} {Q : Unit → Shared → Prop} (hh : A.handled = none) (hxk : env.kindOf xk = some .local) (hxv : env.kindOf xv = some .local)
    (hp : (env.scope.kind == .class || (env.scope.kind == .module && env.locals != env.globals)) = false) (hT : s.heap.IsTuple T #[key, v]) (F : Fr h₀ env.locals s.heap m)
    (h : ∀ h' tk, Fr h₀ env.locals h' (fun y => if y = xv then some v else if y = xk then some key else m y) → (∀ b o, b ≠ env.locals → s.heap.get? b = some o → h'.get? b = some o) → Q () { s with heap := h', toks := tk }) :
    wpAny (model prog w) A (assign (.Tuple [.Name xk pk, .Name xv pv] x1 pt) env (.ref T)) Q E s := by
  refine wpAny_assign_Tuple hh hT rfl rfl fun h₃ hx₃ => ?_
  replace hx₃ : Heap.ExtBut s.heap.objs.size s.heap h₃ := hx₃
  have old₃ : ∀ b o, s.heap.get? b = some o → h₃.get? b = some o := fun b o x => hx₃ b o (Nat.ne_of_lt (Heap.lt_size x)) x
  have F₃ := F.keeps old₃
  show wpAny _ _ (do holding [v] (assign (.Name xk pk) env key); do holding [] (assign (.Name xv pv) env v); pure ()) _ _ _
  refine wpAny_bind (wpAny_holding (wpAny_assign_Name (wpAny_storeName_local hxk F₃.ns (fun h₄ hn₄ hs₄ => ?_) hp)))
  replace hs₄ : Heap.SameBut env.locals h₃ h₄ := hs₄
  refine wpAny_bind (wpAny_holding (wpAny_assign_Name (wpAny_storeName_local hxv hn₄ (fun h₅ hn₅ hs₅ => wpAny_pure ?_) hp)))
  replace hs₅ : Heap.SameBut env.locals h₄ h₅ := hs₅
  exact h h₅ _ ((F₃.set hn₄ hs₄).set hn₅ hs₅) fun b o hb e => hs₅.extBut b o hb (hs₄.extBut b o hb (old₃ b o e))

variable {L c : Addr} {o : Obj} {xs : List (List MK × Addr × Value)} {D : List (Int × Int)} {k : Int} {a : Addr}
theorem d_in {Q : Value → Shared → Prop} (hu : A.units + 1 < cLine) (lo : (c == sysModules) = false) (hc : s.heap.get? c = some o) (hD : DObj prog w xs o) (hE : EntIn prog w s.heap xs) (hX : Ent xs D) (hk : IsTupleKey (mixKind prog w) s.heap (keyL k) a)
    (h : ∀ tk, Q (.bool (getC D k).isSome) { s with toks := tk }) : wpAny (model prog w) A (compareOp .In (.ref a) (.ref c)) Q E s := by
  refine wpAny_in_heap (knd := tupleKind (mixKind prog w)) (tupleKind_room_in1 hu) hk lo (hD.dictOf hc hE) ?_
  rcases hX.atKey k with ⟨a', n', t', h1, h2⟩ | ⟨h1, h2⟩
  · rw [h1]; rw [h2] at h; exact h _
  · rw [h1]; rw [h2] at h; exact h _
theorem d_get {n : Int} {Q : Value → Shared → Prop} (hu : A.units + 1 < cLine) (hc : s.heap.get? c = some o) (hD : DObj prog w xs o) (hE : EntIn prog w s.heap xs) (hX : Ent xs D) (hk : IsTupleKey (mixKind prog w) s.heap (keyL k) a)
    (hn : getC D k = some n) (h : ∀ t tk, Q (.int n t) { s with toks := tk }) : wpAny (model prog w) A (getItem (.ref c) (.ref a)) Q E s := by
  rcases hX.atKey k with ⟨a', n', t', h1, h2⟩ | ⟨h1, h2⟩
  · rw [hn] at h2
    cases h2
    exact wpAny_getItem_heap (knd := tupleKind (mixKind prog w)) (tupleKind_room_in1 hu) hk (hD.dictOf hc hE) h1 (h _ _)
  · rw [hn] at h2; cases h2
theorem d_set {n : Int} {t : Tok} {Q : Unit → Shared → Prop} (hu : A.units + 1 < cLine) (hc : s.heap.get? c = some o) (hD : DObj prog w xs o) (hE : EntIn prog w s.heap xs) (hX : Ent xs D) (hk : IsTupleKey (mixKind prog w) s.heap (keyL k) a) (hz : D.length ≤ 1000)
    (h : ∀ h' o' xs' tk, h'.get? c = some o' → DObj prog w xs' o' → (∀ x ∈ xs', x ∈ xs ∨ (x.1 = keyL k ∧ x.2.1 = a) ∨ ∃ y ∈ xs, y.1 = x.1 ∧ y.2.1 = x.2.1) → Ent xs' (putC k n D) → Heap.SameBut c s.heap h' → Q () { s with heap := h', toks := tk }) :
    wpAny (model prog w) A (setItem (.ref c) (.ref a) (.int n t)) Q E s := by
  refine wpAny_setItem_heap (knd := tupleKind (mixKind prog w)) (hsz := by rw [hX.length]; exact Nat.le_trans hz (by decide)) (tupleKind_room_in1 hu) hk (hD.dictOf hc hE) fun h' hm hs => ?_
  obtain ⟨o', ho', hD', _⟩ := DObj.of hm
  refine h h' o' _ _ ho' hD' (fun x hx => ?_) (hX.stored k a n t) hs
  unfold storedH at hx
  split at hx
  · obtain ⟨y, hy, rfl⟩ := List.mem_map.mp hx
    refine .inr (.inr ⟨y, hy, ?_⟩)
    unfold putAt
    split <;> exact ⟨rfl, rfl⟩
  · rcases List.mem_append.mp hx with hx | hx
    · exact .inl hx
    · rw [List.mem_singleton.mp hx]; exact .inr (.inl ⟨rfl, rfl⟩)
theorem EntIn.step {h : Heap} {xs' : List (List MK × Addr × Value)} (x : EntIn prog w h xs) (hk : IsTupleKey (mixKind prog w) h (keyL k) a)
    (hm : ∀ x ∈ xs', x ∈ xs ∨ (x.1 = keyL k ∧ x.2.1 = a) ∨ ∃ y ∈ xs, y.1 = x.1 ∧ y.2.1 = x.2.1) : EntIn prog w h xs' := by
  intro y hy
  rcases hm y hy with h1 | ⟨h1, h2⟩ | ⟨z, hz, h1, h2⟩
  · exact x y h1
  · rw [h1, h2]; exact hk
  · rw [← h1, ← h2]; exact x z hz
theorem putC_len (k n : Int) (D : List (Int × Int)) : (putC k n D).length ≤ D.length + 1 := by
  unfold putC; split <;> simp
theorem setC_fold_len : ∀ (D acc : List (Int × Int)), (D.foldl setC acc).length ≤ acc.length + D.length
  | [], _ => by simp
  | p :: D, acc => by
    rw [List.foldl_cons]
    have h1 := setC_fold_len D (setC acc p)
    have h2 : (setC acc p).length ≤ acc.length + 1 := putC_len _ _ _
    simp only [List.length_cons]; omega
theorem addC_fold_len : ∀ (D acc : List (Int × Int)), (D.foldl addC acc).length ≤ acc.length + D.length
  | [], _ => by simp
  | p :: D, acc => by
    rw [List.foldl_cons]
    have h1 := addC_fold_len D (addC acc p)
    have h2 : (addC acc p).length ≤ acc.length + 1 := putC_len _ _ _
    simp only [List.length_cons]; omega
theorem empty_D {K' : Type} [DecidableEq K'] {knd' : KeyKind prog w K'} {o : Obj} (hd : o.IsDictOf knd' []) : DObj prog w [] o := by
  obtain ⟨es, ep, hc, hdat, _, hp, _⟩ := hd
  have he : es.toList = [] := List.length_eq_zero_iff.mp hp.length
  exact ⟨hc, es, ep, hdat, he, List.nodup_nil⟩
end
end Mine
end

section
open PySem PySem.W PySem.Calls PyProof.Rows
set_option maxRecDepth 100000
set_option maxHeartbeats 8000000
namespace Mine
local macro_rules | `(tactic| walk_at "S") => `(tactic| repeat' (
  (fail_if_success (with_reducible show wpAny _ _ (exec (Stmt.While _ _ _ _) _) _ _ _));
  (fail_if_success (with_reducible show wpAny _ _ (exec (Stmt.For _ _ _ _ _) _) _ _ _));
  (fail_if_success (with_reducible show wpAny _ _ (eval (Expr.ListComp _ _ _ _) _) _ _ _));
  (fail_if_success (with_reducible show wpAny _ _ (call (Value.type "range") _ _) _ _ _));
  (fail_if_success (with_reducible show wpAny _ _ (subscriptTail _ _ (Value.ref _) (Value.int _ _)) _ _ _));
  (fail_if_success (with_reducible show wpAny _ _ (pyIter _) _ _ _));
  (fail_if_success (with_reducible show wpAny _ _ (call (Value.ref _) _ _) _ _ _));
  (first | (k_unfold; (try dsimp only)) | walk1 | (dsimp only; walk1) | fail "no step")))
local macro_rules | `(tactic| walk_at "eval Name") => `(tactic| (k_dflt (first
  | (refine' nmL ?F ?v ?_ ?a ?b ?c; (case F => k_asm); (case a => rfl); (case b => rfl); (case c => decide); (case v => first | with_reducible assumption | exact rfl | assumption); k_whole)
  | (refine' nmC ?N ?c ?m ?d ?_ ?a ?b ?e; (case a => rfl); (case b => rfl); (case e => decide); (case N => k_asm); (case c => rfl); (case m => k_mem); (case d => k_asm); k_whole)
  | (refine' nmG ?F ?X ?T ?e ?_ ?g ?a ?b ?c; (case F => k_asm); (case X => k_asm); (case T => k_asm); (case g => rfl); (case a => rfl); (case b => rfl); (case c => decide); (case e => k_is); k_whole)
  | (refine' nmB ?F ?X ?T ?e ?v ?n ?_ ?g ?g2 ?a ?b ?c; (case F => k_asm); (case X => k_asm); (case T => k_asm); (case g => rfl); (case g2 => rfl); (case a => rfl); (case b => rfl); (case c => decide); (case e => k_is); (case v => boot_fast); (case n => decide); k_whole))))


local macro_rules | `(tactic| walk_at "loadName") => `(tactic| (refine' wpAny_loadName_local ?a ?b (Fr.ns ?F) ?v ?_; (case F => k_asm); (case a => rfl); (case b => rfl); (case v => first | with_reducible assumption | exact rfl | assumption); k_whole))

theorem add_fn {w : World} {mean : ExcName → Option Value} {mg mb : Str → Option Value} {A : Around} {Q E : Value → Shared → Prop} {s : Shared} {d1 d2 : Addr} {D1 D2 : List (Int × Int)}
   (G : Gr w mean mg mb s.heap) (R : Room A 900 6000) (lo1 : (d1 == sysModules) = false) (lo2 : (d2 == sysModules) = false) (hD1 : DI PySem.Challenge.rw_ge0001_01.row.prog w s.heap d1 D1) (hD2 : DI PySem.Challenge.rw_ge0001_01.row.prog w s.heap d2 D2)
   (hz1 : D1.length ≤ 100) (hz2 : D2.length ≤ 100)
   (h : ∀ c h' tk, (∀ b o, s.heap.get? b = some o → h'.get? b = some o) → DI PySem.Challenge.rw_ge0001_01.row.prog w h' c (mergeC D1 D2) → (c == sysModules) = false → s.heap.get? c = none → Q (.ref c) { s with heap := h', toks := tk }) :
   wpAny (model PySem.Challenge.rw_ge0001_01.row.prog w) A (call (.ref 21) [.ref d1, .ref d2]) Q E s := by
    have KX := G.K
    revert KX
    k_fill
    intro KX
    k_dflt (refine' enter0 G ?k6 ?k7 ?k8 ?k9 ?kB ?_ ?c2 ?c3 ?c4 ?c5)
    case k6 => k_is
    case k7 => k_is
    case k8 => have := R.hd; show A.depth < 1000; omega
    case k9 => (refine' kp_binds ?kx ?ke; (case kx => k_in); (case ke => exact fun _ => rfl))
    case c5 => decide
    case kB => exact locs rfl
    case c2 => exact rfl
    case c3 => exact rfl
    case c4 => exact rfl
    intro h1 F' N' X' T'
    (try dsimp only)
    (try k_unmd)
    k_fold
    walk_at "S"
    rename Fr _ _ _ _ => F1
    rename News _ _ _ _ => N1
    rename Obj.IsDictOf (intKind _ _) _ _ => hi0
    rename_i c _ oc lo _ _ _ _ _
    have z0 := N1 (c, oc) (.head _)
    have hO0 := empty_D hi0
    obtain ⟨od1, xs1, ho1, hO1, hE1, hX1⟩ := id hD1
    have hO1' := hO1
    obtain ⟨⟨hc1, hc2, hc3⟩, es1, ep1, hdd1, -, -⟩ := hO1'
    obtain ⟨hsz1, hent1⟩ := hO1.entry hdd1
    refine for_ruleT (h₀ := s.heap) (fun _ _ x => x) (MethodCall_ ?_)
    walk_at "eval Name"
    have hob := F1.keep _ _ ho1
    have hT : ∀ s' : Shared, s'.heap.get? d1 = some od1 → s'.TypeIs (.ref d1) "dict" := fun s' e => ⟨od1, e, hc1⟩
    refine getMethod_builtin (v := .ref d1) (T := "dict") (hT _ hob) PySem.F.plainAttrs_dict PySem.F.slot_dict_items PySem.F.type_dict_items (fun b e => by cases e; exact ⟨_, hob, hc2⟩) (callWith_method0 (items_call lo1 hob hc1 hdd1 ?_))
    dsimp only
    have up0 := Heap.get?_push_of_some { cls := .type "dict_items", data := .fields #[.ref d1] } z0.1
    generalize hPe : Heap.push _ _ = hP
    rw [hPe] at up0
    have hv : hP.IsItemsView _ d1 := ⟨_, hPe ▸ Heap.get?_push_size _ rfl, rfl, rfl⟩
    have F2 := hPe ▸ F1.push _
    clear F1 N1
    have cP : c ≠ hP.objs.size := Nat.ne_of_lt (Heap.lt_size up0)
    refine items_loop (R.deeper _).hh hv ho1 hdd1 F2 (fun i m h => ∃ o xs, m (Str.ofString "new_callers") = some (.ref c) ∧ m (Str.ofString "source") = some (.ref d2) ∧ h.get? c = some o ∧ DObj PySem.Challenge.rw_ge0001_01.row.prog w xs o ∧ EntIn PySem.Challenge.rw_ge0001_01.row.prog w s.heap xs ∧ Ent xs ((D1.take i).foldl setC []))
      ⟨oc, [], rfl, rfl, up0, hO0, fun _ hx => by simp at hx, .nil⟩ ?_ ?_ ?_
    · rintro i m h h' ⟨o, xs, a1, a0, a2, a3⟩ hk
      exact ⟨o, xs, a1, a0, hk _ _ cP a2, a3⟩
    · rintro i e T m₁ h₁ tk₁ oI he hT1 hI ⟨o, xs, a1, a0, a2, a3, a4, a5⟩ F3
      obtain ⟨y, hy, hkey, hval⟩ := hent1 _ _ he
      have hIn := hE1 y (List.mem_of_getElem? hy)
      obtain ⟨k, a, n, tn, rfl, hn⟩ := hX1.get hy
      have hkey' : e.key = .ref a := hkey
      have hval' : e.val = .int n tn := hval
      have hIn' : IsTupleKey (mixKind PySem.Challenge.rw_ge0001_01.row.prog w) s.heap (keyL k) a := hIn
      rw [hval', hkey'] at hT1
      refine assign_pair (R.deeper _).hh rfl rfl rfl hT1 F3 fun h₂ tk₂ F4 old => ?_
      have N3 : News s.heap s.heap.objs.size h₂ [(c, o), (hP.objs.size, oI)] := by
        intro p hp
        rcases List.mem_cons.mp hp with rfl | hp
        · exact ⟨old _ _ z0.2.1 a2, z0.2⟩
        · rw [List.mem_singleton.mp hp]
          exact ⟨old _ _ (Nat.ne_of_gt F2.ns.lt) hI, Nat.ne_of_gt F2.ns.lt, Heap.get?_none_of_le (Nat.le_trans F2.above (Nat.le_of_lt F2.ns.lt))⟩
      clear F2 F3
      walk_at "S"
      have hlen5 := setC_fold_len (D1.take i) []
      have htl := List.length_take_le i D1
      refine d_set (by have := R.hu; show A.units + 3 + 1 < 9900; omega) (N3 (c, o) (.head _)).1 a3 (a4.kt (KT.ext F4.keep)) a5 (TO_key hIn' (KT.ext F4.keep)) (by simp only [List.length_nil] at hlen5; have := List.length_take_le' i D1; omega) fun h₃ o' xs' tk₃ b1 b2 b3 b4 b5 => ?_
      have F5 := F4.change b5 z0.2.1 z0.2.2
      have N5 : News s.heap s.heap.objs.size h₃ [(c, o'), (hP.objs.size, oI)] := by
        intro p hp
        rcases List.mem_cons.mp hp with rfl | hp
        · exact ⟨b1, z0.2⟩
        · rw [List.mem_singleton.mp hp]
          exact ⟨b5.extBut _ _ (Ne.symm cP) (N3 (_, oI) (.tail _ (.head _))).1, (N3 (_, oI) (.tail _ (.head _))).2⟩
      clear F4 N3
      walk_at "S"
      rename Fr _ _ _ _ => F6
      rename News _ _ _ _ => N6
      refine TurnR.intro F6 ?_ ?_
      case refine_2 => exact (N6 (_, oI) (.tail _ (.head _))).1
      refine ⟨o', xs', a1, a0, (N6 (c, o') (.head _)).1, b2, a4.step hIn' b3, ?_⟩
      rw [List.take_add_one, hn, List.foldl_append]
      exact b4
    · rintro m' h' tk' ⟨o, xs, a1, a0, a2, a3, a4, a5⟩ F3
      have hlen : es1.size = D1.length := by rw [hsz1, hX1.length]
      rw [hlen, List.take_length] at a5
      have N3 : News s.heap s.heap.objs.size h' [(c, o)] := by
        intro p hp
        rw [List.mem_singleton.mp hp]
        exact ⟨a2, z0.2⟩
      clear F2
      dsimp only
      walk_at "S"
      obtain ⟨od2, xs2, ho2, hO2, hE2, hX2⟩ := id hD2
      have hO2' := hO2
      obtain ⟨⟨hd1, hd2, hd3⟩, es2, ep2, hdd2, -, -⟩ := hO2'
      obtain ⟨hsz2, hent2⟩ := hO2.entry hdd2
      have hlen5 := setC_fold_len D1 []
      simp only [List.length_nil, Nat.zero_add] at hlen5
      refine for_ruleT (h₀ := s.heap) (fun _ _ x => x) (MethodCall_ ?_)
      walk_at "eval Name"
      have hob2 := F3.keep _ _ ho2
      have hT2 : ∀ s' : Shared, s'.heap.get? d2 = some od2 → s'.TypeIs (.ref d2) "dict" := fun s' e => ⟨od2, e, hd1⟩
      refine getMethod_builtin (v := .ref d2) (T := "dict") (hT2 _ hob2) PySem.F.plainAttrs_dict PySem.F.slot_dict_items PySem.F.type_dict_items (fun b e => by cases e; exact ⟨_, hob2, hd2⟩) (callWith_method0 (items_call lo2 hob2 hd1 hdd2 ?_))
      dsimp only
      have up1 := Heap.get?_push_of_some { cls := .type "dict_items", data := .fields #[.ref d2] } a2
      have F4 := F3.push { cls := .type "dict_items", data := .fields #[.ref d2] }
      have hv2 : (h'.push { cls := .type "dict_items", data := .fields #[.ref d2] }).IsItemsView h'.objs.size d2 := ⟨_, Heap.get?_push_size _ rfl, rfl, rfl⟩
      generalize hPe2 : Heap.push _ _ = hR
      rw [hPe2] at up1 F4 hv2
      clear F3 N3
      have cR : c ≠ hR.objs.size := Nat.ne_of_lt (Heap.lt_size up1)
      refine items_loop (R.deeper _).hh hv2 ho2 hdd2 F4 (fun i m h => ∃ o xs, m (Str.ofString "new_callers") = some (.ref c) ∧ h.get? c = some o ∧ DObj PySem.Challenge.rw_ge0001_01.row.prog w xs o ∧ EntIn PySem.Challenge.rw_ge0001_01.row.prog w s.heap xs ∧ Ent xs ((D2.take i).foldl addC (D1.foldl setC [])))
        ⟨o, xs, a1, up1, a3, a4, a5⟩ ?_ ?_ ?_
      · rintro i m h h' ⟨o, xs, a1, a2, a3⟩ hk
        exact ⟨o, xs, a1, hk _ _ cR a2, a3⟩
      · clear a1 a0 a2 a3 a4 a5 up1 up0
        rintro i e T m₁ h₁ tk₁ oI he hT1 hI ⟨o, xs, a1, a2, a3, a4, a5⟩ F3
        obtain ⟨y, hy, hkey, hval⟩ := hent2 _ _ he
        have hIn := hE2 y (List.mem_of_getElem? hy)
        obtain ⟨k, a, n, tn, rfl, hn⟩ := hX2.get hy
        have hkey' : e.key = .ref a := hkey
        have hval' : e.val = .int n tn := hval
        have hIn' : IsTupleKey (mixKind PySem.Challenge.rw_ge0001_01.row.prog w) s.heap (keyL k) a := hIn
        rw [hval', hkey'] at hT1
        refine assign_pair (R.deeper _).hh rfl rfl rfl hT1 F3 fun h₂ tk₂ F5 old => ?_
        have N3 : News s.heap s.heap.objs.size h₂ [(c, o), (hR.objs.size, oI)] := by
          intro p hp
          rcases List.mem_cons.mp hp with rfl | hp
          · exact ⟨old _ _ z0.2.1 a2, z0.2⟩
          · rw [List.mem_singleton.mp hp]
            exact ⟨old _ _ (Nat.ne_of_gt F4.ns.lt) hI, Nat.ne_of_gt F4.ns.lt, Heap.get?_none_of_le (Nat.le_trans F4.above (Nat.le_of_lt F4.ns.lt))⟩
        clear F4 F3
        have hu : A.units + 3 + 1 < 9900 := by have := R.hu; omega
        have hlen6 := addC_fold_len (D2.take i) (D1.foldl setC [])
        have htl := List.length_take_le' i D2
        walk_at "S"
        have kIn := TO_key hIn' (KT.ext F5.keep)
        refine d_in hu lo (N3 (c, o) (.head _)).1 a3 (a4.kt (KT.ext F5.keep)) a5 kIn fun tk₃ => ?_
        have hadd : ∀ x, (match getC ((D2.take i).foldl addC (D1.foldl setC [])) k with | some m => m + n | none => n) = x → (D2.take (i + 1)).foldl addC (D1.foldl setC []) = putC k x ((D2.take i).foldl addC (D1.foldl setC [])) := by
          intro x hx
          rw [List.take_add_one, hn, List.foldl_append, ← hx]
          rfl
        cases hg : getC ((D2.take i).foldl addC (D1.foldl setC [])) k with
        | none =>
          rw [hg] at hadd
          replace hadd := hadd _ rfl
          dsimp only [Option.isSome_none]
          walk_at "S"
          refine d_set hu (N3 (c, o) (.head _)).1 a3 (a4.kt (KT.ext F5.keep)) a5 kIn (by omega) fun h₃ o' xs' tk₄ b1 b2 b3 b4 b5 => ?_
          have F6 := F5.change b5 z0.2.1 z0.2.2
          have N6 : News s.heap s.heap.objs.size h₃ [(c, o'), (hR.objs.size, oI)] := by
            intro p hp
            rcases List.mem_cons.mp hp with rfl | hp
            · exact ⟨b1, z0.2⟩
            · rw [List.mem_singleton.mp hp]
              exact ⟨b5.extBut _ _ (Ne.symm cR) (N3 (_, oI) (.tail _ (.head _))).1, (N3 (_, oI) (.tail _ (.head _))).2⟩
          clear F5 N3
          walk_at "S"
          rename Fr _ _ _ _ => F7
          rename News _ _ _ _ => N7
          refine TurnR.intro F7 ?_ ?_
          case refine_2 => exact (N7 (_, oI) (.tail _ (.head _))).1
          refine ⟨o', xs', a1, (N7 (c, o') (.head _)).1, b2, a4.step hIn' b3, ?_⟩
          rw [hadd]
          exact b4
        | some n0 =>
          rw [hg] at hadd
          replace hadd := hadd _ rfl
          dsimp only [Option.isSome_some]
          walk_at "S"
          refine d_get hu (N3 (c, o) (.head _)).1 a3 (a4.kt (KT.ext F5.keep)) a5 kIn hg fun tg tk₅ => ?_
          walk_at "S"
          refine d_set hu (N3 (c, o) (.head _)).1 a3 (a4.kt (KT.ext F5.keep)) a5 kIn (by omega) fun h₃ o' xs' tk₄ b1 b2 b3 b4 b5 => ?_
          have F6 := F5.change b5 z0.2.1 z0.2.2
          have N6 : News s.heap s.heap.objs.size h₃ [(c, o'), (hR.objs.size, oI)] := by
            intro p hp
            rcases List.mem_cons.mp hp with rfl | hp
            · exact ⟨b1, z0.2⟩
            · rw [List.mem_singleton.mp hp]
              exact ⟨b5.extBut _ _ (Ne.symm cR) (N3 (_, oI) (.tail _ (.head _))).1, (N3 (_, oI) (.tail _ (.head _))).2⟩
          clear F5 N3
          walk_at "S"
          rename Fr _ _ _ _ => F7
          rename News _ _ _ _ => N7
          refine TurnR.intro F7 ?_ ?_
          case refine_2 => exact (N7 (_, oI) (.tail _ (.head _))).1
          refine ⟨o', xs', a1, (N7 (c, o') (.head _)).1, b2, a4.step hIn' b3, ?_⟩
          rw [hadd]
          exact b4
      · rintro m' h' tk' ⟨o, xs, a1, a2, a3, a4, a5⟩ F5
        have hlen : es2.size = D2.length := by rw [hsz2, hX2.length]
        rw [hlen, List.take_length] at a5
        clear F4
        have N5 : News s.heap s.heap.objs.size h' [] := News.nil
        dsimp only
        walk_at "S"
        rename Fr _ _ _ _ => F7
        dsimp only [qk]
        exact h c _ _ F7.keep ⟨o, xs, a2, a3, a4.kt (KT.ext F7.keep), a5⟩ lo z0.2.2
end Mine
end

section
open PySem PySem.W PySem.Calls PyProof.Rows
set_option maxRecDepth 100000
set_option maxHeartbeats 4000000
namespace Mine
section
variable {prog : Program} {w : World} {A : Around} {E : Value → Shared → Prop} {R : Result → Shared → Prop} {s : Shared} {env : Env}

theorem turn2_0 (elt t1 iter1 t2 iter2 : PySem.Expr) (scope : Scope) (pos : Pos) (it acc : Value) (env : Env) :
    compTurn (.ListComp elt [⟨t1, iter1, [], 0⟩, ⟨t2, iter2, [], 0⟩] scope pos) 0 it acc env = (standAt iter1.pos >>= fun _ => pyNext it >>= fun r => match r with
      | none => pure (.done .next)
      | some v => letOwnedTupleGo t1 it v >>= fun _ => assign t1 env v >>= fun _ =>
        eval iter2 env >>= fun x => standAt iter2.pos >>= fun _ => foldedSetIterable iter2 env x >>= fun x => holding [x] (pyIter x) >>= fun it2 =>
            runOwn (.compStart (.ListComp elt [⟨t1, iter1, [], 0⟩, ⟨t2, iter2, [], 0⟩] scope pos) 1 it2 acc env) env >>= fun _ =>
          again (.compLoop (.ListComp elt [⟨t1, iter1, [], 0⟩, ⟨t2, iter2, [], 0⟩] scope pos) 0 it acc env)) := by rfl
theorem turn2_1 (elt t1 iter1 t2 iter2 : PySem.Expr) (scope : Scope) (pos : Pos) (it acc : Value) (env : Env) :
    compTurn (.ListComp elt [⟨t1, iter1, [], 0⟩, ⟨t2, iter2, [], 0⟩] scope pos) 1 it acc env = (standAt iter2.pos >>= fun _ => pyNext it >>= fun r => match r with
      | none => pure (.done .next)
      | some v => letOwnedTupleGo t2 it v >>= fun _ => assign t2 env v >>= fun _ =>
        (eval elt env >>= fun x => call (.builtin "list.append") [acc, x] >>= fun _ => pure ()) >>= fun _ =>
          again (.compLoop (.ListComp elt [⟨t1, iter1, [], 0⟩, ⟨t2, iter2, [], 0⟩] scope pos) 1 it acc env)) := by rfl

theorem loop2_1 {elt t1 iter1 t2 iter2 : PySem.Expr} {scope : Scope} {pos : Pos} {it acc : Value} (I : Nat → Shared → Prop)
    (turn : ∀ n s, I n s → wpAny (model prog w) A (pyNext it) (fun r s₁ => match r with
      | none => R (.ok .next) s₁
      | some v => wpAny (model prog w) A (assign t2 env v) (fun _ s₂ => wpAny (model prog w) A (eval elt env) (fun x s₃ =>
          wpAny (model prog w) A (call (.builtin "list.append") [acc, x]) (fun _ s₄ => ∃ m, m < n ∧ I m s₄) (fun _ _ => False) s₃) (fun _ _ => False) s₂) (fun _ _ => False) s₁) (fun _ _ => False) s)
    (n : Nat) (h : I n s) (ht : ∀ v, letOwnedTupleGo t2 it v = pure () := by intro _; rfl) :
    codeAny (model prog w) A (.compLoop (.ListComp elt [⟨t1, iter1, [], 0⟩, ⟨t2, iter2, [], 0⟩] scope pos) 1 it acc env) R s := by
  refine codeAny_loop rfl I (fun n s hI => ?_) n h
  show wpAny _ A ((compTurn (.ListComp elt [⟨t1, iter1, [], 0⟩, ⟨t2, iter2, [], 0⟩] scope pos) 1 it acc env).onRaise (fun x => do noteFrame x env; theTreesLotGoes x)) _ _ s
  refine wpAny_noted ?_
  rw [turn2_1]
  refine wpAny_bind (wpAny_standAt (wpAny_bind (wpAny_mono (turn n s hI) (fun r s₁ h₁ => ?_) fun _ _ h' => h'.elim)))
  cases r with
  | none => exact wpAny_pure h₁
  | some v =>
    refine wpAny_bind (wpAny_of_eq (ht v) ?_)
    exact wpAny_bind (wpAny_mono h₁ (fun _ s₂ h₂ => wpAny_bind (wpAny_bind (wpAny_mono h₂ (fun x s₃ h₃ => wpAny_bind (wpAny_mono h₃
      (fun _ s₄ h₄ => wpAny_pure (wpAny_pure ⟨rfl, h₄⟩)) fun _ _ h' => h'.elim)) fun _ _ h' => h'.elim))) fun _ _ h' => h'.elim)

theorem start2_1 {elt t1 iter1 t2 iter2 : PySem.Expr} {scope : Scope} {pos : Pos} {it acc : Value}
    (h0 : codeAny (model prog w) A (.compLoop (.ListComp elt [⟨t1, iter1, [], 0⟩, ⟨t2, iter2, [], 0⟩] scope pos) 1 it acc env) R s)
    (h : wpAny (model prog w) A (pyIter it) (fun it' s' => codeAny (model prog w) A (.compLoop (.ListComp elt [⟨t1, iter1, [], 0⟩, ⟨t2, iter2, [], 0⟩] scope pos) 1 it' acc env) R s') (fun _ _ => False) s) :
    codeAny (model prog w) A (.compStart (.ListComp elt [⟨t1, iter1, [], 0⟩, ⟨t2, iter2, [], 0⟩] scope pos) 1 it acc env) R s := by
  refine codeAny_of_tree ?_
  show wpAny _ _ ((compStart (.ListComp elt [⟨t1, iter1, [], 0⟩, ⟨t2, iter2, [], 0⟩] scope pos) 1 it acc env).onRaise (fun x => do noteFrame x env; standAt theWindowsPlace)) _ _ s
  refine wpAny_notedAt ?_
  unfold compStart
  show wpAny _ _ (ask >>= _) _ _ s
  refine wpAny_bind (wpAny_askSetting (wpAny_ite ?_))
  split
  · exact wpAny_pure (And.intro rfl h0)
  · exact wpAny_bind (wpAny_rule (wpAny_bind (wpAny_standAt (wpAny_bind (wpAny_mono h (fun it' s' h' => wpAny_pure (And.intro rfl h')) fun _ _ x => x.elim)))))

theorem loop2_0 {elt t1 iter1 t2 iter2 : PySem.Expr} {scope : Scope} {pos : Pos} {it acc : Value} (I : Nat → Shared → Prop)
    (turn : ∀ n s, I n s → wpAny (model prog w) A (pyNext it) (fun r s₁ => match r with
      | none => R (.ok .next) s₁
      | some v => wpAny (model prog w) A (assign t1 env v) (fun _ s₂ => wpAny (model prog w) A (eval iter2 env) (fun x s₃ => wpAny (model prog w) A (pyIter x) (fun it2 s₄ =>
          codeAny (model prog w) A (.compStart (.ListComp elt [⟨t1, iter1, [], 0⟩, ⟨t2, iter2, [], 0⟩] scope pos) 1 it2 acc env) (fun r s' => (∃ f, r = .ok f) ∧ ∃ m, m < n ∧ I m s') s₄) (fun _ _ => False) s₃) (fun _ _ => False) s₂) (fun _ _ => False) s₁) (fun _ _ => False) s)
    (n : Nat) (h : I n s) (ht : ∀ v, letOwnedTupleGo t1 it v = pure () := by intro _; rfl) (hs : ∀ x, foldedSetIterable iter2 env x = pure x := by intro _; rfl) :
    codeAny (model prog w) A (.compLoop (.ListComp elt [⟨t1, iter1, [], 0⟩, ⟨t2, iter2, [], 0⟩] scope pos) 0 it acc env) R s := by
  refine codeAny_loop rfl I (fun n s hI => ?_) n h
  show wpAny _ A ((compTurn (.ListComp elt [⟨t1, iter1, [], 0⟩, ⟨t2, iter2, [], 0⟩] scope pos) 0 it acc env).onRaise (fun x => do noteFrame x env; theTreesLotGoes x)) _ _ s
  refine wpAny_noted ?_
  rw [turn2_0]
  refine wpAny_bind (wpAny_standAt (wpAny_bind (wpAny_mono (turn n s hI) (fun r s₁ h₁ => ?_) fun _ _ h' => h'.elim)))
  cases r with
  | none => exact wpAny_pure h₁
  | some v =>
    refine wpAny_bind (wpAny_of_eq (ht v) ?_)
    refine wpAny_bind (wpAny_mono h₁ (fun _ s₂ h₂ => wpAny_bind (wpAny_mono h₂ (fun x s₃ h₃ => wpAny_bind (wpAny_standAt (wpAny_bind (wpAny_of_eq (hs x)
      (wpAny_bind (wpAny_holding (wpAny_mono h₃ (fun it2 s₄ h₄ => wpAny_bind (wpAny_runOwn ?_)) fun _ _ h' => h'.elim))))))) fun _ _ h' => h'.elim)) fun _ _ h' => h'.elim)
    refine codeAny_mono h₄ fun r s' hr => ?_
    obtain ⟨⟨f, rfl⟩, hr⟩ := hr
    exact wpAny_pure ⟨rfl, hr⟩
end
end Mine
end

section
open PySem PySem.W PySem.Calls PyProof.Rows
set_option maxRecDepth 100000
set_option maxHeartbeats 4000000
namespace Mine

/-- what a comprehension of two loops has put into its list behind n outer items -/
def Out2 (c : Nat → Nat) (F : Nat → Nat → Heap → Value → Prop) (h : Heap) : Nat → List Value → Prop
  | 0, ys => ys = []
  | n + 1, ys => ∃ ys' zs, ys = ys' ++ zs ∧ Out2 c F h n ys' ∧ Outs (fun _ => true) (F n) h (c n) zs
theorem Out2.keeps {c : Nat → Nat} {F : Nat → Nat → Heap → Value → Prop} {h h' : Heap} (mono : ∀ i j v, F i j h v → F i j h' v) : ∀ {n : Nat} {ys : List Value}, Out2 c F h n ys → Out2 c F h' n ys
  | 0, _, x => x
  | n + 1, ys, x => by
    obtain ⟨ys', zs, e, o, f⟩ := x
    exact ⟨ys', zs, e, Out2.keeps mono o, f.keeps (mono n)⟩
theorem Out2.length {c : Nat → Nat} {F : Nat → Nat → Heap → Value → Prop} {h : Heap} (hc : ∀ i, c i ≤ 100) : ∀ {n : Nat} {ys : List Value}, Out2 c F h n ys → ys.length ≤ n * 100
  | 0, _, x => by rw [show _ = [] from x]; exact Nat.le_refl _
  | n + 1, ys, x => by
    obtain ⟨ys', zs, e, o, f⟩ := x
    have h1 := Out2.length hc o
    have h2 := f.length
    have h3 := hc n
    rw [e, List.length_append]; omega

section
variable {prog : Program} {w : World} {A : Around} {E : Value → Shared → Prop} {env : Env}

/-- all stays but the frame's names, and these stay as told -/
def KeepC (C : Addr) (m : Str → Option Value) (s s' : Shared) : Prop := ∃ h' tk, s' = { s with heap := h', toks := tk } ∧ (∀ b o, b ≠ C → s.heap.get? b = some o → h'.get? b = some o) ∧ h'.Ns C m

def Comp2R (prog : Program) (w : World) (A : Around) (env : Env) (scope : Scope) (cl : List (Str × Addr)) (x y : Str) (iter2 elt : PySem.Expr) (z : Str) (Q : Flow → Shared → Prop) (xv : Value) (s₁ : Shared) : Prop :=
  ∃ (l : Addr) (vs : List Value) (c : Nat → Nat) (F : Nat → Nat → Heap → Value → Prop) (m : Str → Option Value), xv = .ref l ∧ s₁.heap.Ns env.locals m ∧ s₁.heap.IsList l vs.toArray ∧ vs.length ≤ 1000 ∧ (∀ i, c i ≤ 100) ∧ (∀ i j h h' v, F i j h v → KT h h' → F i j h' v) ∧
    (∀ C i v h₃ tk₃ m₃, s₁.heap.objs.size ≤ C → vs[i]? = some v → h₃.Ns C m₃ → m₃ x = some v → (∀ b o, s₁.heap.get? b = some o → h₃.get? b = some o) →
      wpAny (model prog w) A (eval iter2 (compEnvC scope cl C env)) (fun xv s₅ => (∃ r t u t', xv = .ref r ∧ IsRange s₅.heap r 0 (c i) 1 t u t') ∧ KeepC C m₃ { s₁ with heap := h₃, toks := tk₃ } s₅) (fun _ _ => False) { s₁ with heap := h₃, toks := tk₃ }) ∧
    (∀ C i j v tj h₃ tk₃ m₃, s₁.heap.objs.size ≤ C → vs[i]? = some v → j < c i → h₃.Ns C m₃ → m₃ x = some v → m₃ y = some (.int (j : Nat) tj) → (∀ b o, s₁.heap.get? b = some o → h₃.get? b = some o) →
      wpAny (model prog w) A (eval elt (compEnvC scope cl C env)) (fun z s₅ => F i j s₅.heap z ∧ KeepC C m₃ { s₁ with heap := h₃, toks := tk₃ } s₅) (fun _ _ => False) { s₁ with heap := h₃, toks := tk₃ }) ∧
    (∀ D k h' tk ys, s₁.heap.objs.size ≤ D → h'.get? D = some (listOf ys.toArray k) → Out2 c F h' vs.length ys → h'.Ns env.locals (fun y => if y = z then some (.ref D) else m y) → (∀ b o, b ≠ env.locals → s₁.heap.get? b = some o → h'.get? b = some o) → Q .next { s₁ with heap := h', toks := tk })

theorem not_TO_range {x left step : Int} : ¬ TO { cls := .type "range_iterator", dict := none, data := .fields #[rawInt x, rawInt left, rawInt step], slots := #[] } := not_TO_cls (by show Value.type "range_iterator" ≠ Value.type "tuple"; decide)

theorem comp2 {s : Shared} {elt iter iter2 : PySem.Expr} {x y z : Str} {px py pz : Pos} {scope : Scope} {cl : List (Str × Addr)} {pos spos : Pos} {Q : Flow → Shared → Prop} (hh : A.handled = none)
    (hsw : swapsWith (.ListComp elt [⟨.Name x px, iter, [], 0⟩, ⟨.Name y py, iter2, [], 0⟩] scope pos) (some (.Name z pz)) spos.line env = pure true)
    (hz : env.kindOf z = some .local) (hp : (env.scope.kind == .class || (env.scope.kind == .module && env.locals != env.globals)) = false)
    (hclos : closureFor scope env = pure cl) (hcell : ∀ y ∈ scope.names, y.2 ≠ .cell) (hkind : scope.kind = .function)
    (hnames : ∀ y ∈ scope.names, y.2 = .local → scope.names.lookup y.1 = some .local) (hx : scope.names.lookup x = some .local) (hy : scope.names.lookup y = some .local) (hxy : x ≠ y)
    (h : wpAny (model prog w) A (eval iter env) (fun xv s₁ => Comp2R prog w A env scope cl x y iter2 elt z Q xv s₁) E s)
    (hs : ∀ x, foldedSetIterable iter env x = pure x := by intro _; rfl) (hs2 : ∀ env x, foldedSetIterable iter2 env x = pure x := by intro _ _; rfl) :
    wpAny (model prog w) A (exec (.Assign [.Name z pz] (.ListComp elt [⟨.Name x px, iter, [], 0⟩, ⟨.Name y py, iter2, [], 0⟩] scope pos) spos) env) Q E s := by
  rw [exec_Assign_Name_used _ _ _ _ hsw]
  refine wpAny_bind (wpAny_standAt (wpAny_bind ?_))
  show wpAny _ A (do let _ ← comprehension (.ListComp elt [⟨.Name x px, iter, [], 0⟩, ⟨.Name y py, iter2, [], 0⟩] scope pos) scope env _ (newList []) false (eval iter env) (some (assign (.Name z pz) env))) _ _ s
  refine wpAny_bind (wpAny_mono (wpAny_comprehension_free (use := some (assign (.Name z pz) env)) (Q := fun _ s' => Q .next s') rfl hs hclos hkind hnames
    (wpAny_mono h (fun xv s₁ h₁ => ?_) fun _ _ e => e)) (fun _ s' hq => wpAny_pure (wpAny_pure hq)) fun _ _ e => e)
  obtain ⟨l, vs, c, F, mL, rfl, nL, hl, hvs, hc, mono, turn1, turn2, fin⟩ := h₁
  refine wpAny_pyIter_list hl ?_
  refine wpAny_newObj_type (wpAny_newFunctionEnv hcell (by intro y hy; simp at hy) (fun h₁ hns₁ hsb₁ => ?_) hkind)
  dsimp only at hns₁ hsb₁ ⊢
  generalize hH1 : s₁.heap.push { cls := .type "list_iterator", data := .fields #[.ref l, .int 0 0] } = H1 at hns₁ hsb₁ ⊢
  generalize hH2 : H1.push { cls := .type "list", dict := none, data := .seq ([] : List Value).toArray } = H2 at hns₁ hsb₁ ⊢
  generalize hIe : s₁.heap.objs.size = I at hns₁ hsb₁ ⊢
  generalize hDe : H1.objs.size = D at hns₁ hsb₁ ⊢
  generalize hCe : H2.objs.size = C at hns₁ hsb₁ ⊢
  have hD : D = I + 1 := by rw [← hDe, ← hH1, Heap.size_push, hIe]
  have hC : C = I + 2 := by rw [← hCe, ← hH2, Heap.size_push, hDe, hD]
  have below : ∀ (b : Nat) o, s₁.heap.get? b = some o → b < I := fun b o e => hIe ▸ Heap.lt_size e
  have bI : ∀ (b : Nat) o, s₁.heap.get? b = some o → b ≠ I := fun b o e => Nat.ne_of_lt (below b o e)
  have bD : ∀ (b : Nat) o, s₁.heap.get? b = some o → b ≠ D := fun b o e => by have := below b o e; omega
  have bC : ∀ (b : Nat) o, s₁.heap.get? b = some o → b ≠ C := fun b o e => by have := below b o e; omega
  have ID : @Ne Nat I D := by omega
  have IC : @Ne Nat I C := by omega
  have DC : @Ne Nat D C := by omega
  obtain ⟨ol, hol, _⟩ := id hl
  have lI : @Ne Nat l I := bI l ol hol
  have lD : @Ne Nat l D := bD l ol hol
  have lC : @Ne Nat l C := bC l ol hol
  have old : ∀ b o, s₁.heap.get? b = some o → h₁.get? b = some o := fun b o e => hsb₁.extBut b o (bC b o e) (Heap.get?_push_of_some _ (hH2 ▸ Heap.get?_push_of_some _ (hH1 ▸ Heap.get?_push_of_some _ e)))
  have hI₁ : h₁.IsListIter I l 0 := by
    have e1 : H1.get? I = some { cls := .type "list_iterator", data := .fields #[.ref l, .int 0 0] } := by rw [← hIe, ← hH1]; exact Heap.get?_push_size _ rfl
    exact ⟨_, hsb₁.extBut I _ IC (Heap.get?_push_of_some _ (hH2 ▸ Heap.get?_push_of_some _ e1)), rfl, rfl⟩
  have hacc : h₁.get? D = some (listOf ([] : List Value).toArray 0) := by
    have e1 : H2.get? D = some (listOf ([] : List Value).toArray 0) := by rw [← hDe, ← hH2]; exact Heap.get?_push_size _ rfl
    exact hsb₁.extBut D _ DC (Heap.get?_push_of_some _ e1)
  have W := Walks.list (prog := prog) (w := w) hh I l lI vs.toArray
  have notTO_I : ∀ {i : Nat} {h : Heap}, h.IsListIter I l i → ∀ b ∈ [I], ∀ o, h.get? b = some o → ¬ TO o := by
    rintro i h ⟨o', e1, e2, e3⟩ b hb o e
    rw [List.mem_singleton.mp hb] at e
    rw [e1] at e
    cases e
    exact not_TO_cls (by rw [e2]; decide)
  have loop : ∀ tk, codeAny (model prog w) A (.compLoop (.ListComp elt [⟨.Name x px, iter, [], 0⟩, ⟨.Name y py, iter2, [], 0⟩] scope pos) 0 (.ref I) (.ref D) (compEnvC scope cl C env))
      (compPost (model prog w) A E (some (assign (.Name z pz) env)) (fun _ s' => Q .next s') (.ref D) C) { s₁ with heap := h₁, toks := tk } := by
    intro tk
    refine loop2_0 (fun k s' => ∃ i h' tk' m' ys e, s' = { s₁ with heap := h', toks := tk' } ∧ i ≤ vs.length ∧ k = vs.length - i ∧ (h'.IsListIter I l i ∧ h'.IsList l vs.toArray) ∧ h'.get? D = some (listOf ys.toArray e) ∧ h'.Ns C m' ∧
      Out2 c F h' i ys ∧ (∀ b o, s₁.heap.get? b = some o → h'.get? b = some o)) ?_ vs.length ⟨0, h₁, tk, _, [], 0, rfl, Nat.zero_le _, rfl, ⟨hI₁, hl.at fun o e => old _ _ e⟩, hacc, hns₁, rfl, old⟩ (fun _ => rfl) (hs2 _)
    rintro k s' ⟨i, H, tk', m', ys, ep, rfl, hi, rfl, hst', hacc', hn', hO, hk⟩
    by_cases hlt : i < vs.length
    · refine W.item i _ _ _ (by simpa using hlt) hst' fun v h₂ tk₂ hPv hst₂ hk₂ => ?_
      have hv : vs[i]? = some v := by simpa using hPv
      have offI : ∀ b o, @Ne Nat b I → H.get? b = some o → h₂.get? b = some o := fun b o q e => hk₂ b o (fun hm => q (List.mem_singleton.mp hm)) e
      have n₂ := hn'.at fun o e => offI _ o (Ne.symm IC) e
      obtain ⟨oC, eC, _, hoC, hdC, _⟩ := id n₂
      refine wpAny_assign_Name (wpAny_storeName_local (lookup_relabel_local hx) n₂ (fun h₃ hn₃ hs₃ => ?_) (by simp [compEnvC, relabel, hkind]))
      have kt₃ : KT H h₃ := (KT.off (notTO_I hst'.1) hk₂).trans (KT.but hoC (not_TO_dict hdC) fun b o q e => hs₃.extBut b o q e)
      have st₃ : h₃.IsListIter I l (i + 1) ∧ h₃.IsList l vs.toArray := ⟨hst₂.1.at fun o e => hs₃.extBut _ o IC e, hst₂.2.at fun o e => hs₃.extBut _ o lC e⟩
      have acc₃ : h₃.get? D = some (listOf ys.toArray ep) := hs₃.extBut _ _ DC (offI _ _ (Ne.symm ID) hacc')
      have keep₃ : ∀ b o, s₁.heap.get? b = some o → h₃.get? b = some o := fun b o e => hs₃.extBut b o (bC b o e) (offI b o (bI b o e) (hk b o e))
      refine wpAny_mono (turn1 C i v h₃ _ _ (by rw [hIe, hC]; exact Nat.le_add_right _ _) hv hn₃ (by simp) keep₃) (fun xv s₅ h₅ => ?_) fun _ _ e => e.elim
      obtain ⟨⟨r, t, u, t', rfl, hr⟩, h₅, tk₅, rfl, hk₅, n₅⟩ := h₅
      obtain ⟨oC3, eC3, _, hoC3, hdC3, _⟩ := id hn₃
      refine wpAny_pyIter_range hr (range_small (by decide) (by decide) (by omega) (by have := hc i; omega)) ?_
      dsimp only
      have hsz : Builtin.Range.rangeSize 0 ((c i : Nat) : Int) 1 = ((c i : Nat) : Int) := by rw [rangeSize_one]; split <;> omega
      have st₅ : h₅.IsListIter I l (i + 1) ∧ h₅.IsList l vs.toArray := ⟨st₃.1.at fun o e => hk₅ _ o IC e, st₃.2.at fun o e => hk₅ _ o lC e⟩
      have acc₅ := hk₅ _ _ DC acc₃
      have kt₅ : KT H h₅ := kt₃.trans (KT.but hoC3 (not_TO_dict hdC3) hk₅)
      generalize hJe : h₅.objs.size = J
      have ltJ : ∀ (b : Nat) o, h₅.get? b = some o → @Ne Nat b J := fun b o e => by have := Heap.lt_size e; rw [hJe] at this; exact Nat.ne_of_lt this
      have IJ : @Ne Nat I J := by obtain ⟨o, e, _⟩ := st₅.1; exact ltJ _ _ e
      have lJ : @Ne Nat l J := by obtain ⟨o, e, _⟩ := st₅.2; exact ltJ _ _ e
      have DJ : @Ne Nat D J := ltJ _ _ acc₅
      have CJ : @Ne Nat C J := by obtain ⟨o, _, _, e, _⟩ := n₅; exact ltJ _ _ e
      generalize hH6 : h₅.push _ = h₆
      have up₆ : ∀ b o, h₅.get? b = some o → h₆.get? b = some o := fun b o e => hH6 ▸ Heap.get?_push_of_some _ e
      have hJ₆ : IsRangeIter h₆ J (0 + ((0 : Nat) : Int) * 1) (((c i : Nat) : Int) - ((0 : Nat) : Int)) 1 := by
        rw [← hH6, ← hJe, hsz]; simpa using Heap.get?_push_size _ rfl
      have kt₆ : KT H h₆ := kt₅.trans (KT.ext up₆)
      have W2 := Walks.range (prog := prog) (w := w) hh J 0 1 (c i)
      have bJ : ∀ (b : Nat) o, s₁.heap.get? b = some o → @Ne Nat b J := fun b o e => ltJ b o (hk₅ b o (bC b o e) (keep₃ b o e))
      have inner : ∀ tk, codeAny (model prog w) A (.compLoop (.ListComp elt [⟨.Name x px, iter, [], 0⟩, ⟨.Name y py, iter2, [], 0⟩] scope pos) 1 (.ref J) (.ref D) (compEnvC scope cl C env))
          (fun r s' => (∃ f, r = .ok f) ∧ ∃ m, m < vs.length - i ∧ ∃ i h' tk' m' ys e, s' = { s₁ with heap := h', toks := tk' } ∧ i ≤ vs.length ∧ m = vs.length - i ∧ (h'.IsListIter I l i ∧ h'.IsList l vs.toArray) ∧ h'.get? D = some (listOf ys.toArray e) ∧ h'.Ns C m' ∧
            Out2 c F h' i ys ∧ (∀ b o, s₁.heap.get? b = some o → h'.get? b = some o)) { s₁ with heap := h₆, toks := tk } := by
        intro tk
        refine loop2_1 (fun k s' => ∃ j h' tk' m' zs e, s' = { s₁ with heap := h', toks := tk' } ∧ j ≤ c i ∧ k = c i - j ∧ IsRangeIter h' J (0 + ((j : Nat) : Int) * 1) (((c i : Nat) : Int) - ((j : Nat) : Int)) 1 ∧ (h'.IsListIter I l (i + 1) ∧ h'.IsList l vs.toArray) ∧
          h'.get? D = some (listOf (ys ++ zs).toArray e) ∧ h'.Ns C m' ∧ m' x = some v ∧ Out2 c F h' i ys ∧ Outs (fun _ => true) (F i) h' j zs ∧ (∀ b o, s₁.heap.get? b = some o → h'.get? b = some o)) ?_ (c i)
          ⟨0, h₆, tk, _, [], ep, rfl, Nat.zero_le _, rfl, hJ₆, ⟨st₅.1.at fun o e => up₆ _ o e, st₅.2.at fun o e => up₆ _ o e⟩, by rw [List.append_nil]; exact up₆ _ _ acc₅, n₅.keeps up₆, by simp, hO.keeps fun i j v f => mono _ _ _ _ _ f kt₆, rfl, fun b o e => up₆ b o (hk₅ b o (bC b o e) (keep₃ b o e))⟩ (fun _ => rfl)
        rintro k s' ⟨j, G, tk', m₇, zs, e7, rfl, hj, rfl, hJ, hst7, hacc7, hn7, hx7, hO7, hZ7, hk7⟩
        by_cases hjlt : j < c i
        · refine W2.item j _ _ _ hjlt hJ fun v2 h₈ tk₈ hP8 hJ8 hk8 => ?_
          obtain ⟨tj, rfl⟩ := hP8
          have offJ : ∀ b o, @Ne Nat b J → G.get? b = some o → h₈.get? b = some o := fun b o q e => hk8 b o (fun hm => q (List.mem_singleton.mp hm)) e
          have n₈ := hn7.at fun o e => offJ _ o CJ e
          obtain ⟨oC8, eC8, _, hoC8, hdC8, _⟩ := id n₈
          refine wpAny_assign_Name (wpAny_storeName_local (lookup_relabel_local hy) n₈ (fun h₉ hn₉ hs₉ => ?_) (by simp [compEnvC, relabel, hkind]))
          have ktJ : KT G h₈ := KT.off (fun b hb o e => by rw [List.mem_singleton.mp hb] at e; rw [hJ] at e; cases e; exact not_TO_range) hk8
          have kt₉ : KT G h₉ := ktJ.trans (KT.but hoC8 (not_TO_dict hdC8) fun b o q e => hs₉.extBut b o q e)
          have st₉ : h₉.IsListIter I l (i + 1) ∧ h₉.IsList l vs.toArray := ⟨hst7.1.at fun o e => hs₉.extBut _ o IC (offJ _ o IJ e), hst7.2.at fun o e => hs₉.extBut _ o lC (offJ _ o lJ e)⟩
          have acc₉ : h₉.get? D = some (listOf (ys ++ zs).toArray e7) := hs₉.extBut _ _ DC (offJ _ _ DJ hacc7)
          have J₉ := hs₉.extBut _ _ (Ne.symm CJ) hJ8
          have keep₉ : ∀ b o, s₁.heap.get? b = some o → h₉.get? b = some o := fun b o e => hs₉.extBut b o (bC b o e) (offJ b o (bJ b o e) (hk7 b o e))
          have ej : (0 + ((j : Nat) : Int) * 1) = ((j : Nat) : Int) := by omega
          rw [ej] at hn₉
          refine wpAny_mono (turn2 C i j v tj h₉ _ _ (by rw [hIe, hC]; exact Nat.le_add_right _ _) hv hjlt hn₉ (by simp [hxy, hx7]) (by simp) keep₉) (fun z sa ha => ?_) fun _ _ e => e.elim
          obtain ⟨hF, ha, tka, rfl, hka, nka⟩ := ha
          obtain ⟨oC9, eC9, _, hoC9, hdC9, _⟩ := id hn₉
          have hlen := hO7.length hc
          have hlz := hZ7.length
          have hci := hc i
          refine append_at (hsz := by simp only [List.size_toArray, List.length_append, sizeLine]; omega) (hka _ _ DC acc₉) fun hb hsb hgb => ?_
          have ktb : KT ha hb := KT.but (hka _ _ DC acc₉) not_TO_list fun b o q e => hsb.extBut b o q e
          have ktGb : KT G hb := kt₉.trans ((KT.but hoC9 (not_TO_dict hdC9) hka).trans ktb)
          refine ⟨c i - (j + 1), by omega, j + 1, hb, _, _, zs ++ [z], e7 + 1, rfl, hjlt, rfl, ?_, ⟨?_, ?_⟩, ?_, nka.sameBut hsb (Ne.symm DC), by simp [hxy, hx7], hO7.keeps fun i j v f => mono _ _ _ _ _ f ktGb, ?_, ?_⟩
          · exact hsb.extBut _ _ (Ne.symm DJ) (hka _ _ (Ne.symm CJ) J₉)
          · exact st₉.1.at fun o e => hsb.extBut _ o ID (hka _ o IC e)
          · exact st₉.2.at fun o e => hsb.extBut _ o lD (hka _ o lC e)
          · rw [hgb, List.push_toArray, List.append_assoc]
          · simp only [Outs, if_true]
            exact ⟨zs, z, rfl, hZ7.keeps fun j v f => mono _ _ _ _ _ f ktGb, mono _ _ _ _ _ hF ktb⟩
          · exact fun b o e => hsb.extBut b o (bD b o e) (hka b o (bC b o e) (keep₉ b o e))
        · have hjn : j = c i := by omega
          subst hjn
          refine W2.done _ _ _ hJ fun h₈ tk₈ hk8 => ?_
          have offJ : ∀ b o, @Ne Nat b J → G.get? b = some o → h₈.get? b = some o := fun b o q e => hk8 b o (fun hm => q (List.mem_singleton.mp hm)) e
          have ktJ : KT G h₈ := KT.off (fun b hb o e => by rw [List.mem_singleton.mp hb] at e; rw [hJ] at e; cases e; exact not_TO_range) hk8
          refine ⟨⟨_, rfl⟩, vs.length - (i + 1), by omega, i + 1, h₈, tk₈, m₇, ys ++ zs, e7, rfl, hlt, rfl, ⟨hst7.1.at fun o e => offJ _ o IJ e, hst7.2.at fun o e => offJ _ o lJ e⟩, offJ _ _ DJ hacc7, hn7.at fun o e => offJ _ o CJ e, ?_, fun b o e => offJ b o (bJ b o e) (hk7 b o e)⟩
          exact ⟨ys, zs, rfl, hO7.keeps fun i j v f => mono _ _ _ _ _ f ktJ, hZ7.keeps fun j v f => mono _ _ _ _ _ f ktJ⟩
      exact start2_1 (inner _) (W2.self 0 _ _ _ hJ₆ (inner _))
    · have hin : i = vs.length := by omega
      subst hin
      refine W.done _ _ _ (by simpa using hst') fun h₂ tk₂ hk₂ => ?_
      have offI : ∀ b o, @Ne Nat b I → H.get? b = some o → h₂.get? b = some o := fun b o q e => hk₂ b o (fun hm => q (List.mem_singleton.mp hm)) e
      have keep₂ : ∀ b o, s₁.heap.get? b = some o → h₂.get? b = some o := fun b o e => offI b o (bI b o e) (hk b o e)
      obtain ⟨oL, eL, _, hoL, hdL, _⟩ := id nL
      have LC : @Ne Nat env.locals C := bC _ _ hoL
      have LD : @Ne Nat env.locals D := bD _ _ hoL
      have nC₂ := hn'.at fun o e => offI _ o (Ne.symm IC) e
      obtain ⟨oC, eC, _, hoC, hdC, _⟩ := id nC₂
      show wpAny _ A (assign (.Name z pz) env (.ref D)) _ _ _
      refine wpAny_assign_Name (wpAny_storeName_local hz (nL.at fun o e => keep₂ _ o e) (fun h₃ hn₃ hs₃ => ?_) hp)
      refine ⟨m', nC₂.sameBut hs₃ (Ne.symm LC), fun h₄ hs₄ => ?_⟩
      have hoC₃ := hs₃.extBut _ _ (Ne.symm LC) hoC
      refine fin D ep h₄ _ ys (by rw [hIe, hD]; exact Nat.le_succ _) (hs₄.extBut _ _ DC (hs₃.extBut _ _ (Ne.symm LD) (offI _ _ (Ne.symm ID) hacc')))
        (hO.keeps fun i j v f => mono _ _ _ _ _ f (((KT.off (notTO_I hst'.1) hk₂).trans (KT.but (keep₂ _ _ hoL) (not_TO_dict hdL) fun b o q e => hs₃.extBut b o q e)).trans (KT.but hoC₃ (not_TO_dict hdC) fun b o q e => hs₄.extBut b o q e))) (hn₃.sameBut hs₄ LC) ?_
      exact fun b o q e => hs₄.extBut b o (bC b o e) (hs₃.extBut b o q (keep₂ b o e))
  exact codeAny_compStart_list (loop _) (W.self 0 _ _ _ ⟨hI₁, hl.at fun o e => old _ _ e⟩ (loop _))
end
end Mine
end

section
open PySem PySem.W PySem.Calls PyProof.Rows
set_option maxRecDepth 100000
set_option maxHeartbeats 4000000
namespace Mine

def pickI {α : Type} (idx : List Nat) (l : List α) : List α := idx.filterMap (l[·]?)
/-- the places of a whole slice by steps of k -/
def idxOfStep (k : Int) (n : Nat) : List Nat := sliceRange (sliceBounds none none (some k) n).1 (sliceBounds none none (some k) n).2.1 (sliceBounds none none (some k) n).2.2
theorem slicePick_eq (vs : List Value) (k : Int) : slicePick vs.toArray none none (some k) = (pickI (idxOfStep k vs.length) vs).toArray := by
  unfold slicePick pickI idxOfStep
  simp

theorem Tups.pick {h : Heap} {vs : List Value} {xss : List (List Int)} (x : Tups h vs xss) : ∀ (idx : List Nat), Tups h (pickI idx vs) (pickI idx xss)
  | [] => .nil
  | i :: idx => by
    have ih := Tups.pick x idx
    unfold pickI at ih ⊢
    by_cases hi : i < vs.length
    · obtain ⟨v, hv, t⟩ := x.get hi
      have hx : xss[i]? = some (xss.getD i []) := by
        have := x.length
        rw [List.getElem?_eq_getElem (by omega), List.getD_eq_getElem?_getD, List.getElem?_eq_getElem (by omega)]; rfl
      rw [List.filterMap_cons_some hv, List.filterMap_cons_some hx]
      exact .cons t ih
    · have hv : vs[i]? = none := by simp; omega
      have hx : xss[i]? = none := by have := x.length; simp; omega
      rw [List.filterMap_cons_none hv, List.filterMap_cons_none hx]
      exact ih
theorem mem_pickI {α : Type} {idx : List Nat} {l : List α} {a : α} (h : a ∈ pickI idx l) : a ∈ l := by
  obtain ⟨i, _, hi⟩ := List.mem_filterMap.mp h
  exact List.mem_of_getElem? hi
theorem pickI_len {α : Type} (idx : List Nat) (l : List α) : (pickI idx l).length ≤ idx.length := List.length_filterMap_le _ _

def maxI (xs : List Int) : Int := xs.getD (argBest (fun i j => decide (xs.getD i 0 > xs.getD j 0)) (xs.length - 1)) 0
def lotsI (way : List Int) : Nat := (2 + maxI (-1 :: way)).toNat
def extI (way : List Int) : List (List Int) := (List.range (lotsI way)).map fun j => way ++ [((j : Nat) : Int)]
def waysStep (found : List (List Int)) : List (List Int) := (pickI (idxOfStep (-1) found.length) found).flatMap extI
def waysL : Nat → List (List Int)
  | 0 => [[]]
  | n + 1 => waysStep (waysL n)

theorem Tups.kt {h h' : Heap} {vs : List Value} {xss : List (List Int)} (x : Tups h vs xss) (k : KT h h') : Tups h' vs xss := by
  induction x with
  | nil => exact .nil
  | cons t _ ih => exact .cons (t.kt k) ih
theorem Tups.append {h : Heap} {vs ws : List Value} {xss yss : List (List Int)} (x : Tups h vs xss) (y : Tups h ws yss) : Tups h (vs ++ ws) (xss ++ yss) := by
  induction x with
  | nil => exact y
  | cons t _ ih => exact .cons t ih
theorem Tups.mem {h : Heap} {vs : List Value} {xss : List (List Int)} (x : Tups h vs xss) {i : Nat} {v : Value} (hv : vs[i]? = some v) : ∃ xs, xss[i]? = some xs ∧ TI h v xs := by
  induction x generalizing i with
  | nil => simp at hv
  | cons t r ih =>
    cases i with
    | zero => simp at hv; subst hv; exact ⟨_, rfl, t⟩
    | succ i => exact ih (by simpa using hv)

/-- the tuples that the comprehension makes -/
theorem outs_ext {h : Heap} {P : Value → Prop} {way : List Int} : ∀ {n : Nat} {zs : List Value}, Outs (fun _ => true) (fun j h v => TI h v (way ++ [((j : Nat) : Int)]) ∧ P v) h n zs →
    Tups h zs ((List.range n).map fun j => way ++ [((j : Nat) : Int)]) ∧ ∀ v ∈ zs, P v
  | 0, zs, x => by rw [show zs = [] from x]; exact ⟨.nil, fun v hv => by simp at hv⟩
  | n + 1, zs, x => by
    simp only [Outs, if_true] at x
    obtain ⟨ys', y, rfl, o, f⟩ := x
    obtain ⟨h1, h2⟩ := outs_ext o
    rw [List.range_succ, List.map_append]
    refine ⟨h1.append (.cons f.1 .nil), fun v hv => ?_⟩
    rcases List.mem_append.mp hv with hv | hv
    · exact h2 v hv
    · rw [List.mem_singleton.mp hv]; exact f.2
theorem out2_ways {h : Heap} {P : Value → Prop} {xss : List (List Int)} : ∀ {n : Nat} {ys : List Value}, n ≤ xss.length →
    Out2 (fun i => lotsI (xss.getD i [])) (fun i j h v => TI h v (xss.getD i [] ++ [((j : Nat) : Int)]) ∧ P v) h n ys →
    Tups h ys ((xss.take n).flatMap extI) ∧ ∀ v ∈ ys, P v
  | 0, ys, _, x => by rw [show ys = [] from x]; exact ⟨.nil, fun v hv => by simp at hv⟩
  | n + 1, ys, hn, x => by
    obtain ⟨ys', zs, rfl, o, f⟩ := x
    obtain ⟨h1, h2⟩ := out2_ways (by omega) o
    obtain ⟨h3, h4⟩ := outs_ext f
    have e : xss.take (n + 1) = xss.take n ++ [xss.getD n []] := by
      rw [List.take_add_one, List.getElem?_eq_getElem (by omega), List.getD_eq_getElem?_getD, List.getElem?_eq_getElem (by omega)]; rfl
    rw [e, List.flatMap_append]
    refine ⟨h1.append (by simpa [extI] using h3), fun v hv => ?_⟩
    rcases List.mem_append.mp hv with hv | hv
    · exact h2 v hv
    · exact h4 v hv

section
variable {prog : Program} {w : World} {A : Around} {E : Value → Shared → Prop} {s : Shared}
theorem max_TI {v : Value} {xs : List Int} {Q : Value → Shared → Prop} (hh : A.handled = none) (ht : TI s.heap v xs) (hne : xs ≠ [])
    (h : ∀ t h' tk, (∀ b o, s.heap.get? b = some o → h'.get? b = some o) → Q (.int (maxI xs) t) { s with heap := h', toks := tk }) :
    wpAny (model prog w) A (call (.builtin "max") [v]) Q E s := by
  obtain ⟨a, vs, rfl, ho, hi⟩ := ht
  have hlen := hi.length
  have hT : s.heap.IsTuple a vs.toArray := ⟨_, ho, rfl, _, rfl⟩
  have hlt : a < s.heap.objs.size := Heap.lt_size ho
  have hval : ∀ (i : Nat) (v : Value), vs.toArray[i]? = some v → ∃ t, v = .int (xs.getD i 0) t := by
    intro i v hv
    have hv' : vs[i]? = some v := by simpa using hv
    have hil : i < xs.length := by rw [← hlen]; exact (List.getElem?_eq_some_iff.mp hv').1
    obtain ⟨t, e⟩ := hi.get i (xs.getD i 0) (by rw [List.getD_eq_getElem?_getD, List.getElem?_eq_getElem hil]; rfl)
    rw [hv'] at e
    exact ⟨t, Option.some.inj e⟩
  refine call_max_walk (wpAny_pyIter_tuple hT ⟨s.heap.objs.size, [s.heap.objs.size, a], [s.heap.objs.size], vs.toArray.size, _, _, _, rfl, Walks.tuple (A := A.in1) hh _ a (Nat.ne_of_lt hlt) vs.toArray, ⟨⟨_, Heap.get?_push_size _ rfl, rfl, rfl⟩, hT.at fun o e => Heap.get?_push_of_some _ e⟩, ?_, ?_, CmpOf.ints_gt (fun i => xs.getD i 0) hval, ?_⟩)
  · intro b hb
    show b < (s.heap.push _).objs.size
    rw [Heap.size_push]
    rcases List.mem_cons.mp hb with rfl | hb
    · exact Nat.lt_succ_self _
    · rw [List.mem_singleton.mp hb]; exact Nat.lt_succ_of_lt hlt
  · simp only [List.size_toArray, hlen]
    exact List.length_pos_iff.mpr hne
  · intro v h' tk hP hk
    obtain ⟨t, rfl⟩ := hval _ _ hP
    have := h t h' tk fun b o e => hk b o (fun hm => by rw [List.mem_singleton.mp hm] at e; exact Nat.lt_irrefl _ (Heap.lt_size e)) (Heap.get?_push_of_some _ e)
    simp only [List.size_toArray, hlen]
    exact this

theorem slice_at {value slice : PySem.Expr} {l sl : Addr} {vs : List Value} {vst : Value} {k : Int} {Q : Value → Shared → Prop} (hl : s.heap.IsList l vs.toArray) (hs : s.heap.IsSliceOf sl .none .none vst) (ps : IsPart vst (some k)) (h0 : k ≠ 0) (hz : vs.length ≤ 1000)
    (h : Q (.ref s.heap.objs.size) { s with heap := s.heap.push (listOf (pickI (idxOfStep k vs.length) vs).toArray 0) })
    (hsub : subscripted slice false (.ref l) (.ref sl) = operate [.ref l, .ref sl] (getItem (.ref l) (.ref sl)) ∨ subscripted slice false (.ref l) (.ref sl) = operate [.ref sl, .ref l] (getItem (.ref l) (.ref sl))) :
    wpAny (model prog w) A (subscriptTail value slice (.ref l) (.ref sl)) Q E s := by
  have hg : wpAny (model prog w) A (getItem (.ref l) (.ref sl)) Q E s := by
    refine wpAny_getItem_list_slice (hsz := by simp only [List.size_toArray, sizeLine]; omega) hl hs .none .none ps (fun e => h0 (by simpa using e)) ?_
    rw [slicePick_eq]
    exact h
  rcases hsub with e | e
  · exact tail_any hl.typeIs slot_list_getitem.lookup hg e
  · exact tail_any hl.typeIs slot_list_getitem.lookup hg e

theorem add_TI {u v : Value} {xs ys : List Int} {Q : Value → Shared → Prop} (hu : TI s.heap u xs) (hv : TI s.heap v ys) (hz : xs.length + ys.length ≤ 1000)
    (h : ∀ z h', (∀ b o, s.heap.get? b = some o → h'.get? b = some o) → TI h' z (xs ++ ys) → (z = u ∧ ys = [] ∨ z = v ∧ xs = [] ∨ ∃ a, z = .ref a ∧ s.heap.get? a = none) → Q z { s with heap := h' }) :
    wpAny (model prog w) A (binaryOp .Add u v) Q E s := by
  obtain ⟨a, us, rfl, ha, hi⟩ := id hu
  obtain ⟨b, vs, rfl, hb, hj⟩ := id hv
  have l1 := hi.length
  have l2 := hj.length
  by_cases e1 : us = []
  · have e2 : xs = [] := by rw [e1] at l1; exact List.length_eq_zero_iff.mp l1.symm
    refine concat_meets ⟨_, ha, rfl⟩ ⟨_, hb, rfl⟩ noFill_tuple_add seq_tuple_add PySem.F.slot_tuple_add PySem.F.entry_tuple_add (PySem.F.args_tuple_add_2 _ _) (AutoSeq1.tuple___add___tuple_tuple_0 a us.toArray _ b vs.toArray _ (by simp [e1])) ⟨ha, hb, ?_⟩
    exact h (.ref b) s.heap (fun _ _ e => e) (by rw [e2]; exact hv) (.inr (.inl ⟨rfl, e2⟩))
  · by_cases e3 : vs = []
    · have e4 : ys = [] := by rw [e3] at l2; exact List.length_eq_zero_iff.mp l2.symm
      refine concat_meets ⟨_, ha, rfl⟩ ⟨_, hb, rfl⟩ noFill_tuple_add seq_tuple_add PySem.F.slot_tuple_add PySem.F.entry_tuple_add (PySem.F.args_tuple_add_2 _ _) (AutoSeq1.tuple___add___tuple_tuple_1 a us.toArray _ b vs.toArray _ (by simp [e1]) (by simp [e3])) ⟨ha, hb, ?_⟩
      exact h (.ref a) s.heap (fun _ _ e => e) (by rw [e4, List.append_nil]; exact hu) (.inl ⟨rfl, e4⟩)
    · refine concat_meets ⟨_, ha, rfl⟩ ⟨_, hb, rfl⟩ noFill_tuple_add seq_tuple_add PySem.F.slot_tuple_add PySem.F.entry_tuple_add (PySem.F.args_tuple_add_2 _ _) (AutoSeq1.tuple___add___tuple_tuple_2 a us.toArray _ b vs.toArray _ (by simp [e1]) (by simp [e3]) (by simp only [List.size_toArray, sizeLine]; omega)) ⟨ha, hb, ?_⟩
      refine h (.ref s.heap.objs.size) _ (fun _ _ e => Heap.get?_push_of_some _ e) ⟨_, us ++ vs, rfl, ?_, hi.append hj⟩ (.inr (.inr ⟨_, rfl, Heap.get?_none_of_le (Nat.le_refl _)⟩))
      have := Heap.get?_push_size s.heap (o := { cls := .type "tuple", data := .seq (us.toArray ++ vs.toArray) }) rfl
      simpa using this
end
end Mine
end

section
open PySem PySem.W PySem.Calls PyProof.Rows
set_option maxRecDepth 100000
set_option maxHeartbeats 4000000
namespace Mine

/-- a ledger of all that is not in the base, but for some -/
theorem full (h₀ h : Heap) (L : Addr) (ex : List Addr) (hL : L ∈ ex) : ∃ T, News h₀ L h T ∧ (∀ (b : Addr) o, h.get? b = some o → h₀.get? b = none → b ∉ ex → (b, o) ∈ T) ∧ (∀ p ∈ T, p.1 ∉ ex) := by
  refine ⟨ownOf h₀ ((List.range h.objs.size).filter fun b => decide (b ∉ ex)) h, news_ownOf fun hm => ?_, fun b o e hn he => mem_ownOf (List.mem_filter.mpr ⟨List.mem_range.mpr (Heap.lt_size e), by simpa using he⟩) hn e, fun p hp => ?_⟩
  · have := (List.mem_filter.mp hm).2
    simp at this
    exact this hL
  · have := (List.mem_filter.mp (ownOf_sub p hp)).2
    simpa using this
theorem full_keep {h₀ h h' : Heap} {L : Addr} {m' : Str → Option Value} {ex : List Addr} {T news : List (Addr × Obj)} (B : ∀ b o, h₀.get? b = some o → h.get? b = some o) (F' : Fr h₀ L h' m') (N : News h₀ L h' news)
    (hT : ∀ (b : Addr) o, h.get? b = some o → h₀.get? b = none → b ∉ ex → (b, o) ∈ T) (sub : ∀ p ∈ T, p ∈ news) : ∀ b o, b ∉ ex → h.get? b = some o → h'.get? b = some o := by
  intro b o hb e
  cases hn : h₀.get? b with
  | some o₀ =>
    have h1 := B b o₀ hn
    rw [e] at h1
    cases h1
    exact F'.keep b o hn
  | none => exact (N (b, o) (sub _ (hT b o e hn hb))).1
theorem TI.off1 {h h' : Heap} {v : Value} {xs : List Int} {L : Addr} (x : TI h v xs) (k : ∀ b o, b ∉ [L] → h.get? b = some o → h'.get? b = some o) (hv : v ≠ .ref L) : TI h' v xs := by
  obtain ⟨a, us, rfl, ho, hi⟩ := x
  exact ⟨a, us, rfl, k _ _ (fun hm => hv (by rw [List.mem_singleton.mp hm])) ho, hi⟩
end Mine
end

section
open PySem PySem.W PySem.Calls PyProof.Rows
set_option maxRecDepth 100000
set_option maxHeartbeats 8000000
namespace Mine
theorem waysL_small : ∀ n ∈ List.range 6, (waysL n).length ≤ 60 ∧ ∀ way ∈ waysL n, way.length ≤ 5 ∧ lotsI way ≤ 7 ∧ 0 ≤ 2 + maxI (-1 :: way) := by decide +kernel
section
variable {prog : Program} {w : World} {A : Around} {E : Value → Shared → Prop} {s : Shared}
theorem range1 {n : Int} {ta : Tok} {Q : Value → Shared → Prop} (h : ∀ r h' tk t u v, (∀ b o, s.heap.get? b = some o → h'.get? b = some o) → IsRange h' r 0 n 1 t u v → Q (.ref r) { s with heap := h', toks := tk }) :
    wpAny (model prog w) A (call (.type "range") [.int n ta]) Q E s :=
  call_range_1 (h _ _ _ _ _ _ (fun _ _ e => Heap.get?_push_of_some _ e) (IsRange.new _ _ _ _ _ _ _))
theorem range2 {a b : Int} {ta tb : Tok} {Q : Value → Shared → Prop} (h : ∀ r h' tk t u v, (∀ b o, s.heap.get? b = some o → h'.get? b = some o) → IsRange h' r a b 1 t u v → Q (.ref r) { s with heap := h', toks := tk }) :
    wpAny (model prog w) A (call (.type "range") [.int a ta, .int b tb]) Q E s :=
  call_range_2 (h _ _ _ _ _ _ (fun _ _ e => Heap.get?_push_of_some _ e) (IsRange.new _ _ _ _ _ _ _))
end
/-- a value made behind the base, not the frame's names, not I -/
def FrV (B : Heap) (L I : Addr) (v : Value) : Prop := ∃ a, v = .ref a ∧ a ≠ I ∧ a ≠ L ∧ B.get? a = none
theorem Tups.off {h h' : Heap} {vs : List Value} {xss : List (List Int)} {I : Addr} (x : Tups h vs xss) (hk : ∀ b o, b ≠ I → h.get? b = some o → h'.get? b = some o) (hn : ∀ v ∈ vs, v ≠ .ref I) : Tups h' vs xss := by
  induction x with
  | nil => exact .nil
  | @cons v xs vs xss t _ ih =>
    refine .cons ?_ (ih fun v hv => hn v (List.mem_cons_of_mem _ hv))
    obtain ⟨a, us, rfl, ho, hi⟩ := t
    exact ⟨a, us, rfl, hk _ _ (fun e => hn (.ref a) List.mem_cons_self (by rw [e])) ho, hi⟩
theorem FrV.neI {B : Heap} {L I : Addr} {v : Value} (x : FrV B L I v) : v ≠ .ref I := by obtain ⟨a, rfl, h, _⟩ := x; exact fun e => h (by cases e; rfl)
theorem FrV.neL {B : Heap} {L I : Addr} {v : Value} (x : FrV B L I v) : v ≠ .ref L := by obtain ⟨a, rfl, _, h, _⟩ := x; exact fun e => h (by cases e; rfl)
local macro_rules | `(tactic| walk_at "S") => `(tactic| repeat' (
  (fail_if_success (with_reducible show wpAny _ _ (exec (Stmt.While _ _ _ _) _) _ _ _));
  (fail_if_success (with_reducible show wpAny _ _ (exec (Stmt.For _ _ _ _ _) _) _ _ _));
  (fail_if_success (with_reducible show wpAny _ _ (eval (Expr.ListComp _ _ _ _) _) _ _ _));
  (fail_if_success (with_reducible show wpAny _ _ (call (Value.type "range") _ _) _ _ _));
  (fail_if_success (with_reducible show wpAny _ _ (subscriptTail _ _ (Value.ref _) (Value.int _ _)) _ _ _));
  (fail_if_success (with_reducible show wpAny _ _ (pyIter _) _ _ _));
  (fail_if_success (with_reducible show wpAny _ _ (call (Value.ref _) _ _) _ _ _));
  (first | (k_unfold; (try dsimp only)) | walk1 | (dsimp only; walk1) | fail "no step")))
local macro_rules | `(tactic| walk_at "eval Name") => `(tactic| (k_dflt (first
  | (refine' nmL ?F ?v ?_ ?a ?b ?c; (case F => k_asm); (case a => rfl); (case b => rfl); (case c => decide); (case v => first | with_reducible assumption | exact rfl | assumption); k_whole)
  | (refine' nmC ?N ?c ?m ?d ?_ ?a ?b ?e; (case a => rfl); (case b => rfl); (case e => decide); (case N => k_asm); (case c => rfl); (case m => k_mem); (case d => k_asm); k_whole)
  | (refine' nmG ?F ?X ?T ?e ?_ ?g ?a ?b ?c; (case F => k_asm); (case X => k_asm); (case T => k_asm); (case g => rfl); (case a => rfl); (case b => rfl); (case c => decide); (case e => k_is); k_whole)
  | (refine' nmB ?F ?X ?T ?e ?v ?n ?_ ?g ?g2 ?a ?b ?c; (case F => k_asm); (case X => k_asm); (case T => k_asm); (case g => rfl); (case g2 => rfl); (case a => rfl); (case b => rfl); (case c => decide); (case e => k_is); (case v => boot_fast); (case n => decide); k_whole))))


local macro_rules | `(tactic| walk_at "loadName") => `(tactic| (refine' wpAny_loadName_local ?a ?b (Fr.ns ?F) ?v ?_; (case F => k_asm); (case a => rfl); (case b => rfl); (case v => first | with_reducible assumption | exact rfl | assumption); k_whole))

theorem ways_fn {w : World} {mean : ExcName → Option Value} {mg mb : Str → Option Value} {A : Around} {Q E : Value → Shared → Prop} {s : Shared} {n : Nat} {ta : Tok}
   (G : Gr w mean mg mb s.heap) (R : Room A 900 6000) (hn : n ≤ 5)
   (h : ∀ l k vs h' tk, (∀ b o, s.heap.get? b = some o → h'.get? b = some o) → h'.get? l = some (listOf vs.toArray k) → Tups h' vs (waysL n) → s.heap.get? l = none → (∀ v ∈ vs, ∃ a, v = .ref a ∧ s.heap.get? a = none) → Q (.ref l) { s with heap := h', toks := tk }) :
   wpAny (model PySem.Challenge.rw_ge0001_01.row.prog w) A (call (.ref 51) [.int (n : Nat) ta]) Q E s := by
    have KX := G.K
    revert KX
    k_fill
    intro KX
    k_dflt (refine' enter0 G ?k6 ?k7 ?k8 ?k9 ?kB ?_ ?c2 ?c3 ?c4 ?c5)
    case k6 => k_is
    case k7 => k_is
    case k8 => have := R.hd; show A.depth < 1000; omega
    case k9 => (refine' kp_binds ?kx ?ke; (case kx => k_in); (case ke => exact fun _ => rfl))
    case c5 => decide
    case kB => exact locs rfl
    case c2 => exact rfl
    case c3 => exact rfl
    case c4 => exact rfl
    intro h1 F' N' X' T'
    (try dsimp only)
    (try k_unmd)
    k_fold
    walk_at "S"
    rename Fr _ _ _ _ => F1
    rename News _ _ _ _ => N1
    rename_i D0 _ _ l0 _ _ hA
    refine for_rule (h₀ := s.heap) (fun _ _ x => x) ?_
    walk_at "S"
    refine range1 fun r hP tkP t u v up hr => ?_
    have z0 := N1 (l0, _) (.head _)
    have z1 := N1 (D0, _) (.tail _ (.head _))
    have F2 := F1.keeps up
    have y0 : l0 < hP.objs.size := Heap.lt_size (up _ _ z0.1)
    have y1 : D0 < hP.objs.size := Heap.lt_size (up _ _ z1.1)
    clear F1 N1
    refine range_loop (R.deeper _).hh (n := n) hr (by omega) (range_small (by omega) (by omega) (by omega) (by omega)) F2
      (fun i m h => ∃ (f k : Nat) (vs : List Value), m (Str.ofString "found") = some (.ref f) ∧ h.get? f = some (listOf vs.toArray k) ∧ f ≠ s.heap.objs.size ∧ s.heap.get? f = none ∧ f ≠ hP.objs.size ∧ Tups h vs (waysL i) ∧ ∀ v ∈ vs, FrV s.heap s.heap.objs.size hP.objs.size v)
      ⟨l0, 0, [.ref D0], rfl, up _ _ z0.1, z0.2.1, z0.2.2, Nat.ne_of_lt y0, .cons ⟨D0, [], rfl, up _ _ z1.1, .nil⟩ .nil, fun v hv => ⟨D0, List.mem_singleton.mp hv, Nat.ne_of_lt y1, z1.2⟩⟩ (fun _ _ => rfl) ?_ ?_ ?_
    · rintro i m h h' ⟨f, k, vs, a1, a2, a3, a4, a5, a6, a7⟩ hk
      exact ⟨f, k, vs, a1, hk _ _ a5 a2, a3, a4, a5, a6.off hk (fun v hv => (a7 v hv).neI), a7⟩
    · rintro i tv m₁ h₁ tk₁ oI hi hI ⟨f, k, vs, a1, a2, a3, a4, a5, a6, a7⟩ F3
      obtain ⟨T, NT, hTm, hTx⟩ := full s.heap h₁ s.heap.objs.size [s.heap.objs.size] (.head _)
      have N3 : News s.heap s.heap.objs.size h₁ ((f, listOf vs.toArray k) :: (hP.objs.size, oI) :: T) := by
        intro p hp
        rcases List.mem_cons.mp hp with rfl | hp
        · exact ⟨a2, a3, a4⟩
        · rcases List.mem_cons.mp hp with rfl | hp
          case inr => exact NT p hp
          exact ⟨hI, Nat.ne_of_gt F2.ns.lt, Heap.get?_none_of_le (Nat.le_trans F2.above (Nat.le_of_lt F2.ns.lt))⟩
      have B3 := F3.keep
      have hlen := a6.length
      obtain ⟨hs1, hs2⟩ := waysL_small i (List.mem_range.mpr (by omega))
      clear F2
      walk_at "S"
      refine comp2 (cl := []) (R.deeper _).hh (by with_unfolding_all rfl) (by rfl) (by rfl) (by with_unfolding_all rfl) (by decide) rfl (by decide) (by with_unfolding_all rfl) (by with_unfolding_all rfl) (by decide) ?_ (fun _ => rfl) (fun _ _ => rfl)
      walk_at "S"
      rename Fr _ _ _ _ => F4
      rename News _ _ _ _ => N4
      have hsub : ∀ j, lotsI ((pickI (idxOfStep (-1) vs.length) (waysL i)).getD j []) ≤ 7 ∧ ((pickI (idxOfStep (-1) vs.length) (waysL i)).getD j []).length ≤ 5 ∧ 0 ≤ 2 + maxI (-1 :: (pickI (idxOfStep (-1) vs.length) (waysL i)).getD j []) := by
        intro j
        rw [List.getD_eq_getElem?_getD]
        cases hq : (pickI (idxOfStep (-1) vs.length) (waysL i))[j]? with
        | none => exact ⟨by decide, by decide, by decide⟩
        | some way => have := hs2 way (mem_pickI (List.mem_of_getElem? hq)); exact ⟨this.2.1, this.1, this.2.2⟩
      have keep14 := full_keep B3 F4 N4 hTm (fun p hp => .tail _ (.tail _ (.tail _ hp)))
      have a6' := a6.off (fun b o q e => keep14 b o (fun hm => q (List.mem_singleton.mp hm)) e) (fun v hv => (a7 v hv).neL)
      have hlist := (N4 _ (.head _)).1
      have hIs := (N4 (hP.objs.size, oI) (.tail _ (.tail _ (.head _))))
      dsimp only at hlist
      rw [slicePick_eq] at hlist
      refine ⟨_, pickI (idxOfStep (-1) vs.length) vs, fun j => lotsI ((pickI (idxOfStep (-1) vs.length) (waysL i)).getD j []), fun j e h v => TI h v ((pickI (idxOfStep (-1) vs.length) (waysL i)).getD j [] ++ [((e : Nat) : Int)]) ∧ FrV s.heap s.heap.objs.size hP.objs.size v, _, rfl, F4.ns, ⟨_, hlist, rfl, _, rfl⟩, ?_, fun j => Nat.le_trans (hsub j).1 (by decide), fun j e h h' v f k => ⟨f.1.kt k, f.2⟩, ?_, ?_, ?_⟩
      · have := slicePick_size_le vs.toArray none none (some (-1))
        rw [slicePick_eq] at this
        simp only [List.size_toArray] at this
        omega
      · intro C j v h₃ tk₃ m₃ hC hv n3 m3 keep
        obtain ⟨way, hway, hTI⟩ := (a6'.pick (idxOfStep (-1) vs.length)).mem hv
        have hwl : lotsI way ≤ 7 ∧ way.length ≤ 5 ∧ 0 ≤ 2 + maxI (-1 :: way) := by
          have := hsub j
          rw [List.getD_eq_getElem?_getD, hway] at this
          exact this
        have FC : Fr s.heap C h₃ m₃ := ⟨n3, fun b o e => keep b o (F4.keep b o e), Nat.le_trans F4.above (Nat.le_trans (Nat.le_of_lt F4.ns.lt) hC)⟩
        obtain ⟨T1, NC, hT1, hT1x⟩ := full s.heap h₃ C [C] (.head _)
        have hTI3 := hTI.keeps keep
        have hvC : v ≠ .ref C := by
          obtain ⟨a, us, rfl, ho, _⟩ := hTI
          exact fun e => Nat.not_lt.mpr hC (by cases e; exact Heap.lt_size ho)
        clear N4 keep14
        have F4' := F4
        have BC := FC.keep
        clear F4
        walk_at "S"
        rename Fr _ _ _ _ => F5
        rename News _ _ _ _ => N5
        have keep5 := full_keep BC F5 N5 hT1 (fun p hp => .tail _ hp)
        have hTI5 := hTI3.off1 keep5 hvC
        refine add_TI (xs := [0 - 1]) ⟨_, [_], rfl, (N5 _ (.head _)).1, .cons (0 - 1) _ .nil⟩ hTI5 (by simp only [List.length_cons, List.length_nil]; omega) fun z h6 k6 hz _ => ?_
        have F6 := F5.keeps k6
        have N6 := N5.grown k6
        clear F5 N5
        dsimp only
        walk_at "S"
        refine max_TI (R.deeper _).hh hz (by simp) fun t7 h7 tk7 k7 => ?_
        have F7 := F6.keeps k7
        have N7 := N6.grown k7
        clear F6 N6
        dsimp only
        walk_at "S"
        rename Fr _ _ _ _ => F8
        rename News _ _ _ _ => N8
        refine range1 fun r h9 tk9 t9 u9 v9 k9 hr9 => ?_
        have F9 := F8.keeps k9
        have N9 := N8.grown k9
        have hl9 : ((lotsI ((pickI (idxOfStep (-1) vs.length) (waysL i)).getD j []) : Nat) : Int) = 2 + maxI ([0 - 1] ++ way) := by
          rw [List.getD_eq_getElem?_getD, hway]
          exact Int.toNat_of_nonneg hwl.2.2
        refine ⟨⟨r, t9, u9, v9, rfl, ?_⟩, h9, tk9, rfl, fun b o q e => ?_, F9.ns⟩
        · rw [hl9]; exact hr9
        · exact full_keep BC F9 N9 hT1 (fun p hp => .tail _ hp) b o (fun hm => q (List.mem_singleton.mp hm)) e
      · intro C j e v tj h₃ tk₃ m₃ hC hv he n3 m3 m4 keep
        obtain ⟨way, hway, hTI⟩ := (a6'.pick (idxOfStep (-1) vs.length)).mem hv
        have hwl : lotsI way ≤ 7 ∧ way.length ≤ 5 ∧ 0 ≤ 2 + maxI (-1 :: way) := by
          have := hsub j
          rw [List.getD_eq_getElem?_getD, hway] at this
          exact this
        have FC : Fr s.heap C h₃ m₃ := ⟨n3, fun b o e => keep b o (F4.keep b o e), Nat.le_trans F4.above (Nat.le_trans (Nat.le_of_lt F4.ns.lt) hC)⟩
        obtain ⟨T1, NC, hT1, hT1x⟩ := full s.heap h₃ C [C] (.head _)
        have hTI3 := hTI.keeps keep
        have hvC : v ≠ .ref C := by
          obtain ⟨a, us, rfl, ho, _⟩ := hTI
          exact fun e => Nat.not_lt.mpr hC (by cases e; exact Heap.lt_size ho)
        clear N4 keep14
        have F4' := F4
        have BC := FC.keep
        obtain ⟨oL, eL, pL, goL, dL, nL⟩ := id F4.ns
        have LltC : s.heap.objs.size ≠ C := Nat.ne_of_lt (Nat.lt_of_lt_of_le F4.ns.lt hC)
        have IltC : hP.objs.size ≠ C := Nat.ne_of_lt (Nat.lt_of_lt_of_le (Heap.lt_size hIs.1) hC)
        have mL := hT1 _ _ (keep _ _ goL) (Heap.get?_none_of_le (Nat.le_refl _)) (fun hm => LltC (List.mem_singleton.mp hm))
        have mI := hT1 _ _ (keep _ _ hIs.1) hIs.2.2 (fun hm => IltC (List.mem_singleton.mp hm))
        clear F4
        walk_at "S"
        rename Fr _ _ _ _ => F5
        rename News _ _ _ _ => N5
        rename_i Dt h5 hlt
        have keep5 := full_keep BC F5 N5 hT1 (fun p hp => .tail _ hp)
        have hTI5 := hTI3.off1 keep5 hvC
        have zDt := N5 _ (.head _)
        refine add_TI (ys := [((e : Nat) : Int)]) hTI5 ⟨Dt, [_], rfl, zDt.1, .cons _ _ .nil⟩ (by simp only [List.length_cons, List.length_nil]; omega) fun z h6 k6 hz hwho => ?_
        have F6 := F5.keeps k6
        have N6 := N5.grown k6
        refine ⟨⟨?_, ?_⟩, h6, _, rfl, fun b o q e => ?_, F6.ns⟩
        · rw [List.getD_eq_getElem?_getD, hway]; exact hz
        · rcases hwho with ⟨_, h0⟩ | ⟨rfl, _⟩ | ⟨a, rfl, ha⟩
          · simp at h0
          · exact ⟨Dt, rfl, Nat.ne_of_gt (hlt _ mI), Nat.ne_of_gt (hlt _ mL), zDt.2.2⟩
          · refine ⟨a, rfl, fun q => ?_, fun q => ?_, ?_⟩
            · have := (N5 _ (.tail _ mI)).1
              rw [← q, ha] at this; cases this
            · have := (N5 _ (.tail _ mL)).1
              rw [← q, ha] at this; cases this
            · cases hb : s.heap.get? a with
              | none => rfl
              | some ob => have := F5.keep _ _ hb; rw [ha] at this; cases this
        · exact full_keep BC F6 N6 hT1 (fun p hp => .tail _ hp) b o (fun hm => q (List.mem_singleton.mp hm)) e
      · intro D k' h' tk' ys hD hgD hO hns keep
        have hpl : (pickI (idxOfStep (-1) vs.length) vs).length = (pickI (idxOfStep (-1) vs.length) (waysL i)).length := (a6'.pick _).length
        rw [hpl] at hO
        obtain ⟨o1, o2⟩ := out2_ways (Nat.le_refl _) hO
        rw [List.take_length] at o1
        have hw1 : (pickI (idxOfStep (-1) vs.length) (waysL i)).flatMap extI = waysL (i + 1) := by rw [hlen]; rfl
        rw [hw1] at o1
        have FD : Fr s.heap s.heap.objs.size h' _ := ⟨hns, fun b o e => keep b o (fun q => by have := Heap.lt_size e; rw [q] at this; exact Nat.lt_irrefl _ this) (F4.keep b o e), Nat.le_refl _⟩
        have Dne : D ≠ s.heap.objs.size := Nat.ne_of_gt (Nat.lt_of_lt_of_le F4.ns.lt hD)
        have Dni : D ≠ hP.objs.size := Nat.ne_of_gt (Nat.lt_of_lt_of_le (Heap.lt_size hIs.1) hD)
        dsimp only
        walk_at "execs nil"
        refine TurnR.intro FD ?_ ?_
        case refine_2 => exact keep _ _ hIs.2.1 hIs.1
        exact ⟨D, k', ys, by simp, hgD, Dne, Heap.get?_none_of_le (Nat.le_trans (Nat.le_of_lt F4.ns.lt) hD), Dni, o1, o2⟩
    · rintro m' h' tk' ⟨f, k, vs, a1, a2, a3, a4, a5, a6, a7⟩ F3
      obtain ⟨T, NT, hTm, hTx⟩ := full s.heap h' s.heap.objs.size [s.heap.objs.size] (.head _)
      have B3 := F3.keep
      clear F2
      dsimp only
      walk_at "S"
      rename Fr _ _ _ _ => F4
      rename News _ _ _ _ => N4
      have keep4 := full_keep B3 F4 N4 hTm (fun p hp => hp)
      dsimp only [qk]
      refine h f k vs _ _ F4.keep (keep4 _ _ (fun hm => a3 (List.mem_singleton.mp hm)) a2) (a6.off (fun b o q e => keep4 b o (fun hm => q (List.mem_singleton.mp hm)) e) (fun v hv => (a7 v hv).neL)) a4 (fun v hv => ?_)
      obtain ⟨a, e, _, _, e2⟩ := a7 v hv
      exact ⟨a, e, e2⟩
end Mine
end

section
open PySem PySem.W PySem.Calls PyProof.Rows
set_option maxRecDepth 100000
set_option maxHeartbeats 4000000
namespace Mine

/-- a loop's end: as before, but every tuple stays between the turns too -/
def LoopK (prog : Program) (w : World) (A : Around) (h₀ : Heap) (env : Env) (target : PySem.Expr) (body : List Stmt) (Q : Flow → Shared → Prop) (E : Value → Shared → Prop) (it : Value) (s : Shared) : Prop :=
  ∃ (I : Addr) (fp wr : List Addr) (n : Nat) (P : Nat → Value → Prop) (St : Nat → Heap → Prop) (J : Nat → (Str → Option Value) → Heap → Prop) (m : Str → Option Value),
    it = .ref I ∧ (∀ v, letOwnedTupleGo target (.ref I) v = pure ()) ∧ Walks prog w A I fp wr n P St ∧ St 0 s.heap ∧ Fr h₀ env.locals s.heap m ∧ J 0 m s.heap ∧ env.locals ∉ wr ∧ (∀ b ∈ wr, h₀.get? b = none) ∧
    (∀ i h, St i h → ∀ b ∈ wr, ∀ o, h.get? b = some o → ¬ TO o) ∧
    (∀ i m h h', J i m h → KT h h' → (∀ b o, b ∉ wr → h.get? b = some o → h'.get? b = some o) → J i m h') ∧
    (∀ i v m₁ h₁ tk₁, i < n → P i v → J i m₁ h₁ → St (i + 1) h₁ → Fr h₀ env.locals h₁ m₁ →
      wpAny (model prog w) A (assign target env v) (fun _ s₁ => wpAny (model prog w) A (execs body env) (TurnR Q h₀ env.locals (J (i + 1)) (St (i + 1)) s) E s₁) E { s with heap := h₁, toks := tk₁ }) ∧
    ∀ m' h' tk', J n m' h' → Fr h₀ env.locals h' m' → Q .next { s with heap := h', toks := tk' }

section
variable {prog : Program} {w : World} {A : Around} {E : Value → Shared → Prop} {Q : Flow → Shared → Prop} {s : Shared} {env : Env} {h₀ : Heap}

theorem for_ruleK {target iter : PySem.Expr} {body : List Stmt} {pos : Pos} (hE : ∀ e s, E e s → False)
    (h : wpAny (model prog w) A (eval iter env) (fun xv s₁ => wpAny (model prog w) A (pyIter xv) (fun it s₂ => LoopK prog w A h₀ env target body Q E it s₂) E s₁) E s)
    (hs : ∀ x, foldedSetIterable iter env x = pure x := by intro _; rfl) :
    wpAny (model prog w) A (exec (.For target iter body [] pos) env) Q E s := by
  refine wpAny_For (wpAny_mono h (fun xv s₁ h₁ => wpAny_mono h₁ (fun it s₂ h₂ => ?_) fun _ _ e => e) fun _ _ e => e) hs
  obtain ⟨I, fp, wr, n, P, St, J, m, rfl, ht, W, st, F, hJ, hL, h0, hit, stab, turn, done⟩ := h₂
  refine codeAny_forLoop (fun k s' => ∃ i m₁ h₁ tk₁, s' = { s₂ with heap := h₁, toks := tk₁ } ∧ i ≤ n ∧ k = n - i ∧ Fr h₀ env.locals h₁ m₁ ∧ J i m₁ h₁ ∧ St i h₁) ?_ n
    ⟨0, m, s₂.heap, s₂.toks, rfl, Nat.zero_le _, rfl, F, hJ, st⟩ ht
  rintro k s' ⟨i, m₁, h₁, tk₁, rfl, hi, rfl, F₁, J₁, st₁⟩
  by_cases hlt : i < n
  · refine W.item i _ _ _ hlt st₁ fun v h₂ tk₂ hPv st₂ hk => ?_
    have F₂ := Fr.butOff F₁ hL h0 hk
    have J₂ := stab _ _ _ _ J₁ (KT.off (hit _ _ st₁) hk) hk
    refine wpAny_mono (turn i v m₁ h₂ tk₂ hlt hPv J₂ st₂ F₂) (fun _ s₃ h₃ => wpAny_mono h₃ (fun f s₄ h₄ => ?_) fun _ _ x => (hE _ _ x).elim) fun _ _ x => (hE _ _ x).elim
    cases f with
    | brk => exact h₄
    | ret v => exact h₄
    | next =>
      obtain ⟨h', tk', m', rfl, F', J', S'⟩ := h₄
      exact ⟨n - (i + 1), by omega, i + 1, m', h', tk', rfl, hlt, rfl, F', J', S'⟩
    | cont =>
      obtain ⟨h', tk', m', rfl, F', J', S'⟩ := h₄
      exact ⟨n - (i + 1), by omega, i + 1, m', h', tk', rfl, hlt, rfl, F', J', S'⟩
  · have hin : i = n := by omega
    subst hin
    refine W.done _ _ _ st₁ fun h₂ tk₂ hk => ?_
    exact wpAny_execs_nil (done m₁ h₂ tk₂ (stab _ _ _ _ J₁ (KT.off (hit _ _ st₁) hk) hk) (Fr.butOff F₁ hL h0 hk))

theorem list_loopK {target : PySem.Expr} {body : List Stmt} {m : Str → Option Value} {l : Addr} {vs : List Value} {k : Nat} (hh : A.handled = none) (hl : s.heap.get? l = some (listOf vs.toArray k)) (F : Fr h₀ env.locals s.heap m) (J : Nat → (Str → Option Value) → Heap → Prop) (hJ : J 0 m s.heap)
    (ht : ∀ I v, letOwnedTupleGo target (.ref I) v = pure ())
    (stab : ∀ i m h h', J i m h → KT h h' → (∀ b o, b ≠ s.heap.objs.size → h.get? b = some o → h'.get? b = some o) → J i m h')
    (turn : ∀ i v m₁ h₁ tk₁ oI, vs[i]? = some v → h₁.get? s.heap.objs.size = some oI → h₁.get? l = some (listOf vs.toArray k) → J i m₁ h₁ → Fr h₀ env.locals h₁ m₁ →
      wpAny (model prog w) A (assign target env v) (fun _ s₁ => wpAny (model prog w) A (execs body env) (TurnR Q h₀ env.locals (J (i + 1)) (fun h' => h'.get? s.heap.objs.size = some oI ∧ h'.get? l = some (listOf vs.toArray k)) s) E s₁) E { s with heap := h₁, toks := tk₁ })
    (done : ∀ m' h' tk', J vs.length m' h' → Fr h₀ env.locals h' m' → Q .next { s with heap := h', toks := tk' }) :
    wpAny (model prog w) A (pyIter (.ref l)) (fun it s₂ => LoopK prog w A h₀ env target body Q E it s₂) E s := by
  have hls : s.heap.IsList l vs.toArray := ⟨_, hl, rfl, _, rfl⟩
  have hL : env.locals < s.heap.objs.size := F.ns.lt
  have hle : h₀.objs.size ≤ env.locals := F.above
  have hne : l ≠ s.heap.objs.size := Nat.ne_of_lt (Heap.lt_size hl)
  let J' : Nat → (Str → Option Value) → Heap → Prop := fun i m h => J i m h ∧ h.get? l = some (listOf vs.toArray k)
  refine wpAny_pyIter_list hls ⟨s.heap.objs.size, [s.heap.objs.size, l], [s.heap.objs.size], vs.toArray.size, _, _, J', m, rfl, ht _, Walks.list hh _ l hne vs.toArray,
    ⟨⟨_, Heap.get?_push_size _ rfl, rfl, rfl⟩, hls.at fun o e => Heap.get?_push_of_some _ e⟩, F.push _, ⟨stab _ _ _ _ hJ (KT.ext fun _ _ e => Heap.get?_push_of_some _ e) fun b o _ e => Heap.get?_push_of_some _ e, Heap.get?_push_of_some _ hl⟩, ?_, ?_, ?_, ?_, ?_, ?_⟩
  · exact fun hm => absurd (List.mem_singleton.mp hm) (Nat.ne_of_lt hL)
  · intro b hb; rw [List.mem_singleton.mp hb]; exact Heap.get?_none_of_le (Nat.le_trans hle (Nat.le_of_lt hL))
  · rintro i h ⟨⟨o', e1, e2, e3⟩, _⟩ b hb o e
    rw [List.mem_singleton.mp hb] at e
    rw [e1] at e
    cases e
    exact not_TO_cls (by rw [e2]; decide)
  · rintro i m h h' ⟨j, jl⟩ kt q
    exact ⟨stab i m h h' j kt fun b o n e => q b o (fun hm => n (List.mem_singleton.mp hm)) e, q _ _ (fun hm => hne (List.mem_singleton.mp hm)) jl⟩
  · rintro i v m₁ h₁ tk₁ hi hv ⟨j, jl⟩ ⟨⟨oI, sI, sI2, sI3⟩, sI4⟩ F₁
    refine wpAny_mono (turn i v m₁ h₁ tk₁ oI (by simpa using hv) sI jl j F₁) (fun _ s₁ x => wpAny_mono x (fun f s₂ y => ?_) fun _ _ z => z) fun _ _ z => z
    cases f with
    | brk => exact y
    | ret v => exact y
    | next => obtain ⟨h', tk', m', e, F, J, x1, x2⟩ := y; exact ⟨h', tk', m', e, F, ⟨J, x2⟩, ⟨⟨_, x1, sI2, sI3⟩, ⟨_, x2, rfl, _, rfl⟩⟩⟩
    | cont => obtain ⟨h', tk', m', e, F, J, x1, x2⟩ := y; exact ⟨h', tk', m', e, F, ⟨J, x2⟩, ⟨⟨_, x1, sI2, sI3⟩, ⟨_, x2, rfl, _, rfl⟩⟩⟩
  · rintro m' h' tk' ⟨j, _⟩ F'
    exact done m' h' tk' (by simpa using j) F'

/-- a name that is a cell is set -/
theorem set_cell {x : Str} {c : Addr} {v₀ : Option Value} {v : Value} {Q : Unit → Shared → Prop} {m : Str → Option Value} (F : Fr h₀ env.locals s.heap m) (hc : env.cells.lookup x = some c) (hv : s.heap.IsCell c v₀) (hcL : c ≠ env.locals) (h0 : h₀.get? c = none)
    (h : ∀ h', Fr h₀ env.locals h' m → h'.IsCell c (some v) → (∀ b o, b ≠ c → s.heap.get? b = some o → h'.get? b = some o) → KT s.heap h' → Q () { s with heap := h' }) (hk : env.scope.kind = .function) (hl : env.kindOf x = some .cell) :
    wpAny (model prog w) A (storeName env x v) Q E s := by
  refine wpAny_storeName_cell hk hl hc hv fun h' hg hs => ?_
  obtain ⟨o, ho, hd⟩ := hv
  exact h h' (F.change hs hcL h0) hg (fun b o q e => hs.extBut b o q e) (KT.but ho (fun ⟨_, _, _, e⟩ => by rw [hd] at e; cases e) fun b o q e => hs.extBut b o q e)

variable {c : Addr} {o : Obj} {xs : List (List MK × Addr × Value)} {D : List (Int × Int)} {k : Int} {a : Addr}
theorem d_put {n : Int} {t : Tok} {Q : Unit → Shared → Prop} (hu : A.units < cLine) (hc : s.heap.get? c = some o) (hD : DObj prog w xs o) (hE : EntIn prog w s.heap xs) (hX : Ent xs D) (hk : IsTupleKey (mixKind prog w) s.heap (keyL k) a) (hz : D.length ≤ 1000)
    (h : ∀ h' tk, DI prog w h' c (putC k n D) → (∀ b o, b ≠ c → s.heap.get? b = some o → h'.get? b = some o) → KT s.heap h' → Q () { s with heap := h', toks := tk }) :
    wpAny (model prog w) A (dictSet c (.ref a) (.int n t)) Q E s := by
  have hDO := hD.dictOf hc hE
  refine wpAny_dictSet_heap (knd := tupleKind (mixKind prog w)) (hsz := by rw [hX.length]; exact Nat.le_trans hz (by decide)) hu hk hDO fun h' hm hs => ?_
  obtain ⟨o', ho', hD', hE'⟩ := DObj.of hm
  obtain ⟨⟨_, _, _⟩, es, ep, hdd, _⟩ := hD
  exact h h' _ ⟨o', _, ho', hD', hE', hX.stored k a n t⟩ (fun b o q e => hs.extBut b o q e) (KT.but hc (not_TO_dict hdd) fun b o q e => hs.extBut b o q e)
theorem store_one {d : Addr} {ky v : Value} {Q : PUnit → Shared → Prop} {A : Around} {E : Value → Shared → Prop} {s : Shared} (h : wpAny (model prog w) A (dictSet d ky v) (fun _ s' => Q PUnit.unit s') E s) :
    wpAny (model prog w) A (storeAll d [(ky, v)]) Q E s := by
  unfold storeAll
  rw [List.forIn_cons]
  refine wpAny_bind (wpAny_bind (wpAny_mono h (fun _ s' h' => wpAny_pure ?_) fun _ _ e => e))
  dsimp only
  rw [List.forIn_nil]
  exact wpAny_pure h'
theorem key_made {h : Heap} {a : Addr} {k : Int} {t1 t2 t3 : Tok} (ho : h.get? a = some { cls := .type "tuple", data := .seq [.str (Str.ofString "lots") t1, .int k t2, .str (Str.ofString "way") t3].toArray }) : IsTupleKey (mixKind prog w) h (keyL k) a :=
  ⟨_, _, _, ho, rfl, rfl, .cons (by simp [mixKind, MK.is, Value.isStrOf]) (.cons (by simp [mixKind, MK.is, Value.isInt]) (.cons (by simp [mixKind, MK.is, Value.isStrOf]) .nil))⟩
theorem KT.ofFull {h h' : Heap} {L : Addr} {m : Str → Option Value} (n : h.Ns L m) (k : ∀ b o, b ∉ [L] → h.get? b = some o → h'.get? b = some o) : KT h h' := by
  obtain ⟨o, es, ep, ho, hd, _⟩ := n
  exact KT.but ho (not_TO_dict hd) fun b o q e => k b o (fun hm => q (List.mem_singleton.mp hm)) e
end
end Mine
namespace Mine
theorem DI.keeps {prog : Program} {w : World} {h h' : Heap} {d : Addr} {D : List (Int × Int)} (x : DI prog w h d D) (k : ∀ b o, h.get? b = some o → h'.get? b = some o) : DI prog w h' d D := x.kt (KT.ext k) fun o e => k _ _ e
end Mine
end

section
open PySem PySem.W PySem.Calls PyProof.Rows
set_option maxRecDepth 100000
set_option maxHeartbeats 8000000
namespace Mine

def insL (xss : List (List Int)) (xs : List Int) : List (List Int) := xss.take (bisL xss xs) ++ xs :: xss.drop (bisL xss xs)
def sortedI (n i : Nat) : List (List Int) := ((waysL n).take i).foldl insL []
def callI (D : List (Int × Int)) (way : List Int) : List (Int × Int) := mergeC D [(1 + maxI way, 1)]
def callsI (n i : Nat) : List (Int × Int) := ((waysL n).take i).foldl callI []
theorem waysL_len : ∀ n ∈ List.range 6, ∀ way ∈ waysL n, way.length = n := by decide +kernel
theorem insL_len (xss : List (List Int)) (xs : List Int) : (insL xss xs).length = xss.length + 1 := by
  unfold insL
  simp only [List.length_append, List.length_take, List.length_cons, List.length_drop]
  omega
theorem insL_fold_len : ∀ (ws acc : List (List Int)), (ws.foldl insL acc).length = acc.length + ws.length
  | [], _ => rfl
  | w :: ws, acc => by rw [List.foldl_cons, insL_fold_len ws, insL_len]; simp; omega
theorem sortedI_len (n i : Nat) (hn : n ≤ 5) : (sortedI n i).length ≤ 60 := by
  unfold sortedI
  rw [insL_fold_len]
  have := (waysL_small n (List.mem_range.mpr (by omega))).1
  simp only [List.length_nil, List.length_take]
  omega
theorem callI_len (D : List (Int × Int)) (way : List Int) : (callI D way).length ≤ D.length + 1 := by
  unfold callI mergeC
  have h1 := setC_fold_len D []
  have h2 := addC_fold_len [(1 + maxI way, 1)] (D.foldl setC [])
  simp only [List.length_nil, List.length_cons] at h1 h2
  omega
theorem callI_fold_len : ∀ (ws : List (List Int)) (acc : List (Int × Int)), (ws.foldl callI acc).length ≤ acc.length + ws.length
  | [], _ => by simp
  | w :: ws, acc => by
    rw [List.foldl_cons]
    have h1 := callI_fold_len ws (callI acc w)
    have h2 := callI_len acc w
    simp only [List.length_cons]; omega
theorem callsI_len (n i : Nat) (hn : n ≤ 5) : (callsI n i).length ≤ 60 := by
  unfold callsI
  have h1 := callI_fold_len ((waysL n).take i) []
  have := (waysL_small n (List.mem_range.mpr (by omega))).1
  simp only [List.length_nil, List.length_take] at h1
  omega
theorem sortedI_step {n i : Nat} {way : List Int} (h : (waysL n)[i]? = some way) : sortedI n (i + 1) = insL (sortedI n i) way := by
  unfold sortedI; rw [List.take_add_one, h, List.foldl_append]; rfl
theorem callsI_step {n i : Nat} {way : List Int} (h : (waysL n)[i]? = some way) : callsI n (i + 1) = callI (callsI n i) way := by
  unfold callsI; rw [List.take_add_one, h, List.foldl_append]; rfl
theorem Tups.take {h : Heap} {vs : List Value} {xss : List (List Int)} (x : Tups h vs xss) : ∀ j, Tups h (vs.take j) (xss.take j) := by
  induction x with
  | nil => intro j; simp; exact .nil
  | cons t _ ih =>
    intro j
    cases j with
    | zero => exact .nil
    | succ j => exact .cons t (ih j)
theorem Tups.drop {h : Heap} {vs : List Value} {xss : List (List Int)} (x : Tups h vs xss) : ∀ j, Tups h (vs.drop j) (xss.drop j) := by
  induction x with
  | nil => intro j; simp; exact .nil
  | cons t r ih =>
    intro j
    cases j with
    | zero => exact .cons t r
    | succ j => exact ih j
theorem Tups.ins {h : Heap} {vs : List Value} {xss : List (List Int)} {v : Value} {xs : List Int} (x : Tups h vs xss) (y : TI h v xs) :
    Tups h (vs.take (bisL xss xs) ++ v :: vs.drop (bisL xss xs)) (insL xss xs) := (x.take _).append (.cons y (x.drop _))

/-- the order at the end -/
def lawOrder (n : Nat) : List (List Int) := sortedI n (waysL n).length
def lawCalls (n : Nat) : List (Int × Int) := callsI n (waysL n).length
def bothI (n : Nat) (drawn way : List Int) : List Int := toldL ((List.range n).map fun k => [drawn.getD k 0, way.getD k 0])
def okWay (n : Nat) (drawn way : List Int) : Bool :=
  decide (bisL (lawOrder n) (bothI n drawn way) < (lawOrder n).length) && decide ((lawOrder n).getD (bisL (lawOrder n) (bothI n drawn way)) [] = bothI n drawn way) &&
    decide (¬ 1 + maxI (bothI n drawn way) < (if 1 + maxI way > 1 + maxI drawn then 1 + maxI way else 1 + maxI drawn))
def okDrawn (n : Nat) (drawn : List Int) : Bool :=
  decide (bisL (lawOrder n) drawn < (lawOrder n).length) && decide ((lawOrder n).getD (bisL (lawOrder n) drawn) [] = drawn) && (pickI (idxOfStep 7 (lawOrder n).length) (lawOrder n)).all (okWay n drawn)
def lens : List Nat := [2, 3, 4, 5]
theorem pure_sorted : ∀ n ∈ lens, ∀ k ∈ List.range ((lawOrder n).length - 1), ltL ((lawOrder n).getD k []) ((lawOrder n).getD (k + 1) []) = true := by decide +kernel
theorem pure_bell : ∀ n ∈ lens, ((lawOrder n).length : Int) = lastI (bellN (n - 1)) := by decide +kernel
theorem pure_count : ∀ n ∈ lens, sumC (lawCalls n) = ((lawOrder n).length : Int) := by decide +kernel
theorem pure_parted : ∀ n ∈ lens, ∀ k ∈ List.range n, getC (lawCalls n) (((k : Nat) : Int) + 1) = some (partedI n (k + 1)) := by decide +kernel
theorem pure_drawn : ∀ n ∈ lens, ∀ d ∈ waysL n, okDrawn n d = true := by decide +kernel
end Mine
end

section
open PySem PySem.W PySem.Calls PyProof.Rows
set_option maxRecDepth 100000
set_option maxHeartbeats 8000000
namespace Mine
theorem rev_all : ∀ k ∈ List.range 5, ∀ i ∈ List.range (waysL k).length, i ∈ idxOfStep (-1) (waysL k).length := by decide +kernel
theorem mem_pick {α : Type} {idx : List Nat} {l : List α} {a : α} (h : a ∈ l) (hi : ∀ i ∈ List.range l.length, i ∈ idx) : a ∈ pickI idx l := by
  obtain ⟨i, hlt, e⟩ := List.mem_iff_getElem.mp h
  exact List.mem_filterMap.mpr ⟨i, hi i (List.mem_range.mpr hlt), by rw [List.getElem?_eq_getElem hlt, e]⟩
theorem maxI_ge {xs : List Int} {a : Int} (h : a ∈ xs) : a ≤ maxI xs := by
  obtain ⟨i, hlt, e⟩ := List.mem_iff_getElem.mp h
  have h2 := (argBest_gt (fun i => xs.getD i 0) (xs.length - 1)).2 i (by omega)
  have e2 : xs.getD i 0 = a := by rw [List.getD_eq_getElem?_getD, List.getElem?_eq_getElem hlt, e]; rfl
  unfold maxI
  rw [← e2]
  exact h2
theorem ded_snoc (ds : List (List Int)) (d : List Int) : dedupL (ds ++ [d]) = dedStep (dedupL ds) d := by
  unfold dedupL; rw [List.foldl_append]; rfl
theorem ded_nodup (ds : List (List Int)) : ∀ ks : List (List Int), ks.Nodup → (ds.foldl dedStep ks).Nodup := by
  induction ds with
  | nil => intro ks h; exact h
  | cons d ds ih =>
    intro ks h
    rw [List.foldl_cons]
    refine ih _ ?_
    by_cases hm : d ∈ ks
    · rw [dedStep_in hm]; exact h
    · rw [dedStep_out hm]
      refine List.nodup_append.mpr ⟨h, by simp, ?_⟩
      intro a ha b hb
      rw [List.mem_singleton.mp hb]
      exact fun e => hm (e ▸ ha)
theorem ded_sub (ds : List (List Int)) : ∀ ks : List (List Int), ∀ e ∈ ds.foldl dedStep ks, e ∈ ks ∨ e ∈ ds := by
  induction ds with
  | nil => intro ks e h; exact .inl h
  | cons d ds ih =>
    intro ks e h
    rw [List.foldl_cons] at h
    rcases ih _ e h with h1 | h1
    · by_cases hm : d ∈ ks
      · rw [dedStep_in hm] at h1; exact .inl h1
      · rw [dedStep_out hm] at h1
        rcases List.mem_append.mp h1 with h2 | h2
        · exact .inl h2
        · rw [List.mem_singleton.mp h2]; exact .inr (.head _)
    · exact .inr (List.mem_cons_of_mem _ h1)
theorem ded_all (ds : List (List Int)) : ∀ ks : List (List Int), ∀ e ∈ ds, e ∈ ds.foldl dedStep ks := by
  induction ds with
  | nil => intro ks e h; simp at h
  | cons d ds ih =>
    intro ks e h
    rw [List.foldl_cons]
    rcases List.mem_cons.mp h with rfl | h
    · refine ded_keep ds _ ?_
      by_cases hm : e ∈ ks
      · rw [dedStep_in hm]; exact hm
      · rw [dedStep_out hm]; simp
    · exact ih _ e h
theorem told_mem : ∀ (n : Nat) (ds : List (List Int)), n ≤ 5 → ds.length = n → toldL ds ∈ waysL n := by
  intro n
  induction n with
  | zero =>
    intro ds _ h
    rw [List.length_eq_zero_iff.mp h]
    simp [toldL, waysL]
  | succ n ih =>
    intro ds hn h
    rcases List.eq_nil_or_concat ds with rfl | ⟨L, d, rfl⟩
    · simp at h
    rw [List.concat_eq_append] at h ⊢
    have hL : L.length = n := by simpa using h
    have im := ih L (by omega) hL
    have hK : dedupL (L ++ [d]) = dedStep (dedupL L) d := ded_snoc L d
    have e1 : toldL (L ++ [d]) = toldL L ++ [(((dedupL (L ++ [d])).idxOf d : Nat) : Int)] := by
      unfold toldL
      rw [List.map_append]
      have h1 : L.map (fun d_1 => (((dedupL (L ++ [d])).idxOf d_1 : Nat) : Int)) = L.map fun d_1 => (((dedupL L).idxOf d_1 : Nat) : Int) := by
        refine List.map_congr_left fun e he => ?_
        have hm : e ∈ dedupL L := ded_all L [] e he
        rw [hK]
        unfold dedStep
        rw [List.idxOf_append, if_pos hm]
      rw [h1]
      rfl
    have hj : (dedupL (L ++ [d])).idxOf d ≤ (dedupL L).length := by
      rw [hK]
      by_cases hm : d ∈ dedupL L
      · rw [dedStep_in hm]; exact Nat.le_of_lt (List.idxOf_lt_length_of_mem hm)
      · rw [dedStep_out hm, List.idxOf_append, if_neg hm]; simp
    rw [e1]
    generalize (dedupL (L ++ [d])).idxOf d = j at hj
    show _ ∈ waysStep (waysL n)
    unfold waysStep
    refine List.mem_flatMap.mpr ⟨toldL L, mem_pick im (rev_all n (List.mem_range.mpr (by omega))), ?_⟩
    unfold extI
    refine List.mem_map.mpr ⟨j, List.mem_range.mpr ?_, rfl⟩
    unfold lotsI
    cases j with
    | zero =>
      have := maxI_ge (xs := -1 :: toldL L) (a := -1) (.head _)
      omega
    | succ j =>
      have hlt : j < (dedupL L).length := by omega
      have hmem : ((j : Nat) : Int) ∈ toldL L := by
        unfold toldL
        refine List.mem_map.mpr ⟨(dedupL L)[j], ?_, ?_⟩
        · rcases ded_sub L [] _ (List.getElem_mem hlt : (dedupL L)[j] ∈ dedupL L) with h1 | h1
          · simp at h1
          · exact h1
        · have hnd : (dedupL L).Nodup := ded_nodup L [] List.nodup_nil
          rw [hnd.idxOf_getElem j hlt]
      have := maxI_ge (xs := -1 :: toldL L) (List.mem_cons_of_mem _ hmem)
      omega
end Mine
end

section
open PySem PySem.W PySem.Calls PyProof.Rows
set_option maxRecDepth 100000
set_option maxHeartbeats 4000000
namespace Mine
section
variable {prog : Program} {w : World} {A : Around} {E : Value → Shared → Prop} {env : Env}

def CompK (prog : Program) (w : World) (A : Around) (env : Env) (scope : Scope) (cl : List (Str × Addr)) (x : Str) (ifs : List PySem.Expr) (elt : PySem.Expr) (Q : Value → Shared → Prop) (it : Value) (s₂ : Shared) : Prop :=
  ∃ (I : Addr) (fp wr : List Addr) (n : Nat) (P : Nat → Value → Prop) (St : Nat → Heap → Prop) (p : Nat → Bool) (F : Nat → Heap → Value → Prop),
    it = .ref I ∧ Walks prog w A I fp wr n P St ∧ n ≤ 100000 ∧ St 0 s₂.heap ∧ (∀ b ∈ fp, b < s₂.heap.objs.size) ∧
    (∀ i h h' v, F i h v → KT h h' → F i h' v) ∧ (∀ i h, St i h → ∀ b ∈ wr, ∀ o, h.get? b = some o → ¬ TO o) ∧
    (∀ C i v h₃ tk₃ m₃, s₂.heap.objs.size ≤ C → i < n → P i v → h₃.Ns C m₃ → m₃ x = some v → (∀ b o, b ∉ wr → s₂.heap.get? b = some o → h₃.get? b = some o) →
      wpAny (model prog w) A (forIn ifs true fun c r => if r = true then do let ok ← isTrue c (compEnvC scope cl C env) (eval c (compEnvC scope cl C env)); pure (ForInStep.yield ok) else pure (ForInStep.yield r))
        (fun ok s₄ => ok = p i ∧ KeepC C m₃ { s₂ with heap := h₃, toks := tk₃ } s₄ ∧ (ok = true → wpAny (model prog w) A (eval elt (compEnvC scope cl C env)) (fun y s₅ => F i s₅.heap y ∧ KeepC C m₃ s₄ s₅) (fun _ _ => False) s₄)) (fun _ _ => False) { s₂ with heap := h₃, toks := tk₃ }) ∧
    (∀ D k h' tk ys, s₂.heap.objs.size ≤ D → h'.get? D = some (listOf ys.toArray k) → Outs p F h' n ys → (∀ b o, b ∉ wr → s₂.heap.get? b = some o → h'.get? b = some o) → Q (.ref D) { s₂ with heap := h', toks := tk })

theorem compK {s : Shared} {elt iter : PySem.Expr} {x : Str} {px : Pos} {ifs : List PySem.Expr} {scope : Scope} {cl : List (Str × Addr)} {pos : Pos} {Q : Value → Shared → Prop}
    (hclos : closureFor scope env = pure cl) (hcell : ∀ y ∈ scope.names, y.2 ≠ .cell) (hkind : scope.kind = .function)
    (hnames : ∀ y ∈ scope.names, y.2 = .local → scope.names.lookup y.1 = some .local) (hx : scope.names.lookup x = some .local)
    (h : wpAny (model prog w) A (eval iter env) (fun xv s₁ => wpAny (model prog w) A (pyIter xv) (fun it s₂ => CompK prog w A env scope cl x ifs elt Q it s₂) E s₁) E s)
    (hs : ∀ x, foldedSetIterable iter env x = pure x := by intro _; rfl) :
    wpAny (model prog w) A (eval (.ListComp elt [⟨.Name x px, iter, ifs, 0⟩] scope pos) env) Q E s := by
  rw [eval_ListComp]
  refine wpAny_comprehension_free (use := none) rfl hs hclos hkind hnames (wpAny_mono h (fun xv s₁ h₁ => wpAny_mono h₁ (fun it s₂ h₂ => ?_) fun _ _ e => e) fun _ _ e => e)
  obtain ⟨I, fp, wr, n, P, St, p, F, rfl, W, hsz, hst, hfp, mono, hit, turn, fin⟩ := h₂
  refine wpAny_newObj_type (wpAny_newFunctionEnv hcell (by intro y hy; simp at hy) (fun h₁ hns₁ hsb₁ => ?_) hkind)
  dsimp only at hns₁ hsb₁ ⊢
  generalize hH2 : s₂.heap.push { cls := .type "list", dict := none, data := .seq ([] : List Value).toArray } = H2 at hns₁ hsb₁ ⊢
  have hC : H2.objs.size = s₂.heap.objs.size + 1 := by rw [← hH2, Heap.size_push]
  generalize hCe : H2.objs.size = C at hns₁ hsb₁ hC ⊢
  have hDC : s₂.heap.objs.size ≠ C := by rw [hC]; exact Nat.ne_of_lt (Nat.lt_succ_self _)
  have hCle : s₂.heap.objs.size ≤ C := by rw [hC]; exact Nat.le_succ _
  have below : ∀ b o, s₂.heap.get? b = some o → b ≠ C ∧ b ≠ s₂.heap.objs.size := fun b o e => ⟨by rw [hC]; exact Nat.ne_of_lt (Nat.lt_succ_of_lt (Heap.lt_size e)), Nat.ne_of_lt (Heap.lt_size e)⟩
  have hDf : s₂.heap.objs.size ∉ fp := fun hm => Nat.lt_irrefl _ (hfp _ hm)
  have hCf : C ∉ fp := fun hm => absurd (hfp _ hm) (Nat.not_lt.mpr hCle)
  have hCw : C ∉ wr := fun hm => hCf (W.sub _ hm)
  have hDw : s₂.heap.objs.size ∉ wr := fun hm => hDf (W.sub _ hm)
  have old : ∀ b o, s₂.heap.get? b = some o → h₁.get? b = some o := fun b o e => hsb₁.extBut b o (below b o e).1 (Heap.get?_push_of_some _ (hH2 ▸ Heap.get?_push_of_some _ e))
  have hacc : h₁.get? s₂.heap.objs.size = some (listOf ([] : List Value).toArray 0) := hsb₁.extBut _ _ hDC (Heap.get?_push_of_some _ (hH2 ▸ Heap.get?_push_size _ rfl))
  have hst₁ : St 0 h₁ := W.frame _ _ _ hst fun b _ o e => old b o e
  have loop : ∀ tk, codeAny (model prog w) A (.compLoop (.ListComp elt [⟨.Name x px, iter, ifs, 0⟩] scope pos) 0 (.ref I) (.ref s₂.heap.objs.size) (compEnvC scope cl C env))
      (compPost (model prog w) A E none Q (.ref s₂.heap.objs.size) C) { s₂ with heap := h₁, toks := tk } := by
    intro tk
    refine codeAny_compLoop_tests (fun k s' => ∃ i h' tk' m' ys e, s' = { s₂ with heap := h', toks := tk' } ∧ i ≤ n ∧ k = n - i ∧ St i h' ∧ h'.get? s₂.heap.objs.size = some (listOf ys.toArray e) ∧ h'.Ns C m' ∧
      Outs p F h' i ys ∧ (∀ b o, b ∉ wr → s₂.heap.get? b = some o → h'.get? b = some o)) ?_ n ⟨0, h₁, tk, _, [], 0, rfl, Nat.zero_le _, rfl, hst₁, hacc, hns₁, rfl, fun b o _ e => old b o e⟩
    rintro k s' ⟨i, H, tk', m', ys, ep, rfl, hi, rfl, hst', hacc', hn', hO, hk⟩
    by_cases hlt : i < n
    · refine W.item i _ _ _ hlt hst' fun v h₂ tk₂ hPv hst₂ hk₂ => ?_
      obtain ⟨oC, eC, _, hoC, hdC, _⟩ := id (hn'.at' fun o e => hk₂ _ o hCw e)
      refine wpAny_assign_Name (wpAny_storeName_local (lookup_relabel_local hx) (hn'.at' fun o e => hk₂ _ o hCw e) (fun h₃ hn₃ hs₃ => ?_) (by simp [compEnvC, relabel, hkind]))
      have up₃ : ∀ b o, b ≠ C → b ∉ wr → H.get? b = some o → h₃.get? b = some o := fun b o hbC hbf e => hs₃.extBut b o hbC (hk₂ b o hbf e)
      have st₃ : St (i + 1) h₃ := W.frame _ _ _ hst₂ fun b hb o e => hs₃.extBut b o (fun q => hCf (by rw [show b = C from q] at hb; exact hb)) e
      have off₃ : ∀ b o, b ∉ wr → s₂.heap.get? b = some o → h₃.get? b = some o := fun b o hbf e => up₃ b o (below b o e).1 hbf (hk b o hbf e)
      have kt₃ : KT H h₃ := (KT.off (hit _ _ hst') hk₂).trans (KT.but hoC (not_TO_dict hdC) fun b o q e => hs₃.extBut b o q e)
      refine wpAny_mono (turn C i v h₃ _ _ hCle hlt hPv hn₃ (by simp) off₃) (fun ok s₄ h₄ => ?_) fun _ _ e => e.elim
      obtain ⟨rfl, ⟨h₄, tk₄, rfl, hk₄, n₄⟩, hel⟩ := h₄
      obtain ⟨oC3, eC3, _, hoC3, hdC3, _⟩ := id hn₃
      obtain ⟨oC4, eC4, _, hoC4, hdC4, _⟩ := id n₄
      have acc₄ : h₄.get? s₂.heap.objs.size = some (listOf ys.toArray ep) := hk₄ _ _ hDC (up₃ _ _ hDC hDw hacc')
      have kt₄ : KT H h₄ := kt₃.trans (KT.but hoC3 (not_TO_dict hdC3) hk₄)
      have st₄ : St (i + 1) h₄ := W.frame _ _ _ st₃ fun b hb o e => hk₄ b o (fun q => hCf (by rw [show b = C from q] at hb; exact hb)) e
      have off₄ : ∀ b o, b ∉ wr → s₂.heap.get? b = some o → h₄.get? b = some o := fun b o hbf e => hk₄ b o (below b o e).1 (off₃ b o hbf e)
      cases hp : p i with
      | false =>
        simp only [Bool.false_eq_true, if_false]
        refine ⟨n - (i + 1), by omega, i + 1, h₄, tk₄, _, ys, ep, rfl, hlt, rfl, st₄, acc₄, n₄, ?_, off₄⟩
        simp only [Outs, hp, Bool.false_eq_true, if_false]
        exact hO.keeps fun i v f => mono _ _ _ _ f kt₄
      | true =>
        simp only [if_true]
        refine wpAny_mono (hel hp) (fun y s₅ h₅ => ?_) fun _ _ e => e.elim
        obtain ⟨hF, h₅, tk₅, rfl, hk₅, n₅⟩ := h₅
        have acc₅ := hk₅ _ _ hDC acc₄
        have hys := hO.length
        refine append_at (hsz := by simp only [List.size_toArray, sizeLine]; omega) acc₅ fun h₆ hs₆ hg₆ => ?_
        have kt₆ : KT h₅ h₆ := KT.but acc₅ not_TO_list fun b o q e => hs₆.extBut b o q e
        refine ⟨n - (i + 1), by omega, i + 1, h₆, tk₅, _, ys ++ [y], ep + 1, rfl, hlt, rfl, ?_, ?_, n₅.sameBut hs₆ (Ne.symm hDC), ?_, ?_⟩
        · exact W.frame _ _ _ st₄ fun b hb o e => hs₆.extBut b o (fun q => hDf (by rw [show b = s₂.heap.objs.size from q] at hb; exact hb)) (hk₅ b o (fun q => hCf (by rw [show b = C from q] at hb; exact hb)) e)
        · rw [hg₆, List.push_toArray]
        · simp only [Outs, hp, if_true]
          exact ⟨ys, y, rfl, hO.keeps fun i v f => mono _ _ _ _ f (kt₄.trans ((KT.but hoC4 (not_TO_dict hdC4) hk₅).trans kt₆)), mono _ _ _ _ hF kt₆⟩
        · exact fun b o hbf e => hs₆.extBut b o (below b o e).2 (hk₅ b o (below b o e).1 (off₄ b o hbf e))
    · have hin : i = n := by omega
      subst hin
      refine W.done _ _ _ hst' fun h₂ tk₂ hk₂ => ?_
      refine ⟨m', hn'.at' fun o e => hk₂ _ o hCw e, fun h₃ hs₃ => ?_⟩
      obtain ⟨oC, eC, _, hoC, hdC, _⟩ := id (hn'.at' fun o e => hk₂ _ o hCw e)
      refine fin s₂.heap.objs.size ep h₃ tk₂ ys (Nat.le_refl _) (hs₃.extBut _ _ hDC (hk₂ _ _ hDw hacc')) (hO.keeps fun i v f => mono _ _ _ _ f ((KT.off (hit _ _ hst') hk₂).trans (KT.but hoC (not_TO_dict hdC) fun b o q e => hs₃.extBut b o q e))) ?_
      exact fun b o hbf e => hs₃.extBut b o (below b o e).1 (hk₂ b o hbf (hk b o hbf e))
  exact codeAny_compStart_list (loop _) (W.self 0 _ _ _ hst₁ (loop _))

theorem range_compK {s : Shared} {E : Value → Shared → Prop} {scope : Scope} {cl : List (Str × Addr)} {x : Str} {ifs : List PySem.Expr} {elt : PySem.Expr} {Q : Value → Shared → Prop} {r : Addr} {a b : Int} {t u v : Tok} {n : Nat} (hh : A.handled = none)
    (hr : IsRange s.heap r a b 1 t u v) (hn : Builtin.Range.rangeSize a b 1 = (n : Int)) (hsm : Builtin.Range.small a b 1 = true) (hz : n ≤ 1000) (p : Nat → Bool) (F : Nat → Heap → Value → Prop) (mono : ∀ i h h' v, F i h v → KT h h' → F i h' v)
    (turn : ∀ (C i : Nat) t h₃ tk₃ m₃, s.heap.objs.size ≤ C → i < n → h₃.Ns C m₃ → m₃ x = some (.int (a + i) t) → (∀ b o, s.heap.get? b = some o → h₃.get? b = some o) →
      wpAny (model prog w) A (forIn ifs true fun c r => if r = true then do let ok ← isTrue c (compEnvC scope cl C env) (eval c (compEnvC scope cl C env)); pure (ForInStep.yield ok) else pure (ForInStep.yield r))
        (fun ok s₄ => ok = p i ∧ KeepC C m₃ { s with heap := h₃, toks := tk₃ } s₄ ∧ (ok = true → wpAny (model prog w) A (eval elt (compEnvC scope cl C env)) (fun y s₅ => F i s₅.heap y ∧ KeepC C m₃ s₄ s₅) (fun _ _ => False) s₄)) (fun _ _ => False) { s with heap := h₃, toks := tk₃ })
    (fin : ∀ (D k : Nat) h' tk ys, s.heap.objs.size ≤ D → h'.get? D = some (listOf ys.toArray k) → Outs p F h' n ys → (∀ b o, s.heap.get? b = some o → h'.get? b = some o) → Q (.ref D) { s with heap := h', toks := tk }) :
    wpAny (model prog w) A (pyIter (.ref r)) (fun it s₂ => CompK prog w A env scope cl x ifs elt Q it s₂) E s := by
  have up : ∀ {h' : Heap} {o₀ : Obj}, (∀ b o, b ∉ [s.heap.objs.size] → (s.heap.push o₀).get? b = some o → h'.get? b = some o) → ∀ b o, s.heap.get? b = some o → h'.get? b = some o := fun off b o e =>
    off b o (fun hm => Nat.ne_of_lt (Heap.lt_size e) (List.mem_singleton.mp hm)) (Heap.get?_push_of_some _ e)
  refine wpAny_pyIter_range hr hsm ⟨s.heap.objs.size, [s.heap.objs.size], [s.heap.objs.size], n, _, _, p, F, rfl, Walks.range hh _ a 1 n, by omega, ?_, ?_, mono, ?_, ?_, ?_⟩
  · show IsRangeIter _ _ _ _ _
    rw [hn]
    simpa using Heap.get?_push_size _ rfl
  · intro b hb
    rw [List.mem_singleton.mp hb, Heap.size_push]
    exact Nat.lt_succ_self _
  · rintro i h st b hb o e
    rw [List.mem_singleton.mp hb] at e
    have st' : IsRangeIter h s.heap.objs.size (a + ((i : Nat) : Int) * 1) (((n : Nat) : Int) - ((i : Nat) : Int)) 1 := st
    rw [st'] at e
    cases e
    exact not_TO_range
  · rintro C i v h₃ tk₃ m₃ hC hi ⟨tv, rfl⟩ n3 m3 off
    dsimp only at hC ⊢
    rw [Heap.size_push] at hC
    rw [Int.mul_one] at m3
    exact turn C i tv h₃ tk₃ m₃ (Nat.le_of_succ_le hC) hi n3 m3 (up off)
  · rintro D k h' tk ys hD hg hO off
    dsimp only at hD ⊢
    rw [Heap.size_push] at hD
    exact fin D k h' tk ys (Nat.le_of_succ_le hD) hg hO (up off)

theorem list_compK {s : Shared} {E : Value → Shared → Prop} {scope : Scope} {cl : List (Str × Addr)} {x : Str} {ifs : List PySem.Expr} {elt : PySem.Expr} {Q : Value → Shared → Prop} {l : Addr} {vs : List Value} (hh : A.handled = none)
    (hl : s.heap.IsList l vs.toArray) (hz : vs.length ≤ 1000) (p : Nat → Bool) (F : Nat → Heap → Value → Prop) (mono : ∀ i h h' v, F i h v → KT h h' → F i h' v)
    (turn : ∀ (C i : Nat) v h₃ tk₃ m₃, s.heap.objs.size ≤ C → vs[i]? = some v → h₃.Ns C m₃ → m₃ x = some v → (∀ b o, s.heap.get? b = some o → h₃.get? b = some o) →
      wpAny (model prog w) A (forIn ifs true fun c r => if r = true then do let ok ← isTrue c (compEnvC scope cl C env) (eval c (compEnvC scope cl C env)); pure (ForInStep.yield ok) else pure (ForInStep.yield r))
        (fun ok s₄ => ok = p i ∧ KeepC C m₃ { s with heap := h₃, toks := tk₃ } s₄ ∧ (ok = true → wpAny (model prog w) A (eval elt (compEnvC scope cl C env)) (fun y s₅ => F i s₅.heap y ∧ KeepC C m₃ s₄ s₅) (fun _ _ => False) s₄)) (fun _ _ => False) { s with heap := h₃, toks := tk₃ })
    (fin : ∀ (D k : Nat) h' tk ys, s.heap.objs.size ≤ D → h'.get? D = some (listOf ys.toArray k) → Outs p F h' vs.length ys → (∀ b o, s.heap.get? b = some o → h'.get? b = some o) → Q (.ref D) { s with heap := h', toks := tk }) :
    wpAny (model prog w) A (pyIter (.ref l)) (fun it s₂ => CompK prog w A env scope cl x ifs elt Q it s₂) E s := by
  have up : ∀ {h' : Heap} {o₀ : Obj}, (∀ b o, b ∉ [s.heap.objs.size] → (s.heap.push o₀).get? b = some o → h'.get? b = some o) → ∀ b o, s.heap.get? b = some o → h'.get? b = some o := fun off b o e =>
    off b o (fun hm => Nat.ne_of_lt (Heap.lt_size e) (List.mem_singleton.mp hm)) (Heap.get?_push_of_some _ e)
  have hlt : l < s.heap.objs.size := by obtain ⟨_, e, _⟩ := hl; exact Heap.lt_size e
  refine wpAny_pyIter_list hl ⟨s.heap.objs.size, [s.heap.objs.size, l], [s.heap.objs.size], vs.toArray.size, _, _, p, F, rfl, Walks.list hh _ l (Nat.ne_of_lt hlt) vs.toArray, by simp only [List.size_toArray]; omega,
    ⟨⟨_, Heap.get?_push_size _ rfl, rfl, rfl⟩, hl.at fun o e => Heap.get?_push_of_some _ e⟩, ?_, mono, ?_, ?_, ?_⟩
  · intro b hb
    rw [Heap.size_push]
    rcases List.mem_cons.mp hb with rfl | hb
    · exact Nat.lt_succ_self _
    · rw [List.mem_singleton.mp hb]; exact Nat.lt_succ_of_lt hlt
  · rintro i h ⟨⟨o', e1, e2, e3⟩, _⟩ b hb o e
    rw [List.mem_singleton.mp hb] at e
    rw [e1] at e
    cases e
    exact not_TO_cls (by rw [e2]; decide)
  · rintro C i v h₃ tk₃ m₃ hC hi hv n3 m3 off
    dsimp only at hC ⊢
    rw [Heap.size_push] at hC
    exact turn C i v h₃ tk₃ m₃ (Nat.le_of_succ_le hC) (by simpa using hv) n3 m3 (up off)
  · rintro D k h' tk ys hD hg hO off
    dsimp only at hD ⊢
    rw [Heap.size_push] at hD
    rw [List.size_toArray] at hO
    exact fin D k h' tk ys (Nat.le_of_succ_le hD) hg hO (up off)
theorem outs_none {F : Nat → Heap → Value → Prop} {h : Heap} : ∀ {n : Nat} {ys : List Value}, Outs (fun _ => false) F h n ys → ys = []
  | 0, _, x => x
  | n + 1, ys, x => by
    simp only [Outs, Bool.false_eq_true, if_false] at x
    exact outs_none x
end
end Mine
end

section
open PySem PySem.W PySem.Calls PyProof.Rows PySem.SeqAt
set_option maxRecDepth 100000
set_option maxHeartbeats 4000000
namespace Mine
section
variable {prog : Program} {w : World} {A : Around} {E : Value → Shared → Prop} {s : Shared}
theorem ne_same {a b : Int} {t u : Tok} {Q : Value → Shared → Prop} (e : a = b) (h : Q (.bool false) s) : wpAny (model prog w) A (compareOp .NotEq (.int a t) (.int b u)) Q E s := by
  subst e
  exact RcNeAt.int_int a t a u prog w E Q (by simpa using h)
theorem lt_false {a b : Int} {t u : Tok} {Q : Value → Shared → Prop} (e : ¬ a < b) (h : Q (.bool false) s) : wpAny (model prog w) A (compareOp .Lt (.int a t) (.int b u)) Q E s := by
  refine compareOp_gives (op := .Lt) (typeIs_int s a t) (typeIs_int s b u) PySem.F.slot_int_lt PySem.F.entry_int_lt (PySem.F.args_int_lt_2 _ _) (gives_int_lt a b t u) (fun x => nomatch x) ?_
  rw [decide_eq_false e]
  exact h
theorem ints_at : ∀ {us vs : List Value} {xs : List Int}, IntsAre us xs → IntsAre vs xs → ∀ (j : Nat) (h1 : j < us.length) (h2 : j < vs.length), EqAt A s us[j] vs[j] true
  | _, _, _, .nil, .nil, j, h1, _ => absurd h1 (Nat.not_lt_zero _)
  | _, _, _, .cons k t r, .cons _ t' r', j, h1, h2 => by
    cases j with
    | zero =>
      have := EqAt.int_int (A := A) (s := s) k t k t'
      simpa using this
    | succ j => exact ints_at r r' j (Nat.lt_of_succ_lt_succ h1) (Nat.lt_of_succ_lt_succ h2)
theorem ne_TI {u v : Value} {xs : List Int} {Q : Value → Shared → Prop} (hu : A.units < cLine) (hx : TI s.heap u xs) (hy : TI s.heap v xs) (h : Q (.bool false) s) : wpAny (model prog w) A (compareOp .NotEq u v) Q E s := by
  obtain ⟨a, us, rfl, ha, hi⟩ := hx
  obtain ⟨b, vs, rfl, hb, hj⟩ := hy
  have e1 := hi.length
  have e2 := hj.length
  refine RcNeAt.tuples (items := us.toArray) (items2 := vs.toArray) (e := fun _ => true) ⟨_, ha, rfl, _, rfl⟩ ⟨_, hb, rfl, _, rfl⟩ hu (fun j h1 h2 => ?_) prog w E Q ?_
  · simpa using ints_at (A := A.in1) (s := s) hi hj j (by simpa using h1) (by simpa using h2)
  · have e3 : (!((List.range (min us.toArray.size vs.toArray.size)).all (fun _ => true) && us.toArray.size == vs.toArray.size)) = false := by
      simp [e1, e2]
    rw [e3]; exact h
end
end Mine
end

section
open PySem PySem.W PySem.Calls PyProof.Rows PySem.SeqAt
set_option maxRecDepth 100000
set_option maxHeartbeats 4000000
namespace Mine
theorem order_len : ∀ n ∈ lens, ∀ way ∈ lawOrder n, way.length = n := by decide +kernel
theorem outs_KI {g : Nat → Int} {h : Heap} : ∀ {n : Nat} {ys : List Value}, Outs (fun _ => true) (fun i _ v => ∃ t, v = .int (g i) t) h n ys → KIs false h ys ((List.range n).map fun i => [g i])
  | 0, ys, x => by rw [show ys = [] from x]; exact .nil
  | n + 1, ys, x => by
    simp only [Outs, if_true] at x
    obtain ⟨ys', y, rfl, o, t, e⟩ := x
    rw [List.range_succ, List.map_append]
    exact (outs_KI o).snoc ⟨g n, t, e, rfl⟩
theorem outs_KT {g : Nat → List Int} {h : Heap} : ∀ {n : Nat} {ys : List Value}, Outs (fun _ => true) (fun i h v => TI h v (g i)) h n ys → KIs true h ys ((List.range n).map g)
  | 0, ys, x => by rw [show ys = [] from x]; exact .nil
  | n + 1, ys, x => by
    simp only [Outs, if_true] at x
    obtain ⟨ys', y, rfl, o, e⟩ := x
    rw [List.range_succ, List.map_append]
    exact (outs_KT o).snoc e
end Mine
end

section
open PySem PySem.W PySem.Calls PyProof.Rows
set_option maxRecDepth 100000
set_option maxHeartbeats 80000000
namespace Mine
theorem IsCell.off1 {h h' : Heap} {c L : Addr} {v : Option Value} (x : h.IsCell c v) (k : ∀ b o, b ∉ [L] → h.get? b = some o → h'.get? b = some o) (n : c ∉ [L]) : h'.IsCell c v := by
  obtain ⟨o, e, d⟩ := x
  exact ⟨o, k _ _ n e, d⟩
theorem News.cons' {h₀ h : Heap} {L : Addr} {p : Addr × Obj} {news : List (Addr × Obj)} (x : h.get? p.1 = some p.2 ∧ p.1 ≠ L ∧ h₀.get? p.1 = none) (N : News h₀ L h news) : News h₀ L h (p :: news) := by
  intro q hq
  rcases List.mem_cons.mp hq with rfl | hq
  · exact x
  · exact N q hq
section
variable {prog : Program} {w : World} {A : Around} {E : Value → Shared → Prop} {s : Shared}
theorem len1 {l : Addr} {vs : List Value} {k : Nat} {Q : Value → Shared → Prop} (hl : s.heap.get? l = some (listOf vs.toArray k)) (hz : vs.length ≤ 1000) (h : ∀ t tk, Q (.int ((vs.length : Nat) : Int) t) { s with toks := tk }) :
    wpAny (model prog w) A (call (.builtin "len") [.ref l]) Q E s := by
  refine call_len_list (items := vs.toArray) ⟨_, hl, rfl, _, rfl⟩ (by simp only [List.size_toArray]; omega) ?_
  rw [List.size_toArray]
  exact h _ _
end
local macro_rules | `(tactic| walk_at "S0") => `(tactic| repeat' (
  (fail_if_success (with_reducible show wpAny _ _ (exec (Stmt.While _ _ _ _) _) _ _ _));
  (fail_if_success (with_reducible show wpAny _ _ (exec (Stmt.For _ _ _ _ _) _) _ _ _));
  (fail_if_success (with_reducible show wpAny _ _ (eval (Expr.ListComp _ _ _ _) _) _ _ _));
  (fail_if_success (with_reducible show wpAny _ _ (call (Value.type "range") _ _) _ _ _));
  (fail_if_success (with_reducible show wpAny _ _ (subscriptTail _ _ (Value.ref _) (Value.int _ _)) _ _ _));
  (fail_if_success (with_reducible show wpAny _ _ (pyIter _) _ _ _));
  (fail_if_success (with_reducible show wpAny _ _ (call (Value.builtin "len") _) _ _ _));
  (fail_if_success (with_reducible show wpAny _ _ (call (Value.builtin "max") [_]) _ _ _));
  (fail_if_success (with_reducible show wpAny _ _ (eval (Expr.Dict (_ :: _) _ _) _) _ _ _));
  (fail_if_success (with_reducible show wpAny _ _ (call (Value.ref _) _ _) _ _ _));
  (first | (k_unfold; (try dsimp only)) | walk1 | (dsimp only; walk1) | fail "no step")))
local macro_rules | `(tactic| walk_at "S1") => `(tactic| repeat' (
  (fail_if_success (with_reducible show wpAny _ _ (exec (Stmt.While _ _ _ _) _) _ _ _));
  (fail_if_success (with_reducible show wpAny _ _ (exec (Stmt.For _ _ _ _ _) _) _ _ _));
  (fail_if_success (with_reducible show wpAny _ _ (eval (Expr.ListComp _ _ _ _) _) _ _ _));
  (fail_if_success (with_reducible show wpAny _ _ (call (Value.type "range") _ _) _ _ _));
  (fail_if_success (with_reducible show wpAny _ _ (subscriptTail _ _ (Value.ref _) (Value.int _ _)) _ _ _));
  (fail_if_success (with_reducible show wpAny _ _ (pyIter _) _ _ _));
  (fail_if_success (with_reducible show wpAny _ _ (compareOp _ _ _) _ _ _));
  (fail_if_success (with_reducible show wpAny _ _ (newTuple _) _ _ _));
  (fail_if_success (with_reducible show wpAny _ _ (call (Value.builtin "len") _) _ _ _));
  (fail_if_success (with_reducible show wpAny _ _ (call (Value.builtin "max") [_]) _ _ _));
  (fail_if_success (with_reducible show wpAny _ _ (eval (Expr.Dict (_ :: _) _ _) _) _ _ _));
  (fail_if_success (with_reducible show wpAny _ _ (storeName _ _ _) _ _ _));
  (fail_if_success (with_reducible show wpAny _ _ (call (Value.ref _) _ _) _ _ _));
  (first | (k_unfold; (try dsimp only)) | walk1 | (dsimp only; walk1) | fail "no step")))
local macro_rules | `(tactic| walk_at "S") => `(tactic| repeat' (
  (fail_if_success (with_reducible show wpAny _ _ (exec (Stmt.While _ _ _ _) _) _ _ _));
  (fail_if_success (with_reducible show wpAny _ _ (exec (Stmt.For _ _ _ _ _) _) _ _ _));
  (fail_if_success (with_reducible show wpAny _ _ (eval (Expr.ListComp _ _ _ _) _) _ _ _));
  (fail_if_success (with_reducible show wpAny _ _ (call (Value.type "range") _ _) _ _ _));
  (fail_if_success (with_reducible show wpAny _ _ (subscriptTail _ _ (Value.ref _) (Value.int _ _)) _ _ _));
  (fail_if_success (with_reducible show wpAny _ _ (pyIter _) _ _ _));
  (fail_if_success (with_reducible show wpAny _ _ (call (Value.builtin "len") _) _ _ _));
  (fail_if_success (with_reducible show wpAny _ _ (call (Value.builtin "max") [_]) _ _ _));
  (fail_if_success (with_reducible show wpAny _ _ (eval (Expr.Dict (_ :: _) _ _) _) _ _ _));
  (fail_if_success (with_reducible show wpAny _ _ (storeName _ _ _) _ _ _));
  (fail_if_success (with_reducible show wpAny _ _ (call (Value.ref _) _ _) _ _ _));
  (first | (k_unfold; (try dsimp only)) | walk1 | (dsimp only; walk1) | fail "no step")))
local macro_rules | `(tactic| walk_at "eval Name") => `(tactic| (k_dflt (first
  | (refine' nmL ?F ?v ?_ ?a ?b ?c; (case F => k_asm); (case a => rfl); (case b => rfl); (case c => decide); (case v => first | with_reducible assumption | exact rfl | assumption); k_whole)
  | (refine' nmC ?N ?c ?m ?d ?_ ?a ?b ?e; (case a => rfl); (case b => rfl); (case e => decide); (case N => k_asm); (case c => rfl); (case m => k_mem); (case d => k_asm); k_whole)
  | (refine' nmG ?F ?X ?T ?e ?_ ?g ?a ?b ?c; (case F => k_asm); (case X => k_asm); (case T => k_asm); (case g => rfl); (case a => rfl); (case b => rfl); (case c => decide); (case e => k_is); k_whole)
  | (refine' nmB ?F ?X ?T ?e ?v ?n ?_ ?g ?g2 ?a ?b ?c; (case F => k_asm); (case X => k_asm); (case T => k_asm); (case g => rfl); (case g2 => rfl); (case a => rfl); (case b => rfl); (case c => decide); (case e => k_is); (case v => boot_fast); (case n => decide); k_whole))))


local macro_rules | `(tactic| walk_at "loadName") => `(tactic| (refine' wpAny_loadName_local ?a ?b (Fr.ns ?F) ?v ?_; (case F => k_asm); (case a => rfl); (case b => rfl); (case v => first | with_reducible assumption | exact rfl | assumption); k_whole))

theorem law_holds : PySem.Challenge.rw_ge0001_01.Holds := hd (by
  w_strict (
    k_go0
    k_fold
    walk_at "S0"
    rename Fr _ _ _ _ => F1
    rename News _ _ _ _ => N1
    rename Top _ _ _ _ _ _ => T0
    rename (hd.heap_39 _).In _ => K0
    rename _ = Data.cell (some (Value.int _ _)) => cM
    rename _ = Data.cell (bindC _ _ _ _) => c9
    clear c9
    rename _ = Data.cell (bindC _ _ _ _) => c9
    clear c9
    rename _ = Data.cell (bindC _ _ _ _) => c9
    clear c9
    rename _ = Data.cell (bindC _ _ _ _) => cW
    replace cW : ∃ v, _ = Data.cell v := ⟨_, cW⟩
    rename _ = Data.cell (bindC _ _ _ _) => cD
    replace cD : ∃ v, _ = Data.cell v := ⟨_, cD⟩
    rename Obj.IsDictOf (intKind _ _) _ _ => hi0
    rename (_ == sysModules) = false => lo0
    rename World => w
    rename Shared => s1
    rename List Int => ns
    rename List Value => sv
    rename IntsAre _ _ => hInts
    rename ¬ _ < (_ : Int) => hlen63
    rename_i lo _ lt2 dc _ od _ _ _ lt1 Dx _ lt0 _ _ oM _ oO cO hA oC cC
    have hM : ∀ x : Int, ∃ n : Nat, (2 + x.fmod 4 : Int) = n ∧ 2 ≤ n ∧ n ≤ 5 := by
      intro x
      have h1 : 0 ≤ x.fmod 4 := Int.fmod_nonneg_of_pos _ (by decide)
      have h2 : x.fmod 4 < 4 := Int.fmod_lt_of_pos _ (by decide)
      exact ⟨(2 + x.fmod 4).toNat, by omega, by omega, by omega⟩
    obtain ⟨n, hn, hn2, hn5⟩ := hM ns.sum
    rw [hn] at cM
    have z0 := N1 (_, listOf #[] 0) (by k_mem)
    have z1 := N1 (_, oM) (by k_mem)
    have z2 := N1 (_, oO) (by k_mem)
    have z3 := N1 (_, oC) (by k_mem)
    have z4 := N1 (s1.heap.objs.size + 1 + 1 + 1 + 1, _) (by k_mem)
    have z5 := N1 (s1.heap.objs.size + 1 + 1 + 1 + 1 + 1, _) (by k_mem)
    have zd := N1 (dc, od) (by k_mem)
    have hcW : ∃ v, hA.IsCell (s1.heap.objs.size + 1 + 1 + 1 + 1) v := by obtain ⟨v, e⟩ := cW; exact ⟨v, _, z4.1, e⟩
    have hcD : ∃ v, hA.IsCell (s1.heap.objs.size + 1 + 1 + 1 + 1 + 1) v := by obtain ⟨v, e⟩ := cD; exact ⟨v, _, z5.1, e⟩
    have G0 : Gr w _ _ _ s1.heap := ⟨K0, T0⟩
    have RR : ∀ e, Room (callerA.deeper e) 900 6000 := fun e => ⟨rfl, Nat.le_of_ble_eq_true rfl, Nat.le_of_ble_eq_true rfl⟩
    have RR' : ∀ e, Room (callerA.deeper e) (900 - 6) (6000 - 3 * 6) := fun e => ⟨rfl, Nat.le_of_ble_eq_true rfl, Nat.le_of_ble_eq_true rfl⟩
    refine wpAny_mono (E := fun _ _ => False) (for_ruleK (h₀ := s1.heap) (fun _ _ x => x) ?_) (fun _ _ x => x) (fun _ _ x => x.elim)
    clear cW cD z4 z5 hM
    walk_at "S"
    refine ways_fn (G0.keeps F1.keep) (RR _) hn5 fun lw kw vs hW tkW kW gW tW freshL freshV => ?_
    have nlw : ∀ (b : Nat) o, hA.get? b = some o → @Ne Nat lw b := by
      intro b o e q
      have e2 : hA.get? lw = some o := by rw [show lw = b from q]; exact e
      rw [freshL] at e2
      cases e2
    have lwL : @Ne Nat lw s1.heap.objs.size := by obtain ⟨o, _, _, e, _⟩ := F1.ns; exact nlw _ _ e
    have lw3 : @Ne Nat lw (s1.heap.objs.size + 1 + 1 + 1) := nlw _ _ z3.1
    have lw4 : @Ne Nat lw (s1.heap.objs.size + 1 + 1 + 1 + 1) := by obtain ⟨_, o, e, _⟩ := hcW; exact nlw _ _ e
    have lwlo : @Ne Nat lw lo := nlw _ _ z0.1
    have F2 := F1.keeps kW
    have b0 : (s1.heap.objs.size + 1 + 1 + 1 + 1 + 1 : Nat) < lo := lt2.1
    have b1 : @LT.lt Nat _ lo dc := lt1.1
    have b2 : @LT.lt Nat _ dc hW.objs.size := Heap.lt_size (kW _ _ zd.1)
    clear N1
    dsimp only
    refine list_loopK rfl gW F2 (fun i m h => ∃ (scr c k : Nat) (os : List Value), m (Str.ofString "script") = some (.ref scr) ∧ s1.heap.IsList scr sv.toArray ∧
      h.get? (s1.heap.objs.size + 1) = some oM ∧ h.get? (s1.heap.objs.size + 1 + 1) = some oO ∧ h.IsCell (s1.heap.objs.size + 1 + 1 + 1) (some (.ref c)) ∧ (∃ v, h.IsCell (s1.heap.objs.size + 1 + 1 + 1 + 1) v) ∧ (∃ v, h.IsCell (s1.heap.objs.size + 1 + 1 + 1 + 1 + 1) v) ∧
      h.get? lo = some (listOf os.toArray k) ∧ Tups h os (sortedI n i) ∧ Tups h vs (waysL n) ∧ DI PySem.Challenge.rw_ge0001_01.row.prog w h c (callsI n i) ∧ (c == sysModules) = false ∧
      c ≠ s1.heap.objs.size ∧ c ≠ s1.heap.objs.size + 1 + 1 + 1 ∧ c ≠ s1.heap.objs.size + 1 + 1 + 1 + 1 ∧ c ≠ lo ∧ c ≠ hW.objs.size) ?jz (fun _ _ => rfl) ?jst ?jturn ?jdone
    case jz =>
      refine ⟨_, dc, 0, [], rfl, by assumption, kW _ _ z1.1, kW _ _ z2.1, ⟨oC, kW _ _ z3.1, cC⟩, ?_, ?_, kW _ _ z0.1, .nil, tW, ⟨od, [], kW _ _ zd.1, empty_D hi0, fun _ hx => by simp at hx, .nil⟩, lo0, zd.2.1, ?_, ?_, ?_, ?_⟩
      · obtain ⟨v, hv⟩ := hcW; exact ⟨v, hv.keeps kW⟩
      · obtain ⟨v, hv⟩ := hcD; exact ⟨v, hv.keeps kW⟩
      all_goals omega
    case jst =>
      rintro i m h h' ⟨scr, c, k, os, a1, a2, a3, a4, a5, ⟨v6, a6⟩, ⟨v7, a7⟩, a8, a9, a10, a11, a12, a13, a14, a15, a16, a17⟩ kt hk
      dsimp only at hk
      have o1 : ∀ b : Nat, b < hW.objs.size → b ≠ hW.objs.size := fun b q => Nat.ne_of_lt q
      have ic : ∀ (b : Nat) v, b < hW.objs.size → h.IsCell b v → h'.IsCell b v := fun b v q x => by obtain ⟨o, e, d⟩ := x; exact ⟨o, hk _ _ (o1 _ q) e, d⟩
      refine ⟨scr, c, k, os, a1, a2, hk _ _ (o1 _ (by omega)) a3, hk _ _ (o1 _ (by omega)) a4, ic _ _ (by omega) a5, ⟨v6, ic _ _ (by omega) a6⟩, ⟨v7, ic _ _ (by omega) a7⟩, hk _ _ (o1 _ (by omega)) a8, a9.kt kt, a10.kt kt, a11.kt kt fun o e => hk _ _ a17 e, a12, a13, a14, a15, a16, a17⟩
    case jturn =>
      rintro i v m₁ h₁ tk₁ oI hv hI hlw ⟨scr, c, k, os, a1, a2, a3, a4, a5, ⟨v6, a6⟩, ⟨v7, a7⟩, a8, a9, a10, a11, a12, a13, a14, a15, a16, a17⟩ F3
      dsimp only at hI
      have a2' : s1.heap.IsList scr sv.toArray ∧ True := ⟨a2, trivial⟩
      obtain ⟨way, hway, hTI⟩ := a10.mem hv
      refine wpAny_assign_Name (set_cell F3 (c := s1.heap.objs.size + 1 + 1 + 1 + 1) (by with_unfolding_all rfl) a6 (neN (by show s1.heap.objs.size + 1 + 1 + 1 + 1 ≠ s1.heap.objs.size; omega)) (Heap.get?_none_of_le (by show s1.heap.objs.size ≤ s1.heap.objs.size + 1 + 1 + 1 + 1; omega)) (fun h₂ F4 g4 k4 kt4 => ?_) rfl (by with_unfolding_all rfl))
      obtain ⟨T2, NT2, hT2, _⟩ := full s1.heap h₂ s1.heap.objs.size [s1.heap.objs.size] (.head _)
      obtain ⟨oW2, gW2, dW2⟩ := g4
      have c3 := k4 _ _ (neN (by show s1.heap.objs.size + 1 ≠ s1.heap.objs.size + 1 + 1 + 1 + 1; omega)) a3
      have c4 := k4 _ _ (neN (by show s1.heap.objs.size + 1 + 1 ≠ s1.heap.objs.size + 1 + 1 + 1 + 1; omega)) a4
      have N4 : News s1.heap s1.heap.objs.size h₂ ((s1.heap.objs.size + 1, oM) :: (s1.heap.objs.size + 1 + 1, oO) :: (s1.heap.objs.size + 1 + 1 + 1 + 1, oW2) :: T2) := by
        intro p hp
        rcases List.mem_cons.mp hp with rfl | hp
        · exact ⟨c3, z1.2⟩
        · rcases List.mem_cons.mp hp with rfl | hp
          · exact ⟨c4, z2.2⟩
          · rcases List.mem_cons.mp hp with rfl | hp
            · exact ⟨gW2, neN (by show s1.heap.objs.size + 1 + 1 + 1 + 1 ≠ s1.heap.objs.size; omega), Heap.get?_none_of_le (by show s1.heap.objs.size ≤ s1.heap.objs.size + 1 + 1 + 1 + 1; omega)⟩
            · exact NT2 p hp
      have B4 := F4.keep
      clear F1 F2 F3
      walk_at "S"
      have Lo : @Ne Nat lo s1.heap.objs.size := z0.2.1
      have hlen9 := a9.length
      have hlen9' := sortedI_len n i hn5
      have a8' := k4 _ _ (neN (by show @Ne Nat lo (s1.heap.objs.size + 1 + 1 + 1 + 1); omega)) a8
      refine ins_fn (G0.keeps fun b o e => hideAll_get [lo] (F4.keep b o e) (fun hm => by rw [List.mem_singleton.mp hm, z0.2.2] at e; cases e)) ((RR _).le (by decide) (by decide)) a8' (by omega) (a9.kt kt4) (hTI.kt kt4) fun h₅ tk₅ k₅ kk5 g5 => ?_
      have kt5 : KT h₂ h₅ := KT.but a8' not_TO_list kk5
      have s5 := ((a9.kt kt4).kt kt5).ins ((hTI.kt kt4).kt kt5)
      rw [← sortedI_step hway] at s5
      have F5 := Fr.butOff (wr := [lo]) F4 (fun hm => Lo (List.mem_singleton.mp hm).symm) (fun b hb => by rw [List.mem_singleton.mp hb]; exact z0.2.2) (fun b o hb e => kk5 b o (fun q => hb (by rw [q]; exact .head _)) e)
      obtain ⟨oCa, gCa, dCa⟩ := a5
      have c5 := kk5 _ _ (neN (by show @Ne Nat (s1.heap.objs.size + 1 + 1 + 1) lo; omega)) (k4 _ _ (neN (by show s1.heap.objs.size + 1 + 1 + 1 ≠ s1.heap.objs.size + 1 + 1 + 1 + 1; omega)) gCa)
      have c6 := kk5 _ _ (neN (by show @Ne Nat (s1.heap.objs.size + 1 + 1 + 1 + 1) lo; omega)) gW2
      clear N4 F4
      obtain ⟨T5, NT5, hT5, _⟩ := full s1.heap h₅ s1.heap.objs.size [s1.heap.objs.size] (.head _)
      have N5 : News s1.heap s1.heap.objs.size h₅ ((s1.heap.objs.size + 1 + 1 + 1, oCa) :: (s1.heap.objs.size + 1 + 1 + 1 + 1, oW2) :: T5) := by
        intro p hp
        rcases List.mem_cons.mp hp with rfl | hp
        · exact ⟨c5, z3.2⟩
        · rcases List.mem_cons.mp hp with rfl | hp
          · exact ⟨c6, neN (by show s1.heap.objs.size + 1 + 1 + 1 + 1 ≠ s1.heap.objs.size; omega), Heap.get?_none_of_le (by show s1.heap.objs.size ≤ s1.heap.objs.size + 1 + 1 + 1 + 1; omega)⟩
          · exact NT5 p hp
      have B5 := F5.keep
      have nL5 := F5.ns
      dsimp only
      walk_at "S"
      refine wpAny_Dict_any (by rfl) (by rfl) (by decide) (by decide) ?_
      dsimp only
      have F6 := F5.push { cls := .type "dict", data := .dict #[] }
      have N6 := News.push F5 N5 { cls := .type "dict", data := .dict #[] }
      clear F5 N5
      walk_at "S"
      have hwne : way ≠ [] := by
        intro e
        have := waysL_len n (List.mem_range.mpr (by omega)) way (List.mem_of_getElem? hway)
        rw [e] at this
        simp only [List.length_nil] at this
        omega
      refine max_TI rfl (((hTI.kt kt4).kt kt5).keeps fun _ _ e => Heap.get?_push_of_some _ e) hwne fun t7 h7 tk7 k7 => ?_
      have F7 := F6.keeps k7
      have N7 := N6.grown k7
      clear F6 N6
      dsimp only
      walk_at "S"
      rename Fr _ _ _ _ => F8
      rename News _ _ _ _ => N8
      have keep8 := full_keep B5 F8 N8 hT5 (fun p hp => .tail _ (.tail _ (.tail _ (.tail _ hp))))
      have kt8 := KT.ofFull nL5 keep8
      have c10 : DI PySem.Challenge.rw_ge0001_01.row.prog w h₅ c (callsI n i) := DI.kt (a11.kt kt4 fun o e => k4 _ _ a15 e) kt5 fun o e => kk5 _ _ a16 e
      have c11 := c10.kt kt8 fun o e => keep8 _ _ (fun hm => a13 (List.mem_singleton.mp hm)) e
      have cd : @Ne Nat c h₅.objs.size := by obtain ⟨_, _, e, _⟩ := c10; exact Nat.ne_of_lt (Heap.lt_size e)
      have q8 := N8 (h₅.objs.size, _) (by k_mem)
      have q9 := N8 _ (.head _)
      refine store_one (d_put (xs := []) (D := []) (Nat.lt_of_le_of_lt (RR _).hu (by decide)) q8.1 ⟨⟨rfl, rfl, rfl⟩, #[], 0, rfl, rfl, List.nodup_nil⟩ (fun _ hx => by simp at hx) .nil (key_made q9.1) (by simp) fun h₉ tk₉ D9 k9 kt9 => ?_)
      have D9' : DI PySem.Challenge.rw_ge0001_01.row.prog w h₉ h₅.objs.size [(1 + maxI way, 1)] := D9
      have F9 := Fr.butOff (wr := [h₅.objs.size]) F8 (fun hm => Nat.ne_of_lt nL5.lt (List.mem_singleton.mp hm)) (fun b hb => by rw [List.mem_singleton.mp hb]; exact q8.2.2) (fun b o hb e => k9 b o (fun q => hb (by rw [q]; exact .head _)) e)
      have N9 : News s1.heap s1.heap.objs.size h₉ [] := News.nil
      clear F8 N8
      dsimp only
      walk_at "S"
      have lo9 : (h₅.objs.size == sysModules) = false := beq_eq_false_iff_ne.mpr (Nat.ne_of_gt (Nat.lt_trans (modules_low T0.nolimit) nL5.lt))
      refine add_fn (G0.keeps F9.keep) (RR _) a12 lo9 (c11.kt kt9 fun o e => k9 _ _ cd e) D9' (Nat.le_trans (callsI_len n i hn5) (by decide)) (by simp) fun c' hX tkX kX DX loX frX => ?_
      have F10 := F9.keeps kX
      have up5 : ∀ (b : Nat) o, b ≠ s1.heap.objs.size → h₅.get? b = some o → h₉.get? b = some o := fun b o n1 e => k9 _ _ (Nat.ne_of_lt (Heap.lt_size e)) (keep8 _ _ (fun hm => n1 (List.mem_singleton.mp hm)) e)
      have up1 : ∀ (b : Nat) o, b ≠ s1.heap.objs.size → b ≠ s1.heap.objs.size + 1 + 1 + 1 + 1 → b ≠ lo → h₁.get? b = some o → h₉.get? b = some o := fun b o n1 n2 n3 e => up5 b o n1 (kk5 _ _ n3 (k4 _ _ n2 e))
      have g3 := kX _ _ (up5 _ _ (by omega) c5)
      have nfr : ∀ (b : Nat) o, h₉.get? b = some o → @Ne Nat c' b := by
        intro b o e q
        have e2 : h₉.get? c' = some o := by rw [show c' = b from q]; exact e
        rw [frX] at e2
        cases e2
      have n9L : @Ne Nat c' s1.heap.objs.size := by obtain ⟨o, _, _, e, _⟩ := F9.ns; exact nfr _ _ e
      clear F9 N9
      dsimp only
      refine set_cell F10 (c := s1.heap.objs.size + 1 + 1 + 1) (by with_unfolding_all rfl) ⟨oCa, g3, dCa⟩ (neN (by show s1.heap.objs.size + 1 + 1 + 1 ≠ s1.heap.objs.size; omega)) z3.2.2 (fun hY F11 gY kY ktY => ?_) rfl (by with_unfolding_all rfl)
      have n3 : @Ne Nat c' (s1.heap.objs.size + 1 + 1 + 1) := nfr _ _ (up5 _ _ (by omega) c5)
      have upY : ∀ (b : Nat) o, b ≠ s1.heap.objs.size + 1 + 1 + 1 → h₉.get? b = some o → hY.get? b = some o := fun b o n4 e => kY _ _ n4 (kX _ _ e)
      have kt1Y : KT h₁ hY := (((kt4.trans kt5).trans kt8).trans kt9).trans ((KT.ext kX).trans ktY)
      have hlwY := upY _ _ lw3 (up1 lw _ lwL lw4 lwlo hlw)
      have hIY := upY _ _ (by omega) (up1 hW.objs.size _ (by omega) (by omega) (by omega) hI)
      have c3Y := upY _ _ (by omega) (up1 _ _ (by omega) (by omega) (by omega) a3)
      have c4Y := upY _ _ (by omega) (up1 _ _ (by omega) (by omega) (by omega) a4)
      have c6Y := upY _ _ (by omega) (up5 _ _ (by omega) c6)
      have c7Y : hY.IsCell (s1.heap.objs.size + 1 + 1 + 1 + 1 + 1) v7 := by
        obtain ⟨o, e, d⟩ := a7
        exact ⟨o, upY _ _ (by omega) (up1 _ _ (by omega) (by omega) (by omega) e), d⟩
      have g5Y := upY _ _ (by omega) (up5 _ _ (by omega) g5)
      have sY := ((s5.kt kt8).kt kt9).kt ((KT.ext kX).trans ktY)
      have DY := DX.kt ktY fun o e => kY _ _ n3 e
      have nI : @Ne Nat c' hW.objs.size := nfr _ _ (up1 _ _ (by omega) (by omega) (by omega) hI)
      have n4 : @Ne Nat c' (s1.heap.objs.size + 1 + 1 + 1 + 1) := nfr _ _ (up5 _ _ (by omega) c6)
      have nlo : @Ne Nat c' lo := nfr _ _ (up5 _ _ (by omega) g5)
      dsimp only
      walk_at "execs nil"
      refine TurnR.intro F11 ?_ ?_
      case refine_2 => exact ⟨hIY, hlwY⟩
      refine ⟨scr, c', _, _, a1, a2'.1, c3Y, c4Y, gY, ⟨_, _, c6Y, dW2⟩, ⟨v7, c7Y⟩, g5Y, sY, a10.kt kt1Y, ?_, loX, n9L, n3, n4, nlo, nI⟩
      rw [callsI_step hway]
      exact DY
    case jdone =>
      rintro m' h' tk' ⟨scr, c, k, os, a1, a2, a3, a4, a5, ⟨v6, a6⟩, ⟨v7, a7⟩, a8, a9, a10, a11, a12, a13, a14, a15, a16, a17⟩ F3
      have a2' : s1.heap.IsList scr sv.toArray ∧ True := ⟨a2, trivial⟩
      clear F1 F2 a2
      have hnl : n ∈ lens := by
        have : n = 2 ∨ n = 3 ∨ n = 4 ∨ n = 5 := by omega
        rcases this with rfl | rfl | rfl | rfl <;> decide
      rw [tW.length] at a9 a11
      replace a9 : Tups h' os (lawOrder n) := a9
      replace a11 : DI PySem.Challenge.rw_ge0001_01.row.prog w h' c (lawCalls n) := a11
      have hol := a9.length
      have hol60 : (lawOrder n).length ≤ 60 := sortedI_len n _ hn5
      obtain ⟨oCa, gCa, dCa⟩ := a5
      dsimp only
      refine wpAny_mono (E := fun _ _ => False) ?_ (fun _ _ x => x) (fun _ _ x => x.elim)
      obtain ⟨T1, NT1, hT1, _⟩ := full s1.heap h' s1.heap.objs.size [s1.heap.objs.size] (.head _)
      have N1 : News s1.heap s1.heap.objs.size h' ((s1.heap.objs.size + 1, oM) :: (s1.heap.objs.size + 1 + 1, oO) :: (s1.heap.objs.size + 1 + 1 + 1, oCa) :: (lo, listOf os.toArray k) :: T1) := by
        intro p hp
        rcases List.mem_cons.mp hp with rfl | hp
        · exact ⟨a3, z1.2⟩
        · rcases List.mem_cons.mp hp with rfl | hp
          · exact ⟨a4, z2.2⟩
          · rcases List.mem_cons.mp hp with rfl | hp
            · exact ⟨gCa, z3.2⟩
            · rcases List.mem_cons.mp hp with rfl | hp
              · exact ⟨a8, z0.2⟩
              · exact NT1 p hp
      have B1 := F3.keep
      have nL1 := F3.ns
      walk_at "S"
      refine compK (cl := [(Str.ofString "order", s1.heap.objs.size + 1 + 1)]) (by with_unfolding_all rfl) (by decide) rfl (by decide) (by with_unfolding_all rfl) ?_ (fun _ => rfl)
      walk_at "S"
      refine len1 a8 (by omega) fun tl1 tkl1 => ?_
      dsimp only
      walk_at "S"
      refine range2 fun r2 hR tkR t2 u2 v2 kR hr2 => ?_
      dsimp only at kR
      rename Fr _ _ _ _ => F4
      rename News _ _ _ _ => N4
      obtain ⟨oL1, eL1, pL1, gL1, dL1, xL1⟩ := id nL1
      have hl2 : 2 ≤ (lawOrder n).length := by
        have hq : ∀ n ∈ lens, 2 ≤ (lawOrder n).length := by decide +kernel
        exact hq n hnl
      have hRng : Builtin.Range.rangeSize 1 ((os.length : Nat) : Int) 1 = ((os.length - 1 : Nat) : Int) := by rw [rangeSize_one]; split <;> omega
      refine range_compK rfl hr2 hRng (range_small (by omega) (by omega) (by omega) (by omega)) (by omega) (fun _ => false) (fun _ _ _ => True) (fun _ _ _ _ _ _ => trivial) ?tA ?fA
      case tA =>
        intro C i tv h₃ tk₃ m₃ hC hi n3 m3 keep
        have LC : @LT.lt Nat _ s1.heap.objs.size C := Nat.lt_of_lt_of_le (Heap.lt_size (kR _ _ gL1)) hC
        have FC : Fr s1.heap C h₃ m₃ := ⟨n3, fun b o e => keep _ _ (kR _ _ (B1 b o e)), Nat.le_of_lt LC⟩
        have up : ∀ b o, h'.get? b = some o → h₃.get? b = some o := fun b o e => keep _ _ (kR _ _ e)
        have nC : ∀ (b : Nat) o, h'.get? b = some o → @Ne Nat b C := fun b o e => Nat.ne_of_lt (Nat.lt_of_lt_of_le (Heap.lt_size (kR _ _ e)) hC)
        obtain ⟨TC, NTC, hTC, _⟩ := full s1.heap h₃ C [C] (.head _)
        have NC : News s1.heap C h₃ ((s1.heap.objs.size + 1 + 1, oO) :: TC) := by
          intro p hp
          rcases List.mem_cons.mp hp with rfl | hp
          · exact ⟨up _ _ a4, nC _ _ a4, z2.2.2⟩
          · exact NTC p hp
        obtain ⟨va, hva, tva⟩ := (a9.keeps up).get (i := i) (by omega)
        obtain ⟨vb, hvb, tvb⟩ := (a9.keeps up).get (i := i + 1) (by omega)
        have hosl : h₃.IsList lo os.toArray := ⟨_, up _ _ a8, rfl, _, rfl⟩
        clear F4 N4
        refine wpAny_tests_one ?_
        walk_at "S"
        refine item_ref hosl (by omega) (by omega) (by rw [show (1 + (i : Int) - 1).toNat = i by omega]; exact hva) ?_
        walk_at "S"
        refine item_ref hosl (by omega) (by omega) (by rw [show (1 + (i : Int)).toNat = i + 1 by omega]; exact hvb) ?_
        walk_at "S"
        refine ge_tup (Nat.lt_of_le_of_lt (RR _).hu (by decide)) tva tvb ?_
        rw [pure_sorted n hnl i (List.mem_range.mpr (by omega))]
        dsimp only [Bool.not_true]
        refine wpAny_truthy_bool ?_
        exact ⟨rfl, ⟨_, _, rfl, fun _ _ _ e => e, n3⟩, fun q => by cases q⟩
      case fA =>
        intro D kD h₄ tk₄ ys hD hgD hO keep
        obtain rfl := outs_none hO
        have up4 : ∀ b o, h'.get? b = some o → h₄.get? b = some o := fun b o e => keep _ _ (kR _ _ e)
        have LD : @LT.lt Nat _ s1.heap.objs.size D := Nat.lt_of_lt_of_le (Heap.lt_size (kR _ _ gL1)) hD
        have F5 := F4.keeps up4
        clear F4 N4
        have B5 := F5.keep
        have nL5 := F5.ns
        obtain ⟨T5, NT5, hT5, _⟩ := full s1.heap h₄ s1.heap.objs.size [s1.heap.objs.size] (.head _)
        have N5 : News s1.heap s1.heap.objs.size h₄ ((D, listOf ([] : List Value).toArray kD) :: (s1.heap.objs.size + 1, oM) :: (s1.heap.objs.size + 1 + 1, oO) :: (s1.heap.objs.size + 1 + 1 + 1, oCa) :: (lo, listOf os.toArray k) :: T5) := by
          intro p hp
          rcases List.mem_cons.mp hp with rfl | hp
          · exact ⟨hgD, Nat.ne_of_gt LD, Heap.get?_none_of_le (Nat.le_of_lt LD)⟩
          rcases List.mem_cons.mp hp with rfl | hp
          · exact ⟨up4 _ _ a3, z1.2⟩
          · rcases List.mem_cons.mp hp with rfl | hp
            · exact ⟨up4 _ _ a4, z2.2⟩
            · rcases List.mem_cons.mp hp with rfl | hp
              · exact ⟨up4 _ _ gCa, z3.2⟩
              · rcases List.mem_cons.mp hp with rfl | hp
                · exact ⟨up4 _ _ a8, z0.2⟩
                · exact NT5 p hp
        walk_at "S"
        rename Fr _ _ _ _ => F6
        rename News _ _ _ _ => N6
        refine len1 (N6 (lo, listOf os.toArray k) (by k_mem)).1 (by omega) fun tl6 tkl6 => ?_
        rw [hol]
        dsimp only
        walk_at "S"
        rename Fr _ _ _ _ => F7
        rename News _ _ _ _ => N7
        refine bell_fn (G0.keeps F7.keep) (RR _) (by omega) (by omega) fun t8 h8 tk8 k8 => ?_
        rw [Int.toNat_natCast, ← pure_bell n hnl]
        have F8 := F7.keeps k8
        have N8 := N7.grown k8
        clear F7 N7
        dsimp only
        walk_at "S"
        · rename _ ≠ _ => q
          exact absurd rfl q
        rename Fr _ _ _ _ => F8
        rename News _ _ _ _ => N8
        have keep8 := full_keep B5 F8 N8 hT5 (fun p hp => .tail _ (.tail _ (.tail _ (.tail _ (.tail _ (.tail _ hp))))))
        have cL : c ∉ [s1.heap.objs.size] := fun hm => a13 (List.mem_singleton.mp hm)
        have D4 := a11.kt (KT.ext up4) fun o e => up4 _ _ e
        have D8 := D4.kt (KT.ofFull nL5 keep8) fun o e => keep8 _ _ cL e
        refine count_fn (G0.keeps F8.keep) (RR _) a12 D8 fun t9 h9 tk9 k9 => ?_
        rw [pure_count n hnl]
        have F9 := F8.keeps k9
        have N9 := N8.grown k9
        clear F8 N8
        dsimp only
        walk_at "S"
        rename Fr _ _ _ _ => F9
        rename News _ _ _ _ => N9
        refine len1 (N9 (lo, listOf os.toArray k) (by k_mem)).1 (by omega) fun tl6 tkl6 => ?_
        rw [hol]
        dsimp only
        walk_at "S"
        · rename _ ≠ _ => q
          exact absurd rfl q
        refine compK (cl := [(Str.ofString "many", s1.heap.objs.size + 1), (Str.ofString "calls", s1.heap.objs.size + 1 + 1 + 1)]) (by with_unfolding_all rfl) (by decide) rfl (by decide) (by with_unfolding_all rfl) ?_ (fun _ => rfl)
        walk_at "S"
        refine range2 fun r10 h10 tk10 t10 u10 v10 k10 hr10 => ?_
        rename Fr _ _ _ _ => F10
        rename News _ _ _ _ => N10
        have keepX := full_keep B5 F10 N10 hT5 (fun p hp => .tail _ (.tail _ (.tail _ (.tail _ (.tail _ (.tail _ hp))))))
        have BX := F10.keep
        have DX := D4.kt (KT.ofFull nL5 keepX) fun o e => keepX _ _ cL e
        have m1 := N10 (s1.heap.objs.size + 1, oM) (by k_mem)
        have m3' := N10 (s1.heap.objs.size + 1 + 1 + 1, oCa) (by k_mem)
        have nLX := F10.ns
        obtain ⟨oLX, _, _, gLX, _, _⟩ := id nLX
        refine range_compK rfl hr10 (n := n) (by rw [rangeSize_one]; split <;> omega) (range_small (by omega) (by omega) (by omega) (by omega)) (by omega) (fun _ => false) (fun _ _ _ => True) (fun _ _ _ _ _ _ => trivial) ?tB ?fB
        case tB =>
          intro C i tv h₃ tk₃ m₃ hC hi n3 m3 keep
          have LC : @LT.lt Nat _ s1.heap.objs.size C := Nat.lt_of_lt_of_le (Heap.lt_size (k10 _ _ gLX)) hC
          have up := fun b o e => keep b o (k10 b o e)
          have FC : Fr s1.heap C h₃ m₃ := ⟨n3, fun b o e => up _ _ (BX b o e), Nat.le_of_lt LC⟩
          have BC := FC.keep
          obtain ⟨TC, NTC, hTC, _⟩ := full s1.heap h₃ C [C] (.head _)
          have NC : News s1.heap C h₃ ((s1.heap.objs.size + 1, oM) :: (s1.heap.objs.size + 1 + 1 + 1, oCa) :: TC) := by
            intro p hp
            rcases List.mem_cons.mp hp with rfl | hp
            · exact ⟨up _ _ m1.1, Nat.ne_of_lt (Nat.lt_of_lt_of_le (Heap.lt_size (k10 _ _ m1.1)) hC), m1.2.2⟩
            rcases List.mem_cons.mp hp with rfl | hp
            · exact ⟨up _ _ m3'.1, Nat.ne_of_lt (Nat.lt_of_lt_of_le (Heap.lt_size (k10 _ _ m3'.1)) hC), m3'.2.2⟩
            · exact NTC p hp
          have D3 := DX.keeps up
          clear F10 N10
          refine wpAny_tests_one ?_
          walk_at "S"
          rename Fr _ _ _ _ => F11
          rename News _ _ _ _ => N11
          have keepC := full_keep BC F11 N11 hTC (fun p hp => .tail _ (.tail _ (.tail _ hp)))
          have cC' : c ∉ [C] := fun hm => by
            obtain ⟨oc, _, gc, _⟩ := DX
            exact Nat.ne_of_lt (Nat.lt_of_lt_of_le (Heap.lt_size (k10 _ _ gc)) hC) (List.mem_singleton.mp hm)
          have D11 := D3.kt (KT.ofFull n3 keepC) fun o e => keepC _ _ cC' e
          obtain ⟨o11, xs11, g11, dO, eI, ent⟩ := id D11
          have hgc : getC (lawCalls n) (1 + ((i : Nat) : Int)) = some ((partedI n (i + 1) : Nat) : Int) := by
            rw [Int.add_comm]
            exact pure_parted n hnl i (List.mem_range.mpr hi)
          refine tail_any (T := "dict") ⟨_, g11, dO.1.1⟩ slot_dict_getitem.lookup (d_get (Nat.lt_of_le_of_lt (Nat.succ_le_succ (RR _).hu) (by decide)) g11 dO eI ent (key_made (N11 _ (.head _)).1) hgc fun t12 tk12 => ?_) (by with_unfolding_all rfl)
          walk_at "S"
          rename Fr _ _ _ _ => F12
          rename News _ _ _ _ => N12
          refine parted_fn 6 (by rw [Int.toNat_natCast]; omega) (by decide) (by omega) (by omega) (by omega) (G0.keeps F12.keep) (RR' _) fun t13 h13 tk13 k13 => ?_
          have F13 := F12.keeps k13
          have N13 := N12.grown k13
          have keepD := full_keep BC F13 N13 hTC (fun p hp => .tail _ (.tail _ (.tail _ hp)))
          have nD := F13.ns
          clear F12 N12
          dsimp only
          walk_at "S1"
          refine ne_same (by rw [Int.toNat_natCast, show (1 + (i : Int)).toNat = i + 1 by omega]) ?_
          refine wpAny_truthy_bool ?_
          exact ⟨rfl, ⟨_, _, rfl, fun b o q e => keepD b o (fun hm => q (List.mem_singleton.mp hm)) e, nD⟩, fun q => by cases q⟩
        case fB =>
          intro D kD h₄ tk₄ ys hD hgD hO keep
          obtain rfl := outs_none hO
          have upX : ∀ b o, _ → h₄.get? b = some o := fun b o e => keep _ _ (k10 b o e)
          have LD : @LT.lt Nat _ s1.heap.objs.size D := Nat.lt_of_lt_of_le (Heap.lt_size (k10 _ _ gLX)) hD
          have F13 := F10.keeps upX
          have N13 := News.cons' (p := (D, listOf ([] : List Value).toArray kD)) ⟨hgD, Nat.ne_of_gt LD, Heap.get?_none_of_le (Nat.le_of_lt LD)⟩ (N10.grown upX)
          clear F10 N10
          walk_at "S"
          refine compK (cl := [(Str.ofString "many", s1.heap.objs.size + 1)]) (by with_unfolding_all rfl) (by decide) rfl (by decide) (by with_unfolding_all rfl) ?_ (fun _ => rfl)
          have a2 := a2'.1
          walk_at "S"
          rename IntsAre _ _ => hIn
          rename Fr _ _ _ _ => F14
          rename News _ _ _ _ => N14
          rename_i Dn wsn hNn hCn hLn lt14
          have hrowlen : ∀ l : List Int, (List.take ((n : Nat) : Int).toNat (l ++ (List.replicate (Int.toNat 5) [(0 : Int)]).flatten)).length = n := by
            intro l
            rw [List.length_take, List.length_append, show (List.replicate (Int.toNat 5) [(0 : Int)]).flatten.length = 5 from rfl, Int.toNat_natCast]
            omega
          obtain ⟨row, hIn, hrl⟩ : ∃ row, IntsAre wsn row ∧ row.length = n := ⟨_, hIn, hrowlen ns⟩
          clear hCn hLn
          have hwl := hIn.length
          have zn := N14 (Dn, listOf wsn.toArray 0) (.head _)
          have zM := N14 (s1.heap.objs.size + 1, oM) (by k_mem)
          have BN := F14.keep
          have hg : ∀ i, 0 ≤ (row.getD i 0).fmod ((n : Nat) : Int) ∧ (row.getD i 0).fmod ((n : Nat) : Int) < n := fun i => ⟨Int.fmod_nonneg_of_pos _ (by omega), Int.fmod_lt_of_pos _ (by omega)⟩
          refine list_compK (vs := wsn) rfl ⟨_, zn.1, rfl, _, rfl⟩ (by omega) (fun _ => true) (fun i _ v => ∃ t, v = .int ((row.getD i 0).fmod ((n : Nat) : Int)) t) (fun _ _ _ _ f _ => f) ?tC ?fC
          case tC =>
            intro C i v h₃ tk₃ m₃ hC hv n3 m3 keep
            have LC : @LT.lt Nat _ s1.heap.objs.size C := Nat.lt_of_lt_of_le (by obtain ⟨o, _, _, e, _⟩ := F14.ns; exact Heap.lt_size e) hC
            have FC : Fr s1.heap C h₃ m₃ := ⟨n3, fun b o e => keep _ _ (BN b o e), Nat.le_of_lt LC⟩
            have NC : News s1.heap C h₃ [(s1.heap.objs.size + 1, oM)] := by
              intro p hp
              rw [List.mem_singleton.mp hp]
              exact ⟨keep _ _ zM.1, Nat.ne_of_lt (Nat.lt_of_lt_of_le (Heap.lt_size zM.1) hC), zM.2.2⟩
            have hil : i < row.length := by rw [← hwl]; exact (List.getElem?_eq_some_iff.mp hv).1
            obtain ⟨tv, ev⟩ := hIn.get i (row.getD i 0) (by rw [List.getD_eq_getElem?_getD, List.getElem?_eq_getElem hil]; rfl)
            rw [hv] at ev
            cases ev
            have hn0 : ((n : Nat) : Int) ≠ 0 := by omega
            clear F14 N14
            refine wpAny_tests_nil ⟨rfl, ⟨_, _, rfl, fun _ _ _ e => e, n3⟩, fun _ => ?_⟩
            walk_at "S"
            exact ⟨_, _, rfl, fun _ _ _ e => e, n3⟩
          case fC =>
            intro D' kD' h₅ tk₅ ys hD' hgD' hO' keep
            have keep14 := full_keep B5 F14 N14 hT5 (by intro p hp; (repeat refine List.mem_cons_of_mem _ ?_); exact hp)
            have LDd : @LT.lt Nat _ s1.heap.objs.size D' := Nat.lt_of_lt_of_le (by obtain ⟨o, _, _, e, _⟩ := F14.ns; exact Heap.lt_size e) hD'
            have F15 := F14.keeps keep
            have N15 := News.cons' (p := (D', listOf ys.toArray kD')) ⟨hgD', Nat.ne_of_gt LDd, Heap.get?_none_of_le (Nat.le_of_lt LDd)⟩ (News.nil (h₀ := s1.heap) (L := s1.heap.objs.size) (h := h₅))
            rw [hwl, hrl] at hO'
            have hyl := hO'.length
            clear F14 N14
            walk_at "S"
            refine told_fn (G0.keeps F15.keep) (RR _) (vs := ys) ⟨_, hgD', rfl, _, rfl⟩ (outs_KI hO') (by omega) fun vd h6 tk6 k6 tdr => ?_
            generalize hds : List.map _ (List.range n) = ds0 at tdr
            have hdr := told_mem n ds0 hn5 (by rw [← hds]; simp)
            have hok := pure_drawn n hnl _ hdr
            generalize toldL ds0 = dr at tdr hdr hok
            have F16 := F15.keeps k6
            have K16 : ∀ b o, b ∉ [s1.heap.objs.size] → h'.get? b = some o → h6.get? b = some o := fun b o q e => k6 _ _ (keep _ _ (keep14 b o q (up4 b o e)))
            have nL : ∀ j : Nat, (s1.heap.objs.size + (j + 1) : Nat) ∉ [s1.heap.objs.size] := by
              intro j hm
              have e : (s1.heap.objs.size + (j + 1) : Nat) = s1.heap.objs.size := List.mem_singleton.mp hm
              omega
            obtain ⟨oDr, gDr, dDr⟩ := a7
            clear F15 N15
            dsimp only
            refine set_cell F16 (c := s1.heap.objs.size + 1 + 1 + 1 + 1 + 1) (by with_unfolding_all rfl) ⟨oDr, K16 _ _ (nL 4) gDr, dDr⟩ (neN (by show s1.heap.objs.size + 1 + 1 + 1 + 1 + 1 ≠ s1.heap.objs.size; omega)) (Heap.get?_none_of_le (by show s1.heap.objs.size ≤ s1.heap.objs.size + 1 + 1 + 1 + 1 + 1; omega)) (fun h7 F17 g7 k7 kt7 => ?_) rfl (by with_unfolding_all rfl)
            obtain ⟨oDn, gDn, dDn⟩ := g7
            have lo7 := k7 _ _ (neN (by show @Ne Nat lo (s1.heap.objs.size + 1 + 1 + 1 + 1 + 1); omega)) (K16 _ _ (fun hm => z0.2.1 (List.mem_singleton.mp hm)) a8)
            have cM7 := k7 _ _ (neN (by show s1.heap.objs.size + 1 ≠ s1.heap.objs.size + 1 + 1 + 1 + 1 + 1; omega)) (K16 _ _ (nL 0) a3)
            have cO7 := k7 _ _ (neN (by show s1.heap.objs.size + 1 + 1 ≠ s1.heap.objs.size + 1 + 1 + 1 + 1 + 1; omega)) (K16 _ _ (nL 1) a4)
            have cW7 : ∃ v, h7.IsCell (s1.heap.objs.size + 1 + 1 + 1 + 1) v := by
              obtain ⟨o, e, d⟩ := a6
              exact ⟨_, o, k7 _ _ (neN (by show s1.heap.objs.size + 1 + 1 + 1 + 1 ≠ s1.heap.objs.size + 1 + 1 + 1 + 1 + 1; omega)) (K16 _ _ (nL 3) e), d⟩
            have os7 : Tups h7 os (lawOrder n) := (a9.kt (KT.ofFull nL1 K16)).kt kt7
            have td7 := tdr.kt kt7
            obtain ⟨T7, NT7, hT7, _⟩ := full s1.heap h7 s1.heap.objs.size [s1.heap.objs.size] (.head _)
            have N17 := News.cons' (p := (s1.heap.objs.size + 1, oM)) ⟨cM7, z1.2⟩ (News.cons' (p := (s1.heap.objs.size + 1 + 1, oO)) ⟨cO7, z2.2⟩ (News.cons' (p := (s1.heap.objs.size + 1 + 1 + 1 + 1 + 1, oDn)) ⟨gDn, neN (by show s1.heap.objs.size + 1 + 1 + 1 + 1 + 1 ≠ s1.heap.objs.size; omega), Heap.get?_none_of_le (by show s1.heap.objs.size ≤ s1.heap.objs.size + 1 + 1 + 1 + 1 + 1; omega)⟩ (News.cons' (p := (lo, listOf os.toArray k)) ⟨lo7, z0.2⟩ NT7)))
            have B7 := F17.keep
            have nL7 := F17.ns
            dsimp only
            walk_at "S"
            unfold okDrawn at hok
            simp only [Bool.and_eq_true, decide_eq_true_eq, List.all_eq_true] at hok
            obtain ⟨⟨hp1, hp2⟩, hp3⟩ := hok
            refine bis_fn (G0.keeps F17.keep) ((RR _).le (by decide) (by decide)) ⟨_, lo7, rfl, _, rfl⟩ (by omega) os7 td7 (.inl rfl) fun t8 h8 tk8 k8 => ?_
            have F18 := F17.keeps k8
            have N18 := N17.grown k8
            clear F17 N17
            dsimp only
            walk_at "S0"
            rename Fr _ _ _ _ => F19
            rename News _ _ _ _ => N19
            refine len1 (N19 (lo, listOf os.toArray k) (by k_mem)).1 (by omega) fun tl9 tkl9 => ?_
            rw [hol]
            dsimp only
            walk_at "S"
            · rename _ = _ => q
              omega
            rename Fr _ _ _ _ => F19
            rename News _ _ _ _ => N19
            have keep19 := full_keep B7 F19 N19 hT7 (by intro p hp; (repeat refine List.mem_cons_of_mem _ ?_); exact hp)
            have os19 := os7.kt (KT.ofFull nL7 keep19)
            have td19 := td7.kt (KT.ofFull nL7 keep19)
            obtain ⟨vo, hvo, tvo⟩ := os19.get (i := bisL (lawOrder n) dr) (by omega)
            rw [hp2] at tvo
            refine item_ref ⟨_, (N19 (lo, listOf os.toArray k) (by k_mem)).1, rfl, _, rfl⟩ (by omega) (by omega) (by rw [Int.toNat_natCast]; exact hvo) ?_
            walk_at "S"
            refine ne_TI (Nat.lt_of_le_of_lt (RR _).hu (by decide)) tvo td19 ?_
            walk_at "S"
            rename Fr _ _ _ _ => F19
            rename News _ _ _ _ => N19
            have keep19 := full_keep B7 F19 N19 hT7 (by intro p hp; (repeat refine List.mem_cons_of_mem _ ?_); exact hp)
            have os19 := os7.kt (KT.ofFull nL7 keep19)
            have td19 := td7.kt (KT.ofFull nL7 keep19)
            obtain ⟨v4c, c4c⟩ := cW7
            have cW19 := IsCell.off1 c4c keep19 (nL 3)
            rename Heap => hX
            have q1 := N19 (s1.heap.objs.size + 1, oM) (by k_mem)
            have q2 := N19 (s1.heap.objs.size + 1 + 1, oO) (by k_mem)
            have q3 := N19 (s1.heap.objs.size + 1 + 1 + 1 + 1 + 1, oDn) (by k_mem)
            have q4 := N19 (lo, listOf os.toArray k) (by k_mem)
            obtain ⟨ad, ud, rfl, _, _⟩ := id td19
            refine for_ruleK (h₀ := s1.heap) (fun _ _ x => x) ?_
            have B19 := F19.keep
            have nL19 := F19.ns
            obtain ⟨T19, NT19, hT19, _⟩ := full s1.heap hX s1.heap.objs.size [s1.heap.objs.size] (.head _)
            have N20 := News.cons' (p := (s1.heap.objs.size + 1, oM)) q1 (News.cons' (p := (s1.heap.objs.size + 1 + 1, oO)) q2 (News.cons' (p := (s1.heap.objs.size + 1 + 1 + 1 + 1 + 1, oDn)) q3 (News.cons' (p := (lo, listOf os.toArray k)) q4 NT19)))
            clear N19
            walk_at "S"
            rename Fr _ _ _ _ => F20
            rename News _ _ _ _ => N20
            have keep20 := full_keep B19 F20 N20 hT19 (by intro p hp; (repeat refine List.mem_cons_of_mem _ ?_); exact hp)
            have kt20 := KT.ofFull nL19 keep20
            have hsl := (N20 _ (.head _)).1
            dsimp only at hsl
            rw [slicePick_eq] at hsl
            have b3 : @LT.lt Nat _ lo _ := Heap.lt_size (N20 (lo, listOf os.toArray k) (by k_mem)).1
            have lsne := fun b (hb : b ∉ [s1.heap.objs.size]) => keep20 b
            refine list_loopK rfl hsl F20 (fun i m h => h.get? (s1.heap.objs.size + 1) = some oM ∧ h.get? (s1.heap.objs.size + 1 + 1) = some oO ∧ h.get? (s1.heap.objs.size + 1 + 1 + 1 + 1 + 1) = some oDn ∧ (∃ v, h.IsCell (s1.heap.objs.size + 1 + 1 + 1 + 1) v) ∧
              h.get? lo = some (listOf os.toArray k) ∧ Tups h os (lawOrder n) ∧ TI h (.ref ad) dr) ?jz2 (fun _ _ => rfl) ?jst2 ?jturn2 ?jdone2
            case jz2 =>
              refine ⟨keep20 _ _ (nL 0) q1.1, keep20 _ _ (nL 1) q2.1, keep20 _ _ (nL 4) q3.1, ?_, keep20 _ _ (fun hm => z0.2.1 (List.mem_singleton.mp hm)) q4.1, os19.kt kt20, td19.kt kt20⟩
              exact ⟨v4c, IsCell.off1 cW19 keep20 (nL 3)⟩
            case jst2 =>
              rintro i m h h' ⟨a1, a2, a3, ⟨v4, a4⟩, a5, a6, a7⟩ kt hk
              dsimp only at hk b3
              have o1 : ∀ b : Nat, b ≤ lo → b ≠ _ := fun b q => Nat.ne_of_lt (Nat.lt_of_le_of_lt q b3)
              refine ⟨hk _ _ (o1 _ (by omega)) a1, hk _ _ (o1 _ (by omega)) a2, hk _ _ (o1 _ (by omega)) a3, ⟨v4, ?_⟩, hk _ _ (o1 _ (Nat.le_refl _)) a5, a6.kt kt, a7.kt kt⟩
              obtain ⟨o, e, d⟩ := a4
              exact ⟨o, hk _ _ (o1 _ (by omega)) e, d⟩
            case jturn2 =>
              rintro i v m₁ h₁ tk₁ oI hv hI hlw ⟨a1, a2, a3, ⟨v4, a4⟩, a5, a6, a7⟩ F22
              dsimp only at hI
              have nL22 := F22.ns
              obtain ⟨way, hway, hTI⟩ := (a6.pick (idxOfStep 7 os.length)).mem hv
              have hwmem : way ∈ pickI (idxOfStep 7 (lawOrder n).length) (lawOrder n) := by rw [← hol]; exact List.mem_of_getElem? hway
              have hokw := hp3 way hwmem
              unfold okWay at hokw
              simp only [Bool.and_eq_true, decide_eq_true_eq] at hokw
              obtain ⟨⟨hb1, hb2⟩, hb3⟩ := hokw
              have hwl2 := order_len n hnl way (mem_pickI hwmem)
              have hdl2 := waysL_len n (List.mem_range.mpr (by omega)) dr hdr
              clear F19 F20 N20
              obtain ⟨aw, uw, rfl, gw, iw⟩ := id hTI
              refine wpAny_assign_Name (set_cell F22 (c := s1.heap.objs.size + 1 + 1 + 1 + 1) (by with_unfolding_all rfl) a4 (neN (by show s1.heap.objs.size + 1 + 1 + 1 + 1 ≠ s1.heap.objs.size; omega)) (Heap.get?_none_of_le (by show s1.heap.objs.size ≤ s1.heap.objs.size + 1 + 1 + 1 + 1; omega)) (fun h₂ F23 g4 k4 kt4 => ?_) rfl (by with_unfolding_all rfl))
              obtain ⟨oW2, gW2, dW2⟩ := g4
              have e1 := k4 _ _ (neN (by show s1.heap.objs.size + 1 ≠ s1.heap.objs.size + 1 + 1 + 1 + 1; omega)) a1
              have e2 := k4 _ _ (neN (by show s1.heap.objs.size + 1 + 1 ≠ s1.heap.objs.size + 1 + 1 + 1 + 1; omega)) a2
              have e3 := k4 _ _ (neN (by show s1.heap.objs.size + 1 + 1 + 1 + 1 + 1 ≠ s1.heap.objs.size + 1 + 1 + 1 + 1; omega)) a3
              have e5 := k4 _ _ (neN (by show @Ne Nat lo (s1.heap.objs.size + 1 + 1 + 1 + 1); omega)) a5
              have zW : (s1.heap.objs.size + 1 + 1 + 1 + 1 : Nat) ≠ s1.heap.objs.size ∧ s1.heap.get? (s1.heap.objs.size + 1 + 1 + 1 + 1) = none := ⟨by omega, Heap.get?_none_of_le (by show s1.heap.objs.size ≤ s1.heap.objs.size + 1 + 1 + 1 + 1; omega)⟩
              have zD : (s1.heap.objs.size + 1 + 1 + 1 + 1 + 1 : Nat) ≠ s1.heap.objs.size ∧ s1.heap.get? (s1.heap.objs.size + 1 + 1 + 1 + 1 + 1) = none := ⟨by omega, Heap.get?_none_of_le (by show s1.heap.objs.size ≤ s1.heap.objs.size + 1 + 1 + 1 + 1 + 1; omega)⟩
              obtain ⟨T2, NT2, hT2, _⟩ := full s1.heap h₂ s1.heap.objs.size [s1.heap.objs.size] (.head _)
              have N23 := News.cons' (p := (s1.heap.objs.size + 1, oM)) ⟨e1, z1.2⟩ (News.cons' (p := (s1.heap.objs.size + 1 + 1, oO)) ⟨e2, z2.2⟩ (News.cons' (p := (s1.heap.objs.size + 1 + 1 + 1 + 1, oW2)) ⟨gW2, zW⟩ (News.cons' (p := (s1.heap.objs.size + 1 + 1 + 1 + 1 + 1, oDn)) ⟨e3, zD⟩ (News.cons' (p := (lo, listOf os.toArray k)) ⟨e5, z0.2⟩ NT2))))
              have B23 := F23.keep
              have nL23 := F23.ns
              walk_at "S"
              refine compK (cl := [(Str.ofString "way", s1.heap.objs.size + 1 + 1 + 1 + 1), (Str.ofString "drawn", s1.heap.objs.size + 1 + 1 + 1 + 1 + 1)]) (by with_unfolding_all rfl) (by decide) rfl (by decide) (by with_unfolding_all rfl) ?_ (fun _ => rfl)
              walk_at "S"
              refine range1 fun r2 hR2 tkR2 tR uR vR kR2 hrR => ?_
              dsimp only at kR2
              rename Fr _ _ _ _ => F24
              rename News _ _ _ _ => N24
              refine range_compK rfl hrR (n := n) (by rw [rangeSize_one]; split <;> omega) (range_small (by omega) (by omega) (by omega) (by omega)) (by omega) (fun _ => true) (fun j h v => TI h v [dr.getD j 0, way.getD j 0]) (fun _ _ _ _ f k => f.kt k) ?tD ?fD
              case tD =>
                intro C j tv h₃ tk₃ m₃ hC hj n3 m3 keep
                have up := fun b o e => keep b o (kR2 b o e)
                have LC : @LT.lt Nat _ s1.heap.objs.size C := Nat.lt_of_lt_of_le (by obtain ⟨o, _, _, e, _⟩ := nL23; exact Heap.lt_size (kR2 _ _ e)) hC
                have FC : Fr s1.heap C h₃ m₃ := ⟨n3, fun b o e => up _ _ (B23 b o e), Nat.le_of_lt LC⟩
                have NC : News s1.heap C h₃ [(s1.heap.objs.size + 1 + 1 + 1 + 1, oW2), (s1.heap.objs.size + 1 + 1 + 1 + 1 + 1, oDn)] :=
                  News.cons' (p := (s1.heap.objs.size + 1 + 1 + 1 + 1, oW2)) ⟨up _ _ gW2, Nat.ne_of_lt (Nat.lt_of_lt_of_le (Heap.lt_size (kR2 _ _ gW2)) hC), zW.2⟩
                    (News.cons' (p := (s1.heap.objs.size + 1 + 1 + 1 + 1 + 1, oDn)) ⟨up _ _ e3, Nat.ne_of_lt (Nat.lt_of_lt_of_le (Heap.lt_size (kR2 _ _ e3)) hC), zD.2⟩ News.nil)
                obtain ⟨_, ud3, ed3, gd3, id3⟩ := (a7.kt kt4).keeps up
                obtain ⟨_, uw3, ew3, gw3, iw3⟩ := (hTI.kt kt4).keeps up
                cases ed3
                cases ew3
                clear F24 N24
                refine wpAny_tests_nil ⟨rfl, ⟨_, _, rfl, fun _ _ _ e => e, n3⟩, fun _ => ?_⟩
                walk_at "S1"
                refine item_anyT (vs := ud3) ⟨_, gd3, rfl, _, rfl⟩ id3 (by omega) (by omega) (by omega) fun t1 => ?_
                walk_at "S1"
                refine item_anyT (vs := uw3) ⟨_, gw3, rfl, _, rfl⟩ iw3 (by omega) (by omega) (by omega) fun t2 => ?_
                rw [show (0 + (j : Int)).toNat = j by omega]
                walk_at "S1"
                refine wpAny_newTuple ?_
                exact ⟨⟨_, [_, _], rfl, Heap.get?_push_size _ rfl, .cons _ _ (.cons _ _ .nil)⟩, ⟨_, _, rfl, fun b o _ e => Heap.get?_push_of_some _ e, n3.push _⟩⟩
              case fD =>
                intro D' kD' h₄ tk₄ ys hD' hgD' hO' keep
                have F25 := F24.keeps (fun b o e => keep b o (kR2 b o e))
                have N25 := News.nil (h₀ := s1.heap) (L := s1.heap.objs.size) (h := h₄)
                have hyl2 := hO'.length
                clear F24 N24
                walk_at "S"
                refine told_fn (G0.keeps F25.keep) (RR _) (b := true) (vs := ys) ⟨_, hgD', rfl, _, rfl⟩ (outs_KT hO') (by omega) fun vb h5 tk5 k5 tb => ?_
                have kk5 : ∀ b o, h₂.get? b = some o → h5.get? b = some o := fun b o e => k5 _ _ (keep _ _ (kR2 _ _ e))
                have tb' : TI h5 vb (bothI n dr way) := tb
                have hbl : (bothI n dr way).length = n := by simp [bothI, toldL]
                generalize bothI n dr way = bt at hb1 hb2 hb3 tb' hbl
                have F26 := F25.keeps k5
                clear F25 N25
                obtain ⟨T26, NT26, hT26, _⟩ := full s1.heap h5 s1.heap.objs.size [s1.heap.objs.size] (.head _)
                have N26 := News.cons' (p := (s1.heap.objs.size + 1 + 1, oO)) ⟨kk5 _ _ e2, z2.2⟩ (News.cons' (p := (s1.heap.objs.size + 1 + 1 + 1 + 1, oW2)) ⟨kk5 _ _ gW2, zW⟩ (News.cons' (p := (s1.heap.objs.size + 1 + 1 + 1 + 1 + 1, oDn)) ⟨kk5 _ _ e3, zD⟩ (News.cons' (p := (lo, listOf os.toArray k)) ⟨kk5 _ _ e5, z0.2⟩ NT26)))
                have B26 := F26.keep
                have nL26 := F26.ns
                dsimp only
                walk_at "S0"
                rename Fr _ _ _ _ => F28
                rename News _ _ _ _ => N28
                have keep28 := full_keep B26 F28 N28 hT26 (by intro p hp; (repeat refine List.mem_cons_of_mem _ ?_); exact hp)
                have kt28 := KT.ofFull nL26 keep28
                have os28 := ((a6.kt kt4).keeps kk5).kt kt28
                have tb28 := tb'.kt kt28
                have td28 := ((a7.kt kt4).keeps kk5).kt kt28
                have tw28 := ((hTI.kt kt4).keeps kk5).kt kt28
                have lo28 := (N28 (lo, listOf os.toArray k) (by k_mem)).1
                refine bis_fn (G0.keeps F28.keep) ((RR _).le (by decide) (by decide)) ⟨_, lo28, rfl, _, rfl⟩ (by omega) os28 tb28 (.inl rfl) fun t6 h6 tk6 k6 => ?_
                have F29 := F28.keeps k6
                have N29 := N28.grown k6
                clear F28 N28
                have tb29 := tb28.keeps k6
                obtain ⟨vo, hvo2, tvo2⟩ := (os28.keeps k6).get (i := bisL (lawOrder n) bt) (by omega)
                rw [hb2] at tvo2
                dsimp only
                walk_at "S1"
                refine item_ref ⟨_, k6 _ _ lo28, rfl, _, rfl⟩ (by omega) (by omega) (by rw [Int.toNat_natCast]; exact hvo2) ?_
                walk_at "S1"
                refine ne_TI (Nat.lt_of_le_of_lt (RR _).hu (by decide)) tvo2 tb29 ?_
                walk_at "S"
                refine max_TI rfl tb29 (by intro e; rw [e] at hbl; simp only [List.length_nil] at hbl; omega) fun t30 h30 tk30 k30 => ?_
                have F30 := F29.keeps k30
                have N30 := N29.grown k30
                clear F29 N29
                dsimp only
                walk_at "S"
                refine max_TI rfl ((td28.keeps k6).keeps k30) (by intro e; rw [e] at hdl2; simp only [List.length_nil] at hdl2; omega) fun t31 h31 tk31 k31 => ?_
                have F31 := F30.keeps k31
                have N31 := N30.grown k31
                clear F30 N30
                dsimp only
                walk_at "S"
                refine max_TI rfl (((tw28.keeps k6).keeps k30).keeps k31) (by intro e; rw [e] at hwl2; simp only [List.length_nil] at hwl2; omega) fun t32 h32 tk32 k32 => ?_
                have F32 := F31.keeps k32
                have N32 := N31.grown k32
                clear F31 N31
                dsimp only
                walk_at "S1"
                refine lt_false hb3 ?_
                refine wpAny_truthy_bool ?_
                dsimp only
                walk_at "S"
                rename Fr _ _ _ _ => F33
                rename News _ _ _ _ => N33
                have keep33 := full_keep B26 F33 N33 hT26 (by intro p hp; (repeat refine List.mem_cons_of_mem _ ?_); exact hp)
                have kt33 := KT.ofFull nL26 keep33
                have hlw2 := k4 _ _ (fun q => by
                  obtain ⟨o, e, d⟩ := a4
                  rw [q] at hlw
                  rw [hlw] at e
                  cases e
                  cases d) hlw
                have hlw3 := keep33 _ _ (fun hm => by
                  obtain ⟨oL, eL, pL, gL, dL, xL⟩ := nL22
                  rw [List.mem_singleton.mp hm] at hlw
                  have gL' : h₁.get? s1.heap.objs.size = some oL := gL
                  rw [hlw] at gL'
                  cases gL'
                  cases dL) (kk5 _ _ hlw2)
                have b3' := b3
                have hI2 := keep33 _ _ (fun hm => by have q := List.mem_singleton.mp hm; have q' : @Eq Nat _ _ := q; omega) (kk5 _ _ (k4 _ _ (neN (Nat.ne_of_gt (Nat.lt_trans (by show @LT.lt Nat _ (s1.heap.objs.size + 1 + 1 + 1 + 1) lo; omega) b3'))) hI))
                refine TurnR.intro F33 ?_ ?_
                case refine_2 => exact ⟨hI2, hlw3⟩
                exact ⟨keep33 _ _ (nL 0) (kk5 _ _ e1), keep33 _ _ (nL 1) (kk5 _ _ e2), keep33 _ _ (nL 4) (kk5 _ _ e3), ⟨_, oW2, keep33 _ _ (nL 3) (kk5 _ _ gW2), dW2⟩, keep33 _ _ (fun hm => z0.2.1 (List.mem_singleton.mp hm)) (kk5 _ _ e5), ((a6.kt kt4).keeps kk5).kt kt33, ((a7.kt kt4).keeps kk5).kt kt33⟩
            case jdone2 =>
              rintro m' h' tk' - F21
              have N21 : News s1.heap s1.heap.objs.size h' [] := News.nil
              clear F20 N20
              dsimp only
              walk_at "S"
              k_steps))
end Mine
end

set_option maxRecDepth 100000 in
set_option maxHeartbeats 8000000 in
theorem PySem.Challenge.cw_ge0001_01_holds : PySem.Challenge.rw_ge0001_01.Holds := by
  exact Mine.law_holds
