import PyProof.Rows.All
import Wide.All
import OpenK.AllK
import Wide.FinOn
import Lean
import PySem.Challenge.RW_dn0278_11
set_option Elab.async false
set_option maxRecDepth 100000
set_option maxHeartbeats 8000000
set_option linter.all false
set_option genInjectivity false
set_option genSizeOf false
open PySem PySem.W PyProof.Rows PySem.Calls
noncomputable def Mine.wsF:{f:Bool → Bool // f PySem.Challenge.rw_dn0278_11.row.wellSaid = PySem.Challenge.rw_dn0278_11.wellSaid}:=by
 refine ⟨?f,?h⟩
 case h =>
  delta OpenLaw.wellSaid
  generalize PySem.Challenge.rw_dn0278_11.row.wellSaid = b
  exact rfl
theorem Mine.ws (h:PySem.Challenge.rw_dn0278_11.row.wellSaid = true):PySem.Challenge.rw_dn0278_11.wellSaid = true:=
 (Mine.wsF.2.symm.trans (congrArg Mine.wsF.1 h)).trans (by decide +kernel)
open_top hd for PySem.Challenge.rw_dn0278_11.row
namespace Mine
theorem ltr {n m k:Nat}:n ≤ m → m ≤ k → n ≤ k:=Nat.le_trans
theorem lap {α:Type _} {as bs:List α}:(as ++ bs).length = as.length + bs.length:=List.length_append
noncomputable def Le (s s':Shared):Prop:=s.toks ≤ s'.toks ∧ s.heap.objs.size ≤ s'.heap.objs.size
theorem Le.rfl' (s:Shared):Le s s:=⟨Nat.le_refl _,Nat.le_refl _⟩
theorem Le.tr {a b c:Shared} (x:Le a b) (y:Le b c):Le a c:=⟨ltr x.1 y.1,ltr x.2 y.2⟩
theorem le_upd (s:Shared) (a:Addr) (f:Obj → Obj):Le s { s with heap:=s.heap.update a f }:=⟨Nat.le_refl _,Nat.le_of_eq (Heap.SameBut.update s.heap a f).1.symm⟩
theorem push_size (h:Heap) (o:Obj):(h.push o).objs.size = h.objs.size + 1:=by cases h; simp [Heap.push]
theorem le_push (s:Shared) (o:Obj):Le s { s with heap:=s.heap.push o }:=⟨Nat.le_refl _,by show _ ≤ (s.heap.push o).objs.size; rw [push_size]; exact Nat.le_succ _⟩
theorem le_fresh (s:Shared):Le s { s with toks:=s.toks + 1 }:=⟨Nat.le_succ _,Nat.le_refl _⟩
variable {M:Model} {Γ:Ctx}
theorem runs_le {p:Pos} {t:Sem PySem.Fin} {fs:List Frame} {s s':Shared} {e:End} (h:Runs M Γ p t fs s e s'):Le s s':=by
 induction h with
 | done => exact Le.rfl' _
 | raise => exact Le.rfl' _
 | yield => exact Le.rfl' _
 | fresh _ ih => exact (le_fresh _).tr ih
 | call _ _ a b => exact a.tr b
 | resumeFresh _ _ _ _ a b => exact Le.tr a b
 | resumeSuspended _ _ _ _ a b => exact Le.tr a b
 | segRet _ _ a b => exact Le.tr a b
 | segGen _ _ a b => exact Le.tr a b
 | segSuspGen _ _ _ _ a b => exact Le.tr a b
 | again _ _ a => exact a
 | load _ _ a => exact a
 | update _ _ a => exact (le_upd _ _ _).tr a
 | choose _ _ a => exact a
 | genState _ _ a => exact a
 | resumeJustStarted _ _ _ a => exact a
 | resumeThrowFresh _ _ a => exact a
 | resumeRunning _ _ a => exact a
 | resumeFinished _ _ a => exact a
 | segSuspOut _ _ a => exact a
 | rule _ a => exact a
 | «at» _ a => exact a
 | loadIfAlive _ a => exact a
 | point _ a => exact a
 | alloc _ a => exact (le_push _ _).tr a
 | ask _ a => exact a
 | os _ a => exact a
 | handled _ a => exact a
 | stack _ a => exact a
 | thread _ a => exact a
 | newGen _ a => exact a
 | callSusp _ a => exact a
theorem wakes_le {p:Pos} {g:Nat} {r:Resume} {s s':Shared} {x:GenResult} (h:Wakes M Γ p g r s x s'):Le s s':=by
 unfold Wakes at h
 split at h
 · exact h.elim
 · split at h
   · obtain ⟨e,s1,hr,_,_,rfl⟩:=h; exact show Le s s1 from (have q:=runs_le hr; q)
   · obtain ⟨_,rfl⟩:=h; exact Le.rfl' _
   · obtain ⟨_,rfl⟩:=h; exact (Le.rfl' s)
 · obtain ⟨e,s1,hr,_,_,rfl⟩:=h; exact show Le s s1 from (have q:=runs_le hr; q)
 · obtain ⟨_,rfl⟩:=h; exact Le.rfl' _
 · obtain ⟨_,rfl⟩:=h; exact Le.rfl' _
variable {R:Result → Shared → Prop}
theorem wpCode_le {p:Pos} {s:Shared} (h:wpCode M Γ (fun r s' => Le s s' → R r s') p s):wpCode M Γ R p s:=by
 obtain ⟨r,s',hr,h⟩:=h
 exact ⟨r,s',hr,h (runs_le hr)⟩
variable {α:Type}
theorem wp_le (t:Sem α):∀ {Q:α → Pos → Shared → Prop} {E:Value → Pos → Shared → Prop} {p:Pos} {s:Shared} (n:Shared),Le n s →
 Sem.wp M Γ t (fun a p s' => Le n s' → Q a p s') (fun e p s' => Le n s' → E e p s') p s → Sem.wp M Γ t Q E p s:=by
 induction t with
 | pure a => intro Q E p s n hn h; exact h hn
 | raise e => intro Q E p s n hn h; exact h hn
 | unsupported _ => intro Q E p s n hn h; exact h
 | finish _ => intro Q E p s n hn h; exact h
 | rule _ k ih => intro Q E p s n hn h; rw [Sem.wp] at h ⊢; exact ih () n hn h
 | «at» _ k ih => intro Q E p s n hn h; rw [Sem.wp] at h ⊢; exact ih () n hn h
 | load a _ k ih => intro Q E p s n hn h; rw [Sem.wp] at h ⊢; obtain ⟨o,ho,h⟩:=h; exact ⟨o,ho,ih o n hn h⟩
 | update a _ f k ih => intro Q E p s n hn h; rw [Sem.wp] at h ⊢; exact ⟨h.1,ih () n (hn.tr (le_upd _ _ _)) h.2⟩
 | loadIfAlive a k ih => intro Q E p s n hn h; rw [Sem.wp] at h ⊢; exact ih _ n hn h
 | point _ k ih => intro Q E p s n hn h; rw [Sem.wp] at h ⊢; exact ih () n hn h
 | register _ _ _ => intro Q E p s n hn h; rw [Sem.wp] at h; exact h.elim
 | alloc o k ih => intro Q E p s n hn h; rw [Sem.wp] at h ⊢; exact ih _ n (hn.tr (le_push _ _)) h
 | fresh k ih => intro Q E p s n hn h; rw [Sem.wp] at h ⊢; exact ih _ n (hn.tr (le_fresh _)) h
 | ask k ih => intro Q E p s n hn h; rw [Sem.wp] at h ⊢; exact ih _ n hn h
 | choose src m k ih => intro Q E p s n hn h; rw [Sem.wp] at h ⊢; exact ⟨h.1,ih _ n hn h.2⟩
 | os q _ k ih => intro Q E p s n hn h; rw [Sem.wp] at h ⊢; exact ih _ n hn h
 | call c hd _ _ k ih =>
  intro Q E p s n hn h; rw [Sem.wp] at h ⊢
  obtain ⟨r,s',hr,h⟩:=h
  exact ⟨r,s',hr,ih r n (hn.tr (runs_le hr)) h⟩
 | handled own k ih => intro Q E p s n hn h; rw [Sem.wp] at h ⊢; exact ih _ n hn h
 | genState g k ih => intro Q E p s n hn h; rw [Sem.wp] at h ⊢; obtain ⟨o,ho,h⟩:=h; exact ⟨o,ho,ih _ n hn h⟩
 | newGen c k ih => intro Q E p s n hn h; rw [Sem.wp] at h ⊢; exact ih _ n hn h
 | resume g r _ k ih =>
  intro Q E p s n hn h; rw [Sem.wp] at h ⊢
  obtain ⟨res,s',hr,h⟩:=h
  exact ⟨res,s',hr,ih res n (hn.tr (wakes_le hr)) h⟩
 | yield _ _ _ _ _ => intro Q E p s n hn h; rw [Sem.wp] at h; exact h.elim
 | stack k ih => intro Q E p s n hn h; rw [Sem.wp] at h ⊢; exact ih _ n hn h
 | fork _ _ _ => intro Q E p s n hn h; rw [Sem.wp] at h; exact h.elim
 | thread k ih => intro Q E p s n hn h; rw [Sem.wp] at h ⊢; exact ih _ n hn h
 | await => intro Q E p s n hn h; rw [Sem.wp] at h; exact h.elim
variable {A:Around} {E:Value → Shared → Prop}
theorem wpAny_le {t:Sem α} {Q:α → Shared → Prop} {s:Shared}
 (h:wpAny M A t (fun a s' => Le s s' → Q a s') E s):wpAny M A t Q E s:=fun Γ p hΓ =>
 wp_le t s (Le.rfl' s) (Sem.wp_mono M Γ t (exc':=fun e _ s' => Le s s' → E e s') (fun _ _ _ x => x) (fun _ _ _ x _ => x) p s (h Γ p hΓ))
theorem wpAny_toks {t:Sem α} {Q:α → Shared → Prop} {s:Shared}
 (h:wpAny M A t (fun a s' => s.toks ≤ s'.toks → Q a s') E s):wpAny M A t Q E s:=wpAny_le (wpAny_mono h (fun _ _ q l => q l.1) fun _ _ q => q)
theorem codeAny_le {c:Code} {s:Shared}
 (h:codeAny M A c (fun r s' => Le s s' → R r s') s):codeAny M A c R s:=fun Γ p hc hΓ => wpCode_le (h Γ p hc hΓ)
structure Wider (A B:Around):Prop where
 h:A.handled = B.handled
 d:A.depth ≤ B.depth
 f:B.frames = none
 g:B.guards = none
 u:A.units ≤ B.units
theorem codeAny_wider {B:Around} {c:Code} {s:Shared} (W:Wider A B) (h:codeAny M B c R s):codeAny M A c R s:=fun Γ p hc hΓ =>
 h Γ p hc ⟨hΓ.1.trans W.h,ltr hΓ.2.1 W.d,(fun l hl => by rw [W.f] at hl; cases hl),(fun l hl => by rw [W.g] at hl; cases hl),ltr hΓ.2.2.2.2 W.u⟩
theorem wpAny_wider {B:Around} {t:Sem α} {Q:α → Shared → Prop} {s:Shared} (W:Wider A B) (h:wpAny M B t Q E s):wpAny M A t Q E s:=fun Γ p hΓ =>
 h Γ p ⟨hΓ.1.trans W.h,ltr hΓ.2.1 W.d,(fun l hl => by rw [W.f] at hl; cases hl),(fun l hl => by rw [W.g] at hl; cases hl),ltr hΓ.2.2.2.2 W.u⟩
section
open PySem PySem.StrLaws
open Builtin Builtin.Str
noncomputable abbrev T:=List Nat
noncomputable def mk (l:T):Str:=⟨l.toArray⟩
theorem mk_cps (l:T):(mk l).cps.toList = l:=by simp [mk]
theorem mk_of (x:Str):mk x.cps.toList = x:=by apply Str.ext'; simp [mk]
theorem mk_len (l:T):(mk l).length = l.length:=by simp [mk,Str.length]
theorem mk_app (a b:T):mk a ++ mk b = mk (a ++ b):=by apply Str.ext'; simp [mk,Str.cps_append]
theorem mk_inj {a b:T} (h:mk a = mk b):a = b:=by rw [← mk_cps a,← mk_cps b,h]
theorem mk_ext {x:Str} {l:T} (h:x.cps.toList = l):x = mk l:=by rw [← mk_of x,h]
noncomputable def rep (y z:T):Nat → T → T
 | _,[] => []
 | k + 1,_ :: r => rep y z k r
 | 0,c :: r => if y.isPrefixOf (c :: r) then z ++ rep y z (y.length - 1) r else c :: rep y z 0 r
noncomputable def poss (y:T):Nat → Nat → T → List Nat
 | _,_,[] => []
 | i,k + 1,_ :: r => poss y (i + 1) k r
 | i,0,c :: r => if y.isPrefixOf (c :: r) then i :: poss y (i + 1) (y.length - 1) r else poss y (i + 1) 0 r
theorem prefix_iff (y l:T):y.isPrefixOf l = (l.take y.length == y):=by
 induction y generalizing l with
 | nil => simp
 | cons a y ih =>
  cases l with
  | nil => simp
  | cons b l =>
   simp only [List.isPrefixOf_cons_cons,List.length_cons,List.take_succ_cons,ih]
   rw [Bool.eq_iff_iff]; simp; intro _; exact eq_comm
theorem occ_poss (x y:Str) (hy:0 < y.length) (limit:Nat):∀ (l:T) (i:Nat) (found:Array Nat) (free:Nat),x.cps.toList.drop i = l → i + l.length = x.length → found.size + l.length < limit →
 (forIn (List.range' i (x.length + 1 - i)) (found,free) (occBody x y x.length limit)).run.fst.toList = found.toList ++ poss y.cps.toList i (free - i) l:=by
 intro l
 induction l with
 | nil =>
  intro i found free hd hi hs
  have e:x.length + 1 - i = 1:=by simp at hi; lia
  rw [e]
  show (forIn (i :: []) (found,free) (occBody x y x.length limit)).run.fst.toList = _
  rw [List.forIn_cons]
  unfold occBody
  have hn:¬ (((found.size < limit ∧ free ≤ i) ∧ i + y.length ≤ x.length) ∧ subAt x y i = true):=by simp at hi; lia
  rw [if_neg hn]
  simp [poss]
 | cons c r ih =>
  intro i found free hd hi hs
  have e:x.length + 1 - i = (x.length + 1 - (i + 1)) + 1:=by simp at hi; lia
  rw [e,List.range'_succ,List.forIn_cons]
  have hd':x.cps.toList.drop (i + 1) = r:=by rw [← List.drop_drop,hd]; rfl
  have hi':i + 1 + r.length = x.length:=by simp at hi; lia
  have hs':found.size + (r.length + 1) < limit:=hs
  have hpre:(subAt x y i = true) ↔ (y.cps.toList.isPrefixOf (c :: r) = true):=by
   rw [subAt_eq,prefix_iff,hd]
   have:y.cps.toList.length = y.length:=by simp [Str.length]
   rw [this]
  unfold occBody
  by_cases hf:free ≤ i
  · have h0:free - i = 0:=by lia
    rw [h0]
    by_cases hp:y.cps.toList.isPrefixOf (c :: r) = true
    · have hlen:y.length ≤ (c :: r).length:=by
       have:=(List.isPrefixOf_iff_prefix.mp hp).length_le
       simpa [Str.length] using this
      have hc:((found.size < limit ∧ free ≤ i) ∧ i + y.length ≤ x.length) ∧ subAt x y i = true:=⟨⟨⟨by lia,hf⟩,by simp at hi hlen; lia⟩,hpre.mpr hp⟩
      rw [if_pos hc]
      have q:=ih (i + 1) (found.push i) (i + y.length) hd' hi' (by simp; lia)
      show (forIn (List.range' (i + 1) (x.length + 1 - (i + 1))) (found.push i,i + y.length) (occBody x y x.length limit)).run.fst.toList = _
      rw [q,poss,if_pos hp]
      have:i + y.length - (i + 1) = y.cps.toList.length - 1:=by simp [Str.length]; lia
      rw [this]
      simp
    · have hc:¬ (((found.size < limit ∧ free ≤ i) ∧ i + y.length ≤ x.length) ∧ subAt x y i = true):=fun q => hp (hpre.mp q.2)
      rw [if_neg hc]
      have q:=ih (i + 1) found free hd' hi' (by lia)
      show (forIn (List.range' (i + 1) (x.length + 1 - (i + 1))) (found,free) (occBody x y x.length limit)).run.fst.toList = _
      rw [q,poss,if_neg hp]
      have:free - (i + 1) = 0:=by lia
      rw [this]
  · have hc:¬ (((found.size < limit ∧ free ≤ i) ∧ i + y.length ≤ x.length) ∧ subAt x y i = true):=fun q => hf q.1.1.2
    rw [if_neg hc]
    have q:=ih (i + 1) found free hd' hi' (by lia)
    show (forIn (List.range' (i + 1) (x.length + 1 - (i + 1))) (found,free) (occBody x y x.length limit)).run.fst.toList = _
    rw [q]
    obtain ⟨k,hk⟩:∃ k,free - i = k + 1:=⟨free - i - 1,by lia⟩
    have hk2:free - (i + 1) = k:=by lia
    rw [hk,hk2,poss]
theorem occ_all (x y:Str) (hy:0 < y.length):occurrences x y 0 x.length (x.length + 1) = poss y.cps.toList 0 0 x.cps.toList:=by
 rw [occ_eq]
 have:=occ_poss x y hy (x.length + 1) x.cps.toList 0 #[] 0 (by simp) (by simp [Str.length]) (by simp [Str.length])
 rw [this]; simp
theorem parts_rep (x z:Str) (y:T) (hy:0 < y.length):∀ (l:T) (i k a:Nat),x.cps.toList.drop i = l → i + l.length = x.length → a ≤ i + k → (0 < k → a = i + k) →
 (Str.join z (partsFrom x y.length a (poss y i k l))).cps.toList = (x.cps.toList.drop a).take (i - a) ++ rep y z.cps.toList k l:=by
 intro l
 induction l with
 | nil =>
  intro i k a hd hi ha hk
  simp at hi
  show (Str.join z (partsFrom x y.length a (poss y i k []))).cps.toList = _
  have:poss y i k [] = []:=by cases k <;> rfl
  rw [this]
  show (strSub x a x.length).cps.toList = _
  rw [strSub_toList,hi]
  cases k <;> simp [rep]
 | cons c r ih =>
  intro i k a hd hi ha hk
  have hd':x.cps.toList.drop (i + 1) = r:=by rw [← List.drop_drop,hd]; rfl
  have hi':i + 1 + r.length = x.length:=by simp at hi; lia
  cases k with
  | succ k =>
   rw [poss,rep,ih (i + 1) k a hd' hi' (by lia) (fun ι => by have:=hk (by lia); lia)]
   have:=hk (by lia)
   have e1:i - a = 0:=by lia
   have e2:i + 1 - a = 0:=by lia
   rw [e1,e2]
  | zero =>
   rw [poss,rep]
   by_cases hp:y.isPrefixOf (c :: r) = true
   · rw [if_pos hp,if_pos hp]
     have q:=ih (i + 1) (y.length - 1) (i + y.length) hd' hi' (by lia) (fun ι => by lia)
     obtain ⟨p1,r1,e1⟩:=partsFrom_ne x y.length (i + y.length) (poss y (i + 1) (y.length - 1) r)
     show (Str.join z (strSub x a i :: partsFrom x y.length (i + y.length) (poss y (i + 1) (y.length - 1) r))).cps.toList = _
     rw [e1] at q ⊢
     show (strSub x a i ++ z ++ Str.join z (p1 :: r1)).cps.toList = _
     have e2:i + 1 - (i + y.length) = 0:=by lia
     rw [e2] at q
     simp only [Str.cps_append,Array.toList_append,q,strSub_toList]
     simp
   · rw [if_neg hp,if_neg hp,ih (i + 1) 0 a hd' hi' (by lia) (fun h => absurd h (Nat.lt_irrefl _))]
     have e:(x.cps.toList.drop a).take (i + 1 - a) = (x.cps.toList.drop a).take (i - a) ++ [c]:=by
      have e1:i + 1 - a = (i - a) + 1:=by lia
      rw [e1,List.take_add_one]
      congr 1
      rw [List.getElem?_drop]
      have:a + (i - a) = i:=by lia
      rw [this]
      have:(x.cps.toList.drop i)[0]? = some c:=by rw [hd]; rfl
      rw [List.getElem?_drop] at this
      simp at this
      simp [this]
     rw [e]; simp
theorem replace_mk (x y z:T) (hy:0 < y.length):Txt.replace (mk x) (mk y) (mk z) = mk (rep y z 0 x):=by
 have hl:0 < (mk y).length:=by rw [mk_len]; exact hy
 have key:=parts_rep (mk x) (mk z) y hy x 0 0 0 (by rw [mk_cps]; rfl) (by rw [mk_len]; lia) (Nat.le_refl _) (fun h => absurd h (Nat.lt_irrefl _))
 have ho:=occ_all (mk x) (mk y) hl
 rw [mk_cps,mk_cps] at ho
 unfold Txt.replace
 rw [ho]
 by_cases he:poss y 0 0 x = []
 · rw [he] at key ⊢
   simp only [List.isEmpty_nil,Bool.true_or,if_true]
   apply mk_ext
   rw [mk_cps]
   have k2:(strSub (mk x) 0 (mk x).length).cps.toList = rep y z 0 x:=by
    have:Str.join (mk z) (partsFrom (mk x) y.length 0 []) = strSub (mk x) 0 (mk x).length:=rfl
    rw [this] at key
    rw [key]; simp [mk_cps]
   rw [← k2,sub_whole,mk_cps]
 · have h1:(poss y 0 0 x).isEmpty = false:=by cases h:poss y 0 0 x with | nil => exact absurd h he | cons _ _ => rfl
   have h2:((mk y).length == 0) = false:=by rw [mk_len]; exact beq_false_of_ne (by lia)
   simp only [h1,h2,Bool.false_and,Bool.or_false,Bool.false_eq_true,if_false]
   rw [glued_eq_join,partsBetween_eq]
   apply mk_ext
   rw [mk_len,key]
   simp [mk_cps]
theorem rep_one (c:Nat) (z:T):∀ x:T,rep [c] z 0 x = x.flatMap fun k => if k = c then z else [k]
 | [] => rfl
 | a :: r => by
  rw [rep,List.flatMap_cons,← rep_one c z r]
  by_cases h:a = c
  · subst h; simp
  · have:([c].isPrefixOf (a :: r)) = false:=by simp [List.isPrefixOf]; exact fun e => h e.symm
    rw [this]; simp [h]
noncomputable def escP (ps:List (Nat × T)) (x:T):T:=x.flatMap fun k => (ps.lookup k).getD [k]
theorem rep_escP (ps:List (Nat × T)) (c:Nat) (z:T) (h1:∀ p ∈ ps,c ∉ p.2) (h2:∀ p ∈ ps,p.1 ≠ c) (x:T):rep [c] z 0 (escP ps x) = escP (ps ++ [(c,z)]) x:=by
 rw [rep_one,escP,List.flatMap_assoc,escP]
 congr 1
 funext k
 have key:(ps ++ [(c,z)]).lookup k = (ps.lookup k).or (if k = c then some z else none):=by
  clear h1 h2
  induction ps with
  | nil =>
   simp only [List.nil_append,List.lookup_cons,List.lookup_nil,Option.none_or]
   by_cases h:k = c
   · simp [h]
   · have:(k == c) = false:=by simpa using h
     simp [this,h]
  | cons p ps ih =>
   rw [List.cons_append,List.lookup_cons,List.lookup_cons]
   by_cases h:(k == p.1) = true
   · simp [h]
   · simp only [h]; exact ih
 rw [key]
 cases hl:ps.lookup k with
 | none =>
  by_cases h:k = c <;> simp [h]
 | some v =>
  have hm:(k,v) ∈ ps:=by
   clear h1 h2 key
   induction ps with
   | nil => simp at hl
   | cons p ps ih =>
    rw [List.lookup_cons] at hl
    by_cases h:(k == p.1) = true
    · rw [h] at hl; cases hl; have:=eq_of_beq h; subst this; exact List.mem_cons_self ..
    · simp only [h] at hl; exact List.mem_cons_of_mem _ (ih hl)
  have hv:=h1 _ hm
  simp only [Option.getD_some,Option.some_or]
  have:∀ v:T,c ∉ v → v.flatMap (fun k => if k = c then z else [k]) = v:=by
   intro v
   induction v with
   | nil => intro _; rfl
   | cons a r ih =>
    intro hn
    rw [List.flatMap_cons,ih (fun q => hn (List.mem_cons_of_mem _ q)),if_neg (show ¬ a = c from fun q => hn (by rw [q]; exact List.mem_cons_self ..))]; rfl
  exact this v hv
noncomputable def eAmp:T:=[38,97,109,112,59]
noncomputable def eLt:T:=[38,108,116,59]
noncomputable def eGt:T:=[38,103,116,59]
noncomputable def eQuot:T:=[38,113,117,111,116,59]
noncomputable def eTab:T:=[38,35,120,57,59]
noncomputable def eNl:T:=[38,35,120,65,59]
noncomputable def eCr:T:=[38,35,120,68,59]
noncomputable def escC:T → T:=escP [(38,eAmp),(60,eLt),(62,eGt),(13,eCr)]
noncomputable def escA:T → T:=escP [(38,eAmp),(60,eLt),(34,eQuot),(9,eTab),(10,eNl),(13,eCr)]
theorem escP_len (ps:List (Nat × T)) (n:Nat) (h:∀ p ∈ ps,p.2.length ≤ n) (hn:1 ≤ n) (x:T):(escP ps x).length ≤ n * x.length:=by
 induction x with
 | nil => simp [escP]
 | cons a r ih =>
  have:escP ps (a :: r) = (ps.lookup a).getD [a] ++ escP ps r:=by simp [escP]
  rw [this,lap,List.length_cons,Nat.mul_add]
  have:((ps.lookup a).getD [a]).length ≤ n:=by
   cases hl:ps.lookup a with
   | none => simpa using hn
   | some v =>
    have hm:(a,v) ∈ ps:=by
     clear h ih this
     induction ps with
     | nil => simp at hl
     | cons p ps ih =>
      rw [List.lookup_cons] at hl
      by_cases h:(a == p.1) = true
      · rw [h] at hl; cases hl; have:=eq_of_beq h; subst this; exact List.mem_cons_self ..
      · simp only [h] at hl; exact List.mem_cons_of_mem _ (ih hl)
    exact h _ hm
  lia
noncomputable def ents:List (T × Nat):=[(eLt,60),(eGt,62),(eQuot,34),(eTab,9),(eNl,10),(eCr,13),(eAmp,38)]
noncomputable def Tk (t:T):Prop:=(∃ c,c ≠ 38 ∧ t = [c]) ∨ t ∈ ents.map (·.1)
theorem rep_skip (y z:T) (hy:0 < y.length):∀ (k:Nat) (t r:T),k = t.length → rep y z k (t ++ r) = rep y z 0 r
 | 0,[],r,_ => rfl
 | k + 1,c :: t,r,h => by
  show rep y z (k + 1) (c :: (t ++ r)) = _
  rw [rep]; exact rep_skip y z hy k t r (by simpa using h)
 | 0,c :: t,_,h => by simp at h
 | k + 1,[],_,h => by simp at h
theorem rep_hit (y z r:T) (hy:0 < y.length):rep y z 0 (y ++ r) = z ++ rep y z 0 r:=by
 cases y with
 | nil => simp at hy
 | cons a y =>
  show rep (a :: y) z 0 (a :: (y ++ r)) = _
  rw [rep]
  have:(a :: y).isPrefixOf (a :: (y ++ r)) = true:=List.isPrefixOf_iff_prefix.mpr ⟨r,by simp⟩
  rw [if_pos this,rep_skip _ _ hy _ y r (by simp)]
theorem rep_pass1 (y z r:T) (c:Nat) (h:y.head? ≠ some c) (hy:0 < y.length):rep y z 0 (c :: r) = c :: rep y z 0 r:=by
 rw [rep]
 have:y.isPrefixOf (c :: r) = false:=by
  cases y with
  | nil => simp at hy
  | cons a y => simp at h; simp [List.isPrefixOf,h]
 rw [this]; rfl
theorem rep_passes (y z:T) (hy:y.head? = some 38):∀ (t r:T),38 ∉ t → rep y z 0 (t ++ r) = t ++ rep y z 0 r
 | [],r,_ => rfl
 | c :: t,r,h => by
  have hc:c ≠ 38:=fun e => h (e ▸ List.mem_cons_self ..)
  show rep y z 0 (c :: (t ++ r)) = _
  rw [rep_pass1 y z _ c (by rw [hy]; intro q; exact hc (Option.some.inj q).symm) (by cases y with | nil => simp at hy | cons _ _ => simp),rep_passes y z hy t r fun q => h (List.mem_cons_of_mem _ q)]
  rfl
theorem rep_other (y z:T) (hy:y.head? = some 38) (t r:T) (h1:y.isPrefixOf (38 :: t) = false) (h2:(38 :: t).isPrefixOf y = false) (h3:38 ∉ t):rep y z 0 ((38 :: t) ++ r) = (38 :: t) ++ rep y z 0 r:=by
 show rep y z 0 (38 :: (t ++ r)) = _
 rw [rep]
 have:y.isPrefixOf (38 :: (t ++ r)) = false:=by
  cases h:y.isPrefixOf (38 :: (t ++ r)) with
  | false => rfl
  | true =>
   have h':y <+: (38 :: t) ++ r:=List.isPrefixOf_iff_prefix.mp h
   have hh:(38 :: t) <+: (38 :: t) ++ r:=List.prefix_append ..
   rcases Nat.le_total y.length (38 :: t).length with q | q
   · rw [List.isPrefixOf_iff_prefix.mpr (List.prefix_of_prefix_length_le h' hh q)] at h1; cases h1
   · rw [List.isPrefixOf_iff_prefix.mpr (List.prefix_of_prefix_length_le hh h' q)] at h2; cases h2
 rw [this,if_neg (by decide),rep_passes y z hy t r h3]
 rfl
noncomputable def okEnt (y t:T):Bool:=match t with
 | 38 :: t' => !(y.isPrefixOf (38 :: t')) && !((38 :: t').isPrefixOf y) && !(t'.contains 38)
 | _ => false
theorem rep_toks (y z:T) (hy:y.head? = some 38) (hall:(ents.map (·.1)).all (fun t => t == y || okEnt y t) = true):∀ ts:List T,(∀ t ∈ ts,Tk t) →
 rep y z 0 ts.flatten = (ts.map fun t => if t = y then z else t).flatten
 | [],_ => by cases z <;> rfl
 | t :: ts,h => by
  have hy0:0 < y.length:=by cases y with | nil => simp at hy | cons _ _ => simp
  rw [List.flatten_cons,List.map_cons,List.flatten_cons,← rep_toks y z hy hall ts fun q hq => h q (List.mem_cons_of_mem _ hq)]
  by_cases e:t = y
  · subst e; rw [if_pos rfl,rep_hit _ _ _ hy0]
  · rw [if_neg e]
    rcases h t (List.mem_cons_self ..) with ⟨c,hc,rfl⟩ | hm
    · exact rep_passes y z hy [c] _ (by simp; exact fun q => hc q.symm)
    · have:=List.all_eq_true.mp hall t hm
      have hk:okEnt y t = true:=by
       rcases Bool.or_eq_true_iff.mp this with q | q
       · exact absurd (eq_of_beq q) e
       · exact q
      unfold okEnt at hk
      split at hk
      · rename_i t'
        simp only [Bool.and_eq_true,Bool.not_eq_true'] at hk
        exact rep_other y z hy t' _ hk.1.1 hk.1.2 (by have:=hk.2; simpa using this)
      · cases hk
noncomputable def plain (x:T):T:=rep eAmp [38] 0 (rep eCr [13] 0 (rep eNl [10] 0 (rep eTab [9] 0 (rep eQuot [34] 0 (rep eGt [62] 0 (rep eLt [60] 0 x))))))
noncomputable def un (t:T):T:=match ents.lookup t with | some c => [c] | none => t
theorem tk_sub {y:T} {c:Nat} (hc:c ≠ 38) {ts:List T} (h:∀ t ∈ ts,Tk t):∀ t ∈ ts.map (fun t => if t = y then [c] else t),Tk t:=by
 intro t ht
 obtain ⟨q,hq,rfl⟩:=List.mem_map.mp ht
 by_cases e:q = y
 · rw [if_pos e]; exact .inl ⟨c,hc,rfl⟩
 · rw [if_neg e]; exact h q hq
theorem plain_toks (ts:List T) (h:∀ t ∈ ts,Tk t):plain ts.flatten = (ts.map un).flatten:=by
 unfold plain
 have h1:=tk_sub (y:=eLt) (c:=60) (by decide) h
 have h2:=tk_sub (y:=eGt) (c:=62) (by decide) h1
 have h3:=tk_sub (y:=eQuot) (c:=34) (by decide) h2
 have h4:=tk_sub (y:=eTab) (c:=9) (by decide) h3
 have h5:=tk_sub (y:=eNl) (c:=10) (by decide) h4
 have h6:=tk_sub (y:=eCr) (c:=13) (by decide) h5
 rw [rep_toks eLt [60] rfl (by decide) ts h,rep_toks eGt [62] rfl (by decide) _ h1,rep_toks eQuot [34] rfl (by decide) _ h2,rep_toks eTab [9] rfl (by decide) _ h3,rep_toks eNl [10] rfl (by decide) _ h4,rep_toks eCr [13] rfl (by decide) _ h5,rep_toks eAmp [38] rfl (by decide) _ h6]
 simp only [List.map_map]
 congr 1
 apply List.map_congr_left
 intro t ht
 rcases h t ht with ⟨c,hc,rfl⟩ | hm
 · have e:∀ y:T,2 ≤ y.length → ([c] = y) = False:=fun y hy => eq_false fun q => by rw [← q] at hy; simp at hy
   simp only [Function.comp,e eLt (by decide),e eGt (by decide),e eQuot (by decide),e eTab (by decide),e eNl (by decide),e eCr (by decide),e eAmp (by decide),if_false]
   simp [un,ents,List.lookup,eLt,eGt,eQuot,eTab,eNl,eCr,eAmp]
 · have:∀ t ∈ ents.map (·.1),((((fun t => if t = eAmp then [38] else t) ∘ fun t => if t = eCr then [13] else t) ∘ (fun t => if t = eNl then [10] else t) ∘ (fun t => if t = eTab then [9] else t) ∘ (fun t => if t = eQuot then [34] else t) ∘ (fun t => if t = eGt then [62] else t) ∘ fun t => if t = eLt then [60] else t):T → T) t = un t:=by decide
   exact this t hm
theorem plain_esc (ps:List (Nat × T)) (hps:∀ p ∈ ps,p.2 ∈ ents.map (·.1) ∧ un p.2 = [p.1]) (hamp:ps.lookup 38 ≠ none) (a x b:T) (ha:38 ∉ a) (hb:38 ∉ b):plain (a ++ escP ps x ++ b) = a ++ x ++ b:=by
 have h38:∀ c:T,38 ∉ c → ∀ t ∈ c.map (fun k => [k]),Tk t:=fun c hc t ht => by
  obtain ⟨k,hk,rfl⟩:=List.mem_map.mp ht
  exact .inl ⟨k,fun e => hc (e ▸ hk),rfl⟩
 have hun1:∀ c:T,38 ∉ c → ((c.map (fun k => [k])).map un).flatten = c:=by
  intro c hc
  induction c with
  | nil => rfl
  | cons k c ih =>
   have:un [k] = [k]:=by simp [un,ents,List.lookup,eLt,eGt,eQuot,eTab,eNl,eCr,eAmp]
   rw [List.map_cons,List.map_cons,List.flatten_cons,ih fun q => hc (List.mem_cons_of_mem _ q),this]; rfl
 have hfl:∀ c:T,(c.map (fun k => [k])).flatten = c:=by intro c; induction c with | nil => rfl | cons k c ih => rw [List.map_cons,List.flatten_cons,ih]; rfl
 have hlk:∀ k v,ps.lookup k = some v → (k,v) ∈ ps:=by
  intro k v hl
  clear hps hamp
  induction ps with
  | nil => simp at hl
  | cons p ps ih =>
   rw [List.lookup_cons] at hl
   by_cases h:(k == p.1) = true
   · rw [h] at hl; cases hl; have:=eq_of_beq h; subst this; exact List.mem_cons_self ..
   · simp only [h] at hl; exact List.mem_cons_of_mem _ (ih hl)
 have e:a ++ escP ps x ++ b = (a.map (fun k => [k]) ++ x.map (fun k => (ps.lookup k).getD [k]) ++ b.map (fun k => [k])).flatten:=by
  rw [List.flatten_append,List.flatten_append,hfl,hfl,escP,List.flatMap]
 have htk:∀ t ∈ a.map (fun k => [k]) ++ x.map (fun k => (ps.lookup k).getD [k]) ++ b.map (fun k => [k]),Tk t:=by
  intro t ht
  rcases List.mem_append.mp ht with ht | ht
  · rcases List.mem_append.mp ht with ht | ht
    · exact h38 a ha t ht
    · obtain ⟨k,hk,rfl⟩:=List.mem_map.mp ht
      cases hl:ps.lookup k with
      | none => exact .inl ⟨k,fun q => hamp (q ▸ hl),rfl⟩
      | some v => exact .inr (hps _ (hlk _ _ hl)).1
  · exact h38 b hb t ht
 rw [e,plain_toks _ htk,List.map_append,List.map_append,List.flatten_append,List.flatten_append,hun1 a ha,hun1 b hb]
 congr 2
 clear e htk
 induction x with
 | nil => rfl
 | cons k x ih =>
  rw [List.map_cons,List.map_cons,List.flatten_cons,ih]
  have:un ((ps.lookup k).getD [k]) = [k]:=by
   cases hl:ps.lookup k with
   | none => simp [un,ents,List.lookup,eLt,eGt,eQuot,eTab,eNl,eCr,eAmp]
   | some v => exact (hps _ (hlk _ _ hl)).2
  rw [this]; rfl
theorem plain_C (a x b:T) (ha:38 ∉ a) (hb:38 ∉ b):plain (a ++ escC x ++ b) = a ++ x ++ b:=plain_esc _ (by decide) (by decide) a x b ha hb
theorem plain_A (x:T):plain (escA x) = x:=by
 have:=plain_esc [(38,eAmp),(60,eLt),(34,eQuot),(9,eTab),(10,eNl),(13,eCr)] (by decide) (by decide) [] x [] (by simp) (by simp)
 rw [List.nil_append,List.append_nil,List.nil_append,List.append_nil] at this
 exact this
theorem escP_free (ps:List (Nat × T)) (c:Nat) (h1:∀ p ∈ ps,c ∉ p.2) (h2:ps.lookup c ≠ none) (x:T):c ∉ escP ps x:=by
 intro hc
 obtain ⟨k,hk,hm⟩:=List.mem_flatMap.mp hc
 cases hl:ps.lookup k with
 | none => rw [hl] at hm; simp at hm; subst hm; exact h2 hl
 | some v =>
  rw [hl] at hm
  have:(k,v) ∈ ps:=by
   clear h1 h2 hm hc
   induction ps with
   | nil => simp at hl
   | cons p ps ih =>
    rw [List.lookup_cons] at hl
    by_cases h:(k == p.1) = true
    · rw [h] at hl; cases hl; have:=eq_of_beq h; subst this; exact List.mem_cons_self ..
    · simp only [h] at hl; exact List.mem_cons_of_mem _ (ih hl)
  exact h1 _ this hm
theorem escC_lt (x:T):60 ∉ escC x:=escP_free _ 60 (by decide) (by decide) x
theorem escC_gt (x:T):62 ∉ escC x:=escP_free _ 62 (by decide) (by decide) x
theorem escA_quot (x:T):34 ∉ escA x:=escP_free _ 34 (by decide) (by decide) x
end
noncomputable abbrev ar (d u:Nat):Around:={ handled:=none,depth:=d,frames:=none,guards:=none,units:=u }
variable {d:Nat}
theorem wid {u:Nat} (h:A.handled = none) (hd:A.depth ≤ d) (hu:A.units ≤ u):Wider A (ar d u):=⟨h,hd,rfl,rfl,hu⟩
noncomputable abbrev sv (x:T) (t:Tok):Value:=.str (mk x) t
theorem rep_none {y z:T}:∀ {l:T} {i k:Nat},poss y i 0 l = [] → k = 0 → rep y z k l = l
 | [],_,k,_,_ => by cases k <;> rfl
 | c :: r,i,_,h,rfl => by
  rw [poss] at h
  rw [rep]
  by_cases hp:y.isPrefixOf (c :: r) = true
  · rw [if_pos hp] at h; cases h
  · rw [if_neg hp] at h ⊢; rw [rep_none h rfl]
open Builtin.Str in
theorem occ_one_none {x y:Str} (hy:0 < y.length) (h:(occurrences x y 0 x.length 1).isEmpty = true):poss y.cps.toList 0 0 x.cps.toList = []:=by
 rw [← occ_all x y hy]
 rcases StrLaws.occ_head x y (x.length + 1) (Nat.succ_pos _) with ⟨h1,_⟩ | ⟨i,r,_,hi,_⟩
 · exact h1
 · have:=(StrLaws.found_iff x y).mpr ⟨i,hi.1,hi.2⟩
   rw [h] at this; cases this
noncomputable abbrev OP:=Obj → Prop
noncomputable abbrev Ldg:=List (Addr × OP)
noncomputable abbrev tick (s:Shared):Shared:={ s with toks:=s.toks + 1 }
structure Stc (H0:Shared) (g:Addr → Option Obj) (N:Ldg) (h:Heap) (gs:Array GenState) (os:OsState):Prop where
 keep:∀ b o,g b = some o → h.get? b = some o
 low:∀ b o,H0.heap.get? b = some o → g b = some o
 has:∀ p ∈ N,(∃ o,h.get? p.1 = some o ∧ p.2 o) ∧ g p.1 = none
 nd:(N.map (·.1)).Nodup
 size:H0.heap.objs.size ≤ h.objs.size
 gens:gs = H0.gens
 os:os = H0.os
noncomputable abbrev St (H0:Shared) (g:Addr → Option Obj) (N:Ldg) (s:Shared):Prop:=Stc H0 g N s.heap s.gens s.os
inductive Pk (a:Addr) (P:OP):Ldg → (OP → Ldg) → Prop
 | head {r}:Pk a P ((a,P) :: r) (fun P' => (a,P') :: r)
 | tail {p r f}:Pk a P r f → Pk a P (p :: r) (fun P' => p :: f P')
 | app {l r f}:Pk a P r f → Pk a P (l ++ r) (fun P' => l ++ f P')
theorem Pk.split {a:Addr} {P:OP} {N:Ldg} {f:OP → Ldg} (k:Pk a P N f):∃ pre post,N = pre ++ (a,P) :: post ∧ ∀ P',f P' = pre ++ (a,P') :: post:=by
 induction k with
 | head => exact ⟨[],_,rfl,fun ι => rfl⟩
 | tail _ ih => obtain ⟨pre,post,h1,h2⟩:=ih; exact ⟨_ :: pre,post,by rw [h1]; rfl,fun P' => by show _ :: _ = _; rw [h2]; rfl⟩
 | app _ ih => obtain ⟨pre,post,h1,h2⟩:=ih; exact ⟨_ ++ pre,post,by rw [h1,List.append_assoc],fun P' => by show _ ++ _ = _; rw [h2,List.append_assoc]⟩
noncomputable def gLe (g g':Addr → Option Obj):Prop:=∀ b o,g b = some o → g' b = some o
theorem gLe.rfl' (g:Addr → Option Obj):gLe g g:=fun _ _ e => e
theorem gLe.tr {a b c:Addr → Option Obj} (x:gLe a b) (y:gLe b c):gLe a c:=fun p o e => y p o (x p o e)
noncomputable def IsTp (o:Obj):Prop:=o.cls = .type "tuple" ∧ ∃ xs n,o.data = .seq xs n
noncomputable def tLe (g g':Addr → Option Obj):Prop:=∀ b o,g b = some o → IsTp o → g' b = some o
noncomputable def NT (P:OP):Prop:=∀ o,P o → ¬ IsTp o
noncomputable def hid (h:Heap) (N:Ldg):Addr → Option Obj:=fun b => if b ∈ N.map (·.1) then none else h.get? b
variable {C:Prop} {H0:Shared} {P':OP} {h h':Heap}
section
variable {g:Addr → Option Obj} {N:Ldg} {s s':Shared} {gs:Array GenState} {os:OsState} {a:Addr} {P:OP} {f:OP → Ldg}
theorem St.get (S:St H0 g N s) (k:Pk a P N f):∃ o,s.heap.get? a = some o ∧ P o:=by
 obtain ⟨pre,post,rfl,_⟩:=k.split
 exact (S.has (a,P) (by simp)).1
theorem St.gnone (S:St H0 g N s) (k:Pk a P N f):g a = none:=by
 obtain ⟨pre,post,rfl,_⟩:=k.split
 exact (S.has (a,P) (by simp)).2
theorem St.put (S:St H0 g N s) (k:Pk a P N f) (hs:Heap.SameBut a s.heap h') {o':Obj} (ho:h'.get? a = some o') (hP:P' o'):Stc H0 g (f P') h' s.gens s.os:=by
 obtain ⟨pre,post,rfl,hf⟩:=k.split
 rw [hf]
 have gn:=(S.has (a,P) (by simp)).2
 have nd:=S.nd
 rw [List.map_append,List.map_cons,List.nodup_append] at nd
 refine ⟨fun b o e => ?_,S.low,fun p hp => ?_,?_,hs.1 ▸ S.size,S.gens,S.os⟩
 · have:b ≠ a:=fun q => by rw [q,gn] at e; cases e
   rw [hs.2 b this]; exact S.keep b o e
 · rcases List.mem_append.mp hp with q | q
   · have hne:p.1 ≠ a:=nd.2.2 p.1 (List.mem_map_of_mem q) a (List.mem_cons_self ..)
     have:=S.has p (List.mem_append_left _ q)
     rw [hs.2 p.1 hne]; exact this
   · rcases List.mem_cons.mp q with rfl | q
     · exact ⟨⟨o',ho,hP⟩,gn⟩
     · have hne:p.1 ≠ a:=fun e => (List.nodup_cons.mp nd.2.1).1 (show a ∈ post.map (·.1) from List.mem_map.mpr ⟨p,q,e⟩)
       have:=S.has p (List.mem_append_right _ (List.mem_cons_of_mem _ q))
       rw [hs.2 p.1 hne]; exact this
 · rw [List.map_append,List.map_cons,List.nodup_append]; exact nd
theorem St.new (S:St H0 g N s) {o:Obj} (hf:o.isFreed = false) (hP:P o):Stc H0 g ((s.heap.objs.size,P) :: N) (s.heap.push o) s.gens s.os:=by
 refine ⟨fun b o e => Heap.get?_push_of_some _ (S.keep b o e),S.low,fun p hp => ?_,?_,by rw [push_size]; exact Nat.le_succ_of_le S.size,S.gens,S.os⟩
 · rcases List.mem_cons.mp hp with rfl | q
   · refine ⟨⟨o,Heap.get?_push_size _ hf,hP⟩,?_⟩
     cases e:g s.heap.objs.size with
     | none => rfl
     | some o => exact absurd (Heap.lt_size (S.keep _ _ e)) (Nat.lt_irrefl _)
   · obtain ⟨⟨o,h1,h2⟩,h3⟩:=S.has p q
     exact ⟨⟨o,Heap.get?_push_of_some _ h1,h2⟩,h3⟩
 · rw [List.map_cons,List.nodup_cons]
   refine ⟨fun q => ?_,S.nd⟩
   obtain ⟨p,hp,e⟩:=List.mem_map.mp q
   obtain ⟨⟨o,h1,_⟩,_⟩:=S.has p hp
   have:=Heap.lt_size h1
   rw [e] at this; exact Nat.lt_irrefl _ this
theorem St.grow (S:St H0 g N s) (hk:∀ b o,s.heap.get? b = some o → h'.get? b = some o) (hz:s.heap.objs.size ≤ h'.objs.size):Stc H0 g N h' s.gens s.os:=
 ⟨fun b o e => hk b o (S.keep b o e),S.low,fun p hp => let ⟨⟨o,h1,h2⟩,h3⟩:=S.has p hp; ⟨⟨o,hk _ _ h1,h2⟩,h3⟩,S.nd,ltr S.size hz,S.gens,S.os⟩
theorem St.pushed (S:St H0 g N s) (o:Obj):Stc H0 g N (s.heap.push o) s.gens s.os:=S.grow (fun _ _ e => Heap.get?_push_of_some _ e) (by rw [push_size]; exact Nat.le_succ _)
theorem St.drop {p:Addr × OP} (S:St H0 g (p :: N) s):St H0 g N s:=
 ⟨S.keep,S.low,fun q hq => S.has q (List.mem_cons_of_mem _ hq),(List.nodup_cons.mp (show (p.1 :: N.map (·.1)).Nodup from S.nd)).2,S.size,S.gens,S.os⟩
theorem St.perm {N₂:Ldg} (S:St H0 g N s) (p:N.Perm N₂):St H0 g N₂ s:=
 ⟨S.keep,S.low,fun q hq => S.has q (p.mem_iff.mpr hq),(p.map _).nodup_iff.mp S.nd,S.size,S.gens,S.os⟩
theorem St.kp (S:St H0 g N s):∀ b o,H0.heap.get? b = some o → s.heap.get? b = some o:=fun b o e => S.keep b o (S.low b o e)
theorem St.freeze {N₂:Ldg} (S:St H0 g (N ++ N₂) s) (k:∀ g',gLe g g' → St H0 g' N s → (∀ p ∈ N₂,∃ o,g' p.1 = some o ∧ p.2 o) → (∀ p ∈ N₂,g' p.1 = s.heap.get? p.1) → C):C:=by
 have nd:=S.nd
 rw [List.map_append,List.nodup_append] at nd
 have le1:gLe g (hid s.heap N):=fun b o e => by
  unfold hid; rw [if_neg fun q => ?_]; exact S.keep b o e
  obtain ⟨p,hp,rfl⟩:=List.mem_map.mp q
  have:=(S.has p (List.mem_append_left _ hp)).2; rw [e] at this; cases this
 have out:∀ p ∈ N₂,hid s.heap N p.1 = s.heap.get? p.1:=fun p hp => by
  unfold hid
  rw [if_neg fun q => nd.2.2 p.1 q p.1 (List.mem_map_of_mem hp) rfl]
 refine k (hid s.heap N) le1 ⟨fun b o e => ?_,fun b o e => le1 b o (S.low b o e),fun p hp => ⟨(S.has p (List.mem_append_left _ hp)).1,?_⟩,nd.1,S.size,S.gens,S.os⟩ (fun p hp => ?_) out
 · unfold hid at e; split at e
   · cases e
   · exact e
 · unfold hid; rw [if_pos (List.mem_map_of_mem hp)]
 · obtain ⟨⟨o,h1,h2⟩,_⟩:=S.has p (List.mem_append_right _ hp)
   exact ⟨o,by rw [out p hp]; exact h1,h2⟩
theorem St.frame {N₂:Ldg} (S:St H0 g (N ++ N₂) s) (nt:∀ p ∈ N₂,NT p.2) (k:∀ g₁,gLe g g₁ → St H0 g₁ N s →
 (∀ g₂ N' s',gLe g₁ g₂ → St H0 g₂ N' s' → ∀ {D:Prop},(∀ g₃,gLe g g₃ → St H0 g₃ (N' ++ N₂) s' → tLe g₂ g₃ → D) → D) → C):C:=by
 have off:∀ b o,g b = some o → b ∉ N₂.map (·.1):=fun b o e q => by
  obtain ⟨p,hp,rfl⟩:=List.mem_map.mp q
  have:=(S.has p (List.mem_append_right _ hp)).2; rw [e] at this; cases this
 have nd:=S.nd
 rw [List.map_append,List.nodup_append] at nd
 refine S.freeze fun g₁ le1 S1 in1 ho1 => k g₁ le1 S1 fun g₂ N' s' l12 S' D z => ?_
 have in2:∀ p ∈ N₂,∃ o,g₂ p.1 = some o ∧ s'.heap.get? p.1 = some o ∧ p.2 o:=fun p hp => by
  obtain ⟨o,h1,h2⟩:=in1 p hp
  exact ⟨o,l12 _ _ h1,S'.keep _ _ (l12 _ _ h1),h2⟩
 have lev:∀ b o,g₂ b = some o → b ∉ N₂.map (·.1) → (fun b => if b ∈ N₂.map (·.1) then none else g₂ b) b = some o:=fun b o e q => by
  show (if _ then _ else _) = _
  rw [if_neg q]; exact e
 refine z (fun b => if b ∈ N₂.map (·.1) then none else g₂ b) (fun b o e => lev b o (l12 b o (le1 b o e)) (off b o e)) ⟨fun b o e => ?_,fun b o e => lev b o (S'.low b o e) (off b o (S.low b o e)),fun p hp => ?_,?_,S'.size,S'.gens,S'.os⟩ fun b o e ht => lev b o e fun q => ?_
 · have e:(if b ∈ N₂.map (·.1) then none else g₂ b) = some o:=e
   split at e
   · cases e
   · exact S'.keep b o e
 · rcases List.mem_append.mp hp with q | q
   · refine ⟨(S'.has p q).1,?_⟩
     show (if _ then _ else _) = _
     split
     · rfl
     · exact (S'.has p q).2
   · obtain ⟨o,_,h2,h3⟩:=in2 p q
     refine ⟨⟨o,h2,h3⟩,?_⟩
     show (if _ then _ else _) = _
     rw [if_pos (List.mem_map_of_mem q)]
 · rw [List.map_append,List.nodup_append]
   refine ⟨S'.nd,nd.2.1,fun b hb c hc e => ?_⟩
   obtain ⟨p,hp,rfl⟩:=List.mem_map.mp hb
   obtain ⟨q,hq,rfl⟩:=List.mem_map.mp hc
   obtain ⟨o,h1,_⟩:=in2 q hq
   have:=(S'.has p hp).2
   rw [e,h1] at this; cases this
 · obtain ⟨p,hp,rfl⟩:=List.mem_map.mp q
   obtain ⟨o',h1,_,h3⟩:=in2 p hp
   rw [h1] at e; cases e
   exact nt p hp o h3 ht
theorem Stc.drop {p:Addr × OP} (S:Stc H0 g (p :: N) h gs os):Stc H0 g N h gs os:=St.drop (s:={ heap:=h,gens:=gs,os:=os }) S
theorem Stc.pushed (S:Stc H0 g N h gs os) (o:Obj):Stc H0 g N (h.push o) gs os:=St.pushed (s:={ heap:=h,gens:=gs,os:=os }) S o
theorem Stc.put (S:Stc H0 g N h gs os) (k:Pk a P N f) (hs:Heap.SameBut a h h') {o':Obj} (ho:h'.get? a = some o') (hP:P' o'):Stc H0 g (f P') h' gs os:=St.put (s:={ heap:=h,gens:=gs,os:=os }) S k hs ho hP
end
noncomputable def Lst (its:List Value):OP:=fun o => ∃ n,o = { cls:=.type "list",data:=.seq its.toArray n }
noncomputable def Nsp (m:Str → Option Value):OP:=fun o => ∃ es ep,o.data = .dict es ep ∧ StrKeys es ∧ ∀ name,nsFind es name = m name
noncomputable def Is (x:Obj):OP:=fun o => o = x
noncomputable def tupO (vs:List Value):Obj:={ cls:=.type "tuple",data:=.seq vs.toArray }
theorem isTp_tup (vs:List Value):IsTp (tupO vs):=⟨rfl,_,_,rfl⟩
theorem nt_lst (its:List Value):NT (Lst its):=by rintro o ⟨n,rfl⟩ ⟨h,_⟩; exact absurd h (by show ¬ (Value.type "list" = Value.type "tuple"); decide)
theorem nt_nsp (m:Str → Option Value):NT (Nsp m):=by rintro o ⟨es,ep,h,_⟩ ⟨_,xs,n,e⟩; rw [h] at e; cases e
variable {L:Addr} {m:Str → Option Value}
section
variable {g:Addr → Option Obj} {N:Ldg} {s:Shared} {l:Addr} {f:OP → Ldg} {its:List Value}
theorem St.ns (S:St H0 g N s) (k:Pk L (Nsp m) N f):s.heap.Ns L m:=by
 obtain ⟨o,ho,es,ep,h1,h2,h3⟩:=S.get k
 exact ⟨o,es,ep,ho,h1,h2,h3⟩
theorem St.plist (S:St H0 g N s) (k:Pk l (Lst its) N f):s.heap.PlainList l its.toArray:=by
 obtain ⟨o,ho,n,rfl⟩:=S.get k
 exact ⟨n,ho⟩
theorem St.list (S:St H0 g N s) (k:Pk l (Lst its) N f):s.heap.IsList l its.toArray:=by
 obtain ⟨n,ho⟩:=S.plist k
 exact ⟨_,ho,rfl,n,rfl⟩
theorem St.fr (S:St H0 g N s) (k:Pk L (Nsp m) N f) (hL:H0.heap.objs.size ≤ L):Fr H0.heap L s.heap m:=⟨S.ns k,S.kp,hL⟩
theorem St.swap {p q:Addr × OP} (S:St H0 g (p :: q :: N) s):St H0 g (q :: p :: N) s:=S.perm (.swap _ _ _)
theorem St.newIn {p:Addr × OP} {o:Obj} {P:OP} (S:St H0 g (p :: N) s) (hf:o.isFreed = false) (hP:P o):Stc H0 g (p :: (s.heap.objs.size,P) :: N) (s.heap.push o) s.gens s.os:=
 St.swap (s:={ s with heap:=s.heap.push o }) (S.new hf hP)
theorem St.newG {o:Obj} (S:St H0 g N s) (hf:o.isFreed = false) (k:∀ g',gLe g g' → Stc H0 g' N (s.heap.push o) s.gens s.os → g' s.heap.objs.size = some o → C):C:=by
 have S1:=S.new (P:=Is o) hf rfl
 have S2:St H0 g (N ++ [(s.heap.objs.size,Is o)]) { s with heap:=s.heap.push o }:=St.perm (s:={ s with heap:=s.heap.push o }) S1 (by
  have:=List.perm_append_comm (l₁:=[(s.heap.objs.size,Is o)]) (l₂:=N)
  exact this)
 refine S2.freeze fun g' h1 h2 h3 _ => ?_
 obtain ⟨o',e,e2⟩:=h3 _ (List.mem_singleton.mpr rfl)
 have e2:o' = o:=e2
 exact k g' h1 h2 (e2 ▸ e)
end
def aR:Lean.Syntax:=.node .none `Lean.Parser.Tactic.tacticSeq #[.node .none `Lean.Parser.Tactic.tacticSeq1Indented #[.node .none `null #[.node .none `Lean.Parser.Tactic.exact #[.atom .none "exact",.ident .none "rfl".toRawSubstring `rfl []]]]]
def aQ:Lean.Syntax:=.node .none `Lean.Parser.Tactic.tacticSeq #[.node .none `Lean.Parser.Tactic.tacticSeq1Indented #[.node .none `null #[.node .none `Lean.Parser.Tactic.tacticRfl #[.atom .none "rfl"]]]]
def aD:Lean.Syntax:=.node .none `Lean.Parser.Tactic.tacticSeq #[.node .none `Lean.Parser.Tactic.tacticSeq1Indented #[.node .none `null #[.node .none `Lean.Parser.Tactic.decide #[.atom .none "decide",.node .none `Lean.Parser.Tactic.optConfig #[.node .none `null #[]]]]]]
def aA:Lean.Syntax:=.node .none `Lean.Parser.Tactic.tacticSeq #[.node .none `Lean.Parser.Tactic.tacticSeq1Indented #[.node .none `null #[.node .none `Lean.Parser.Tactic.assumption #[.atom .none "assumption"]]]]
noncomputable def F2 {α β:Type} (R:α → β → Prop):List α → List β → Prop
 | [],[] => True
 | a :: l,b :: m => R a b ∧ F2 R l m
 | _,_ => False
variable {β:Type}
section
variable {R R':α → β → Prop}
theorem F2.imp (hi:∀ a b,R a b → R' a b) {l:List α} {m:List β} (h:F2 R l m):F2 R' l m:=by
 induction l generalizing m with
 | nil => cases m with
  | nil => trivial
  | cons _ _ => exact h.elim
 | cons a l ih => cases m with
  | nil => exact h.elim
  | cons b m => exact ⟨hi _ _ h.1,ih h.2⟩
theorem F2.len {l:List α} {m:List β} (h:F2 R l m):l.length = m.length:=by
 induction l generalizing m with
 | nil => cases m with
  | nil => rfl
  | cons _ _ => exact h.elim
 | cons a l ih => cases m with
  | nil => exact h.elim
  | cons b m => exact congrArg (· + 1) (ih h.2)
theorem F2.app {l l':List α} {m m':List β} (h:F2 R l m) (k:F2 R l' m'):F2 R (l ++ l') (m ++ m'):=by
 induction l generalizing m with
 | nil => cases m with
  | nil => exact k
  | cons _ _ => exact h.elim
 | cons a l ih => cases m with
  | nil => exact h.elim
  | cons b m => exact ⟨h.1,ih h.2⟩
theorem F2.get {l:List α} {m:List β} (h:F2 R l m) {i:Nat} {a:α} (e:l[i]? = some a):∃ b,m[i]? = some b ∧ R a b:=by
 induction l generalizing m i with
 | nil => cases e
 | cons x l ih => cases m with
  | nil => exact h.elim
  | cons y m => cases i with
   | zero => cases e; exact ⟨y,rfl,h.1⟩
   | succ i => exact ih h.2 e
theorem F2.at {l:List α} {m:List β} (h:F2 R l m) {i:Nat} {b:β} (e:m[i]? = some b):∃ a,l[i]? = some a ∧ R a b:=by
 induction m generalizing l i with
 | nil => cases e
 | cons y m ih => cases l with
  | nil => exact h.elim
  | cons x l => cases i with
   | zero => cases e; exact ⟨x,rfl,h.1⟩
   | succ i => exact ih h.2 e
theorem F2.last {l:List α} {m:List β} {b:β} (h:F2 R l (m ++ [b])):∃ l' a,l = l' ++ [a] ∧ F2 R l' m ∧ R a b:=by
 induction m generalizing l with
 | nil => cases l with
  | nil => exact h.elim
  | cons a l => cases l with
   | nil => exact ⟨[],a,rfl,trivial,h.1⟩
   | cons _ _ => exact h.2.elim
 | cons y m ih => cases l with
  | nil => exact h.elim
  | cons x l =>
   obtain ⟨l',a,e,h1,h2⟩:=ih h.2
   exact ⟨x :: l',a,congrArg (x :: ·) e,⟨h.1,h1⟩,h2⟩
end
structure Cx (w:World) (H0:Shared):Prop where
 X:(hd.heap_1 w.params).In H0.heap
 T:∃ p loose mg mb,TopRead p loose mg mb H0.heap
variable {w:World}
theorem Cx.at {s:Shared} {g:Addr → Option Obj} {N:Ldg} (C:Cx w H0) (S:St H0 g N s):(hd.heap_1 w.params).In s.heap:=C.X.keeps S.kp
variable {Q:Value → Shared → Prop} {args:Args} {binds:List (Str × Value)} {body:List Stmt} {cdv ct dV doc kV oc pm:Value} {env:Env} {name qual:Str} {osl:Array (Option Value)} {params:Arguments} {pos:Pos} {prog:Program} {sc scope:Scope} {t:Tok}
section
variable {s:Shared} {a:Addr} {cd:Value} {g:Addr → Option Obj} {N:Ldg} {f:OP → Ldg}
noncomputable abbrev up (m:Str → Option Value) (x:Str) (v:Value):Str → Option Value:=fun y => if y = x then some v else m y
theorem ldS {x:Str} {v:Value} (S:St H0 g ((L,Nsp m) :: N) s) (hv:m x = some v) (h:Q v s)
 (hk:autoParam (scope.kind = .function) aQ) (hl:autoParam ((envOf name scope L a cd).kindOf x = some .local) aQ) (hd:autoParam ((x == ("__debug__":Str)) = false) aD) :
 wpAny (model prog w) A (eval (.Name x pos) (envOf name scope L a cd)) Q E s:=wpAny_Name (wpAny_loadName_local hk hl (S.ns .head) hv h) hd
theorem Constant_str {x:Str} {k:Nat} (h:Q (.str x s.toks) (tick s)):wpAny M A (eval (.Constant (.str x) k pos) env) Q E s:=PySem.Calls.Constant_str h
theorem wpAny_Constant_int {i:Int} {k:Nat} (h:Q (.int i s.toks) (tick s)):wpAny M A (eval (.Constant (.int i) k pos) env) Q E s:=PySem.wpAny_Constant_int h
section
variable {a b:Int} {u:Tok}
theorem neg_int (h:Q (.int (-a) s.toks) (tick s)):wpAny (model prog w) A (unaryOp .USub (.int a t)) Q E s:=PyProof.Rows.neg_int h
theorem add_int (h:Q (.int (a + b) s.toks) (tick s)):wpAny (model prog w) A (binaryOp .Add (.int a t) (.int b u)) Q E s:=PyProof.Rows.add_int h
theorem mod_int (hb:b ≠ 0) (h:Q (.int (a.fmod b) s.toks) (tick s)):wpAny (model prog w) A (binaryOp .Mod (.int a t) (.int b u)) Q E s:=PyProof.Rows.mod_int hb h
theorem floordiv_int (hb:b ≠ 0) (h:Q (.int (a.fdiv b) s.toks) (tick s)) (hp:Builtin.divisionGoesByPylong a b = false ∨ PySem.PylongRoom (model prog w) A s):wpAny (model prog w) A (binaryOp .FloorDiv (.int a t) (.int b u)) Q E s:=PyProof.Rows.floordiv_int hb h hp
theorem sub_int (h:Q (.int (a - b) s.toks) (tick s)):wpAny (model prog w) A (binaryOp .Sub (.int a t) (.int b u)) Q E s:=PyProof.Rows.sub_int h
end
theorem truthyT {x:T} {Q:Bool → Shared → Prop} (hz:x.length ≤ 1000000) (h:Q (decide (x ≠ [])) (tick (tick s))):wpAny (model prog w) A (truthy (sv x t)) Q E s:=by
 refine SBL.truthy (by rw [mk_len]; lia) ?_
 have e:(((mk x).length:Int) != 0) = decide (x ≠ []):=by
  rw [mk_len,Bool.eq_iff_iff,bne_iff_ne,decide_eq_true_eq]
  exact ⟨fun h z => h (by rw [z]; rfl),fun h z => h (List.length_eq_zero_iff.mp (Int.ofNat_eq_zero.mp z))⟩
 rw [e]; exact h
@[reducible] noncomputable def Nx (prog:Program) (w:World) (A:Around) (rest:List Stmt) (env:Env) (Q:Flow → Shared → Prop) (E:Value → Shared → Prop):Flow → Shared → Prop:=fun f s' => match f with
 | .next => wpAny (model prog w) A (execs rest env) Q E s'
 | f => Q f s'
theorem execsS {st:Stmt} {rest:List Stmt} {Q:Flow → Shared → Prop}
 (h:wpAny (model prog w) A (exec st env) (Nx prog w A rest env Q E) E s):wpAny (model prog w) A (execs (st :: rest) env) Q E s:=wpAny_execs_cons h
theorem ifY {c:Prop} [Decidable c] {P R:Prop} (hc:c) (h:P):if c then P else R:=by rw [if_pos hc]; exact h
theorem ifN {c:Prop} [Decidable c] {P R:Prop} (hc:¬ c) (h:R):if c then P else R:=by rw [if_neg hc]; exact h
theorem appS {l:Addr} {its:List Value} {x:Value} (S:St H0 g N s) (k:Pk l (Lst its) N f) (hz:its.length ≤ sizeLine)
 (h:∀ h',St H0 g (f (Lst (its ++ [x]))) h' → Q .none h'):wpAny (model prog w) A (call (.builtin "list.append") [.ref l,x]) Q E s:=
 wpAny_list_append_plain (S.plist k) (fun h' ⟨n,hp⟩ hs => h _ (S.put k hs hp ⟨n,by simp⟩)) (by simpa using hz)
theorem gmApp {l:Addr} {its:List Value} {pl:Sem Bool} {Q:Value × List Value → Shared → Prop} (S:St H0 g N s) (k:Pk l (Lst its) N f) (h:Q (.builtin "list.append",[.ref l]) s) :
 wpAny (model prog w) A (getMethod (.ref l) "append" pl) Q E s:=by
 obtain ⟨n,ho⟩:=S.plist k
 exact getMethod_list_append ho rfl rfl h
theorem truthyS {l:Addr} {its:List Value} {Q:Bool → Shared → Prop} (S:St H0 g N s) (k:Pk l (Lst its) N f) (hz:its.length < 2 ^ 62) (h:Q (!its.isEmpty) (tick (tick s))):wpAny (model prog w) A (truthy (.ref l)) Q E s:=by
 refine wpAny_truthy_list (S.list k) ?_ ?_
 · have:((its.toArray.size:Nat):Int) < 2 ^ 63:=by simp; lia
   exact this
 · have e:(!its.toArray.isEmpty) = !its.isEmpty:=by simp
   rw [e]; exact h
theorem lastS {l:Addr} {its:List Value} {x:Value} (S:St H0 g N s) (k:Pk l (Lst (its ++ [x])) N f) (h:Q x s):wpAny (model prog w) A (getItem (.ref l) (.int (-1) t)) Q E s:=by
 refine wpAny_getItem_list_neg (S.list k) (by decide) (by simp; lia) (by decide) ?_ h
 have:(-1 + ((its ++ [x]).toArray.size:Int)).toNat = its.length:=by simp; lia
 rw [this]; simp
theorem newTupS {vs:List Value} (S:St H0 g N s) (h:∀ g' s' a,gLe g g' → St H0 g' N s' → g' a = some (tupO vs) → Q (.ref a) s') (hz:vs.length ≤ sizeLine):wpAny (model prog w) A (newTuple vs) Q E s:=
 S.newG (o:=tupO vs) rfl fun g' h1 h2 h3 => wpAny_newTuple (h g' _ _ h1 h2 h3) hz
theorem newLstS {F:Addr × OP} {vs:List Value} (S:St H0 g (F :: N) s) (h:∀ s' a,St H0 g (F :: (a,Lst vs) :: N) s' → Q (.ref a) s') (hz:vs.length ≤ sizeLine):wpAny (model prog w) A (newList vs) Q E s:=
 wpAny_newList (h _ _ (S.newIn rfl ⟨_,rfl⟩)) hz
structure RetQ (R:Result → Shared → Prop) (Q:Flow → Shared → Prop):Prop where
 ret:∀ v s,R (.ok (.ret v)) s → Q (.ret v) s
 nxt:∀ s,R (.ok (.ret .none)) s → Q .next s
theorem callS {nm:Str} {an od:Option Addr} {fa:Addr} {u:Nat}
 (S:St H0 g N s) (C:Cx w H0)
 (ho:(hd.heap_1 w.params).lookup fa = some ⟨oc,od,.func (fnOf nm qual params body sc dV kV doc pm an cdv ct),osl⟩) (hcd:codeIn (hd.heap_1 w.params) cdv qual = true) (hroom:d < recursionLimit)
 (hbind:BindsTo s (fnOf nm qual params body sc dV kV doc pm an cdv ct) args binds) (hloc:∀ y ∈ binds,sc.names.lookup y.1 = some .local)
 (h:∀ L s₁ Q' E',H0.heap.objs.size ≤ L → St H0 g ((L,Nsp fun y => binds.reverse.lookup y) :: N) s₁ → RetQ R Q' →
  wpAny (model prog w) (ar (d + 1) (u + 3)) (execs body (envOf qual sc L fa cdv)) Q' E' s₁)
 (hcell:∀ x ∈ sc.names,x.2 ≠ .cell)
 (hco:autoParam (sc.isCoroutine = false) aQ) (hgen:autoParam (sc.isGenerator = false) aQ) (hk:autoParam (sc.kind = .function) aQ):codeAny (model prog w) (ar d u) (.call (.ref fa) args) R s:=by
 obtain ⟨X,_,_,_,_,T⟩:=C
 refine codeAny_call_function hroom (X.keeps S.kp _ _ ho) rfl hco hgen rfl (codeRec_of (X.keeps S.kp) hcd) (hbind _ _ _ _ ?_)
 refine wpAny_newFunctionEnv hcell hloc (fun h₀ hns₀ hsb₀ => ⟨(T.nolimit.keeps S.kp).fresh _ hsb₀,codeAny_func (h s.heap.objs.size _ _ _ S.size ?_ ⟨fun _ _ z => z,fun _ z => z⟩)⟩) hk
 obtain ⟨o,es,ep,h1,h2⟩:=hns₀
 exact St.put (s:={ s with heap:=_ }) (S.new (P:=fun ι => True) rfl trivial) .head hsb₀ h1 ⟨es,ep,h2⟩
end
structure Tg where
 x:Addr
 dx:Addr
 wr:Addr
 da:Addr
 ds:Addr
 ns:Addr
 pm:Addr
 ps:Addr
 out:Addr
 rw:Bool
 tk:Nat → Tok
noncomputable def tEs (P:Params) (t:Tg) (rs rd:Bool):List DictEntry:=
 [⟨PyData.keyHash P "_write",.str "_write" (t.tk 0),.ref t.wr⟩,
  ⟨PyData.keyHash P "_data",.str "_data" (t.tk 1),.ref t.da⟩,
  ⟨PyData.keyHash P "_with_comments",.str "_with_comments" (t.tk 2),.bool true⟩,
  ⟨PyData.keyHash P "_strip_text",.str "_strip_text" (t.tk 3),.bool false⟩,
  ⟨PyData.keyHash P "_exclude_attrs",.str "_exclude_attrs" (t.tk 4),.none⟩,
  ⟨PyData.keyHash P "_exclude_tags",.str "_exclude_tags" (t.tk 5),.none⟩,
  ⟨PyData.keyHash P "_rewrite_prefixes",.str "_rewrite_prefixes" (t.tk 6),.bool t.rw⟩,
  ⟨PyData.keyHash P "_qname_aware_tags",.str "_qname_aware_tags" (t.tk 7),.none⟩,
  ⟨PyData.keyHash P "_find_qname_aware_attrs",.str "_find_qname_aware_attrs" (t.tk 8),.none⟩,
  ⟨PyData.keyHash P "_declared_ns_stack",.str "_declared_ns_stack" (t.tk 9),.ref t.ds⟩,
  ⟨PyData.keyHash P "_ns_stack",.str "_ns_stack" (t.tk 10),.ref t.ns⟩,
  ⟨PyData.keyHash P "_prefix_map",.str "_prefix_map" (t.tk 11),.ref t.pm⟩,
  ⟨PyData.keyHash P "_preserve_space",.str "_preserve_space" (t.tk 12),.ref t.ps⟩,
  ⟨PyData.keyHash P "_pending_start",.str "_pending_start" (t.tk 13),.none⟩,
  ⟨PyData.keyHash P "_root_seen",.str "_root_seen" (t.tk 14),.bool rs⟩,
  ⟨PyData.keyHash P "_root_done",.str "_root_done" (t.tk 15),.bool rd⟩,
  ⟨PyData.keyHash P "_ignored_depth",.str "_ignored_depth" (t.tk 16),.int 0 (t.tk 18)⟩,
  ⟨PyData.keyHash P "_iter_namespaces",.str "_iter_namespaces" (t.tk 17),.ref 166⟩]
noncomputable def tObj (P:Params) (t:Tg) (rs rd:Bool):Obj:=dictOf (tEs P t rs rd) 18
noncomputable def TgIn (g:Addr → Option Obj) (t:Tg):Prop:=g t.x = some (instObj 143 t.dx) ∧ g t.wr = some { cls:=.type "builtin_function_or_method",data:=.fields #[.builtin "list.append",.ref t.out] } ∧ (t.pm == sysModules) = false
variable {expr rd:Bool}
section
variable {s:Shared} {g:Addr → Option Obj} {N:Ldg} {f:OP → Ldg} {t:Tg} {rs:Bool}
theorem instT (S:St H0 g N s) (I:TgIn g t) (k:Pk t.dx (Is (tObj w.params t rs rd)) N f):W.InstAt s.heap t.x (instObj 143 t.dx) 143 (some (dictOf (tEs w.params t rs rd) 18)):=by
 obtain ⟨o,ho,e⟩:=S.get k
 have e:o = tObj w.params t rs rd:=e
 subst e
 exact ⟨S.keep _ _ I.1,rfl,rfl,ho⟩
theorem gaT {K:Frag} {v:Value} {attr:Option Value} (S:St H0 g N s) (X:K.In H0.heap) (I:TgIn g t) (k:Pk t.dx (Is (tObj w.params t rs rd)) N f)
 (hg:plainGet K 143 name = true) (hh:hasDictIn K 143 = true) (ha:findIn K (.ref 143) name = some attr) (hn:noGet K attr = true) (hl:getL name (tEs w.params t rs rd) = some (some v)) (hv:handedIn v = true)
 (h:Q v (tick s)):wpAny (model PySem.Challenge.rw_dn0278_11.row.prog w) A (getAttr (.ref t.x) name expr) Q E s:=
 get_value (X.keeps S.kp) (instT S I k) (plainGet_of hg).1 (findObj_own hh ha hn hl) hv h
end
section
variable {s:Shared} {g:Addr → Option Obj} {N:Ldg} {f:OP → Ldg} {t:Tg} {rs:Bool}
theorem ga_write (X:(hd.heap_1 w.params).In H0.heap) (S:St H0 g N s) (I:TgIn g t) (k:Pk t.dx (Is (tObj w.params t rs rd)) N f) (h:Q (.ref t.wr) (tick s)):wpAny (model PySem.Challenge.rw_dn0278_11.row.prog w) A (getAttr (.ref t.x) "_write" expr) Q E s:=by
 revert X; k_fill; intro X
 refine' gaT S X I k ?k1 ?k2 ?k3 ?k4 ?k5 ?k6 h
 (case k1 => k_is); (case k2 => k_is); (case k3 => k_is); (case k4 => k_is); (case k5 => rfl); (case k6 => rfl)
theorem ga_data (X:(hd.heap_1 w.params).In H0.heap) (S:St H0 g N s) (I:TgIn g t) (k:Pk t.dx (Is (tObj w.params t rs rd)) N f) (h:Q (.ref t.da) (tick s)):wpAny (model PySem.Challenge.rw_dn0278_11.row.prog w) A (getAttr (.ref t.x) "_data" expr) Q E s:=by
 revert X; k_fill; intro X
 refine' gaT S X I k ?k1 ?k2 ?k3 ?k4 ?k5 ?k6 h
 (case k1 => k_is); (case k2 => k_is); (case k3 => k_is); (case k4 => k_is); (case k5 => rfl); (case k6 => rfl)
theorem ga_wc (X:(hd.heap_1 w.params).In H0.heap) (S:St H0 g N s) (I:TgIn g t) (k:Pk t.dx (Is (tObj w.params t rs rd)) N f) (h:Q (.bool true) (tick s)):wpAny (model PySem.Challenge.rw_dn0278_11.row.prog w) A (getAttr (.ref t.x) "_with_comments" expr) Q E s:=by
 revert X; k_fill; intro X
 refine' gaT S X I k ?k1 ?k2 ?k3 ?k4 ?k5 ?k6 h
 (case k1 => k_is); (case k2 => k_is); (case k3 => k_is); (case k4 => k_is); (case k5 => rfl); (case k6 => rfl)
theorem ga_strip (X:(hd.heap_1 w.params).In H0.heap) (S:St H0 g N s) (I:TgIn g t) (k:Pk t.dx (Is (tObj w.params t rs rd)) N f) (h:Q (.bool false) (tick s)):wpAny (model PySem.Challenge.rw_dn0278_11.row.prog w) A (getAttr (.ref t.x) "_strip_text" expr) Q E s:=by
 revert X; k_fill; intro X
 refine' gaT S X I k ?k1 ?k2 ?k3 ?k4 ?k5 ?k6 h
 (case k1 => k_is); (case k2 => k_is); (case k3 => k_is); (case k4 => k_is); (case k5 => rfl); (case k6 => rfl)
theorem ga_exa (X:(hd.heap_1 w.params).In H0.heap) (S:St H0 g N s) (I:TgIn g t) (k:Pk t.dx (Is (tObj w.params t rs rd)) N f) (h:Q (.none) (tick s)):wpAny (model PySem.Challenge.rw_dn0278_11.row.prog w) A (getAttr (.ref t.x) "_exclude_attrs" expr) Q E s:=by
 revert X; k_fill; intro X
 refine' gaT S X I k ?k1 ?k2 ?k3 ?k4 ?k5 ?k6 h
 (case k1 => k_is); (case k2 => k_is); (case k3 => k_is); (case k4 => k_is); (case k5 => rfl); (case k6 => rfl)
theorem ga_ext (X:(hd.heap_1 w.params).In H0.heap) (S:St H0 g N s) (I:TgIn g t) (k:Pk t.dx (Is (tObj w.params t rs rd)) N f) (h:Q (.none) (tick s)):wpAny (model PySem.Challenge.rw_dn0278_11.row.prog w) A (getAttr (.ref t.x) "_exclude_tags" expr) Q E s:=by
 revert X; k_fill; intro X
 refine' gaT S X I k ?k1 ?k2 ?k3 ?k4 ?k5 ?k6 h
 (case k1 => k_is); (case k2 => k_is); (case k3 => k_is); (case k4 => k_is); (case k5 => rfl); (case k6 => rfl)
theorem ga_rw (X:(hd.heap_1 w.params).In H0.heap) (S:St H0 g N s) (I:TgIn g t) (k:Pk t.dx (Is (tObj w.params t rs rd)) N f) (h:Q (.bool t.rw) (tick s)):wpAny (model PySem.Challenge.rw_dn0278_11.row.prog w) A (getAttr (.ref t.x) "_rewrite_prefixes" expr) Q E s:=by
 revert X; k_fill; intro X
 refine' gaT S X I k ?k1 ?k2 ?k3 ?k4 ?k5 ?k6 h
 (case k1 => k_is); (case k2 => k_is); (case k3 => k_is); (case k4 => k_is); (case k5 => rfl); (case k6 => rfl)
theorem ga_qat (X:(hd.heap_1 w.params).In H0.heap) (S:St H0 g N s) (I:TgIn g t) (k:Pk t.dx (Is (tObj w.params t rs rd)) N f) (h:Q (.none) (tick s)):wpAny (model PySem.Challenge.rw_dn0278_11.row.prog w) A (getAttr (.ref t.x) "_qname_aware_tags" expr) Q E s:=by
 revert X; k_fill; intro X
 refine' gaT S X I k ?k1 ?k2 ?k3 ?k4 ?k5 ?k6 h
 (case k1 => k_is); (case k2 => k_is); (case k3 => k_is); (case k4 => k_is); (case k5 => rfl); (case k6 => rfl)
theorem ga_fqa (X:(hd.heap_1 w.params).In H0.heap) (S:St H0 g N s) (I:TgIn g t) (k:Pk t.dx (Is (tObj w.params t rs rd)) N f) (h:Q (.none) (tick s)):wpAny (model PySem.Challenge.rw_dn0278_11.row.prog w) A (getAttr (.ref t.x) "_find_qname_aware_attrs" expr) Q E s:=by
 revert X; k_fill; intro X
 refine' gaT S X I k ?k1 ?k2 ?k3 ?k4 ?k5 ?k6 h
 (case k1 => k_is); (case k2 => k_is); (case k3 => k_is); (case k4 => k_is); (case k5 => rfl); (case k6 => rfl)
theorem ga_ds (X:(hd.heap_1 w.params).In H0.heap) (S:St H0 g N s) (I:TgIn g t) (k:Pk t.dx (Is (tObj w.params t rs rd)) N f) (h:Q (.ref t.ds) (tick s)):wpAny (model PySem.Challenge.rw_dn0278_11.row.prog w) A (getAttr (.ref t.x) "_declared_ns_stack" expr) Q E s:=by
 revert X; k_fill; intro X
 refine' gaT S X I k ?k1 ?k2 ?k3 ?k4 ?k5 ?k6 h
 (case k1 => k_is); (case k2 => k_is); (case k3 => k_is); (case k4 => k_is); (case k5 => rfl); (case k6 => rfl)
theorem ga_ns (X:(hd.heap_1 w.params).In H0.heap) (S:St H0 g N s) (I:TgIn g t) (k:Pk t.dx (Is (tObj w.params t rs rd)) N f) (h:Q (.ref t.ns) (tick s)):wpAny (model PySem.Challenge.rw_dn0278_11.row.prog w) A (getAttr (.ref t.x) "_ns_stack" expr) Q E s:=by
 revert X; k_fill; intro X
 refine' gaT S X I k ?k1 ?k2 ?k3 ?k4 ?k5 ?k6 h
 (case k1 => k_is); (case k2 => k_is); (case k3 => k_is); (case k4 => k_is); (case k5 => rfl); (case k6 => rfl)
theorem ga_pm (X:(hd.heap_1 w.params).In H0.heap) (S:St H0 g N s) (I:TgIn g t) (k:Pk t.dx (Is (tObj w.params t rs rd)) N f) (h:Q (.ref t.pm) (tick s)):wpAny (model PySem.Challenge.rw_dn0278_11.row.prog w) A (getAttr (.ref t.x) "_prefix_map" expr) Q E s:=by
 revert X; k_fill; intro X
 refine' gaT S X I k ?k1 ?k2 ?k3 ?k4 ?k5 ?k6 h
 (case k1 => k_is); (case k2 => k_is); (case k3 => k_is); (case k4 => k_is); (case k5 => rfl); (case k6 => rfl)
theorem ga_ps (X:(hd.heap_1 w.params).In H0.heap) (S:St H0 g N s) (I:TgIn g t) (k:Pk t.dx (Is (tObj w.params t rs rd)) N f) (h:Q (.ref t.ps) (tick s)):wpAny (model PySem.Challenge.rw_dn0278_11.row.prog w) A (getAttr (.ref t.x) "_preserve_space" expr) Q E s:=by
 revert X; k_fill; intro X
 refine' gaT S X I k ?k1 ?k2 ?k3 ?k4 ?k5 ?k6 h
 (case k1 => k_is); (case k2 => k_is); (case k3 => k_is); (case k4 => k_is); (case k5 => rfl); (case k6 => rfl)
theorem ga_pend (X:(hd.heap_1 w.params).In H0.heap) (S:St H0 g N s) (I:TgIn g t) (k:Pk t.dx (Is (tObj w.params t rs rd)) N f) (h:Q (.none) (tick s)):wpAny (model PySem.Challenge.rw_dn0278_11.row.prog w) A (getAttr (.ref t.x) "_pending_start" expr) Q E s:=by
 revert X; k_fill; intro X
 refine' gaT S X I k ?k1 ?k2 ?k3 ?k4 ?k5 ?k6 h
 (case k1 => k_is); (case k2 => k_is); (case k3 => k_is); (case k4 => k_is); (case k5 => rfl); (case k6 => rfl)
theorem ga_rs (X:(hd.heap_1 w.params).In H0.heap) (S:St H0 g N s) (I:TgIn g t) (k:Pk t.dx (Is (tObj w.params t rs rd)) N f) (h:Q (.bool rs) (tick s)):wpAny (model PySem.Challenge.rw_dn0278_11.row.prog w) A (getAttr (.ref t.x) "_root_seen" expr) Q E s:=by
 revert X; k_fill; intro X
 refine' gaT S X I k ?k1 ?k2 ?k3 ?k4 ?k5 ?k6 h
 (case k1 => k_is); (case k2 => k_is); (case k3 => k_is); (case k4 => k_is); (case k5 => rfl); (case k6 => rfl)
theorem ga_rd (X:(hd.heap_1 w.params).In H0.heap) (S:St H0 g N s) (I:TgIn g t) (k:Pk t.dx (Is (tObj w.params t rs rd)) N f) (h:Q (.bool rd) (tick s)):wpAny (model PySem.Challenge.rw_dn0278_11.row.prog w) A (getAttr (.ref t.x) "_root_done" expr) Q E s:=by
 revert X; k_fill; intro X
 refine' gaT S X I k ?k1 ?k2 ?k3 ?k4 ?k5 ?k6 h
 (case k1 => k_is); (case k2 => k_is); (case k3 => k_is); (case k4 => k_is); (case k5 => rfl); (case k6 => rfl)
theorem ga_ign (X:(hd.heap_1 w.params).In H0.heap) (S:St H0 g N s) (I:TgIn g t) (k:Pk t.dx (Is (tObj w.params t rs rd)) N f) (h:Q (.int 0 (t.tk 18)) (tick s)):wpAny (model PySem.Challenge.rw_dn0278_11.row.prog w) A (getAttr (.ref t.x) "_ignored_depth" expr) Q E s:=by
 revert X; k_fill; intro X
 refine' gaT S X I k ?k1 ?k2 ?k3 ?k4 ?k5 ?k6 h
 (case k1 => k_is); (case k2 => k_is); (case k3 => k_is); (case k4 => k_is); (case k5 => rfl); (case k6 => rfl)
end
section
variable {s:Shared} {g:Addr → Option Obj} {N:Ldg} {f:OP → Ldg} {t:Tg} {rs:Bool} {pl:Sem Bool} {Q:Value × List Value → Shared → Prop}
theorem gmT {K:Frag} {fa:Addr} (S:St H0 g N s) (X:K.In H0.heap) (I:TgIn g t) (k:Pk t.dx (Is (tObj w.params t rs rd)) N f) (hg:plainGet K 143 name = true)
 (hf:findIn K (.ref 143) name = some (some (.ref fa))) (ht:isFn K (.ref fa) = true) (hl:getL name (tEs w.params t rs rd) = some none) (h:Q (.ref fa,[.ref t.x]) s):wpAny (model PySem.Challenge.rw_dn0278_11.row.prog w) A (getMethod (.ref t.x) name pl) Q E s:=
 method_fn (X.keeps S.kp) (instT S I k) (plainGet_of hg).1 (plainGet_of hg).2 hf (beq_iff_eq.mp ht) (by show (lookIn name (dictOf (tEs w.params t rs rd) 18)).map _ = _; rw [lookIn_dict,hl]; rfl) h
theorem gm_data (X:(hd.heap_1 w.params).In H0.heap) (S:St H0 g N s) (I:TgIn g t) (k:Pk t.dx (Is (tObj w.params t rs rd)) N f) (h:Q (.ref 90,[.ref t.x]) s):wpAny (model PySem.Challenge.rw_dn0278_11.row.prog w) A (getMethod (.ref t.x) "data" pl) Q E s:=by
 revert X; k_fill; intro X
 refine' gmT S X I k ?k1 ?k2 ?k3 ?k4 h
 (case k1 => k_is); (case k2 => k_is); (case k3 => k_is); (case k4 => rfl)
theorem gm_flush (X:(hd.heap_1 w.params).In H0.heap) (S:St H0 g N s) (I:TgIn g t) (k:Pk t.dx (Is (tObj w.params t rs rd)) N f) (h:Q (.ref 99,[.ref t.x]) s):wpAny (model PySem.Challenge.rw_dn0278_11.row.prog w) A (getMethod (.ref t.x) "_flush" pl) Q E s:=by
 revert X; k_fill; intro X
 refine' gmT S X I k ?k1 ?k2 ?k3 ?k4 h
 (case k1 => k_is); (case k2 => k_is); (case k3 => k_is); (case k4 => rfl)
theorem gm_start_ns (X:(hd.heap_1 w.params).In H0.heap) (S:St H0 g N s) (I:TgIn g t) (k:Pk t.dx (Is (tObj w.params t rs rd)) N f) (h:Q (.ref 106,[.ref t.x]) s):wpAny (model PySem.Challenge.rw_dn0278_11.row.prog w) A (getMethod (.ref t.x) "start_ns" pl) Q E s:=by
 revert X; k_fill; intro X
 refine' gmT S X I k ?k1 ?k2 ?k3 ?k4 h
 (case k1 => k_is); (case k2 => k_is); (case k3 => k_is); (case k4 => rfl)
theorem gm_start (X:(hd.heap_1 w.params).In H0.heap) (S:St H0 g N s) (I:TgIn g t) (k:Pk t.dx (Is (tObj w.params t rs rd)) N f) (h:Q (.ref 113,[.ref t.x]) s):wpAny (model PySem.Challenge.rw_dn0278_11.row.prog w) A (getMethod (.ref t.x) "start" pl) Q E s:=by
 revert X; k_fill; intro X
 refine' gmT S X I k ?k1 ?k2 ?k3 ?k4 h
 (case k1 => k_is); (case k2 => k_is); (case k3 => k_is); (case k4 => rfl)
theorem gm_start_ (X:(hd.heap_1 w.params).In H0.heap) (S:St H0 g N s) (I:TgIn g t) (k:Pk t.dx (Is (tObj w.params t rs rd)) N f) (h:Q (.ref 119,[.ref t.x]) s):wpAny (model PySem.Challenge.rw_dn0278_11.row.prog w) A (getMethod (.ref t.x) "_start" pl) Q E s:=by
 revert X; k_fill; intro X
 refine' gmT S X I k ?k1 ?k2 ?k3 ?k4 h
 (case k1 => k_is); (case k2 => k_is); (case k3 => k_is); (case k4 => rfl)
theorem gm_end (X:(hd.heap_1 w.params).In H0.heap) (S:St H0 g N s) (I:TgIn g t) (k:Pk t.dx (Is (tObj w.params t rs rd)) N f) (h:Q (.ref 126,[.ref t.x]) s):wpAny (model PySem.Challenge.rw_dn0278_11.row.prog w) A (getMethod (.ref t.x) "end" pl) Q E s:=by
 revert X; k_fill; intro X
 refine' gmT S X I k ?k1 ?k2 ?k3 ?k4 h
 (case k1 => k_is); (case k2 => k_is); (case k3 => k_is); (case k4 => rfl)
theorem gm_comment (X:(hd.heap_1 w.params).In H0.heap) (S:St H0 g N s) (I:TgIn g t) (k:Pk t.dx (Is (tObj w.params t rs rd)) N f) (h:Q (.ref 133,[.ref t.x]) s):wpAny (model PySem.Challenge.rw_dn0278_11.row.prog w) A (getMethod (.ref t.x) "comment" pl) Q E s:=by
 revert X; k_fill; intro X
 refine' gmT S X I k ?k1 ?k2 ?k3 ?k4 h
 (case k1 => k_is); (case k2 => k_is); (case k3 => k_is); (case k4 => rfl)
theorem gm_pi (X:(hd.heap_1 w.params).In H0.heap) (S:St H0 g N s) (I:TgIn g t) (k:Pk t.dx (Is (tObj w.params t rs rd)) N f) (h:Q (.ref 140,[.ref t.x]) s):wpAny (model PySem.Challenge.rw_dn0278_11.row.prog w) A (getMethod (.ref t.x) "pi" pl) Q E s:=by
 revert X; k_fill; intro X
 refine' gmT S X I k ?k1 ?k2 ?k3 ?k4 h
 (case k1 => k_is); (case k2 => k_is); (case k3 => k_is); (case k4 => rfl)
theorem gm_qname (X:(hd.heap_1 w.params).In H0.heap) (S:St H0 g N s) (I:TgIn g t) (k:Pk t.dx (Is (tObj w.params t rs rd)) N f) (h:Q (.ref 83,[.ref t.x]) s):wpAny (model PySem.Challenge.rw_dn0278_11.row.prog w) A (getMethod (.ref t.x) "_qname" pl) Q E s:=by
 revert X; k_fill; intro X
 refine' gmT S X I k ?k1 ?k2 ?k3 ?k4 h
 (case k1 => k_is); (case k2 => k_is); (case k3 => k_is); (case k4 => rfl)
end
variable {od:Obj}
section
variable {s:Shared} {K:Frag} {x C:Addr} {ox:Obj} {pl:Sem Bool} {v:Value} {Q:Value × List Value → Shared → Prop}
theorem findObj_shadow {a gt:Value} (hh:hasDictIn K C = true) (ha:findIn K (.ref C) name = some (some a)) (hn:specialIn K a "__get__" = some (some gt)) (ht:takesIn K a = some false) (hl:lookIn name od = some (some v)) :
 findObj K C (some od) name = some (.value v):=by
 obtain ⟨cd,hc,hd⟩:=any_some hh
 unfold findObj
 rw [hc,Option.bind_some,ha,Option.bind_some]
 have ho:W.ownOf cd (some od) name = some (some v):=by unfold W.ownOf; rw [if_pos hd]; exact hl
 simp [hn,ht,ho]
theorem method_own (X:K.In s.heap) (I:W.InstAt s.heap x ox C (some od)) (hga:findIn K (.ref C) "__getattribute__" = some (some (.builtin "object.__getattribute__"))) (hk:findIn K (.ref C) "__getattr__" = some none)
 (hf:findIn K (.ref C) name = some none) (h:wpAny (model prog w) A (getAttr (.ref x) name) (fun v s' => Q (v,[]) s') E s):wpAny (model prog w) A (getMethod (.ref x) name pl) Q E s:=by
 have hcan:=PySem.F.canon_object_ga
 unfold getMethod specialOf
 refine wpAny_bind (wpAny_bind (I.type.here ((looks_findIn X hga).here ?_)))
 dsimp only
 rw [hcan,if_neg (by decide)]
 refine wpAny_bind (wpAny_bind (I.type.here ((looks_findIn X hk).here ?_)))
 refine wpAny_bind (wpAny_bind (I.type.here ((looks_findIn X hf).here ?_)))
 exact wpAny_bind (wpAny_mono h (fun _ _ q => wpAny_pure q) fun _ _ q => q)
theorem method_shadow {f:Addr} (X:K.In s.heap) (I:W.InstAt s.heap x ox C (some od)) (hga:findIn K (.ref C) "__getattribute__" = some (some (.builtin "object.__getattribute__"))) (hk:findIn K (.ref C) "__getattr__" = some none)
 (hf:findIn K (.ref C) name = some (some (.ref f))) (ht:typeIn K (.ref f) = some (.type "function")) (hs:shadowIn (some od) name = some true) (h:wpAny (model prog w) A (getAttr (.ref x) name) (fun v s' => Q (v,[]) s') E s):wpAny (model prog w) A (getMethod (.ref x) name pl) Q E s:=by
 have hcan:=PySem.F.canon_object_ga
 unfold getMethod specialOf
 refine wpAny_bind (wpAny_bind (I.type.here ((looks_findIn X hga).here ?_)))
 dsimp only
 rw [hcan,if_neg (by decide)]
 refine wpAny_bind (wpAny_bind (I.type.here ((looks_findIn X hk).here ?_)))
 refine wpAny_bind (wpAny_bind (I.type.here ((looks_findIn X hf).here (wpAny_bind ((looks_typeIn X ht).here ?_)))))
 rw [if_neg (by decide +kernel)]
 refine wpAny_bind (wpAny_loadPart I.at_ ?_)
 have hd:=I.dict
 cases e:ox.dict with
 | none => rw [e] at hd; exact hd.elim
 | some dx =>
  rw [e] at hd
  obtain ⟨r,a,b⟩:=Option.map_eq_some_iff.mp hs
  refine wpAny_bind (wpAny_bind (wpAny_loadPart hd ?_))
  rw [nsLook_of a]
  refine wpAny_pure ?_
  rw [b]
  exact wpAny_bind (wpAny_mono h (fun _ _ q => wpAny_pure q) fun _ _ q => q)
end
theorem sig_app:∃ sg,Manifest.signature? "list.append" = some sg ∧ ∀ l v,Bind.checkArgs "list.append" { sg with full:=toString (Bind.lastOf "list") ++ toString "." ++ toString (Bind.lastOf "list.append") } ⟨[.ref l,v],[]⟩ = pure ():=by
 cases h:Manifest.signature? "list.append" with
 | none =>
  have:(Manifest.signature? "list.append").isSome = true:=by kernel_rfl
  rw [h] at this; cases this
 | some sg =>
  refine ⟨sg,rfl,fun l v => ?_⟩
  have q:∀ l v,((Manifest.signature? "list.append").map fun sg => Bind.checkArgs "list.append" { sg with full:=toString (Bind.lastOf "list") ++ toString "." ++ toString (Bind.lastOf "list.append") } ⟨[.ref l,v],[]⟩) = some (pure ()):=fun l v => by kernel_rfl
  have:=q l v
  rw [h] at this
  exact Option.some.inj this
theorem kind_app:builtinKind "list.append" = some .method:=by kernel_rfl
theorem checkApp {s:Shared} {l:Addr} {v:Value} {its:Array Value} {Q:Unit → Shared → Prop} (hl:s.heap.IsList l its) (h:Q () s):wpAny M A (checkBoundCall "list.append" ⟨[.ref l,v],[]⟩) Q E s:=by
 obtain ⟨sg,e1,e2⟩:=sig_app
 obtain ⟨o,ho,hc,n,hd⟩:=id hl
 unfold checkBoundCall
 rw [e1]
 dsimp only
 rw [kind_app]
 dsimp only
 rw [if_neg (by decide)]
 refine wpAny_bind (wpAny_isInstance (b:=false) hl.typeIs (by first | rfl | kernel_rfl) ?_)
 have:(Manifest.varargsMethods.contains "list.append" || false) = false:=by decide +kernel
 rw [this]
 simp only [Bool.false_eq_true,if_false]
 refine wpAny_bind ?_
 unfold isType
 refine wpAny_bind (wpAny_loadPart ho ?_)
 rw [hd]
 refine wpAny_pure ?_
 simp only [Bool.false_eq_true,if_false]
 refine wpAny_bind (wpAny_typeOf hl.typeIs ?_)
 dsimp only
 rw [e2]
 exact wpAny_pure h
variable {items:Array Value}
theorem codeApp {s:Shared} {l wr:Addr} {v:Value} (hl:s.heap.PlainList l items) (hsz:items.size ≤ sizeLine)
 (hw:s.heap.get? wr = some { cls:=.type "builtin_function_or_method",data:=.fields #[.builtin "list.append",.ref l] })
 (hQ:∀ h',h'.PlainList l (items.push v) → Heap.SameBut l s.heap h' → R (.ok (.ret .none)) { s with heap:=h' }):codeAny (model prog w) A (.call (.ref wr) ⟨[v],[]⟩) R s:=by
 refine codeAny_of_tree ?_
 show wpAny _ _ (callAny (.ref wr) _) _ _ _
 unfold callAny
 refine wpAny_bind (wpAny_load hw ?_)
 dsimp only
 rw [if_pos (by decide)]
 simp only [List.getElem?_toArray,List.getElem?_cons_zero,List.getElem?_cons_succ]
 rw [if_pos (by decide)]
 obtain ⟨n,ho⟩:=id hl
 refine wpAny_bind (checkApp ⟨_,ho,rfl,n,rfl⟩ (wpAny_pure ⟨Code.quiet_builtin _ (by decide +kernel),codeAny_builtin entry_list_append ?_⟩))
 show wpAny _ _ (updateSeq l (·.push v) >>= fun ι => ret .none) _ _ s
 refine wpAny_bind ?_
 refine wpAny_updateSeq ho rfl (wpAny_pure (hQ _ ⟨n + 1,?_⟩ (Heap.SameBut.update ..)))
 rw [Heap.get?_update_self _ ho (by rw [Obj.mapSeq_push_plain]; rfl),Obj.mapSeq_push_plain]
section
variable {s:Shared} {g:Addr → Option Obj} {N:Ldg} {f:OP → Ldg} {t:Tg} {rs:Bool} {pl:Sem Bool} {Q:Value × List Value → Shared → Prop}
theorem gm_write (X:(hd.heap_1 w.params).In H0.heap) (S:St H0 g N s) (I:TgIn g t) (k:Pk t.dx (Is (tObj w.params t rs rd)) N f) (h:Q (.ref t.wr,[]) (tick s)) :
 wpAny (model PySem.Challenge.rw_dn0278_11.row.prog w) A (getMethod (.ref t.x) "_write" pl) Q E s:=by
 revert X; k_fill; intro X
 refine' method_own (K:=hd.heap_1 w.params) (X.keeps S.kp) (instT S I k) ?k1 ?k2 ?k3 (ga_write X S I k h)
 (case k1 => k_is); (case k2 => k_is); (case k3 => k_is)
theorem gm_it (X:(hd.heap_1 w.params).In H0.heap) (S:St H0 g N s) (I:TgIn g t) (k:Pk t.dx (Is (tObj w.params t rs rd)) N f) (h:Q (.ref 166,[]) (tick s)) :
 wpAny (model PySem.Challenge.rw_dn0278_11.row.prog w) A (getMethod (.ref t.x) "_iter_namespaces" pl) Q E s:=by
 revert X; k_fill; intro X
 refine' method_shadow (K:=hd.heap_1 w.params) (X.keeps S.kp) (instT S I k) ?k1 ?k2 ?k3 ?k4 ?k5 (get_value (K:=hd.heap_1 w.params) (X.keeps S.kp) (instT S I k) ?k6 (findObj_shadow ?k7 ?k8 ?k9 ?k10 rfl) rfl h)
 (case k1 => k_is); (case k2 => k_is); (case k3 => k_is); (case k4 => k_is); (case k5 => rfl); (case k6 => k_is); (case k7 => k_is); (case k8 => k_is); (case k9 => k_is); (case k10 => k_is)
theorem callWr {its:List Value} {v:Value} {Q:Value → Shared → Prop} (S:St H0 g N s) (I:TgIn g t) (k:Pk t.out (Lst its) N f) (hz:its.length ≤ sizeLine)
 (h:∀ h',St H0 g (f (Lst (its ++ [v]))) h' → Q .none h'):wpAny (model PySem.Challenge.rw_dn0278_11.row.prog w) A (call (.ref t.wr) [v]) Q E s:=
 wpAny_call (codeApp (S.plist k) (by simpa using hz) (S.keep _ _ I.2.1) fun h' ⟨n,hp⟩ hs => h _ (S.put k hs hp ⟨n,by simp⟩))
theorem keeps_W {wr o:Addr} (h:Heap) (hw:h.get? wr = some { cls:=.type "builtin_function_or_method",data:=.fields #[.builtin "list.append",.ref o] }):∃ k,(k = Keeper.frame ∨ k = Keeper.machine ∨ k = Keeper.boundFrame) ∧ Looks M h (keeperOf (.ref wr)) k:=
 ⟨.machine,.inr (.inl rfl),(Looks.ld (part:=none) hw).andThen .now⟩
theorem cwW {first:List Value} {Q:Value → Shared → Prop} {wr o:Addr} {e:Expr} {rest:List Expr}
 (h:wpAny M A (spliced (backTo pos (starEach (e :: rest) env))) (fun vs s₁ => s₁.heap.get? wr = some { cls:=.type "builtin_function_or_method",data:=.fields #[.builtin "list.append",.ref o] } ∧ wpAny M A (call (.ref wr) (first ++ vs)) Q E s₁) E s)
 (he:autoParam (starEach (e :: rest) env = (false,eval e env) :: starEach rest env) aQ) (hplain:autoParam ((backTo pos (starEach rest env)).any (·.1) = false) aQ) :
 wpAny M A (callWith pos (.ref wr) first (backTo pos (starEach (e :: rest) env)) []) Q E s:=by
 rw [he] at h ⊢
 exact callWith_of (by show ((false || (backTo pos (starEach rest env)).any (·.1)) || false) = false; rw [hplain]; rfl) keeps_W (evalArgs_plain h)
end
structure LoopQ (I:(Addr → Option Obj) → (Str → Option Value) → Ldg → Shared → Prop) (R:Result → Shared → Prop) (Q:Flow → Shared → Prop):Prop where
 nxt:∀ g m N s,I g m N s → Q .next s
 cont:∀ g m N s,I g m N s → Q .cont s
 brk:∀ s,R (.ok .next) s → Q .brk s
 ret:∀ v s,R (.ok (.ret v)) s → Q (.ret v) s
noncomputable def LoopI (H0:Shared) (L it:Addr) (P:OP) (K:(Addr → Option Obj) → (Str → Option Value) → Ldg → Prop) (g:Addr → Option Obj) (m:Str → Option Value) (N:Ldg) (s:Shared):Prop:=K g m N ∧ St H0 g ((L,Nsp m) :: (it,P) :: N) s
variable {P:Nat → OP} {ok:Shared → Prop}
section
variable {s:Shared} {g:Addr → Option Obj} {N:Ldg} {f:OP → Ldg}
theorem ldE {x:Str} {v:Value} (S:St H0 g ((L,Nsp m) :: N) s) (hv:m x = some v) (h:Q v s)
 (hE:autoParam (env.locals = L) aQ) (hk:autoParam (env.scope.kind = .function) aQ) (hl:autoParam (env.kindOf x = some .local) aQ) (hd:autoParam ((x == ("__debug__":Str)) = false) aD) :
 wpAny (model prog w) A (eval (.Name x pos) env) Q E s:=by subst hE; exact wpAny_Name (wpAny_loadName_local hk hl (S.ns .head) hv h) hd
theorem stE {x:Str} {v:Value} {Q:Unit → Shared → Prop} (S:St H0 g ((L,Nsp m) :: N) s)
 (h:∀ h',St H0 g ((L,Nsp (up m x v)) :: N) h' → Q () h')
 (hE:autoParam (env.locals = L) aQ) (hk:autoParam (env.scope.kind = .function) aQ) (hl:autoParam (env.kindOf x = some .local) aQ) :
 wpAny (model prog w) A (storeName env x v) Q E s:=by
 subst hE
 exact wpAny_storeName_local hl (S.ns .head) (fun h' hn hs => h _ (by
  obtain ⟨o,es,ep,h1,h2⟩:=hn
  exact S.put .head hs h1 ⟨es,ep,h2⟩)) (by rw [hk]; rfl)
theorem asnE {x:Str} {v:Value} {Q:Unit → Shared → Prop} (S:St H0 g ((L,Nsp m) :: N) s)
 (h:∀ h',St H0 g ((L,Nsp (up m x v)) :: N) h' → Q () h')
 (hE:autoParam (env.locals = L) aQ) (hk:autoParam (env.scope.kind = .function) aQ) (hl:autoParam (env.kindOf x = some .local) aQ) :
 wpAny (model prog w) A (assign (.Name x pos) env v) Q E s:=wpAny_assign_Name (stE S h hE hk hl)
noncomputable def Cel (v:Option Value):OP:=fun o => o.data = .cell v
theorem nt_cel (v:Option Value):NT (Cel v):=by rintro o h ⟨_,xs,n,e⟩; have h:o.data = .cell v:=h; rw [h] at e; cases e
theorem St.cell {c:Addr} {v:Option Value} (S:St H0 g N s) (k:Pk c (Cel v) N f):s.heap.IsCell c v:=let ⟨o,h1,h2⟩:=S.get k; ⟨o,h1,h2⟩
theorem ldC {x:Str} {v:Value} {c:Addr} (S:St H0 g N s) (k:Pk c (Cel (some v)) N f) (h:Q v s)
 (hc:autoParam (env.cells.lookup x = some c) aQ) (hk:autoParam (env.scope.kind = .function) aQ) (hl:autoParam (env.kindOf x = some .cell) aQ) (hd:autoParam ((x == ("__debug__":Str)) = false) aD) :
 wpAny (model prog w) A (eval (.Name x pos) env) Q E s:=wpAny_Name (wpAny_loadName_cell hk hl hc (S.cell k) h) hd
theorem stC {x:Str} {v:Value} {v₀:Option Value} {c:Addr} {Q:Unit → Shared → Prop} (S:St H0 g N s) (k:Pk c (Cel v₀) N f)
 (h:∀ h',St H0 g (f (Cel (some v))) h' → Q () h')
 (hc:autoParam (env.cells.lookup x = some c) aQ) (hk:autoParam (env.scope.kind = .function) aQ) (hl:autoParam (env.kindOf x = some .cell) aQ) :
 wpAny (model prog w) A (storeName env x v) Q E s:=
 wpAny_storeName_cell hk hl hc (S.cell k) fun h' ⟨o,ho,hd⟩ hs => h _ (S.put k hs ho hd)
theorem glE {x:Str} {v:Value} (S:St H0 g N s) (C:Cx w H0)
 (hx:nsIn (hd.heap_1 w.params) mainGlobals x = some (some v)) (h:Q v s) (hg:autoParam (env.globals = mainGlobals) aQ) (hk:autoParam (env.scope.kind = .function) aQ) (hl:autoParam (env.kindOf x = some .globalImplicit) aQ) (hd:autoParam ((x == ("__debug__":Str)) = false) aD) :
 wpAny (model prog w) A (eval (.Name x pos) env) Q E s:=
 let ⟨_,_,_,_,T⟩:=C.T
 Name_function_global hk hl (loadGlobal_global (env:=env) (by rw [hg]; exact T.g.keeps S.kp) (mg_of C.X T.g hx) h) hd
noncomputable def Itr (l:Addr) (i:Nat):OP:=fun o => o.cls = .type "list_iterator" ∧ o.data = .fields #[.ref l,.int i 0]
theorem nt_itr (l:Addr) (i:Nat):NT (Itr l i):=by rintro o ⟨_,h⟩ ⟨_,xs,n,e⟩; rw [h] at e; cases e
theorem iterS {F:Addr × OP} {l:Addr} {vs:List Value} (S:St H0 g (F :: N) s) (hl:s.heap.IsList l vs.toArray)
 (h:∀ s' it,St H0 g (F :: (it,Itr l 0) :: N) s' → s'.heap.IsList l vs.toArray → Q (.ref it) s'):wpAny (model prog w) A (pyIter (.ref l)) Q E s:=
 wpAny_pyIter_list hl (h _ _ (S.newIn rfl ⟨rfl,rfl⟩) (hl.push _))
theorem iterS0 {l:Addr} {vs:List Value} (S:St H0 g N s) (hl:s.heap.IsList l vs.toArray)
 (h:∀ s' it,St H0 g ((it,Itr l 0) :: N) s' → s'.heap.IsList l vs.toArray → Q (.ref it) s'):wpAny (model prog w) A (pyIter (.ref l)) Q E s:=
 wpAny_pyIter_list hl (h _ _ (S.new rfl ⟨rfl,rfl⟩) (hl.push _))
theorem nextS {F:Addr × OP} {l it:Addr} {i:Nat} {vs:List Value} {x:Value} {Q:Option Value → Shared → Prop} (S:St H0 g (F :: (it,Itr l i) :: N) s) (hl:s.heap.IsList l vs.toArray) (hx:vs[i]? = some x)
 (h:∀ h',St H0 g (F :: (it,Itr l (i + 1)) :: N) h' → Q (some x) h'):wpAny (model prog w) A (pyNext (.ref it)) Q E s:=by
 obtain ⟨o,ho,h1,h2⟩:=S.get (.tail .head)
 exact wpAny_pyNext_list_item ⟨o,ho,h1,h2⟩ hl (by simpa using hx) fun h' ⟨o',ho',a,b⟩ hs => h _ (S.put (.tail .head) hs ho' ⟨a,b⟩)
theorem St.off2 {F:Addr × OP} {p:Addr × OP} (S:St H0 g (F :: p :: N) s) (he:Heap.ExtBut p.1 s.heap h') (hz:s.heap.objs.size ≤ h'.objs.size):Stc H0 g (F :: N) h' s.gens s.os:=by
 have nd:=S.nd
 rw [List.map_cons,List.map_cons,List.nodup_cons,List.nodup_cons] at nd
 have gp:g p.1 = none:=(S.has p (by simp)).2
 refine ⟨fun b o e => he b o (fun q => by rw [q,gp] at e; cases e) (S.keep b o e),S.low,fun q hq => ?_,?_,ltr S.size hz,S.gens,S.os⟩
 · have hne:q.1 ≠ p.1:=by
    rcases List.mem_cons.mp hq with rfl | hq
    · exact fun e => nd.1 (by rw [e]; exact List.mem_cons_self ..)
    · exact fun e => nd.2.1 (by rw [← e]; exact List.mem_map_of_mem hq)
   obtain ⟨⟨o,a,b⟩,c⟩:=S.has q (by
    rcases List.mem_cons.mp hq with rfl | hq
    · exact List.mem_cons_self ..
    · exact List.mem_cons_of_mem _ (List.mem_cons_of_mem _ hq))
   exact ⟨⟨o,he _ _ hne a,b⟩,c⟩
 · rw [List.map_cons,List.nodup_cons]
   exact ⟨fun q => nd.1 (List.mem_cons_of_mem _ q),nd.2.2⟩
theorem endS {F:Addr × OP} {l it:Addr} {i:Nat} {vs:List Value} {Q:Option Value → Shared → Prop} (hh:A.handled = none) (S:St H0 g (F :: (it,Itr l i) :: N) s) (hl:s.heap.IsList l vs.toArray) (hx:vs[i]? = none)
 (h:∀ h',St H0 g (F :: N) h' → Q none h'):wpAny (model prog w) A (pyNext (.ref it)) Q E s:=by
 obtain ⟨o,ho,h1,h2⟩:=S.get (.tail .head)
 exact wpAny_le (wpAny_pyNext_list_end hh ⟨o,ho,h1,h2⟩ hl (by simpa using hx) fun h' he hle => h _ (S.off2 he hle.2))
structure Ite (prog:Program) (w:World) (A:Around) (H0:Shared) (it:Addr) (P:Nat → OP) (n:Nat) (V:Nat → Value → Prop) (ok:Shared → Prop):Prop where
 next:∀ {g F N s i} {Q:Option Value → Shared → Prop} {E:Value → Shared → Prop},i < n → ok s → St H0 g (F :: (it,P i) :: N) s → (∀ v s',V i v → St H0 g (F :: (it,P (i + 1)) :: N) s' → Q (some v) s') → wpAny (model prog w) A (pyNext (.ref it)) Q E s
 stop:∀ {g F N s} {Q:Option Value → Shared → Prop} {E:Value → Shared → Prop},ok s → St H0 g (F :: (it,P n) :: N) s → (∀ s',St H0 g (F :: N) s' → Q none s') → wpAny (model prog w) A (pyNext (.ref it)) Q E s
 own:∀ {g F N s i target v} {Q:Unit → Shared → Prop} {E:Value → Shared → Prop},St H0 g (F :: (it,P i) :: N) s → Q () s → wpAny (model prog w) A (letOwnedTupleGo target (.ref it) v) Q E s
theorem letGo {it:Addr} {o:Obj} {nm:String} {target:Expr} {v:Value} {Q:Unit → Shared → Prop} (ho:s.heap.get? it = some o) (hc:o.cls = .type nm) (hn:["enumerate","zip","dict_itemiterator","dict_reverseitemiterator","odict_iterator","itertools.zip_longest","itertools.pairwise"].contains nm = false) (h:Q () s):wpAny (model prog w) A (letOwnedTupleGo target (.ref it) v) Q E s:=by
 have key:∀ r:Addr,wpAny (model prog w) A (do
  let o ← load it
  match o.cls,o.data with
  | .type n,.fields vs =>
   if ["enumerate","zip","dict_itemiterator","dict_reverseitemiterator","odict_iterator","itertools.zip_longest","itertools.pairwise"].contains n && vs[0]? == some (rawInt r) then
    rule "for.unpacks-the-owned-tuple"
    updateField it 0 .none
  | _,_ => pure ():Sem Unit) Q E s:=fun r => by
  refine wpAny_bind (wpAny_load ho ?_)
  rw [hc]
  cases o.data with
  | fields vs =>
   dsimp only
   rw [hn]
   exact wpAny_pure h
  | _ => exact wpAny_pure h
 cases target with
 | Tuple _ _ _ => cases v with
  | ref r => exact key r
  | _ => exact wpAny_pure h
 | List _ _ => cases v with
  | ref r => exact key r
  | _ => exact wpAny_pure h
 | _ => exact wpAny_pure h
theorem letGoS {F:Addr × OP} {l it:Addr} {i:Nat} {target:Expr} {v:Value} {Q:Unit → Shared → Prop} (S:St H0 g (F :: (it,Itr l i) :: N) s) (h:Q () s):wpAny (model prog w) A (letOwnedTupleGo target (.ref it) v) Q E s:=by
 obtain ⟨o,ho,h1,h2⟩:=S.get (.tail .head)
 exact letGo ho h1 (by decide) h
theorem iteL {l it:Addr} {vs:List Value} (hh:A.handled = none):Ite prog w A H0 it (Itr l) vs.length (fun i v => vs[i]? = some v) (fun s => s.heap.IsList l vs.toArray):=
 ⟨fun hi hl S h => nextS S hl (List.getElem?_eq_getElem hi) fun s' S' => h _ s' (List.getElem?_eq_getElem hi) S',fun hl S h => endS hh S hl (by simp) h,letGoS⟩
theorem forI {target:Expr} {it:Addr} {n:Nat} {V:Nat → Value → Prop} (I:Ite prog w A H0 it P n V ok) (K:Nat → (Addr → Option Obj) → (Str → Option Value) → Ldg → Prop)
 (hok:∀ i g' m' N' s,K i g' m' N' → St H0 g' ((L,Nsp m') :: (it,P i) :: N') s → ok s)
 (turn:∀ i v g' m' N' s Q' E',i < n → V i v → K i g' m' N' → St H0 g' ((L,Nsp m') :: (it,P (i + 1)) :: N') s → LoopQ (LoopI H0 L it (P (i + 1)) (K (i + 1))) R Q' → wpAny (model prog w) A (assign target env v) (fun _ s₂ => wpAny (model prog w) A (execs body env) Q' E' s₂) E' s)
 (done:∀ g' m' N' s,K n g' m' N' → St H0 g' ((L,Nsp m') :: N') s → R (.ok .next) s)
 (start:K 0 g m N) (S:St H0 g ((L,Nsp m) :: (it,P 0) :: N) s) :
 codeAny (model prog w) A (.forLoop target (.ref it) body [] env) R s:=by
 refine codeAny_forLoop_any (fun k s => ∃ i g' m' N',i ≤ n ∧ k = n + 1 - i ∧ K i g' m' N' ∧ St H0 g' ((L,Nsp m') :: (it,P i) :: N') s) ?_ (n + 1) ⟨0,g,m,N,Nat.zero_le _,rfl,start,S⟩
 rintro k s ⟨i,g',m',N',hi,rfl,hK,S'⟩
 rcases Nat.lt_or_ge i n with hv | hv
 · refine I.next hv (hok _ _ _ _ _ hK S') S' fun v s2 hV S2 => I.own S2 ?_
   have nx:∀ g m N s,LoopI H0 L it (P (i + 1)) (K (i + 1)) g m N s → ∃ k',k' < n + 1 - i ∧ ∃ i g' m' N',i ≤ n ∧ k' = n + 1 - i ∧ K i g' m' N' ∧ St H0 g' ((L,Nsp m') :: (it,P i) :: N') s:=
    fun g m N s h => ⟨n + 1 - (i + 1),by omega,i + 1,g,m,N,hv,rfl,h.1,h.2⟩
   exact turn i v g' m' N' _ _ _ hv hV hK S2 ⟨nx,nx,fun _ z => z,fun _ _ z => z⟩
 · cases Nat.le_antisymm hi hv
   exact I.stop (hok _ _ _ _ _ hK S') S' fun s2 S2 => wpAny_execs_nil (done _ _ _ _ hK S2)
end
variable {Lc:Addr} {cl:List (Str × Addr)}
section
variable {s:Shared} {g:Addr → Option Obj} {N:Ldg} {f:OP → Ldg}
theorem St.off1 {p:Addr × OP} (S:St H0 g (p :: N) s) (he:Heap.ExtBut p.1 s.heap h') (hz:s.heap.objs.size ≤ h'.objs.size):Stc H0 g N h' s.gens s.os:=by
 have nd:=S.nd
 rw [List.map_cons,List.nodup_cons] at nd
 have gp:g p.1 = none:=(S.has p (by simp)).2
 refine ⟨fun b o e => he b o (fun q => by rw [q,gp] at e; cases e) (S.keep b o e),S.low,fun q hq => ?_,nd.2,ltr S.size hz,S.gens,S.os⟩
 have hne:q.1 ≠ p.1:=fun e => nd.1 (by rw [← e]; exact List.mem_map_of_mem hq)
 obtain ⟨⟨o,a,b⟩,c⟩:=S.has q (List.mem_cons_of_mem _ hq)
 exact ⟨⟨o,he _ _ hne a,b⟩,c⟩
noncomputable def CmpFin (H0:Shared) (Lc:Addr) (v:Value) (Q:Value → Shared → Prop) (R:Result → Shared → Prop):Prop:=
 ∀ m g N s,St H0 g ((Lc,Nsp m) :: N) s → (∀ s',St H0 g N s' → Q v s') → R (.ok .next) s
theorem compFin {acc:Value}:CmpFin H0 Lc acc Q (compPost M A E none Q acc Lc):=
 fun m _ _ _ S' q => ⟨m,S'.ns .head,fun _ hs => q _ (S'.off1 hs.extBut (Nat.le_of_eq hs.1.symm))⟩
theorem St.blk (S:Stc H0 g ((L,fun ι => True) :: N) h' s.gens s.os) {h'':Heap} (hns:h''.Ns L m) (hsb:Heap.SameBut L h' h''):Stc H0 g ((L,Nsp m) :: N) h'' s.gens s.os:=by
 obtain ⟨o,es,ep,h1,h2⟩:=hns
 exact St.put (s:={ s with heap:=h' }) S .head hsb h1 ⟨es,ep,h2⟩
theorem compGoG {e:Expr} {post:Value → Addr → Result → Shared → Prop} {l:Addr} {vs:List Value} (S:St H0 g N s) (hl:s.heap.IsList l vs.toArray)
 (hc:∀ x ∈ scope.names,x.2 ≠ .cell) (hk:scope.kind = .function)
 (hst:∀ it acc env' R s',codeAny (model prog w) A (.compLoop e 0 it acc env') R s' → wpAny (model prog w) A (pyIter it) (fun it' s'' => codeAny (model prog w) A (.compLoop e 0 it' acc env') R s'') (notedBy (model prog w) A env' fun x s' => R (.error x) s') s' → codeAny (model prog w) A (.compStart e 0 it acc env') R s')
 {newAcc:Sem Value} {PA:OP} {oA:Obj} (hnew:∀ (Q:Value → Shared → Prop) (s:Shared),Q (.ref s.heap.objs.size) { s with heap:=s.heap.push oA } → wpAny (model prog w) A newAcc Q E s) (hfA:oA.isFreed = false) (hPA:PA oA)
 (h:∀ it acc Lc s',St H0 g ((Lc,Nsp fun ι => none) :: (it,Itr l 0) :: (acc,PA) :: N) s' → s'.heap.IsList l vs.toArray →
  codeAny (model prog w) A (.compLoop e 0 (.ref it) (.ref acc) (compEnvC scope cl Lc env)) (post (.ref acc) Lc) s') :
 wpAny (model prog w) A (pyIter (.ref l)) (fun it s₂ => wpAny (model prog w) A newAcc (fun acc s₃ => wpAny (model prog w) A (newFunctionEnv scope env.globals cl [] env.qual none .none (some env)) (fun cenv s₄ =>
  codeAny (model prog w) A (.compStart e 0 it acc { cenv with scope:=relabel scope env }) (post acc cenv.locals) s₄) E s₃) E s₂) E s:=by
 refine iterS0 S hl fun s1 it S1 hl1 => hnew _ _ ?_
 have S2:=S1.newIn (P:=PA) hfA hPA
 refine wpAny_newFunctionEnv hc (fun x hx => nomatch hx) (fun h' hns hsb => ?_) hk
 have S3:=St.blk (St.new (s:={ s1 with heap:=s1.heap.push oA }) S2 (P:=fun ι => True) (o:={ cls:=.type "dict",data:=.dict #[] }) rfl trivial) hns hsb
 have hl':h'.IsList l vs.toArray:=by
  obtain ⟨ol,hol,r⟩:=hl1
  have hlt:=Heap.lt_size hol
  refine ⟨ol,?_,r⟩
  rw [hsb.2 l (Nat.ne_of_lt (by show l < (s1.heap.push oA).objs.size; rw [push_size]; exact Nat.lt_succ_of_lt hlt))]
  exact Heap.get?_push_of_some _ (Heap.get?_push_of_some _ hol)
 have key:=h _ _ _ { s1 with heap:=h' } S3 hl'
 refine hst _ _ _ _ _ key ?_
 obtain ⟨o,ho,a,b⟩:=S3.has (it,Itr l 0) (by simp) |>.1
 exact wpAny_pyIter_listiter ⟨o,ho,a,b⟩ key
end
variable {acc:Addr} {elt iter:Expr}
section
variable {s:Shared} {g:Addr → Option Obj} {N:Ldg} {it:Addr} {n:Nat} {V:Nat → Value → Prop} {out0:List Value}
noncomputable abbrev CSt (H0:Shared) (Lc it acc:Addr) (p:OP) (g:Addr → Option Obj) (m:Str → Option Value) (out:List Value) (N:Ldg) (s:Shared):Prop:=St H0 g ((Lc,Nsp m) :: (it,p) :: (acc,Lst out) :: N) s
noncomputable def CNx (H0:Shared) (Lc it acc:Addr) (p:OP) (K:(Addr → Option Obj) → Ldg → List Value → Prop) (out:List Value) (Q:Shared → Prop):Prop:=∀ g m N s,K g N out → CSt H0 Lc it acc p g m out N s → Q s
noncomputable def CEl (H0:Shared) (Lc it acc:Addr) (p:OP) (K:(Addr → Option Obj) → Ldg → List Value → Prop) (out:List Value) (Q:Value → Shared → Prop):Prop:=∀ x g m N s,out.length ≤ 1000000 → K g N (out ++ [x]) → CSt H0 Lc it acc p g m out N s → Q x s
theorem compLoopI {C:Expr} {k:Nat} {pp:Pos} {target:Expr} {b:Sem Fin} (I:Ite prog w A H0 it P n V ok)
 (ht:compTurn C k (.ref it) (.ref acc) env = (standAt pp >>= fun ι => pyNext (.ref it) >>= fun r => match r with
  | none => pure (.done .next)
  | some v => letOwnedTupleGo target (.ref it) v >>= fun ι => assign target env v >>= fun ι => b))
 (K:Nat → (Addr → Option Obj) → Ldg → List Value → Prop)
 (hok:∀ i g' m' N' out s,K i g' N' out → CSt H0 Lc it acc (P i) g' m' out N' s → ok s)
 (turn:∀ i v g' m' N' out s Q' E',i < n → V i v → K i g' N' out → CSt H0 Lc it acc (P (i + 1)) g' m' out N' s → (∀ out',CNx H0 Lc it acc (P (i + 1)) (K (i + 1)) out' (Q' (.again (.compLoop C k (.ref it) (.ref acc) env)))) → wpAny (model prog w) A (assign target env v) (fun _ s₂ => wpAny (model prog w) A b Q' E' s₂) E' s)
 (done:∀ g' m' N' out s,K n g' N' out → St H0 g' ((Lc,Nsp m') :: (acc,Lst out) :: N') s → R (.ok .next) s)
 (start:K 0 g N out0) (S:CSt H0 Lc it acc (P 0) g m out0 N s)
 (hden:autoParam ((model prog w).den (.compLoop C k (.ref it) (.ref acc) env) = (compTurn C k (.ref it) (.ref acc) env).onRaise (fun x => do noteFrame x env; theTreesLotGoes x)) aQ) (hund:autoParam (A.under (.compLoop C k (.ref it) (.ref acc) env) = A) aQ) (hcl:autoParam ((Code.compLoop C k (.ref it) (.ref acc) env).quiet = true) aQ) :
 codeAny (model prog w) A (.compLoop C k (.ref it) (.ref acc) env) R s:=by
 let J:Nat → Shared → Prop:=fun j s => ∃ i g' m' N' out,i ≤ n ∧ j = n + 1 - i ∧ K i g' N' out ∧ CSt H0 Lc it acc (P i) g' m' out N' s
 refine codeAny_loop hcl J ?_ (n + 1) ⟨0,g,m,N,out0,Nat.zero_le _,rfl,start,S⟩
 rintro j s ⟨i,g',m',N',out,hi,rfl,hK,S'⟩
 rw [hden,hund]
 refine wpAny_noted ?_
 rw [ht]
 refine wpAny_bind (wpAny_standAt (wpAny_bind ?_))
 rcases Nat.lt_or_ge i n with hv | hv
 · refine I.next hv (hok _ _ _ _ _ _ hK S') S' fun v s2 hV S2 => wpAny_bind (I.own S2 (wpAny_bind ?_))
   exact turn i v g' m' N' out _ _ _ hv hV hK S2 fun out' g m N s a b => ⟨rfl,n + 1 - (i + 1),by omega,i + 1,g,m,N,out',hv,rfl,a,b⟩
 · cases Nat.le_antisymm hi hv
   exact I.stop (hok _ _ _ _ _ _ hK S') S' fun s2 S2 => wpAny_pure (done _ _ _ _ _ hK S2)
theorem elApp {p:OP} {K:(Addr → Option Obj) → Ldg → List Value → Prop} {out:List Value} {c:Code} {Q':Fin → Shared → Prop} {E':Value → Shared → Prop} (q:∀ out',CNx H0 Lc it acc p K out' (Q' (.again c)))
 {x:Value} {g:Addr → Option Obj} {m:Str → Option Value} {N:Ldg} {s:Shared} (hz:out.length ≤ 1000000) (hK:K g N (out ++ [x])) (S:CSt H0 Lc it acc p g m out N s):wpAny (model prog w) A (call (.builtin "list.append") [.ref acc,x] >>= fun ι => pure ()) (fun _ s' => wpAny (model prog w) A (again c) Q' E' s') E' s:=
 wpAny_bind (appS S (.tail (.tail .head)) (ltr hz (by decide)) fun s3 S3 => wpAny_pure (wpAny_pure (q _ _ _ _ _ hK S3)))
theorem compE {C:Expr} {k:Nat} {pp:Pos} {target:Expr} (I:Ite prog w A H0 it P n V ok)
 (ht:compTurn C k (.ref it) (.ref acc) env = (standAt pp >>= fun ι => pyNext (.ref it) >>= fun r => match r with
  | none => pure (.done .next)
  | some v => letOwnedTupleGo target (.ref it) v >>= fun ι => assign target env v >>= fun ι => (eval elt env >>= fun x => call (.builtin "list.append") [.ref acc,x] >>= fun ι => pure ()) >>= fun ι => again (.compLoop C k (.ref it) (.ref acc) env)))
 (K:Nat → (Addr → Option Obj) → Ldg → List Value → Prop)
 (hok:∀ i g' m' N' out s,K i g' N' out → CSt H0 Lc it acc (P i) g' m' out N' s → ok s)
 (turn:∀ i v g' m' N' out s Q' E',i < n → V i v → K i g' N' out → CSt H0 Lc it acc (P (i + 1)) g' m' out N' s → CEl H0 Lc it acc (P (i + 1)) (K (i + 1)) out Q' → wpAny (model prog w) A (assign target env v) (fun _ s₂ => wpAny (model prog w) A (eval elt env) Q' E' s₂) E' s)
 (done:∀ g' m' N' out s,K n g' N' out → St H0 g' ((Lc,Nsp m') :: (acc,Lst out) :: N') s → R (.ok .next) s)
 (start:K 0 g N out0) (S:CSt H0 Lc it acc (P 0) g m out0 N s)
 (hden:autoParam ((model prog w).den (.compLoop C k (.ref it) (.ref acc) env) = (compTurn C k (.ref it) (.ref acc) env).onRaise (fun x => do noteFrame x env; theTreesLotGoes x)) aQ) (hund:autoParam (A.under (.compLoop C k (.ref it) (.ref acc) env) = A) aQ) (hcl:autoParam ((Code.compLoop C k (.ref it) (.ref acc) env).quiet = true) aQ) :
 codeAny (model prog w) A (.compLoop C k (.ref it) (.ref acc) env) R s:=
 compLoopI I ht K hok (fun i v g' m' N' out s Q' E' hi hV hK S' q => wpAny_mono (turn i v g' m' N' out s _ E' hi hV hK S' fun x g m N s hz hK S => elApp q hz hK S)
  (fun _ _ z => wpAny_bind (wpAny_bind z)) fun _ _ z => z) done start S hden hund hcl
theorem compB {target c:Expr} (I:Ite prog w A H0 it P n V ok) (K:Nat → (Addr → Option Obj) → Ldg → List Value → Prop)
 (hok:∀ i g' m' N' out s,K i g' N' out → CSt H0 Lc it acc (P i) g' m' out N' s → ok s)
 (turn:∀ i v g' m' N' out s Q' E',i < n → V i v → K i g' N' out → CSt H0 Lc it acc (P (i + 1)) g' m' out N' s →
  (∀ s,(∀ Q'',CEl H0 Lc it acc (P (i + 1)) (K (i + 1)) out Q'' → wpAny (model prog w) A (eval elt env) Q'' E' s) → Q' true s) → CNx H0 Lc it acc (P (i + 1)) (K (i + 1)) out (Q' false) →
  wpAny (model prog w) A (assign target env v) (fun _ s₂ => wpAny (model prog w) A (PySem.isTrue c env (eval c env)) Q' E' s₂) E' s)
 (done:∀ g' m' N' out s,K n g' N' out → St H0 g' ((Lc,Nsp m') :: (acc,Lst out) :: N') s → R (.ok .next) s)
 (start:K 0 g N []) (S:CSt H0 Lc it acc (P 0) g m [] N s) :
 codeAny (model prog w) A (.compLoop (.ListComp elt [⟨target,iter,[c],0⟩] scope pos) 0 (.ref it) (.ref acc) env) R s:=by
 refine compLoopI (pp:=iter.pos) (target:=target) (b:=_) I (by unfold compTurn; dsimp only [List.getElem?_cons_zero]; rfl) K hok (fun i v g' m' N' out s Q' E' hi hV hK S' q => ?_) done start S
 refine wpAny_mono (turn i v g' m' N' out s (fun b s => wpAny (model prog w) A (if b = true then (eval elt env >>= fun x => call (.builtin "list.append") [.ref acc,x] >>= fun ι => pure ()) >>= fun ι => again (.compLoop (.ListComp elt [⟨target,iter,[c],0⟩] scope pos) 0 (.ref it) (.ref acc) env) else again (.compLoop (.ListComp elt [⟨target,iter,[c],0⟩] scope pos) 0 (.ref it) (.ref acc) env)) Q' E' s) E' hi hV hK S' (fun s z => ?_) (fun g m N s a b => ?_)) (fun _ s₂ z => ?_) fun _ _ x => x
 · rw [if_pos rfl]
   exact wpAny_bind (wpAny_bind (z _ fun x g m N s hz hK S => elApp q hz hK S))
 · rw [if_neg (by decide)]
   exact wpAny_pure (q _ _ _ _ _ a b)
 · refine wpAny_bind ?_
   rw [List.forIn_cons]
   refine wpAny_bind ?_
   rw [if_pos rfl]
   refine wpAny_bind (wpAny_mono z (fun b s₃ r => wpAny_pure (wpAny_pure ?_)) fun _ _ x => x)
   cases b with
   | false => exact r
   | true => exact r
end
theorem compTurn_nest0 (elt target iter target2 iter2:Expr) (scope:Scope) (pos:Pos) (it acc:Value) (env:Env) :
 compTurn (.ListComp elt [⟨target,iter,[],0⟩,⟨target2,iter2,[],0⟩] scope pos) 0 it acc env = (standAt iter.pos >>= fun ι => pyNext it >>= fun r => match r with
  | none => pure (.done .next)
  | some v => letOwnedTupleGo target it v >>= fun ι => assign target env v >>= fun ι => eval iter2 env >>= fun x => standAt iter2.pos >>= fun ι => foldedSetIterable iter2 env x >>= fun x =>
   holding [x] (pyIter x) >>= fun it2 => runOwn (.compStart (.ListComp elt [⟨target,iter,[],0⟩,⟨target2,iter2,[],0⟩] scope pos) 1 it2 acc env) env >>= fun ι =>
    again (.compLoop (.ListComp elt [⟨target,iter,[],0⟩,⟨target2,iter2,[],0⟩] scope pos) 0 it acc env)):=by
 rfl
theorem compTurn_nest1 (elt target iter target2 iter2:Expr) (scope:Scope) (pos:Pos) (it acc:Value) (env:Env) :
 compTurn (.ListComp elt [⟨target,iter,[],0⟩,⟨target2,iter2,[],0⟩] scope pos) 1 it acc env = (standAt iter2.pos >>= fun ι => pyNext it >>= fun r => match r with
  | none => pure (.done .next)
  | some v => letOwnedTupleGo target2 it v >>= fun ι => assign target2 env v >>= fun ι =>
   (eval elt env >>= fun x => call (.builtin "list.append") [acc,x] >>= fun ι => pure ()) >>= fun ι =>
    again (.compLoop (.ListComp elt [⟨target,iter,[],0⟩,⟨target2,iter2,[],0⟩] scope pos) 1 it acc env)):=by
 rfl
section
variable {s:Shared} {g:Addr → Option Obj} {N:Ldg} {it:Addr} {n:Nat} {V:Nat → Value → Prop}
theorem compStart1 {target target2 iter2:Expr} {it acc:Value}
 (h0:codeAny (model prog w) A (.compLoop (.ListComp elt [⟨target,iter,[],0⟩,⟨target2,iter2,[],0⟩] scope pos) 1 it acc env) R s)
 (h:wpAny (model prog w) A (pyIter it) (fun it' s' => codeAny (model prog w) A (.compLoop (.ListComp elt [⟨target,iter,[],0⟩,⟨target2,iter2,[],0⟩] scope pos) 1 it' acc env) R s')
  (notedBy (model prog w) A env fun x s' => R (.error x) s') s) :
 codeAny (model prog w) A (.compStart (.ListComp elt [⟨target,iter,[],0⟩,⟨target2,iter2,[],0⟩] scope pos) 1 it acc env) R s:=by
 refine codeAny_of_tree ?_
 show wpAny _ _ ((compStart (.ListComp elt [⟨target,iter,[],0⟩,⟨target2,iter2,[],0⟩] scope pos) 1 it acc env).onRaise (fun x => do noteFrame x env; standAt theWindowsPlace)) _ _ s
 refine wpAny_notedAt ?_
 unfold compStart
 show wpAny _ _ (ask >>= _) _ _ s
 refine wpAny_bind (wpAny_askSetting (wpAny_ite ?_))
 split
 · exact wpAny_pure (And.intro rfl h0)
 · exact wpAny_bind (wpAny_rule (wpAny_bind (wpAny_standAt (wpAny_bind (wpAny_mono h (fun it' s' h' => wpAny_pure (And.intro rfl h')) fun _ _ x => x)))))
theorem compC {target target2 iter2:Expr} (I:Ite prog w A H0 it P n V ok) (K:Nat → (Addr → Option Obj) → Ldg → List Value → Prop)
 (hf:∀ x,foldedSetIterable iter2 env x = pure x)
 (hok:∀ i g' m' N' out s,K i g' N' out → CSt H0 Lc it acc (P i) g' m' out N' s → ok s)
 (turn:∀ i v g' m' N' out s Q' E',i < n → V i v → K i g' N' out → CSt H0 Lc it acc (P (i + 1)) g' m' out N' s →
  (∀ l2 ws g2 m2 N2 s₃,s₃.heap.IsList l2 ws → CSt H0 Lc it acc (P (i + 1)) g2 m2 out N2 s₃ →
   (∀ it2 s₄ R',s₄.heap.IsList l2 ws → CSt H0 Lc it2 acc (Itr l2 0) g2 m2 out ((it,P (i + 1)) :: N2) s₄ →
    (∀ g3 m3 N3 out' s,K (i + 1) g3 N3 out' → St H0 g3 ((Lc,Nsp m3) :: (acc,Lst out') :: (it,P (i + 1)) :: N3) s → R' (.ok .next) s) →
    codeAny (model prog w) A (.compLoop (.ListComp elt [⟨target,iter,[],0⟩,⟨target2,iter2,[],0⟩] scope pos) 1 (.ref it2) (.ref acc) env) R' s₄) → Q' (.ref l2) s₃) →
  wpAny (model prog w) A (assign target env v) (fun _ s₂ => wpAny (model prog w) A (eval iter2 env) Q' E' s₂) E' s)
 (done:∀ g' m' N' out s,K n g' N' out → St H0 g' ((Lc,Nsp m') :: (acc,Lst out) :: N') s → R (.ok .next) s)
 (start:K 0 g N []) (S:CSt H0 Lc it acc (P 0) g m [] N s) :
 codeAny (model prog w) A (.compLoop (.ListComp elt [⟨target,iter,[],0⟩,⟨target2,iter2,[],0⟩] scope pos) 0 (.ref it) (.ref acc) env) R s:=by
 refine compLoopI I (compTurn_nest0 ..) K hok (fun i v g' m' N' out s Q' E' hi hV hK S' q => ?_) done start S
 refine wpAny_mono (turn i v g' m' N' out s _ E' hi hV hK S' fun l2 ws g2 m2 N2 s₃ hl2 S3 go => ?_) (fun _ s₂ z => wpAny_bind z) fun _ _ x => x
 refine wpAny_bind (wpAny_standAt (wpAny_bind (wpAny_of_eq (hf _) (wpAny_bind (wpAny_holding (iterS (vs:=ws.toList) S3 (by simpa using hl2) fun s4 it2 S4 hl4 => wpAny_bind (wpAny_runOwn ?_)))))))
 have S5:CSt H0 Lc it2 acc (Itr l2 0) g2 m2 out ((it,P (i + 1)) :: N2) s4:=S4.perm (.cons _ (.cons _ (.swap _ _ _)))
 have key:=fun R' z => go it2 s4 R' (by simpa using hl4) S5 z
 refine compStart1 (key _ fun g3 m3 N3 out' s a b => ?_) ?_
 · exact wpAny_pure (q _ _ _ _ _ a (b.perm (.cons _ (.swap _ _ _))))
 · obtain ⟨o,ho,a,b⟩:=S4.get (.tail .head)
   refine wpAny_pyIter_listiter ⟨o,ho,a,b⟩ (key _ fun g3 m3 N3 out' s a b => ?_)
   exact wpAny_pure (q _ _ _ _ _ a (b.perm (.cons _ (.swap _ _ _))))
end
section
open PySem
inductive Uri | no | xml | xs | u | v | w | html | rdf | wsdl | xsi | dc deriving DecidableEq
inductive Pfx | em | xml | xs | p | q | b | c | e | d | html | rdf | wsdl | xsi | dc | n (k:_root_.Fin 9) deriving DecidableEq
noncomputable def sT (s:String):T:=(Str.ofString s).cps.toList
theorem mk_sT (s:String):mk (sT s) = Str.ofString s:=mk_of _
noncomputable def uriS:Uri → T
 | .no => [] | .xml => sT "http://www.w3.org/XML/1998/namespace" | .xs => sT "http://www.w3.org/2001/XMLSchema" | .u => [117] | .v => [118] | .w => [119]
 | .html => sT "http://www.w3.org/1999/xhtml" | .rdf => sT "http://www.w3.org/1999/02/22-rdf-syntax-ns#" | .wsdl => sT "http://schemas.xmlsoap.org/wsdl/" | .xsi => sT "http://www.w3.org/2001/XMLSchema-instance" | .dc => sT "http://purl.org/dc/elements/1.1/"
noncomputable def pfxS:Pfx → T
 | .em => [] | .xml => [120,109,108] | .xs => [120,115] | .p => [112] | .q => [113] | .b => [98] | .c => [99] | .e => [101] | .d => [100]
 | .html => [104,116,109,108] | .rdf => [114,100,102] | .wsdl => [119,115,100,108] | .xsi => [120,115,105] | .dc => [100,99] | .n k => [110,48 + k.val]
noncomputable def uriA:List Uri:=[.no,.xml,.xs,.u,.v,.w,.html,.rdf,.wsdl,.xsi,.dc]
theorem uri_mem (a:Uri):a ∈ uriA:=by cases a <;> decide
theorem uriS_injA:∀ a ∈ uriA,∀ b ∈ uriA,uriS a = uriS b → a = b:=by decide +kernel
theorem uriS_inj {a b:Uri} (h:uriS a = uriS b):a = b:=uriS_injA a (uri_mem a) b (uri_mem b) h
noncomputable def pfxA:List Pfx:=[.em,.xml,.xs,.p,.q,.b,.c,.e,.d,.html,.rdf,.wsdl,.xsi,.dc,.n 0,.n 1,.n 2,.n 3,.n 4,.n 5,.n 6,.n 7,.n 8]
theorem pfx_mem (a:Pfx):a ∈ pfxA:=by
 cases a with
 | n k => revert k; decide
 | _ => decide
theorem pfxS_injA:∀ a ∈ pfxA,∀ b ∈ pfxA,pfxS a = pfxS b → a = b:=by decide +kernel
theorem pfxS_inj {a b:Pfx} (h:pfxS a = pfxS b):a = b:=pfxS_injA a (pfx_mem a) b (pfx_mem b) h
noncomputable abbrev Lvl:=List (Uri × Pfx)
noncomputable def locS:Bool → T | false => [97] | true => [98]
noncomputable abbrev Nm:=Uri × Bool
theorem uri_all {P:Uri → Prop} (h:∀ u ∈ uriA,P u) (u:Uri):P u:=h u (uri_mem u)
theorem pfx_all {P:Pfx → Prop} (h:∀ p ∈ pfxA,P p) (p:Pfx):P p:=h p (pfx_mem p)
theorem nm_all {P:Nm → Prop} (h:∀ u ∈ uriA,P (u,false) ∧ P (u,true)) (n:Nm):P n:=by
 obtain ⟨u,b⟩:=n
 have h:=h u (uri_mem u)
 cases b
 · exact h.1
 · exact h.2
theorem pb_all {P:Pfx → Bool → Prop} (h:∀ p ∈ pfxA,P p false ∧ P p true) (p:Pfx) (b:Bool):P p b:=by
 have h:=h p (pfx_mem p)
 cases b
 · exact h.1
 · exact h.2
noncomputable def nameS (n:Nm):T:=if n.1 = .no then locS n.2 else [123] ++ uriS n.1 ++ [125] ++ locS n.2
noncomputable def qS (p:Pfx) (l:Bool):T:=if p = .em then locS l else pfxS p ++ [58] ++ locS l
structure QS where
 p:Pfx
 decl:List Lvl
 pm:Lvl
noncomputable def push (decl:List Lvl) (e:Uri × Pfx):List Lvl:=match decl with
 | [] => []
 | t :: r => (t ++ [e]) :: r
noncomputable def nth (k:Nat):Pfx:=if h:k < 9 then .n ⟨k,h⟩ else .em
noncomputable def qn (rw:Bool) (decl nss:List Lvl) (pm:Lvl) (u:Uri):QS:=
 match decl.flatten.lookup u with
 | some p => ⟨p,decl,pm⟩
 | none =>
  if rw then
   match pm.lookup u with
   | some p => ⟨p,push decl (u,p),pm⟩
   | none => ⟨nth pm.length,push decl (u,nth pm.length),pm ++ [(u,nth pm.length)]⟩
  else if u = .no then ⟨.em,decl,pm⟩
  else match nss.flatten.lookup u with
   | some p => ⟨p,push decl (u,p),pm⟩
   | none => ⟨.em,decl,pm⟩
end
noncomputable abbrev PG:Program:=PySem.Challenge.rw_dn0278_11.row.prog
noncomputable def Dct (w:World) (kvs:List (Str × Value)):OP:=fun o => o.IsDictOf (strKind PG w) kvs
theorem nt_dct (w:World) (kvs:List (Str × Value)):NT (Dct w kvs):=by
 rintro o ⟨es,ep,_,h,_⟩ ⟨_,xs,n,e⟩; rw [h] at e; cases e
structure Ts where
 rs:Bool
 rd:Bool
 data:List Value
 decl:List (Addr × List Value)
 nss:List (Addr × List Value)
 pm:List (Str × Value)
 nps:Nat
 out:List Value
noncomputable abbrev lvP (l:Addr × List Value):Addr × OP:=(l.1,Lst l.2)
noncomputable abbrev rfs (ls:List (Addr × List Value)):List Value:=ls.reverse.map fun l => .ref l.1
noncomputable abbrev TP (w:World) (t:Tg) (σ:Ts):Ldg:=
 (t.dx,Is (tObj w.params t σ.rs σ.rd)) :: (t.da,Lst σ.data) :: (t.ds,Lst (rfs σ.decl)) :: (t.ns,Lst (rfs σ.nss)) :: (t.pm,Dct w σ.pm) :: (t.ps,Lst (List.replicate σ.nps (.bool false))) :: (t.out,Lst σ.out) :: (σ.decl.map lvP ++ σ.nss.map lvP)
section
variable {s:Shared} {g:Addr → Option Obj} {N:Ldg}
@[reducible] noncomputable def LcQ (prog:Program) (w:World) (A:Around) (H0:Shared) (env:Env) (C:Expr) (scope:Scope) (cl:List (Str × Addr)) (Q:Value → Shared → Prop):Value → Shared → Prop:=fun x s₁ =>
 ∃ l vs g N,x = .ref l ∧ s₁.heap.IsList l (List.toArray vs) ∧ St H0 g N s₁ ∧
  ∀ it acc Lc s' R',CSt H0 Lc it acc (Itr l 0) g (fun ι => none) [] N s' → s'.heap.IsList l vs.toArray → CmpFin H0 Lc (.ref acc) Q R' →
   codeAny (model prog w) A (.compLoop C 0 (.ref it) (.ref acc) (compEnvC scope cl Lc env)) R' s'
theorem lcS {target:Expr} {ifs:List Expr} {rest:List Comprehension}
 (hclos:closureFor scope env = pure cl) (hkind:scope.kind = .function) (hnames:∀ x ∈ scope.names,x.2 = .local → scope.names.lookup x.1 = some .local) (hc:∀ x ∈ scope.names,x.2 ≠ .cell)
 (h:wpAny (model prog w) A (eval iter env) (LcQ prog w A H0 env (.ListComp elt (⟨target,iter,ifs,0⟩ :: rest) scope pos) scope cl Q) E s)
 (hs:∀ x,foldedSetIterable iter env x = pure x:=by intro _; rfl) :
 wpAny (model prog w) A (eval (.ListComp elt (⟨target,iter,ifs,0⟩ :: rest) scope pos) env) Q E s:=by
 show wpAny _ _ (comprehension (.ListComp elt (⟨target,iter,ifs,0⟩ :: rest) scope pos) scope env iter.pos (newList []) false (eval iter env) none) Q E s
 refine wpAny_comprehension_free (g:=⟨target,iter,ifs,0⟩) (gs:=rest) rfl hs hclos hkind hnames (wpAny_mono h (fun x s₁ q => ?_) fun _ _ x => x)
 obtain ⟨l,vs,g,N,rfl,hl,S,go⟩:=q
 exact compGoG (post:=compPost (model prog w) A E none Q) (PA:=Lst []) (oA:={ cls:=.type "list",data:=.seq #[] }) S hl hc hkind (fun it acc env' R s' a b => codeAny_compStart_list a b) (fun Q s q => wpAny_newList q) rfl ⟨0,rfl⟩ fun it acc Lc s' S' hl' => go it acc Lc s' _ S' hl' compFin
theorem St.fz (S:St H0 g N s):St H0 (fun b => s.heap.get? b) [] s:=⟨fun _ _ e => e,S.kp,(fun p hp => nomatch hp),List.nodup_nil,S.size,S.gens,S.os⟩
theorem St.grow1 {s':Shared} {g':Addr → Option Obj} {r:Addr} {P:OP} {N':Ldg} (S:St H0 g N s) (S':St H0 g' ((r,P) :: N') s') (hk:gLe (fun b => s.heap.get? b) g') (hz:s.heap.objs.size ≤ s'.heap.objs.size):St H0 g ((r,P) :: N) s':=by
 have S2:=S.grow (fun b o e => S'.keep _ _ (hk _ _ e)) hz
 obtain ⟨o,ho,hP⟩:=S'.get .head
 have hr:s.heap.get? r = none:=by
  cases e:s.heap.get? r with
  | none => rfl
  | some o =>
   have:=S'.gnone .head
   rw [hk _ _ e] at this; cases this
 refine ⟨S2.keep,S2.low,fun p hp => ?_,?_,S2.size,S'.gens,S'.os⟩
 · rcases List.mem_cons.mp hp with rfl | hp
   · refine ⟨⟨o,ho,hP⟩,?_⟩
     cases e:g r with
     | none => rfl
     | some o => have:=S.keep _ _ e; rw [hr] at this; cases this
   · exact S2.has p hp
 · rw [List.map_cons,List.nodup_cons]
   refine ⟨fun q => ?_,S.nd⟩
   obtain ⟨p,hp,e⟩:=List.mem_map.mp q
   obtain ⟨⟨o',h1,_⟩,_⟩:=S.has p hp
   rw [e,hr] at h1; cases h1
theorem sliceRev {st:Addr} {vs:List Value} (S:St H0 g N s) (hl:s.heap.IsList st vs.toArray) (hz:vs.length ≤ 100000) {sl:Addr} (hs:s.heap.IsSliceOf sl .none .none (.int (-1) t))
 (h:∀ s' g' r,gLe g g' → g' r = some { cls:=.type "list",data:=.seq vs.reverse.toArray } → St H0 g' N s' → Q (.ref r) s'):wpAny (model prog w) A (getItem (.ref st) (.ref sl)) Q E s:=by
 refine wpAny_getItem_list_slice hl hs .none .none (.int _ _) (by decide) ?_ (by simpa using ltr hz (by decide))
 rw [krv_pick]
 exact S.newG (o:={ cls:=.type "list",data:=.seq vs.reverse.toArray }) rfl fun g2 le2 S3 ho => h _ g2 _ le2 ho S3
end
local macro_rules | `(tactic| walk_at "fn") => `(tactic| ((case k6 => k_is); (case k7 => k_is); (case k9 => first | exact BindsTo.of_eq rfl | exact fun ι ι => BindsTo.of_eq rfl | exact fun _ X => binds_K X rfl (by k_is) rfl rfl rfl | exact fun _ X => kp_binds X fun ι => by kernel_rfl); (try (case kB => exact locs rfl)); (try (case kN => kernel_rfl)); (try (case c5 => decide)); (case c2 => rfl); (case c3 => rfl); (case c4 => rfl)))
example {w:World} {h:Heap}:(hd.heap_1 w.params).In h → PG = PySem.Challenge.rw_dn0278_11.row.prog:=by k_fill; exact fun ι => rfl
theorem f_walk {u:Nat} {s:Shared} {g:Addr → Option Obj} {N:Ldg} {st:Addr} {ls:List (Addr × List Value)}
 (C:Cx w H0) (S:St H0 g N s) (hroom:d ≤ 900) (hst:s.heap.IsList st (rfs ls).toArray) (hlv:∀ l ∈ ls,s.heap.IsList l.1 l.2.toArray) (hz:(ls.map (·.2)).flatten.length ≤ 100000) (hz2:ls.length ≤ 100000)
 (h:∀ s' r,St H0 g ((r,Lst (ls.map (·.2)).flatten) :: N) s' → R (.ok (.ret (.ref r))) s') :
 codeAny (model PG w) (ar d u) (.call (.ref 166) ⟨[.ref st],[]⟩) R s:=by
 refine codeAny_le ?_
 refine' callS (binds:=[(Str.ofString "stack",.ref st)]) S.fz C ?k6 ?k7 (Nat.lt_of_le_of_lt hroom (by decide)) ?k9 ?kB ?_ ?c5 ?c2 ?c3 ?c4
 walk_at "fn"
 intro L s1 Q E hL S1 q
 have kp:∀ {g' N' s'},St H0 g' N' s' → gLe (fun b => s.heap.get? b) g' → ∀ {l vs},s.heap.IsList l vs → (s':Shared).heap.IsList l vs:=fun S' le => fun ⟨o,a,b⟩ => ⟨o,S'.keep _ _ (le _ _ a),b⟩
 refine execsS (wpAny_Return_some (lcS (H0:=H0) (cl:=[]) rfl rfl (by decide) (by decide) ?_))
 refine wpAny_Subscript_Slice_step (T:="list") slot_list_getitem.lookup (ldS S1 rfl ?_)
 refine wpAny_Slice (evalPart_none_step (evalPart_none_step (evalPart_some_step (UnaryOp_ (wpAny_Constant_int (neg_int ?_))))))
 have hst2:=(kp S1 (gLe.rfl' _) hst).push { cls:=.type "slice",data:=.fields #[.none,.none,.int (-1) (s1.toks + 1)] }
 refine ⟨hst2.typeIs,?_⟩
 refine sliceRev (vs:=rfs ls) (S1.pushed _) hst2 (by simpa using hz2) (.new _ _ _ _) fun s3 g2 lr le2 ho S3 => ?_
 have er:(rfs ls).reverse = ls.map fun l => Value.ref l.1:=by simp [rfs]
 rw [er] at ho
 refine ⟨lr,ls.map (fun l => .ref l.1),g2,_,rfl,⟨_,S3.keep _ _ ho,rfl,0,rfl⟩,S3,fun it acc Lc s4 R4 S4 hl4 fin => ?_⟩
 let KI:Nat → (Addr → Option Obj) → Ldg → List Value → Prop:=fun i g' N' out => gLe g2 g' ∧ (∃ m,N' = [(L,Nsp m)]) ∧ out = ((ls.take i).map (·.2)).flatten
 refine compC (iteL (vs:=ls.map fun l => .ref l.1) rfl) KI (fun ι => rfl) ?_ ?_ ?_ ⟨gLe.rfl' _,⟨_,rfl⟩,by simp⟩ S4
 · rintro i g' m' N' out s' ⟨le,_,_⟩ S'
   exact ⟨_,S'.keep _ _ (le _ _ ho),rfl,0,rfl⟩
 · rintro i v g' m' N' out s' Q' E' hi hv ⟨le,⟨mm,rfl⟩,rfl⟩ S' go
   obtain ⟨l,hlm,rfl⟩:∃ l,ls[i]? = some l ∧ v = .ref l.1:=by
    rw [List.getElem?_map] at hv
    obtain ⟨l,a,b⟩:=Option.map_eq_some_iff.mp hv
    exact ⟨l,a,b.symm⟩
   refine asnE S' fun s5 S5 => ldE S5 rfl (go l.1 l.2.toArray g' _ _ s5 (kp S5 (gLe.tr le2 le) (hlv l (List.mem_of_getElem? hlm))) S5 fun it2 s4 R' hl4 S6 fin2 => ?_)
   let KJ:Nat → (Addr → Option Obj) → Ldg → List Value → Prop:=fun j g' N' out => gLe g2 g' ∧ (∃ m,N' = [(it,Itr lr (i + 1)),(L,Nsp m)]) ∧ out = ((ls.take i).map (·.2)).flatten ++ l.2.take j
   refine compE (iteL (vs:=l.2) rfl) (compTurn_nest1 ..) KJ ?_ ?_ ?_ ⟨le,⟨mm,rfl⟩,by simp⟩ S6
   · rintro j g' m' N' out s' ⟨le,_,_⟩ S'
     exact kp S' (gLe.tr le2 le) (hlv l (List.mem_of_getElem? hlm))
   · rintro j v g' m' N' out s' Q' E' hj hv ⟨le,⟨mm,rfl⟩,rfl⟩ S' nx
     refine asnE S' fun s5 S5 => ldE S5 rfl (nx _ g' _ _ _ ?_ ⟨le,⟨mm,rfl⟩,?_⟩ S5)
     · have e:(ls.map (·.2)).flatten.length = (((ls.take i).map (·.2)).flatten ++ l.2).length + (((ls.drop (i + 1)).map (·.2)).flatten).length:=by
        have:ls = ls.take i ++ l :: ls.drop (i + 1):=by
         obtain ⟨hlt,hh⟩:=List.getElem?_eq_some_iff.mp hlm
         rw [← hh,← List.drop_eq_getElem_cons hlt,List.take_append_drop]
        conv => lhs; rw [this]
        simp only [List.map_append,List.map_cons,List.flatten_append,List.flatten_cons,lap,Nat.add_assoc]
       clear S' S5 nx fin2 S6 go fin S4 S3 S1
       simp only [lap,List.length_take] at e ⊢; lia
     · rw [List.append_assoc,List.take_add_one,hv]; rfl
   · rintro g' m' N' out s' ⟨le,⟨mm,rfl⟩,rfl⟩ S'
     refine fin2 g' m' _ _ s' ⟨le,⟨mm,rfl⟩,rfl⟩ ?_
     have e:((ls.take (i + 1)).map (·.2)).flatten = ((ls.take i).map (·.2)).flatten ++ l.2.take l.2.length:=by
      rw [List.take_add_one,hlm]; simp
     rw [e]; exact S'
 · rintro g' m' N' out s' ⟨le,⟨mm,rfl⟩,rfl⟩ S'
   refine fin m' g' _ s' S' fun s'' S'' => q.ret _ _ fun hle => ?_
   have et:((ls.take (ls.map fun l => Value.ref l.1).length).map (·.2)).flatten = (ls.map (·.2)).flatten:=by simp
   rw [et] at S''
   exact h s'' acc (S.grow1 S'' (gLe.tr le2 le) hle.2)
section
variable {g:Addr → Option Obj} {N:Ldg} {s:Shared}
noncomputable def allNews (H0 h:Heap) (L:Addr):List (Addr × Obj):=(List.range h.objs.size).filterMap fun a => if a = L ∨ (H0.get? a).isSome = true then none else (h.get? a).map fun o => (a,o)
theorem allNews_mem {H0:Heap} {a:Addr} {o:Obj}:(a,o) ∈ allNews H0 h L ↔ h.get? a = some o ∧ a ≠ L ∧ H0.get? a = none:=by
 unfold allNews
 rw [List.mem_filterMap]
 constructor
 · rintro ⟨b,hb,e⟩
   split at e
   · cases e
   · rename_i q
     obtain ⟨o',h1,h2⟩:=Option.map_eq_some_iff.mp e
     cases h2
     refine ⟨h1,fun z => q (.inl z),?_⟩
     cases hh:H0.get? a with
     | none => rfl
     | some x => exact absurd (.inr (by rw [hh]; rfl)) q
 · rintro ⟨h1,h2,h3⟩
   refine ⟨a,List.mem_range.mpr (Heap.lt_size h1),?_⟩
   rw [if_neg (by rintro (q | q); exact h2 q; rw [h3] at q; cases q),h1]; rfl
theorem St.viaNews (S:St H0 g ((L,Nsp m) :: N) s) (hL:H0.heap.objs.size ≤ L) (k:∀ news,Fr H0.heap L s.heap m → News H0.heap L s.heap news →
 (∀ h',s.heap.objs.size ≤ h'.objs.size → Fr H0.heap L h' m → News H0.heap L h' news → Stc H0 g ((L,Nsp m) :: N) h' s.gens s.os) →
 (∀ h' o (P:OP),s.heap.objs.size ≤ h'.objs.size → Fr H0.heap L h' m → News H0.heap L h' ((s.heap.objs.size,o) :: news) → P o → Stc H0 g ((L,Nsp m) :: (s.heap.objs.size,P) :: N) h' s.gens s.os) → C):C:=by
 have key:∀ h',s.heap.objs.size ≤ h'.objs.size → Fr H0.heap L h' m → News H0.heap L h' (allNews H0.heap s.heap L) → Stc H0 g ((L,Nsp m) :: N) h' s.gens s.os:=by
  intro h' hz F N'
  have nd:=S.nd
  rw [List.map_cons,List.nodup_cons] at nd
  have kp:∀ b o,b ≠ L → s.heap.get? b = some o → h'.get? b = some o:=fun b o hb e => by
   cases hh:H0.heap.get? b with
   | none => exact (N' (b,o) (allNews_mem.mpr ⟨e,hb,hh⟩)).1
   | some x =>
    have:=S.kp _ _ hh
    rw [e] at this; cases this
    exact F.keep _ _ hh
  have gL:g L = none:=(S.has (L,Nsp m) (by simp)).2
  refine ⟨fun b o e => kp b o (fun q => by rw [q,gL] at e; cases e) (S.keep b o e),S.low,fun p hp => ?_,S.nd,ltr S.size hz,S.gens,S.os⟩
  rcases List.mem_cons.mp hp with rfl | hp
  · obtain ⟨o,es,ep,h1,h2,h3,h4⟩:=F.ns
    exact ⟨⟨o,h1,es,ep,h2,h3,h4⟩,gL⟩
  · obtain ⟨⟨o,a,b⟩,c⟩:=S.has p (List.mem_cons_of_mem _ hp)
    exact ⟨⟨o,kp _ _ (fun q => nd.1 (List.mem_map.mpr ⟨p,hp,q⟩)) a,b⟩,c⟩
 refine k (allNews H0.heap s.heap L) (S.fr .head hL) (fun p hp => by obtain ⟨a,o⟩:=p; exact allNews_mem.mp hp) key fun h' o P hz F N' hP => ?_
 have S':=key h' hz F fun p hp => N' p (List.mem_cons_of_mem _ hp)
 have ho:=(N' (s.heap.objs.size,o) (List.mem_cons_self ..)).1
 have S2:Stc H0 g ((s.heap.objs.size,P) :: (L,Nsp m) :: N) h' s.gens s.os:=by
  refine ⟨S'.keep,S'.low,fun p hp => ?_,?_,S'.size,S'.gens,S'.os⟩
  · rcases List.mem_cons.mp hp with rfl | hp
    · refine ⟨⟨o,ho,hP⟩,?_⟩
      cases e:g s.heap.objs.size with
      | none => rfl
      | some x => exact absurd (Heap.lt_size (S.keep _ _ e)) (Nat.lt_irrefl _)
    · exact S'.has p hp
  · rw [List.map_cons,List.nodup_cons]
    refine ⟨fun q => ?_,S'.nd⟩
    obtain ⟨p,hp,e⟩:=List.mem_map.mp q
    obtain ⟨⟨o',h1,_⟩,_⟩:=S.has p hp
    have:=Heap.lt_size h1
    rw [e] at this; exact Nat.lt_irrefl _ this
 exact St.swap (s:={ s with heap:=h' }) S2
end
theorem clip1 (a n:Nat):max (0:Int) (min (a:Int) (n:Int)) = ((min a n:Nat):Int):=by lia
theorem nneg (a:Nat):¬ ((a:Int) < 0):=Int.not_lt.mpr (Int.natCast_nonneg a)
theorem clip2 (a n:Nat):min (min a n) n = min a n:=by rw [Nat.min_assoc,Nat.min_self]
open Builtin.Str in
theorem slice_nat (x:Str) (a b:Nat):Txt.slice x (some (a:Int)) (some (b:Int)) = mk ((x.cps.toList.drop a).take (b - a)):=by
 have hx:x.cps.toList.length = x.length:=by simp [Str.length]
 have clip:strSliceIndices (some (a:Int)) (some (b:Int)) 1 x.length = strSliceIndices (some ((min a x.length:Nat):Int)) (some ((min b x.length:Nat):Int)) 1 x.length:=by
  simp only [strSliceIndices,nneg,if_false,clip1,clip2,show ((1:Int) > 0) = True from by simp,if_true]
 have key:(strSliceIndices (some (a:Int)) (some (b:Int)) 1 x.length).filterMap (x.cps[·]?) = (x.cps.toList.drop a).take (b - a) ∧ (strSliceIndices (some (a:Int)) (some (b:Int)) 1 x.length).length = min b x.length - min a x.length:=by
  rw [clip]
  clear clip
  rcases Nat.le_total (min a x.length) (min b x.length) with hle | hle
  · refine ⟨?_,by rw [StrLaws.strSliceIndices_plain hle (Nat.min_le_right _ _)]; simp⟩
    rw [StrLaws.sliced_plain x hle (Nat.min_le_right _ _)]
    rcases Nat.le_total a x.length with ha | ha
    · rw [Nat.min_eq_left ha]
      rcases Nat.le_total b x.length with hb | hb
      · rw [Nat.min_eq_left hb]
      · rw [Nat.min_eq_right hb,List.take_of_length_le (by rw [List.length_drop,hx]; exact Nat.le_refl _),List.take_of_length_le (by rw [List.length_drop,hx]; exact Nat.sub_le_sub_right hb _)]
    · rw [Nat.min_eq_right ha,List.drop_of_length_le (by rw [hx]; exact Nat.le_refl _),List.drop_of_length_le (by rw [hx]; exact ha)]; simp
  · have e0:strSliceIndices (some ((min a x.length:Nat):Int)) (some ((min b x.length:Nat):Int)) 1 x.length = []:=by
     have h5:¬ (((min a x.length:Nat):Int) < ((min b x.length:Nat):Int)):=Int.not_lt.mpr (Int.ofNat_le.mpr hle)
     simp only [strSliceIndices,sliceRange,nneg,if_false,clip1,clip2,show ((1:Int) > 0) = True from by simp,if_true,h5]; simp
    rw [e0]
    refine ⟨?_,by simp [Nat.sub_eq_zero_of_le hle]⟩
    by_cases hb:b ≤ a
    · rw [Nat.sub_eq_zero_of_le hb]; simp
    · rw [List.drop_of_length_le (by lia)]; simp
 unfold Txt.slice
 split
 · rename_i h
   simp only [beq_self_eq_true,Bool.true_and,beq_iff_eq] at h
   rw [key.2] at h
   apply mk_ext
   have e:min b x.length - min a x.length = x.length:=h
   by_cases hz:x.length = 0
   · have:x.cps.toList = []:=List.length_eq_zero_iff.mp (by lia)
     rw [this]; simp
   · have ha:a = 0:=by lia
     rw [ha,List.drop_zero,List.take_of_length_le (by lia)]
 · rw [key.1]; rfl
open Builtin.Str in
theorem slice_to (x:Str) (b:Nat):Txt.slice x none (some (b:Int)) = mk (x.cps.toList.take b):=by
 have e:Txt.slice x none (some (b:Int)) = Txt.slice x (some ((0:Nat):Int)) (some (b:Int)):=by
  unfold Txt.slice; rw [StrLaws.sliceIdx_none_lo]; rfl
 rw [e,slice_nat]; simp
open Builtin.Str in
theorem slice_from (x:Str) (a:Nat):Txt.slice x (some (a:Int)) none = mk (x.cps.toList.drop a):=by
 have e:Txt.slice x (some (a:Int)) none = Txt.slice x (some (a:Int)) (some (x.length:Int)):=by
  unfold Txt.slice; rw [StrLaws.sliceIdx_none_hi]
 rw [e,slice_nat,List.take_of_length_le (by simp [Str.length])]
theorem made_slice {x:Str} {l u:Option (Int × Tok)} {s:Shared} (hz:x.length ≤ sizeLine) (h:∀ t' tk,Q (.str (Txt.slice x (l.map (·.1)) (u.map (·.1))) t') { s with toks:=tk }):Made.post (sliceMade x t l u none) Q s:=by
 unfold sliceMade slicePicked
 unfold Txt.slice at h
 simp only [Option.map_none,Option.getD_none]
 split
 · rename_i hc
   simp only [hc,if_true] at h
   exact h t s.toks
 · rename_i hc
   simp only [hc] at h
   refine ⟨?_,h s.toks (s.toks + 1)⟩
   have:=Txt.slice_le x (l.map (·.1)) (u.map (·.1))
   unfold Txt.slice at this
   simp only [hc] at this
   exact ltr this hz
section
variable {s:Shared}
end
variable {p1 p2:Pos}
section
variable {s:Shared} {g:Addr → Option Obj} {N:Ldg} {f:OP → Ldg}
theorem draw_list {it t:Addr} {items:Array Value} (hne:t ≠ it):∀ (n i:Nat) (s:Shared) (Q:List Value → Shared → Prop),s.heap.IsListIter it t i → s.heap.IsList t items → i + n ≤ items.size →
 (∀ h',h'.IsListIter it t (i + n) → Heap.SameBut it s.heap h' → Q ((items.toList.drop i).take n) { s with heap:=h' }) → wpAny (model prog w) A (draw (.ref it) n) Q E s
 | 0,i,s,Q,hit,_,_,hQ => by
  show wpAny _ _ (pure []) Q E s
  exact wpAny_pure (by simpa using hQ s.heap hit (Heap.SameBut.refl ..))
 | n + 1,i,s,Q,hit,ht,hle,hQ => by
  have hlt:i < items.size:=by lia
  show wpAny _ _ (pyNext (.ref it) >>= _) Q E s
  refine wpAny_bind (wpAny_pyNext_list_item hit ht (x:=items[i]) (by simp [hlt]) fun h₁ hit₁ hs₁ => ?_)
  refine wpAny_bind (wpAny_holding (draw_list hne n (i + 1) _ _ hit₁ (ht.extBut hs₁.extBut hne) (by lia) fun h₂ hit₂ hs₂ => wpAny_pure ?_))
  have hd:items.toList.drop i = items[i] :: items.toList.drop (i + 1):=by simp [List.drop_eq_getElem_cons,hlt]
  have:=hQ h₂ (by rw [show i + (n + 1) = i + 1 + n by lia]; exact hit₂) (hs₁.trans hs₂)
  rw [hd,List.take_succ_cons] at this
  exact this
theorem unpack_list {t:Addr} {Q:List Value → Shared → Prop} (hh:A.handled = none) (ht:s.heap.IsList t items)
 (hQ:∀ h',Heap.ExtBut s.heap.objs.size s.heap h' → Q items.toList { s with heap:=h' }):wpAny (model prog w) A (unpackItems (.ref t) items.size none) Q E s:=by
 have hlt:t ≠ s.heap.objs.size:=by obtain ⟨o,ho,_⟩:=ht; exact Nat.ne_of_lt (Heap.lt_size ho)
 unfold unpackItems
 refine wpAny_bind ?_
 · unfold notIterableAtAll
   refine wpAny_bind (wpAny_specialOf ht.typeIs slot_list_iter.lookup ?_)
   refine wpAny_pure ?_
   simp only [Bool.false_eq_true,if_false]
   refine wpAny_bind (wpAny_holding (wpAny_pyIter_list ht ?_))
   refine wpAny_bind (wpAny_holding (draw_list hlt items.size 0 _ _ ⟨_,Heap.get?_push_size _ rfl,rfl,rfl⟩ (ht.push _) (by lia) fun h₁ hit₁ hs₁ => ?_))
   have hall:List.take items.size (List.drop 0 items.toList) = items.toList:=by
    rw [List.drop_zero]; exact List.take_of_length_le (by simp)
   rw [hall]
   rw [if_neg (by simp)]
   have ht₁:h₁.IsList t items:=(ht.push _).extBut hs₁.extBut hlt
   refine wpAny_bind (wpAny_holding (wpAny_pyNext_list_end hh hit₁ ht₁ (by simp) fun h₂ he₂ => ?_))
   simp only [Option.isSome_none,Bool.false_eq_true,if_false]
   refine wpAny_pure (hQ h₂ fun b o hb e => he₂ b o hb (hs₁.extBut b o hb (Heap.get?_push_of_some _ e)))
theorem St.extNew (S:St H0 g N s) (he:Heap.ExtBut s.heap.objs.size s.heap h') (hz:s.heap.objs.size ≤ h'.objs.size):Stc H0 g N h' s.gens s.os:=
 S.grow (fun b o e => he b o (Nat.ne_of_lt (Heap.lt_size e)) e) hz
theorem asnTup {elts:List Expr} {k:Nat} {t:Addr} {items:List Value} {Q:Unit → Shared → Prop} (hh:A.handled = none) (S:St H0 g N s) (ht:s.heap.IsTuple t items.toArray ∨ s.heap.IsList t items.toArray)
 (hn:(assignEach elts env).length = items.length) (hstar:(assignEach elts env).findIdx? (·.1) = none)
 (h:∀ h',St H0 g N h' → wpAny (model prog w) A (assignInOrder ((assignEach elts env).map (·.2)) items) Q E h') :
 wpAny (model prog w) A (assign (.Tuple elts k pos) env (.ref t)) Q E s:=by
 rw [arm_assign_Tuple]
 refine wpAny_bind (wpAny_standAt ?_)
 unfold unpack
 rw [hn,hstar]
 have e:items.length = items.toArray.size:=by simp
 rw [e]
 refine wpAny_bind (wpAny_holding (wpAny_le ?_))
 rcases ht with ht | ht
 · exact wpAny_unpackItems_tuple hh ht fun h' he hle => h _ (S.extNew he hle.2)
 · exact unpack_list hh ht fun h' he hle => h _ (S.extNew he hle.2)
theorem tupAt {t:Addr} {vs:List Value} (S:St H0 g N s) (ht:g t = some (tupO vs)):s.heap.IsTuple t vs.toArray:=⟨_,S.keep _ _ ht,rfl,0,rfl⟩
theorem St.weak {g2:Addr → Option Obj} (S:St H0 g2 N s) (le:gLe g g2) (low:∀ b o,H0.heap.get? b = some o → g b = some o):St H0 g N s:=
 ⟨fun b o e => S.keep b o (le b o e),low,fun p hp => ⟨(S.has p hp).1,by
  cases e:g p.1 with
  | none => rfl
  | some o => have:=(S.has p hp).2; rw [le _ _ e] at this; cases this⟩,S.nd,S.size,S.gens,S.os⟩
theorem asnT2 {x y:Str} {k:Nat} {t:Addr} {u v:Value} {Q:Unit → Shared → Prop} (hh:A.handled = none) (S:St H0 g ((L,Nsp m) :: N) s) (ht:s.heap.IsTuple t [u,v].toArray ∨ s.heap.IsList t [u,v].toArray)
 (h:∀ h',St H0 g ((L,Nsp (up (up m x u) y v)) :: N) h' → Q () h')
 (hE:autoParam (env.locals = L) aQ) (hk:autoParam (env.scope.kind = .function) aQ) (hx:autoParam (env.kindOf x = some .local) aQ) (hy:autoParam (env.kindOf y = some .local) aQ) :
 wpAny (model prog w) A (assign (.Tuple [.Name x p1,.Name y p2] k pos) env (.ref t)) Q E s:=by
 refine asnTup hh S ht rfl rfl fun h' S' => ?_
 show wpAny _ _ (assignInOrder [assign (.Name x p1) env,assign (.Name y p2) env] [u,v]) _ _ _
 exact wpAny_assignInOrder_more (asnE S' (fun h2 S2 => wpAny_assignInOrder_more (asnE S2 (fun h3 S3 => assignInOrder_nil (h h3 S3)) hE hk hy)) hE hk hx)
noncomputable def Sets (w:World) (prog:Program) (P:Str → Bool) (n:Nat):OP:=fun o => o.SetObjOf (strKind prog w) P n
theorem callSet0 {F:Addr × OP} (S:St H0 g (F :: N) s) (h:∀ h' a,St H0 g (F :: (a,Sets w prog (fun ι => false) 0) :: N) h' → Q (.ref a) h'):wpAny (model prog w) A (call (.type "set") []) Q E s:=by
 exact call_set_0 fun led => h _ _ (S.newIn rfl (setObjOf_fresh led))
theorem St.setOf {a:Addr} {P:Str → Bool} {n:Nat} (S:St H0 g N s) (k:Pk a (Sets w prog P n) N f) (hn:n < scanBound):s.heap.SetOf (strKind prog w) a P n:=by
 obtain ⟨o,ho,h⟩:=S.get k
 exact Obj.SetObjOf.setOf h ho hn
theorem setAddS {a:Addr} {P:Str → Bool} {n:Nat} {x:Str} (S:St H0 g N s) (k:Pk a (Sets w prog P n) N f) (hn:n + 1 < scanBound)
 (h:∀ h',St H0 g (f (Sets w prog (fun k' => P k' || decide (k' = x)) (if P x = true then n else n + 1))) h' → Q .none h'):wpAny (model prog w) A (call (.builtin "set.add") [.ref a,.str x t]) Q E s:=by
 refine call_set_add (knd:=strKind prog w) (strKind_is prog w x t) rfl (S.setOf k (by lia)) hn fun h' hs hS => ?_
 obtain ⟨so,ho,r⟩:=hS.objOf
 exact h _ (S.put k hs ho r)
theorem gmSetAdd {a:Addr} {P:Str → Bool} {n:Nat} {pl:Sem Bool} {Q:Value × List Value → Shared → Prop} (S:St H0 g N s) (k:Pk a (Sets w prog P n) N f) (hn:n < scanBound) (h:Q (.builtin "set.add",[.ref a]) s) :
 wpAny (model prog w) A (getMethod (.ref a) "add" pl) Q E s:=getMethod_set_add (S.setOf k hn) h
theorem notInSetS {a:Addr} {P:Str → Bool} {n:Nat} {x:Str} (S:St H0 g N s) (k:Pk a (Sets w prog P n) N f) (hn:n < scanBound)
 (h:Q (.bool (!P x)) (tick s)):wpAny (model prog w) A (compareOp .NotIn (.str x t) (.ref a)) Q E s:=
 wpAny_notInSet_of (strKind_is prog w x t) rfl (S.setOf k hn) h
end
section
variable {s:Shared} {g:Addr → Option Obj} {N:Ldg} {f:OP → Ldg} {d:Addr} {kvs:List (Str × Value)} {x:Str}
theorem blE {v:Value} (S:St H0 g N s) (C:Cx w H0)
 (hx:nsIn (hd.heap_1 w.params) mainGlobals x = some none) (hv:bootBuiltins x = some v) (hn:x ≠ "__name__") (h:Q v s) (hg:autoParam (env.globals = mainGlobals) aQ) (hb:autoParam (env.builtins = builtinsNs) aQ) (hk:autoParam (env.scope.kind = .function) aQ) (hl:autoParam (env.kindOf x = some .globalImplicit) aQ) (hd:autoParam ((x == ("__debug__":Str)) = false) aD) :
 wpAny (model prog w) A (eval (.Name x pos) env) Q E s:=
 let ⟨_,_,_,_,T⟩:=C.T
 Name_function_global hk hl (loadGlobal_builtin (env:=env) (by rw [hg]; exact T.g.keeps S.kp) (mg_none_of C.X T.g hx) (by rw [hb]; exact T.b.keeps S.kp) ((T.builtins x hn).trans hv) h) hd
theorem St.dct (S:St H0 g N s) (k:Pk d (Dct w kvs) N f):s.heap.DictOf (strKind PG w) d kvs:=Heap.dictOf_iff.mpr (S.get k)
theorem inD (S:St H0 g N s) (k:Pk d (Dct w kvs) N f) (hd:(d == sysModules) = false) (h:Q (.bool (valueAt kvs x).isSome) (tick s)):wpAny (model PG w) A (compareOp .In (.str x t) (.ref d)) Q E s:=
 wpAny_in_of (strKind_is PG w x t) hd (S.dct k).mapOf h
theorem getD {v:Value} (S:St H0 g N s) (k:Pk d (Dct w kvs) N f) (hv:valueAt kvs x = some v) (h:Q v (tick s)):wpAny (model PG w) A (getItem (.ref d) (.str x t)) Q E s:=
 wpAny_getItem_of (strKind_is PG w x t) (S.dct k).mapOf hv h
theorem setD {v:Value} {Q:Unit → Shared → Prop} (S:St H0 g N s) (k:Pk d (Dct w kvs) N f) (hz:kvs.length ≤ 100000) (h:∀ h',St H0 g (f (Dct w (stored kvs x v))) h' → Q () h'):wpAny (model PG w) A (setItem (.ref d) (.str x t) v) Q E s:=by
 refine wpAny_setItem_pairs (strKind_is PG w x t) (S.dct k) (fun h' hm hs => ?_) ?_
 · obtain ⟨o,ho,r⟩:=Heap.dictOf_iff.mp hm
   exact h _ (S.put k hs ho r)
 · exact ltr hz (by decide)
theorem lenD (S:St H0 g N s) (k:Pk d (Dct w kvs) N f) (hd:(d == sysModules) = false) (hz:kvs.length ≤ 100000) (h:Q (.int kvs.length (s.toks + 1)) (tick (tick s))):wpAny (model PG w) A (call (.builtin "len") [.ref d]) Q E s:=
 call_len_dict hd (S.dct k) (by lia) h
end
noncomputable def PairAt (g:Addr → Option Obj) (v:Value) (p:Uri × Pfx):Prop:=∃ a t1 t2,v = .ref a ∧ g a = some (tupO [sv (uriS p.1) t1,sv (pfxS p.2) t2])
noncomputable def Prs (g:Addr → Option Obj):List Value → Lvl → Prop:=F2 (PairAt g)
noncomputable def PrsL (g:Addr → Option Obj):List (Addr × List Value) → List Lvl → Prop:=F2 fun d l => Prs g d.2 l
theorem PairAt.up {g g':Addr → Option Obj} (le:gLe g g') {v:Value} {p:Uri × Pfx} (h:PairAt g v p):PairAt g' v p:=let ⟨a,t1,t2,e,h⟩:=h; ⟨a,t1,t2,e,le _ _ h⟩
theorem Prs.up {g g':Addr → Option Obj} (le:gLe g g') {vs:List Value} {ps:Lvl} (h:Prs g vs ps):Prs g' vs ps:=F2.imp (fun ι ι => PairAt.up le) h
theorem PrsL.up {g g':Addr → Option Obj} (le:gLe g g') {vs:List (Addr × List Value)} {ps:List Lvl} (h:PrsL g vs ps):PrsL g' vs ps:=F2.imp (fun ι ι => Prs.up le) h
theorem Prs.len {g:Addr → Option Obj} {vs:List Value} {ps:Lvl} (h:Prs g vs ps):vs.length = ps.length:=F2.len h
theorem Prs.get {g:Addr → Option Obj} {vs:List Value} {ps:Lvl} (h:Prs g vs ps) {i:Nat} {v:Value} (e:vs[i]? = some v):∃ p,ps[i]? = some p ∧ PairAt g v p:=F2.get h e
theorem Prs.app {g:Addr → Option Obj} {vs ws:List Value} {ps qs:Lvl} (h:Prs g vs ps) (k:Prs g ws qs):Prs g (vs ++ ws) (ps ++ qs):=F2.app h k
theorem PrsL.flat {g:Addr → Option Obj} {ds:List (Addr × List Value)} {ls:List Lvl} (h:PrsL g ds ls):Prs g (ds.map (·.2)).flatten ls.flatten:=by
 induction ds generalizing ls with
 | nil => cases ls with
  | nil => trivial
  | cons _ _ => exact h.elim
 | cons d ds ih => cases ls with
  | nil => exact h.elim
  | cons l ls => exact Prs.app (g:=g) h.1 (ih h.2)
theorem PrsL.len {g:Addr → Option Obj} {vs:List (Addr × List Value)} {ps:List Lvl} (h:PrsL g vs ps):vs.length = ps.length:=F2.len h
noncomputable def PmR:List (Str × Value) → Lvl → Prop
 | [],[] => True
 | e :: es,p :: ps => e.1 = mk (uriS p.1) ∧ (∃ t,e.2 = sv (pfxS p.2) t) ∧ PmR es ps
 | _,_ => False
structure TR (g:Addr → Option Obj) (t:Tg) (σ:Ts) (dl nl:List Lvl) (pl:Lvl):Prop where
 I:TgIn g t
 D:PrsL g σ.decl dl
 NS:PrsL g σ.nss nl
 PM:PmR σ.pm pl
theorem mem_decl {t:Tg} {σ:Ts} {l:Addr × List Value} (h:l ∈ σ.decl):lvP l ∈ TP w t σ:=
 .tail _ (.tail _ (.tail _ (.tail _ (.tail _ (.tail _ (.tail _ (List.mem_append_left _ (List.mem_map_of_mem h))))))))
theorem mem_nss {t:Tg} {σ:Ts} {l:Addr × List Value} (h:l ∈ σ.nss):lvP l ∈ TP w t σ:=
 .tail _ (.tail _ (.tail _ (.tail _ (.tail _ (.tail _ (.tail _ (List.mem_append_right _ (List.mem_map_of_mem h))))))))
theorem St.lv {g:Addr → Option Obj} {N:Ldg} {s:Shared} {l:Addr × List Value} (S:St H0 g N s) (hm:lvP l ∈ N):s.heap.IsList l.1 l.2.toArray:=by
 obtain ⟨⟨o,ho,nn,e⟩,_⟩:=S.has (lvP l) hm
 exact ⟨o,ho,by rw [e],nn,by rw [e]⟩
theorem split_name (n:Nm) (h:n.1 ≠ .no):Txt.rsplitMax (mk ((nameS n).drop 1)) (Str.ofString "}") 1 = [mk (uriS n.1),mk (locS n.2)]:=nm_all (P:=fun n => n.1 ≠ .no → Txt.rsplitMax (mk ((nameS n).drop 1)) (Str.ofString "}") 1 = [mk (uriS n.1),mk (locS n.2)]) (by decide +kernel) n h
theorem head_name (n:Nm):((nameS n).take 1 == [123]) = decide (n.1 ≠ .no):=nm_all (P:=fun n => ((nameS n).take 1 == [123]) = decide (n.1 ≠ .no)) (by decide +kernel) n
theorem nameS_len (n:Nm):(nameS n).length ≤ 100:=nm_all (P:=fun n => (nameS n).length ≤ 100) (by decide +kernel) n
theorem pfxS_len (p:Pfx):(pfxS p).length ≤ 10:=pfx_all (P:=fun p => (pfxS p).length ≤ 10) (by decide +kernel) p
theorem locS_len (b:Bool):(locS b).length = 1:=by cases b <;> rfl
theorem uriS_len (x:Uri):(uriS x).length ≤ 60:=uri_all (P:=fun x => (uriS x).length ≤ 60) (by decide +kernel) x
theorem pfxS_nil {p:Pfx} (h:pfxS p = []):p = .em:=pfx_all (P:=fun p => pfxS p = [] → p = .em) (by decide +kernel) p h
theorem nth_text:∀ {k:Nat},k ≤ 8 → Str.empty ++ Str.ofString "n" ++ Str.ofString (toString ((k:Nat):Int)) = mk (pfxS (nth k))
 | 0,_ => by decide +kernel | 1,_ => by decide +kernel | 2,_ => by decide +kernel | 3,_ => by decide +kernel | 4,_ => by decide +kernel
 | 5,_ => by decide +kernel | 6,_ => by decide +kernel | 7,_ => by decide +kernel | 8,_ => by decide +kernel
 | k + 9,h => by lia
theorem nth_ne {k:Nat} (h:k ≤ 8):nth k ≠ .em:=by unfold nth; rw [dif_pos (by lia)]; intro e; cases e
variable {pl:Lvl} {slice value:Expr}
section
variable {s:Shared} {g:Addr → Option Obj} {N:Ldg}
theorem szl {n:Nat} (h:n ≤ 1000000):n ≤ sizeLine:=ltr h (by decide)
theorem lastR {l:Addr} {its:List Value} {x:Value} {f:OP → Ldg} (S:St H0 g N s) (k:Pk l (Lst its) N f) (hx:its.getLast? = some x) (h:Q x s):wpAny (model prog w) A (getItem (.ref l) (.int (-1) t)) Q E s:=by
 obtain ⟨ys,rfl⟩:=List.getLast?_eq_some_iff.mp hx
 exact lastS S k h
theorem rfs_top (a:Addr) (x y:List Value) (ls:List (Addr × List Value)):rfs ((a,x) :: ls) = rfs ((a,y) :: ls):=by simp [rfs]
theorem rfs_last (l:Addr × List Value) (ls:List (Addr × List Value)):(rfs (l :: ls)).getLast? = some (.ref l.1):=by simp [rfs]
theorem asnSub {o i:Expr} {v:Value} {Q:Unit → Shared → Prop}
 (h:wpAny (model prog w) A (eval o env) (fun ov s₁ => wpAny (model prog w) A (eval i env) (fun iv s₂ => wpAny (model prog w) A (setItem ov iv v) Q E s₂) E s₁) E s):wpAny (model prog w) A (assign (.Subscript o i pos) env v) Q E s:=by
 rw [arm_assign_Subscript]
 exact wpAny_bind (wpAny_holding (wpAny_mono h (fun _ _ q => wpAny_bind (wpAny_holding (wpAny_mono q (fun _ _ r => wpAny_bind (wpAny_standAt (wpAny_bind (wpAny_holding (wpAny_mono r (fun _ _ z => wpAny_release z) fun _ _ x => x))))) fun _ _ x => x))) fun _ _ x => x))
theorem dctTail {d:Addr} {kvs:List (Str × Value)} {x:Str} {v:Value} {f:OP → Ldg} (S:St H0 g N s) (k:Pk d (Dct w kvs) N f) (hv:valueAt kvs x = some v) (h:Q v (tick s))
 (hs:autoParam (subscripted slice false (.ref d) (.str x t) = operate [.ref d,.str x t] (getItem (.ref d) (.str x t))) aQ):wpAny (model PG w) A (subscriptTail value slice (.ref d) (.str x t)) Q E s:=
 tail_any (S.dct k).typeIs slot_dict_getitem.lookup (getD S k hv h) hs
theorem lastTail {l:Addr} {its:List Value} {x:Value} {f:OP → Ldg} (S:St H0 g N s) (k:Pk l (Lst its) N f) (hx:its.getLast? = some x) (h:Q x s)
 (hs:autoParam (subscripted slice false (.ref l) (.int (-1) t) = operate [.ref l,.int (-1) t] (getItem (.ref l) (.int (-1) t))) aQ):wpAny (model prog w) A (subscriptTail value slice (.ref l) (.int (-1) t)) Q E s:=
 tail_any (S.list k).typeIs slot_list_getitem.lookup (lastR S k hx h) hs
theorem PmR.at {kvs:List (Str × Value)} (h:PmR kvs pl) (x:Uri):match pl.lookup x with | some p => ∃ t,valueAt kvs (mk (uriS x)) = some (sv (pfxS p) t) | none => valueAt kvs (mk (uriS x)) = none:=by
 induction pl generalizing kvs with
 | nil =>
  cases kvs with
  | nil => rfl
  | cons _ _ => exact h.elim
 | cons q pl ih =>
  cases kvs with
  | nil => exact h.elim
  | cons e kvs =>
   obtain ⟨e1,⟨tt,e2⟩,hr⟩:=h
   rw [List.lookup_cons]
   by_cases hx:x = q.1
   · have:(x == q.1) = true:=by simpa using hx
     rw [this]
     refine ⟨tt,?_⟩
     unfold valueAt
     rw [List.find?_cons,e1,hx]
     simp [e2]
   · have:(x == q.1) = false:=by simpa using hx
     rw [this]
     have ne:¬ (e.1 = mk (uriS x)):=fun z => hx (uriS_inj (mk_inj (e1.symm.trans z))).symm
     have:valueAt (e :: kvs) (mk (uriS x)) = valueAt kvs (mk (uriS x)):=by
      unfold valueAt; rw [List.find?_cons]; simp [ne]
     rw [this]; exact ih hr
theorem PmR.len {kvs:List (Str × Value)} (h:PmR kvs pl):kvs.length = pl.length:=by
 induction pl generalizing kvs with
 | nil =>
  cases kvs with
  | nil => rfl
  | cons _ _ => exact h.elim
 | cons q pl ih =>
  cases kvs with
  | nil => exact h.elim
  | cons e kvs => rw [List.length_cons,List.length_cons,ih h.2.2]
theorem PmR.snoc {kvs:List (Str × Value)} (h:PmR kvs pl) {x:Uri} {p:Pfx}:PmR (kvs ++ [(mk (uriS x),sv (pfxS p) t)]) (pl ++ [(x,p)]):=by
 induction pl generalizing kvs with
 | nil =>
  cases kvs with
  | nil => exact ⟨rfl,⟨t,rfl⟩,trivial⟩
  | cons _ _ => exact h.elim
 | cons q pl ih =>
  cases kvs with
  | nil => exact h.elim
  | cons e kvs => exact ⟨h.1,h.2.1,ih h.2.2⟩
theorem PmR.put {kvs:List (Str × Value)} (h:PmR kvs pl) {x:Uri} (hn:pl.lookup x = none) (v:Value):stored kvs (mk (uriS x)) v = kvs ++ [(mk (uriS x),v)]:=by
 unfold stored
 rw [if_neg]
 intro ha
 obtain ⟨e,he,hk⟩:=List.any_eq_true.mp ha
 have hk:e.1 = mk (uriS x):=by simpa using hk
 have:=h.at x
 rw [hn] at this
 unfold valueAt at this
 have:=List.find?_eq_none.mp (Option.map_eq_none_iff.mp this) e he
 simp [hk] at this
end
noncomputable def dkE:Expr:=.Constant .none 0 ⟨0,0,0,0⟩
structure EV where
 a:Expr
 b:Expr:=dkE
 es:List Expr:=[]
 lo:Option Expr:=none
 hi:Option Expr:=none
 gs:List Comprehension:=[]
 sc:Scope:=⟨.module,[],false,false,[]⟩
 n:Nat:=0
 p:Pos:=⟨0,0,0,0⟩
noncomputable def evE (e:Expr):EV:=match e with
 | .Tuple es k p => { a:=e,es:=es,n:=k,p:=p }
 | .Name _ p => { a:=e,p:=p }
 | .Attribute v _ p => { a:=v,p:=p }
 | .ListComp x gs sc p => { a:=x,gs:=gs,sc:=sc,p:=p }
 | .DictComp _ _ _ sc _ => { a:=e,sc:=sc }
 | .Subscript v s p => { a:=v,b:=s,p:=p }
 | .Slice l u _ p => { a:=e,lo:=l,hi:=u,p:=p }
 | .JoinedStr es p => { a:=e,es:=es,p:=p }
 | .BoolOp _ es p => { a:=e,es:=es,p:=p }
 | .BinOp l _ r _ => { a:=l,b:=r }
 | .Call f es _ _ => { a:=f,es:=es }
 | .IfExp _ b _ _ => { a:=b }
 | .Compare l _ _ _ => { a:=l }
 | .Dict _ _ p => { a:=e,p:=p }
 | _ => { a:=e }
structure SV where
 b:List Stmt:=[]
 e:List Stmt:=[]
 x:Expr:=dkE
 tg:List Expr:=[]
 hs:List ExceptHandler:=[]
 p:Pos:=⟨0,0,0,0⟩
noncomputable def svS:Stmt → SV
 | .FunctionDef _ _ b _ _ _ _ _ _ _ => { b:=b }
 | .ClassDef _ _ _ b _ _ _ _ _ _ _ => { b:=b }
 | .For _ _ b _ _ => { b:=b }
 | .While t b _ p => { b:=b,x:=t,p:=p }
 | .If t b e p => { b:=b,e:=e,x:=t,p:=p }
 | .Assign ts v p => { tg:=ts,x:=v,p:=p }
 | .Expr v p => { x:=v,p:=p }
 | .AugAssign _ _ _ p => { p:=p }
 | .Delete ts p => { tg:=ts,p:=p }
 | .Try b hs _ _ p => { b:=b,hs:=hs,p:=p }
 | _ => {}
noncomputable def svO:Option Stmt → SV
 | some s => svS s
 | none => {}
noncomputable def fnB (i:Nat):List Stmt:=(svO PG.main.body[i]?).b
noncomputable def mthB (j:Nat):List Stmt:=(svO (svO PG.main.body[(6:Nat)]?).b[j]?).b
noncomputable def atB (b:List Stmt) (i:Nat):Stmt:=match b[i]? with
 | some x => x
 | none => .Pass ⟨0,0,0,0⟩
noncomputable def subB (s:Option Stmt):List Stmt:=(svO s).b
noncomputable def subE (s:Option Stmt):List Stmt:=(svO s).e
theorem lookup_first {x:Uri}:∀ {l:Lvl} {i:Nat},(∀ j,j < i → ∀ p:Uri × Pfx,l[j]? = some p → p.1 ≠ x) → ∀ p:Uri × Pfx,l[i]? = some p → p.1 = x → l.lookup x = some p.2
 | [],i,_,p,e,_ => by simp at e
 | a :: r,0,_,p,e,hp => by cases e; rw [List.lookup_cons,show (x == a.1) = true from by rw [hp]; simp]
 | a :: r,i + 1,hj,p,e,hp => by
  have hne:(x == a.1) = false:=by
   have:=hj 0 (Nat.succ_pos _) a rfl
   simpa using fun q:x = a.1 => this q.symm
  rw [List.lookup_cons,hne]
  exact lookup_first (i:=i) (fun j hj' p e => hj (j + 1) (by lia) p (by simpa using e)) p (by simpa using e) hp
theorem lookup_no {x:Uri}:∀ {l:Lvl},(∀ j,j < l.length → ∀ p:Uri × Pfx,l[j]? = some p → p.1 ≠ x) → l.lookup x = none
 | [],_ => rfl
 | a :: r,hj => by
  have hne:(x == a.1) = false:=by
   have:=hj 0 (by simp) a rfl
   simpa using fun q:x = a.1 => this q.symm
  rw [List.lookup_cons,hne]
  exact lookup_no fun j hj' p e => hj (j + 1) (by simpa using hj') p (by simpa using e)
theorem pfx_new {l:Lvl} {i:Nat} {p:Uri × Pfx} (hn:(l.map (·.2)).Nodup) (hp:l[i]? = some p):mk (pfxS p.2) ∉ (l.take i).map fun p => mk (pfxS p.2):=by
 intro hm
 obtain ⟨q,hq,e⟩:=List.mem_map.mp hm
 have e2:q.2 = p.2:=pfxS_inj (mk_inj e)
 have hi:i < l.length:=(List.getElem?_eq_some_iff.mp hp).1
 have hs:l = l.take i ++ p :: l.drop (i + 1):=by
  have:=(List.getElem?_eq_some_iff.mp hp).2
  rw [← this,← List.drop_eq_getElem_cons hi,List.take_append_drop]
 rw [hs,List.map_append,List.map_cons,List.nodup_append] at hn
 exact hn.2.2 q.2 (List.mem_map_of_mem hq) p.2 (List.mem_cons_self ..) e2
theorem lookup_mem {x:Uri} {p:Pfx}:∀ {l:Lvl},l.lookup x = some p → (x,p) ∈ l
 | [],h => by simp at h
 | a :: r,h => by
  rw [List.lookup_cons] at h
  by_cases hx:(x == a.1) = true
  · rw [hx] at h; cases h; have:=eq_of_beq hx; subst this; exact List.mem_cons_self ..
  · simp only [hx] at h; exact List.mem_cons_of_mem _ (lookup_mem h)
theorem up_eq (m:Str → Option Value) (x:Str) (v:Value):up m x v x = some v:=if_pos rfl
theorem up_ne {x y:Str} {v:Value} (h:y ≠ x):up m x v y = m y:=if_neg h
noncomputable def seenP (dl:Lvl):Str → Bool:=fun k => decide (k ∈ dl.map fun p => mk (pfxS p.2))
theorem seen_snoc {l:Lvl} {i:Nat} {p:Uri × Pfx} (hp:l[i]? = some p):(fun k' => seenP (l.take i) k' || decide (k' = mk (pfxS p.2))) = seenP (l.take (i + 1)):=by
 funext k'
 unfold seenP
 rw [List.take_add_one,hp,List.map_append,Bool.eq_iff_iff]
 simp only [Bool.or_eq_true,decide_eq_true_eq,List.mem_append,Option.toList_some,List.map_cons,List.map_nil,List.mem_singleton]
variable {dl nl:List Lvl} {n:Nm} {tok:Tok}
section
variable {rest:List Stmt} {u:Nat} {s:Shared} {g:Addr → Option Obj} {N:Ldg} {ps:Addr} {Q:Flow → Shared → Prop} {t:Tg} {σ:Ts}
end
section
variable {s:Shared} {g:Addr → Option Obj} {N:Ldg}
theorem ifEsc (l:List (Nat × T)) (y:Nat) (z:T) {c r:Str} {x:T} {t:Tok} {pl:Sem Bool} {k1 k2 k3:Nat} {p1 p2 p3 p4 p5 p6 p7 p8 p9 p10 p11:Pos} {Q:Flow → Shared → Prop}
 (S:St H0 g ((L,Nsp m) :: N) s) (hv:m "text" = some (sv (escP l x) t)) (hx:x.length ≤ 2000)
 (h:∀ s' m' t',m' "text" = some (sv (escP (l ++ [(y,z)]) x) t') → St H0 g ((L,Nsp m') :: N) s' → Q .next s')
 (hE:autoParam (env.locals = L) aQ) (hk:autoParam (env.scope.kind = .function) aQ) (hl:autoParam (env.kindOf "text" = some .local) aQ)
 (he:autoParam (eval (.Call (.Attribute (.Name "text" p5) "replace" p6) [.Constant (.str c) k2 p7,.Constant (.str r) k3 p8] [] p9) env = (do
  let ov ← eval (.Name "text" p5) env
  standAt p6.atName
  let (f,first) ← holding [ov] (getMethod ov "replace" pl)
  callWith p9 f first (backTo p9 (starEach [.Constant (.str c) k2 p7,.Constant (.str r) k3 p8] env)) [])) aQ)
 (hsw:autoParam (swapsWith (.Call (.Attribute (.Name "text" p5) "replace" p6) [.Constant (.str c) k2 p7,.Constant (.str r) k3 p8] [] p9) (some (.Name "text" p4)) p10.line env = pure false) aQ)
 (hc:autoParam (c = mk [y]) aQ) (hr:autoParam (r = mk z) aQ) (hcr:autoParam ((c == r) = false) aQ) (hz:autoParam (z.length ≤ 14) aD) (h1:autoParam (∀ p ∈ l,y ∉ p.2) aD) (h2:autoParam (∀ p ∈ l,p.1 ≠ y) aD) (hq:autoParam (∀ p ∈ l,p.2.length ≤ 6) aD) :
 wpAny (model prog w) A (exec (.If (.Compare (.Constant (.str c) k1 p1) [.In] [.Name "text" p2] p3)
  [.Assign [.Name "text" p4] (.Call (.Attribute (.Name "text" p5) "replace" p6) [.Constant (.str c) k2 p7,.Constant (.str r) k3 p8] [] p9) p10] [] p11) env) Q E s:=by
 have hb:=escP_len l 6 hq (by decide) x
 rw [← rep_escP l y z h1 h2] at h
 generalize escP l x = x at *
 refine wpAny_If (wpAny_isTrue_Compare1 (Constant_str (ldE S hv (in_str (wpAny_truthy_bool ?_)) hE hk hl)) rfl)
 have hrep:Txt.replace (mk x) c r = mk (rep [y] z 0 x):=by rw [hc,hr,replace_mk x [y] z (Nat.succ_pos _)]
 cases ho:(Builtin.Str.occurrences (mk x) c 0 (mk x).length 1).isEmpty with
 | true =>
  rw [if_neg (by decide)]
  have e1:rep [y] z 0 x = x:=by
   have:=occ_one_none (by rw [hc,mk_len]; exact Nat.succ_pos _) ho
   rw [hc,mk_cps,mk_cps] at this
   exact rep_none this rfl
  rw [e1] at h
  exact wpAny_execs_nil (h _ m t hv S)
 | false =>
  rw [if_pos (by decide)]
  refine wpAny_execs_cons (wpAny_Assign_Name (MethodCall_ (pl:=pl) (ldE S hv ?_ hE hk hl) he) hsw)
  refine PySem.GM.replace (callWith_method1 ?_)
  refine spliced_cons (Constant_str (k:=k2) (pos:=p7) (spliced_cons (Constant_str (k:=k3) (pos:=p8) (spliced_nil ?_))))
  refine SC.replaceW (Nat.succ_ne_zero _) (Nat.succ_ne_zero _) (Nat.ne_of_lt (Nat.lt_succ_self _)) hcr (by rw [mk_len]; lia) (by rw [hr,mk_len]; exact hz) (fun t' k => ?_)
  rw [hrep]
  exact stE S (fun s' S' => wpAny_execs_nil (h s' _ t' (if_pos rfl) S')) hE hk hl
end
section
variable {u:Nat} {s:Shared} {g:Addr → Option Obj} {N:Ldg} {x:T}
theorem cdataS (C:Cx w H0) (S:St H0 g N s) (hroom:d ≤ 900) (hx:x.length ≤ 2000)
 (h:∀ s' t',St H0 g N s' → R (.ok (.ret (sv (escC x) t'))) s'):codeAny (model PG w) (ar d u) (.call (.ref 154) ⟨[sv x t],[]⟩) R s:=by
 refine' callS (binds:=[(Str.ofString "text",sv x t)]) S C ?k6 ?k7 (Nat.lt_of_le_of_lt hroom (by decide)) ?k9 ?kB ?_ ?c5 ?c2 ?c3 ?c4
 walk_at "fn"
 intro L s1 Q E hL S1 q
 have e0:escP [] x = x:=by simp [escP]
 refine execsS (wpAny_Try_except ?_)
 refine execsS (ifEsc [] 38 eAmp S1 (by rw [e0]; rfl) hx fun s2 m2 t2 h2 S2 => ?_)
 refine execsS (ifEsc _ 60 eLt S2 h2 hx fun s3 m3 t3 h3 S3 => ?_)
 refine execsS (ifEsc _ 62 eGt S3 h3 hx fun s4 m4 t4 h4 S4 => ?_)
 refine execsS (ifEsc _ 13 eCr S4 h4 hx fun s5 m5 t5 h5 S5 => ?_)
 exact execsS (wpAny_Return_some (ldE S5 h5 (q.ret _ _ (h _ t5 S5.drop))))
theorem attribS (C:Cx w H0) (S:St H0 g N s) (hroom:d ≤ 900) (hx:x.length ≤ 2000)
 (h:∀ s' t',St H0 g N s' → R (.ok (.ret (sv (escA x) t'))) s'):codeAny (model PG w) (ar d u) (.call (.ref 161) ⟨[sv x t],[]⟩) R s:=by
 refine' callS (binds:=[(Str.ofString "text",sv x t)]) S C ?k6 ?k7 (Nat.lt_of_le_of_lt hroom (by decide)) ?k9 ?kB ?_ ?c5 ?c2 ?c3 ?c4
 walk_at "fn"
 intro L s1 Q E hL S1 q
 have e0:escP [] x = x:=by simp [escP]
 refine execsS (wpAny_Try_except ?_)
 refine execsS (ifEsc [] 38 eAmp S1 (by rw [e0]; rfl) hx fun s2 m2 t2 h2 S2 => ?_)
 refine execsS (ifEsc _ 60 eLt S2 h2 hx fun s3 m3 t3 h3 S3 => ?_)
 refine execsS (ifEsc _ 34 eQuot S3 h3 hx fun s4 m4 t4 h4 S4 => ?_)
 refine execsS (ifEsc _ 9 eTab S4 h4 hx fun s5 m5 t5 h5 S5 => ?_)
 refine execsS (ifEsc _ 10 eNl S5 h5 hx fun s6 m6 t6 h6 S6 => ?_)
 refine execsS (ifEsc _ 13 eCr S6 h6 hx fun s7 m7 t7 h7 S7 => ?_)
 exact execsS (wpAny_Return_some (ldE S7 h7 (q.ret _ _ (h _ t7 S7.drop))))
end
variable {D:Addr}
section
variable {s:Shared} {g:Addr → Option Obj} {N:Ldg} {f:OP → Ldg}
theorem pick_none {n:Nat} (c:Nat → Bool) (hc:∀ k,k < n → c k = true):∀ (xs:List Value) (i:Nat),i + xs.length = n → (xs.zipIdx i).filterMap (fun p => if c p.2 = true then none else some p.1) = []
 | [],_,_ => rfl
 | x :: xs,i,h => by
  rw [List.zipIdx_cons,List.filterMap_cons]
  simp only [hc i (by rw [List.length_cons] at h; lia),if_true]
  exact pick_none c hc xs (i + 1) (by rw [List.length_cons] at h; lia)
theorem plain_upd {l:Addr} {n:Nat} {f:Array Value → Array Value} (x:h.get? l = some { cls:=.type "list",dict:=none,data:=.seq items n,slots:=#[] }) (e:f items = #[]):(h.update l (Obj.mapSeq f)).PlainList l #[]:=by
 have:=IsL.update x f
 unfold IsL at this
 rw [e] at this
 exact ⟨_,this⟩
theorem all_sel (n:Nat):∀ k:Nat,k < n → (decide ((0:Int) ≤ k) && decide ((k:Int) < n) && (((k:Int) - 0) % 1 == 0)) = true:=fun k h => by simp; lia
theorem delAll {l sl:Addr} {Q:Unit → Shared → Prop} (hl:s.heap.PlainList l items) (hs:s.heap.IsSliceOf sl .none .none .none) (hsz:items.size ≤ sizeLine)
 (h:∀ h',h'.PlainList l #[] → Heap.SameBut l s.heap h' → Q () { s with heap:=h' }):wpAny (model prog w) A (delItem (.ref l) (.ref sl)) Q E s:=by
 obtain ⟨n,ho⟩:=id hl
 have hL:s.heap.IsList l items:=⟨_,ho,rfl,n,rfl⟩
 obtain ⟨os,hos,hcs,hds⟩:=id hs
 have hTs:s.TypeIs (.ref sl) "slice":=⟨os,hos,hcs⟩
 refine wpAny_delItem_slot hL.typeIs (by decide) F.slot_list_delitem ?_
 refine wpAny_call_entry F.slot_list_delitem hL.typeIs F.entry_list_delitem ?_ (F.args_list_delitem_2 _ _)
 show wpAny _ _ (Builtin.List.listSubscript? (.ref sl) >>= _) _ _ s
 refine wpAny_bind ?_
 unfold Builtin.List.listSubscript?
 refine wpAny_bind (wpAny_specialOf hTs slice_no_index ?_)
 simp only [Option.isNone_none,if_true]
 refine wpAny_pure ?_
 show wpAny _ _ (typeOf (.ref sl) >>= _) _ _ s
 refine wpAny_bind (wpAny_typeOf hTs ?_)
 rw [if_neg (by decide)]
 rw [listSliceParts_eq]
 refine wpAny_bind (wpAny_bind (wpAny_field hos hds (x:=.none) rfl (wpAny_bind (wpAny_listPart .none ?_))))
 rw [if_neg (by decide)]
 refine wpAny_bind (wpAny_field hos hds (x:=.none) rfl (wpAny_bind (wpAny_listPart .none ?_)))
 refine wpAny_bind (wpAny_field hos hds (x:=.none) rfl (wpAny_bind (wpAny_listPart .none (wpAny_pure ?_))))
 refine wpAny_bind (m:=Builtin.List.listItems (.ref l)) ?_
 unfold Builtin.List.listItems
 refine wpAny_bind (wpAny_seqItems ho rfl (wpAny_pure ?_))
 refine wpAny_bind (wpAny_of_eq (sliceIndices_raw none none none items.size (by decide)) ?_)
 dsimp only [sliceBounds,Option.getD_none]
 unfold Builtin.List.listUpdate
 dsimp only
 refine wpAny_bind (wpAny_rule (wpAny_bind (wpAny_updateSeq ho rfl (wpAny_bind (wpAny_letGo (wpAny_pure ⟨_,rfl,h _ (plain_upd ho ?e) (Heap.SameBut.update ..)⟩))) hsz ?z)))
 case e => exact congrArg List.toArray (pick_none _ (all_sel _) items.toList 0 (by simp))
 case z => exact ltr (Nat.le_of_eq (congrArg Array.size (congrArg List.toArray (pick_none _ (all_sel _) items.toList 0 (by simp))))) (Nat.zero_le _)
theorem delS {l:Addr} {its:List Value} {Q:Unit → Shared → Prop} (S:St H0 g N s) (k:Pk l (Lst its) N f) (hz:its.length ≤ sizeLine) (h:∀ s',St H0 g (f (Lst [])) s' → Q () s') :
 wpAny (model prog w) A (delItem (.ref l) (.ref s.heap.objs.size)) Q E { s with heap:=s.heap.push { cls:=.type "slice",data:=.fields #[.none,.none,.none] } }:=by
 have S3:St H0 g N { s with heap:=s.heap.push { cls:=.type "slice",data:=.fields #[.none,.none,.none] } }:=S.pushed _
 exact delAll (S3.plist k) (.new _ _ _ _) (by simpa using hz) fun h' ⟨n,hp⟩ hs => h _ (S3.put k hs hp ⟨n,rfl⟩)
theorem sig_join:∃ sg,Manifest.signature? "str.join" = some sg ∧ ∀ x t v,Bind.checkArgs "str.join" { sg with full:=toString (Bind.lastOf "str") ++ toString "." ++ toString (Bind.lastOf "str.join") } ⟨[.str x t,v],[]⟩ = pure ():=by
 cases h:Manifest.signature? "str.join" with
 | none =>
  have:(Manifest.signature? "str.join").isSome = true:=by kernel_rfl
  rw [h] at this; cases this
 | some sg =>
  refine ⟨sg,rfl,fun x t v => ?_⟩
  have q:∀ x t v,((Manifest.signature? "str.join").map fun sg => Bind.checkArgs "str.join" { sg with full:=toString (Bind.lastOf "str") ++ toString "." ++ toString (Bind.lastOf "str.join") } ⟨[.str x t,v],[]⟩) = some (pure ()):=fun x t v => by kernel_rfl
  have:=q x t v
  rw [h] at this
  exact Option.some.inj this
theorem kind_join:builtinKind "str.join" = some .method:=by kernel_rfl
theorem checkJoin {x:Str} {v:Value} {Q:Unit → Shared → Prop} (h:Q () s):wpAny M A (checkBoundCall "str.join" ⟨[.str x t,v],[]⟩) Q E s:=by
 obtain ⟨sg,e1,e2⟩:=sig_join
 unfold checkBoundCall
 rw [e1]
 dsimp only
 rw [kind_join]
 dsimp only
 rw [if_neg (by decide)]
 refine wpAny_bind (wpAny_isInstance (b:=false) (typeIs_str _ _ _) (by first | rfl | kernel_rfl) ?_)
 have:(Manifest.varargsMethods.contains "str.join" || false) = false:=by decide +kernel
 rw [this]
 simp only [Bool.false_eq_true,if_false]
 refine wpAny_bind ?_
 unfold isType
 refine wpAny_pure ?_
 simp only [Bool.false_eq_true,if_false]
 refine wpAny_bind (wpAny_typeOf (typeIs_str _ _ _) ?_)
 dsimp only
 rw [e2]
 exact wpAny_pure h
theorem codeJoin {a:Addr} {x:Str} {l:List (Str × Tok)} (hl:s.heap.IsList D (strValues l).toArray) (hok:JoinOk x (l.map (·.1)) = true)
 (hw:s.heap.get? a = some { cls:=.type "builtin_function_or_method",data:=.fields #[.builtin "str.join",.str x t] })
 (hQ:∀ t' k,R (.ok (.ret (.str (Txt.join x (l.map (·.1))) t'))) { s with toks:=k }):codeAny (model prog w) A (.call (.ref a) ⟨[.ref D],[]⟩) R s:=by
 refine codeAny_of_tree ?_
 show wpAny _ _ (callAny (.ref a) _) _ _ _
 unfold callAny
 refine wpAny_bind (wpAny_load hw ?_)
 dsimp only
 rw [if_pos (by decide)]
 simp only [List.getElem?_toArray,List.getElem?_cons_zero,List.getElem?_cons_succ]
 rw [if_pos (by decide)]
 unfold JoinOk at hok
 rw [Bool.not_eq_true'] at hok
 refine wpAny_bind (checkJoin (wpAny_pure ⟨Code.quiet_builtin _ (by decide +kernel),codeAny_builtin F.entry_str_join ?_⟩))
 exact meets_str_join_list x t D l hok prog w _ _ s ⟨hl,post_join l ⟨joinFit_length hok,hQ⟩⟩
theorem keeps_J {a:Addr} {x:Str} (h:Heap) (hw:h.get? a = some { cls:=.type "builtin_function_or_method",data:=.fields #[.builtin "str.join",.str x t] }):∃ k,(k = Keeper.frame ∨ k = Keeper.machine ∨ k = Keeper.boundFrame) ∧ Looks M h (keeperOf (.ref a)) k:=
 ⟨.machine,.inr (.inl rfl),(Looks.ld (part:=none) hw).andThen .now⟩
theorem cwJ {first:List Value} {a:Addr} {x:Str} {e:Expr} {rest:List Expr}
 (h:wpAny M A (spliced (backTo pos (starEach (e :: rest) env))) (fun vs s₁ => s₁.heap.get? a = some { cls:=.type "builtin_function_or_method",data:=.fields #[.builtin "str.join",.str x t] } ∧ wpAny M A (call (.ref a) (first ++ vs)) Q E s₁) E s)
 (he:autoParam (starEach (e :: rest) env = (false,eval e env) :: starEach rest env) aQ) (hplain:autoParam ((backTo pos (starEach rest env)).any (·.1) = false) aQ) :
 wpAny M A (callWith pos (.ref a) first (backTo pos (starEach (e :: rest) env)) []) Q E s:=by
 rw [he] at h ⊢
 exact callWith_of (by show ((false || (backTo pos (starEach rest env)).any (·.1)) || false) = false; rw [hplain]; rfl) keeps_J (evalArgs_plain h)
end
noncomputable def Txs:List Value → List T → Prop:=F2 fun v x => ∃ t,v = sv x t
theorem Txs.app {vs ws:List Value} {ps qs:List T} (h:Txs vs ps) (k:Txs ws qs):Txs (vs ++ ws) (ps ++ qs):=F2.app h k
theorem Txs.one (x:T) (t:Tok):Txs [sv x t] [x]:=⟨⟨t,rfl⟩,trivial⟩
theorem Txs.len {vs:List Value} {ps:List T} (h:Txs vs ps):vs.length = ps.length:=F2.len h
theorem Txs.strs {vs:List Value} {ps:List T} (h:Txs vs ps):∃ l:List (Str × Tok),vs = strValues l ∧ l.map (·.1) = ps.map mk:=by
 induction vs generalizing ps with
 | nil => cases ps with
  | nil => exact ⟨[],rfl,rfl⟩
  | cons _ _ => exact h.elim
 | cons v vs ih => cases ps with
  | nil => exact h.elim
  | cons x ps =>
   obtain ⟨⟨t,e⟩,h⟩:=h
   obtain ⟨l,e1,e2⟩:=ih h
   exact ⟨(mk x,t) :: l,by rw [e,e1]; rfl,congrArg (mk x :: ·) e2⟩
theorem join_mk:∀ xs:List T,Txt.join (Str.ofString "") (xs.map mk) = mk xs.flatten:=by
 intro xs
 show Builtin.Str.glued _ _ = _
 rw [StrLaws.glued_eq_join]
 have e:Str.ofString "" = mk []:=by decide +kernel
 rw [e]
 match xs with
 | [] => show Str.empty = _; decide +kernel
 | [x] => show mk x = _; simp
 | x :: y :: r =>
  show mk x ++ mk [] ++ Str.join (mk []) (mk y :: r.map mk) = _
  have ih:=join_mk (y :: r)
  have ih:Str.join (mk []) (mk y :: r.map mk) = mk (y :: r).flatten:=by
   rw [← ih,← e]
   show _ = Builtin.Str.glued _ _
   rw [StrLaws.glued_eq_join]; rfl
  rw [ih,mk_app,mk_app]; simp
theorem joinOk {xs:List T} (h:xs.flatten.length ≤ 1000000):JoinOk (Str.ofString "") (xs.map mk) = true:=by
 refine joinOk_of ?_
 have e:(xs.map mk).map (·.length) = xs.map List.length:=by rw [List.map_map]; exact List.map_congr_left fun x _ => mk_len x
 rw [e,← List.length_flatten,show (Str.ofString "").length = 0 from by decide +kernel]
 lia
noncomputable def flushed (rs:Bool) (xs:List T):List T:=if rs && !xs.flatten.isEmpty then [escC xs.flatten] else []
structure Ab where
 dl:List Lvl
 nl:List Lvl
 pl:Lvl
 rs:Bool
 rd:Bool
 nps:Nat
 data:List T
 out:List T
structure TT (g:Addr → Option Obj) (t:Tg) (σ:Ts) (a:Ab):Prop where
 R:TR g t σ a.dl a.nl a.pl
 dat:Txs σ.data a.data
 out:Txs σ.out a.out
 rs:σ.rs = a.rs
 rd:σ.rd = a.rd
 nps:σ.nps = a.nps
theorem TgIn.up {g g':Addr → Option Obj} {t:Tg} (le:gLe g g') (I:TgIn g t):TgIn g' t:=⟨le _ _ I.1,le _ _ I.2.1,I.2.2⟩
theorem TR.up {g g':Addr → Option Obj} {t:Tg} {σ:Ts} (le:gLe g g') (h:TR g t σ dl nl pl):TR g' t σ dl nl pl:=⟨h.I.up le,h.D.up le,h.NS.up le,h.PM⟩
theorem TT.up {g g':Addr → Option Obj} {t:Tg} {σ:Ts} {a:Ab} (le:gLe g g') (h:TT g t σ a):TT g' t σ a:=⟨h.R.up le,h.dat,h.out,h.rs,h.rd,h.nps⟩
noncomputable def Ab.fl (a:Ab):Ab:={ a with data:=[],out:=a.out ++ flushed a.rs a.data }
theorem TT.fl {g:Addr → Option Obj} {t:Tg} {σ:Ts} {a:Ab} {os:List Value} (h:TT g t σ a) (ho:Txs os (flushed σ.rs a.data)):TT g t { σ with data:=[],out:=σ.out ++ os } a.fl:=
 ⟨⟨h.R.I,h.R.D,h.R.NS,h.R.PM⟩,trivial,h.out.app (h.rs ▸ ho),h.rs,h.rd,h.nps⟩
noncomputable def Ab.sns (a:Ab) (u:Uri) (p:Pfx):Ab:={ a.fl with nl:=push a.nl (u,p) }
variable {id:String}
section
variable {s:Shared} {g:Addr → Option Obj} {N:Ldg} {f:OP → Ldg}
theorem gmL {l:Addr} {its:List Value} {pl:Sem Bool} {Q:Value × List Value → Shared → Prop} (S:St H0 g N s) (k:Pk l (Lst its) N f) (slot:Slot "list" name id) (hty:typeOf (.builtin id) = pure (.type "method_descriptor"))
 (h:Q (.builtin id,[.ref l]) s):wpAny (model prog w) A (getMethod (.ref l) name pl) Q E s:=by
 obtain ⟨n,ho⟩:=S.plist k
 exact getMethod_builtin ⟨_,ho,rfl⟩ PySem.F.plainAttrs_list slot hty (fun a e => by cases e; exact ⟨_,ho,rfl⟩) h
theorem erase_last (p:List Value) (y:Value):(p ++ [y]).toArray.eraseIdxIfInBounds ((p ++ [y]).toArray.size - 1) = p.toArray:=by
 simp [Array.eraseIdxIfInBounds]
 rw [List.eraseIdx_append_of_length_le (Nat.le_refl _)]; simp
theorem popS {l:Addr} {p:List Value} {y:Value} (S:St H0 g N s) (k:Pk l (Lst (p ++ [y])) N f) (hz:p.length + 1 ≤ sizeLine) (h:∀ h',St H0 g (f (Lst p)) h' → Q y h') :
 wpAny (model prog w) A (call (.builtin "list.pop") [.ref l]) Q E s:=by
 obtain ⟨n,ho⟩:=S.plist k
 refine call_meets PySem.F.slot_list_pop ⟨_,ho,rfl⟩ PySem.F.entry_list_pop (PySem.F.args_list_pop_1 _) (PySem.MeetsSeq.list_pop_last l _ n y (by simp) (by simpa using hz)) ⟨ho,h _ (S.put k (Heap.SameBut.update ..) (IsL.update ho _) ⟨_,congrArg (fun z => ({ cls:=.type "list",data:=.seq z _ }:Obj)) (erase_last p y)⟩)⟩
theorem lenS {l:Addr} {its:List Value} (S:St H0 g N s) (k:Pk l (Lst its) N f) (hz:its.length < 2 ^ 62) (h:Q (.int its.length (s.toks + 1)) (tick (tick s))):wpAny (model prog w) A (call (.builtin "len") [.ref l]) Q E s:=
 call_len_list (S.list k) (by simp; lia) (by simpa using h)
theorem St.viaUpd {a:Addr} {P:OP} {o:Obj} (S:St H0 g ((L,Nsp m) :: N) s) (hL:H0.heap.objs.size ≤ L) (k:Pk a P N f) (ho:s.heap.get? a = some o) (z:∀ r,Fr H0.heap L s.heap m → News H0.heap L s.heap ((a,o) :: r) → (∀ p ∈ r,p.1 ≠ a) →
 (∀ o' h' (P':OP),Fr H0.heap L h' m → News H0.heap L h' ((a,o') :: r) → P' o' → Stc H0 g ((L,Nsp m) :: f P') h' s.gens s.os) → C):C:=by
 obtain ⟨pre,post,eN,hf⟩:=k.split
 have nd:=S.nd
 have ga:g a = none:=S.gnone (.tail k)
 have hA:H0.heap.get? a = none:=by
  cases e:H0.heap.get? a with
  | none => rfl
  | some x => rw [S.low _ _ e] at ga; cases ga
 have aL:a ≠ L:=by
  intro e
  rw [List.map_cons,List.nodup_cons] at nd
  exact nd.1 (by rw [eN]; simp [e])
 refine z ((allNews H0.heap s.heap L).filter fun p => decide (p.1 ≠ a)) (S.fr .head hL) ?_ ?_ ?_
 · intro p hp
   rcases List.mem_cons.mp hp with rfl | hp
   · exact ⟨ho,aL,hA⟩
   · obtain ⟨b,o⟩:=p
     exact allNews_mem.mp ((List.mem_filter.mp hp).1)
 · intro p hp
   simpa using (List.mem_filter.mp hp).2
 · intro o' h' P' F N' hP
   have hz:H0.heap.objs.size ≤ h'.objs.size:=Nat.le_of_lt (Nat.lt_of_le_of_lt hL F.ns.lt)
   have kp:∀ b o,b ≠ L → b ≠ a → s.heap.get? b = some o → h'.get? b = some o:=fun b o hb hba e => by
    cases hh:H0.heap.get? b with
    | none => exact (N' (b,o) (List.mem_cons_of_mem _ (List.mem_filter.mpr ⟨allNews_mem.mpr ⟨e,hb,hh⟩,by simpa using hba⟩))).1
    | some x =>
     have:=S.kp _ _ hh
     rw [e] at this; cases this
     exact F.keep _ _ hh
   have gL:g L = none:=(S.has (L,Nsp m) (by simp)).2
   have ho':=(N' (a,o') (List.mem_cons_self ..)).1
   rw [List.map_cons,List.nodup_cons] at nd
   rw [eN,List.map_append,List.map_cons,List.nodup_append,List.nodup_cons] at nd
   refine ⟨fun b o e => kp b o (fun q => by rw [q,gL] at e; cases e) (fun q => by rw [q,ga] at e; cases e) (S.keep b o e),S.low,fun p hp => ?_,?_,hz,S.gens,S.os⟩
   · rcases List.mem_cons.mp hp with rfl | hp
     · obtain ⟨o,es,ep,h1,h2,h3,h4⟩:=F.ns
       exact ⟨⟨o,h1,es,ep,h2,h3,h4⟩,gL⟩
     · rw [hf] at hp
       have old:p ∈ N → p.1 ≠ a → (∃ o,h'.get? p.1 = some o ∧ p.2 o) ∧ g p.1 = none:=fun hm hne => by
        obtain ⟨⟨o,x,y⟩,z⟩:=S.has p (List.mem_cons_of_mem _ hm)
        refine ⟨⟨o,kp _ _ (fun q => nd.1 ?_) hne x,y⟩,z⟩
        have:=List.mem_map_of_mem (f:=(·.1)) hm
        rw [eN,List.map_append,List.map_cons] at this
        rw [← q]; exact this
       rcases List.mem_append.mp hp with q | q
       · exact old (by rw [eN]; exact List.mem_append_left _ q) (nd.2.2.2 p.1 (List.mem_map_of_mem q) a (List.mem_cons_self ..))
       · rcases List.mem_cons.mp q with rfl | q
         · exact ⟨⟨o',ho',hP⟩,ga⟩
         · exact old (by rw [eN]; exact List.mem_append_right _ (List.mem_cons_of_mem _ q)) (fun e => nd.2.2.1.1 (show a ∈ post.map (·.1) from List.mem_map.mpr ⟨p,q,e⟩))
   · have:=S.nd
     rw [eN] at this
     show ((L,Nsp m) :: f P' |>.map (·.1)).Nodup
     rw [hf]
     simpa using this
end
variable {dx:Addr}
section
variable {s:Shared} {g:Addr → Option Obj} {N:Ldg} {f:OP → Ldg} {x:Addr} {es es':List DictEntry} {n n':Nat}
theorem setA {v:Value} {Q:Unit → Shared → Prop} (X:(hd.heap_1 w.params).In H0.heap) (S:St H0 g ((L,Nsp m) :: N) s) (hL:H0.heap.objs.size ≤ L) (I:g x = some (instObj 143 dx)) (k:Pk dx (Is (dictOf es n)) N f)
 (ht:takerIn (hd.heap_1 w.params) 143 name = some none) (hl:(getL name es).isSome = true)
 (e:(putL name (PyData.keyHash w.params name) (.str name (s.toks + 1)) v es,putN name es n) = (es',n')) (hz:es'.length ≤ 1000)
 (h:∀ h',St H0 g ((L,Nsp m) :: f (Is (dictOf es' n'))) h' → Q () h'):wpAny (model PG w) A (setAttr (.ref x) name v) Q E s:=by
 revert X; k_fill; intro X
 obtain ⟨o,ho,eo⟩:=S.get (.tail k)
 have eo:o = dictOf es n:=eo
 subst eo
 refine S.viaUpd hL k ho fun r F Nw hr back => ?_
 have I':W.InstAt s.heap x (instObj 143 dx) 143 (some (dictOf es n)):=⟨S.keep _ _ I,rfl,rfl,ho⟩
 refine (set_dict F X Nw I' rfl (by k_is) (by k_is) ht (by k_is) hl e (.head hr) hz fun h' F' N' => ?_)
 exact h _ (back _ h' _ F' N' rfl)
variable {t:Tg} {rs:Bool}
theorem set_rs {b:Bool} {Q:Unit → Shared → Prop} (X:(hd.heap_1 w.params).In H0.heap) (S:St H0 g ((L,Nsp m) :: N) s) (hL:H0.heap.objs.size ≤ L) (I:TgIn g t) (k:Pk t.dx (Is (tObj w.params t rs rd)) N f)
 (h:∀ h',St H0 g ((L,Nsp m) :: f (Is (tObj w.params t b rd))) h' → Q () h'):wpAny (model PG w) A (setAttr (.ref t.x) "_root_seen" (.bool b)) Q E s:=by
 have X':=X
 revert X; k_fill; intro X
 exact setA (es:=tEs w.params t rs rd) (n:=18) (es':=tEs w.params t b rd) (n':=18) X' S hL I.1 k (by k_is) rfl rfl (by show 18 ≤ 1000; decide) h
theorem set_rd {b:Bool} {Q:Unit → Shared → Prop} (X:(hd.heap_1 w.params).In H0.heap) (S:St H0 g ((L,Nsp m) :: N) s) (hL:H0.heap.objs.size ≤ L) (I:TgIn g t) (k:Pk t.dx (Is (tObj w.params t rs rd)) N f)
 (h:∀ h',St H0 g ((L,Nsp m) :: f (Is (tObj w.params t rs b))) h' → Q () h'):wpAny (model PG w) A (setAttr (.ref t.x) "_root_done" (.bool b)) Q E s:=by
 have X':=X
 revert X; k_fill; intro X
 exact setA (es:=tEs w.params t rs rd) (n:=18) (es':=tEs w.params t rs b) (n':=18) X' S hL I.1 k (by k_is) rfl rfl (by show 18 ≤ 1000; decide) h
end
variable {tk:Tok}
section
variable {s:Shared} {g:Addr → Option Obj} {N:Ldg} {f:OP → Ldg}
theorem tupTail {t:Addr} {vs:List Value} {i:Nat} {x:Value} (S:St H0 g N s) (ht:g t = some (tupO vs)) (hx:vs[i]? = some x) (hz:vs.length < 2 ^ 62) (h:Q x s)
 (hs:autoParam (subscripted slice false (.ref t) (.int i tk) = operate [.ref t,.int i tk] (getItem (.ref t) (.int i tk))) aQ):wpAny (model prog w) A (subscriptTail value slice (.ref t) (.int i tk)) Q E s:=by
 have hi:i < vs.length:=(List.getElem?_eq_some_iff.mp hx).1
 have hq:=S.keep _ _ ht
 refine tail_any (T:="tuple") ⟨_,hq,rfl⟩ slot_tuple_getitem.lookup (getItem_tuple (items:=vs.toArray) (j:=i) ⟨_,hq,rfl,0,rfl⟩ (by lia) (by lia) ?_ (by simpa using hx) h) hs
 unfold seqIndex?
 simp
 lia
theorem St.cut {pre post:Ldg} {p:Addr × OP} (S:St H0 g (pre ++ p :: post) s):St H0 g (pre ++ post) s:=(S.perm List.perm_middle).drop
end
theorem PairAt.tp {g g':Addr → Option Obj} (le:tLe g g') {v:Value} {p:Uri × Pfx} (h:PairAt g v p):PairAt g' v p:=let ⟨a,t1,t2,e,h⟩:=h; ⟨a,t1,t2,e,le _ _ h (isTp_tup _)⟩
theorem Prs.tp {g g':Addr → Option Obj} (le:tLe g g') {vs:List Value} {ps:Lvl} (h:Prs g vs ps):Prs g' vs ps:=F2.imp (fun ι ι => PairAt.tp le) h
theorem PrsL.tp {g g':Addr → Option Obj} (le:tLe g g') {vs:List (Addr × List Value)} {ps:List Lvl} (h:PrsL g vs ps):PrsL g' vs ps:=F2.imp (fun ι ι => Prs.tp le) h
theorem TR.tp {g g':Addr → Option Obj} {t:Tg} {σ:Ts} (le:tLe g g') (I:TgIn g' t) (h:TR g t σ dl nl pl):TR g' t σ dl nl pl:=⟨I,h.D.tp le,h.NS.tp le,h.PM⟩
theorem TT.tp {g g':Addr → Option Obj} {t:Tg} {σ:Ts} {a:Ab} (le:tLe g g') (I:TgIn g' t) (h:TT g t σ a):TT g' t σ a:=⟨h.R.tp le I,h.dat,h.out,h.rs,h.rd,h.nps⟩
theorem qS_len (p:Pfx) (b:Bool):(qS p b).length ≤ 20:=by
 have:=pfxS_len p
 have:=locS_len b
 unfold qS; split <;> simp <;> lia
theorem rfs_cons (l:Addr × List Value) (ls:List (Addr × List Value)):rfs (l :: ls) = rfs ls ++ [.ref l.1]:=by simp [rfs]
noncomputable def Ab.en (a:Ab) (rw:Bool) (n:Nm):Ab:=
 { a.fl with dl:=(qn rw a.dl a.nl a.pl n.1).decl.tail,nl:=a.nl.tail,pl:=(qn rw a.dl a.nl a.pl n.1).pm,nps:=a.nps - 1,rd:=a.nps - 1 == 1,out:=a.fl.out ++ [[60,47] ++ qS (qn rw a.dl a.nl a.pl n.1).p n.2 ++ [62]] }
structure Fit (a:Ab) (rw:Bool):Prop where
 nd:(a.dl.flatten.map (·.2)).Nodup
 dne:a.dl ≠ []
 nne:a.nl ≠ []
 zd:a.dl.flatten.length ≤ 900
 zd2:a.dl.length ≤ 900
 zn:a.nl.flatten.length ≤ 900
 zn2:a.nl.length ≤ 900
 no:rw = false → a.nl.flatten.lookup .no = none
 zp:a.pl.length ≤ 8
 em:∀ e ∈ a.pl,e.2 ≠ .em
 zt:a.data.flatten.length ≤ 2000
 zl:a.data.length ≤ 10000
 zo:a.out.length ≤ 10000
 zs:a.nps ≤ 10000
theorem flushed_len (b:Bool) (x:List T):(flushed b x).length ≤ 1:=by unfold flushed; split <;> simp
theorem fl_out (a:Ab):a.fl.out.length ≤ a.out.length + 1:=by
 unfold Ab.fl; have:=flushed_len a.rs a.data; simp; lia
theorem push_ne {e:Uri × Pfx} (h:dl ≠ []):push dl e ≠ []:=by cases dl with | nil => exact absurd rfl h | cons _ _ => exact List.cons_ne_nil _ _
variable {rw:Bool}
theorem qn_ne {x:Uri} (h:dl ≠ []):(qn rw dl nl pl x).decl ≠ []:=by
 unfold qn
 split
 · exact h
 · split
   · split <;> exact push_ne h
   · split
     · exact h
     · split
       · exact push_ne h
       · exact h
theorem push_len {e:Uri × Pfx}:(push dl e).length = dl.length:=by cases dl <;> rfl
theorem qn_len {x:Uri}:(qn rw dl nl pl x).decl.length = dl.length:=by
 unfold qn
 split
 · rfl
 · split
   · split <;> exact push_len
   · split
     · rfl
     · split
       · exact push_len
       · rfl
noncomputable def Ab.wr (a:Ab) (x:T):Ab:={ a with out:=a.out ++ [x] }
theorem TT.wr {g:Addr → Option Obj} {t:Tg} {σ:Ts} {a:Ab} (V:TT g t σ a) (x:T) (tk:Tok):TT g t { σ with out:=σ.out ++ [sv x tk] } (a.wr x):=
 ⟨⟨V.R.I,V.R.D,V.R.NS,V.R.PM⟩,V.dat,V.out.app (Txs.one _ _),V.rs,V.rd,V.nps⟩
noncomputable def comS (x:T):T:=[60,33,45,45] ++ escC x ++ [45,45,62]
theorem escC_len (x:T):(escC x).length ≤ 5 * x.length:=by
 exact escP_len _ 5 (by decide) (by decide) x
noncomputable def piS (x:T):T:=if x = [] then [60,63,116,63,62] else [60,63,116,32] ++ escC x ++ [63,62]
section
variable {s:Shared} {g:Addr → Option Obj} {N:Ldg}
theorem nodup_cells {cs:List (Str × Addr)} (h:cs.Pairwise fun x y => x.2 ≠ y.2):(cs.map (·.2)).Nodup:=by
 rw [List.Nodup,List.pairwise_map]; exact h
theorem lookup_of_mem {n:Str} {c:Addr}:∀ {cs:List (Str × Addr)},(cs.map (·.1)).Nodup → (n,c) ∈ cs → cs.lookup n = some c
 | [],_,h => by cases h
 | (k,v) :: r,nd,h => by
  rw [List.map_cons,List.nodup_cons] at nd
  rw [List.lookup_cons]
  rcases List.mem_cons.mp h with e | hr
  · cases e; simp
  · have:(n == k) = false:=by
     simp only [beq_eq_false_iff_ne,ne_eq]
     rintro rfl
     exact nd.1 (List.mem_map.mpr ⟨_,hr,rfl⟩)
    rw [this]
    exact lookup_of_mem nd.2 hr
theorem callC {nm:Str} {an od:Option Addr} {fa:Addr} {u:Nat}
 (S:St H0 g N s) (C:Cx w H0)
 (ho:(hd.heap_1 w.params).lookup fa = some ⟨oc,od,.func (fnOf nm qual params body sc dV kV doc pm an cdv ct),osl⟩) (hcd:codeIn (hd.heap_1 w.params) cdv qual = true) (hroom:d < recursionLimit)
 (hbind:BindsTo s (fnOf nm qual params body sc dV kV doc pm an cdv ct) args binds)
 (hkind:∀ x ∈ binds,sc.names.lookup x.1 = some .local ∨ (sc.names.lookup x.1 = some .cell ∧ ((cellsFrom (s.heap.objs.size + 1) sc.names []).lookup x.1).isSome = true))
 (hcn:∀ n,((cellsFrom n sc.names []).map (·.1)).Nodup)
 (h:∀ L s₁ Q' E',H0.heap.objs.size ≤ L → St H0 g ((L,Nsp (bindL (envOfC qual sc L fa cdv).kindOf binds fun ι => none)) :: ((cellsFrom (L + 1) sc.names []).map (fun c => (c.2,Cel (bindC (envOfC qual sc L fa cdv).kindOf binds (fun ι => none) c.1))) ++ N)) s₁ → RetQ R Q' →
  wpAny (model prog w) (ar (d + 1) (u + 3)) (execs body (envOfC qual sc L fa cdv)) Q' E' s₁)
 (hco:autoParam (sc.isCoroutine = false) aQ) (hgen:autoParam (sc.isGenerator = false) aQ) (hk:autoParam (sc.kind = .function) aQ):codeAny (model prog w) (ar d u) (.call (.ref fa) args) R s:=by
 obtain ⟨X,_,_,_,_,T⟩:=C
 refine codeAny_call_function hroom (X.keeps S.kp _ _ ho) rfl hco hgen rfl (codeRec_of (X.keeps S.kp) hcd) (hbind _ _ _ _ ?_)
 refine wpAny_le (wpAny_newFunctionEnv_cells hk hkind fun env he s' hC hle => ?_)
 subst he
 obtain ⟨h₁,tk,rfl,hkp⟩:=hC.done
 refine ⟨(T.nolimit.keeps S.kp).keeps hkp,codeAny_func (h s.heap.objs.size _ _ _ S.size ?_ ⟨fun _ _ z => z,fun _ z => z⟩)⟩
 obtain ⟨oL,es,ep,n1,n2,n3,n4⟩:=hC.toInCall.ns
 have gn:∀ b,s.heap.objs.size ≤ b → g b = none:=fun b hb => by
  cases e:g b with
  | none => rfl
  | some o => exact absurd (Heap.lt_size (S.keep _ _ e)) (Nat.not_lt.mpr hb)
 have hab:∀ n c,(n,c) ∈ cellsFrom (s.heap.objs.size + 1) sc.names [] → s.heap.objs.size < c:=hC.above
 have hlow:∀ p ∈ N,p.1 < s.heap.objs.size:=fun p hp => let ⟨⟨o,e,_⟩,_⟩:=S.has p hp; Heap.lt_size e
 refine ⟨fun b o e => hkp b o (S.keep b o e),S.low,fun p hp => ?_,?_,ltr S.size hle.2,S.gens,S.os⟩
 · rcases List.mem_cons.mp hp with rfl | hp
   · exact ⟨⟨oL,n1,es,ep,n2,n3,n4⟩,gn _ (Nat.le_refl _)⟩
   · rcases List.mem_append.mp hp with hp | hp
     · obtain ⟨⟨n,c⟩,hc,rfl⟩:=List.mem_map.mp hp
       obtain ⟨o,h1,h2⟩:=hC.cell n c (lookup_of_mem (hcn _) hc)
       exact ⟨⟨o,h1,h2⟩,gn _ (Nat.le_of_lt (hab n c hc))⟩
     · obtain ⟨⟨o,a,b⟩,c⟩:=S.has p hp
       exact ⟨⟨o,hkp _ _ a,b⟩,c⟩
 · rw [List.map_cons,List.nodup_cons,List.map_append,List.nodup_append,List.map_map]
   refine ⟨fun q => ?_,nodup_cells hC.apart,S.nd,fun b hb c hc e => ?_⟩
   · rcases List.mem_append.mp q with q | q
     · obtain ⟨⟨n,c⟩,hc,e⟩:=List.mem_map.mp q
       have e:c = s.heap.objs.size:=e
       have:=hab n c hc
       rw [e] at this; exact Nat.lt_irrefl _ this
     · obtain ⟨p,hp,e⟩:=List.mem_map.mp q
       have:=hlow p hp
       rw [e] at this; exact Nat.lt_irrefl _ this
   · obtain ⟨⟨n,c'⟩,hc',e'⟩:=List.mem_map.mp hb
     have e':c' = b:=e'
     obtain ⟨p,hp,e2⟩:=List.mem_map.mp hc
     have q1:=hab n c' hc'
     have q2:=hlow p hp
     rw [e2,← e,← e'] at q2
     exact Nat.lt_irrefl _ (Nat.lt_trans q1 q2)
end
noncomputable def keyOf (e:Int × Value):Str:=match e.2 with | .str s _ => s | _ => Str.empty
structure SX (w:World) (o:Obj) (es:Array (Int × Value)) (ep:Nat) (t:SetTable) (xs:List Str):Prop where
 ex:o.ExactSet
 data:o.data = .set es ep t
 el:ElemsOf (PySem.strKind PG w) es.toList
 perm:(es.toList.map keyOf).Perm xs
 nd:xs.Nodup
 small:xs.length ≤ 4
 fits:t.fits es.size = true
 led:t.led = !(w.params.followText "set-order")
 dum:t.dummies = #[]
 mask:7 ≤ t.mask
 plain:0 < es.size → t.plain = false
noncomputable def Sx (w:World) (xs:List Str):OP:=fun o => ∃ es ep t,SX w o es ep t xs
variable {xs:List Str}
theorem nt_sx:NT (Sx w xs):=by
 rintro o ⟨es,ep,t,h⟩ ⟨_,ys,k,e⟩
 rw [h.data] at e; cases e
variable {ep:Nat}
theorem SX.size {o:Obj} {es:Array (Int × Value)} {t:SetTable} (h:SX w o es ep t xs):es.size = xs.length:=by
 have:=h.perm.length_eq
 simpa using this
theorem keyOf_is {k:Str} {e:Int × Value} (h:(PySem.strKind PG w).is k e.2 = true):keyOf e = k:=by
 obtain ⟨t,e1⟩:=Value.isStrOf_shape h
 unfold keyOf; rw [e1]
theorem osi_led (t:SetTable) (n:Nat):(t.orStandIn n).led = t.led:=by unfold SetTable.orStandIn; split <;> rfl
theorem osi_dum (t:SetTable) (n:Nat) (h:t.dummies = #[]):(t.orStandIn n).dummies = #[]:=by
 unfold SetTable.orStandIn; split
 · exact h
 · rfl
theorem osi_mask (t:SetTable) (n:Nat) (h:7 ≤ t.mask) (hn:1 ≤ n):7 ≤ (t.orStandIn n).mask:=by
 unfold SetTable.orStandIn; split
 · exact h
 · show 7 ≤ 4 * n + 4; lia
theorem put_dum (t:SetTable) (j:Nat) (h:t.dummies = #[]):(t.put j).1.dummies = #[]:=by
 show (if SetTable.has t.dummies j = true then _ else t.dummies) = #[]
 rw [h]
 split
 · rfl
 · rfl
theorem ins_pos (es:Array (Int × Value)) (p:Nat) (e:Int × Value):1 ≤ (SetTable.insertAt es p e).size:=by
 have:=(SetTable.insertAt_perm es p e).length_eq
 simp at this
 lia
theorem layNew_led (t:SetTable) (es:Array (Int × Value)) (h:Int) (x:Value):(layNew t es h x).2.1.led = t.led:=by
 unfold layNew
 split
 · exact osi_led _ _
 · rfl
theorem layNew_dum (t:SetTable) (es:Array (Int × Value)) (h:Int) (x:Value) (hd:t.dummies = #[]):(layNew t es h x).2.1.dummies = #[]:=by
 unfold layNew
 split
 · exact osi_dum _ _ (put_dum _ _ hd)
 · rfl
theorem layNew_mask (t:SetTable) (es:Array (Int × Value)) (h:Int) (x:Value) (hm:7 ≤ t.mask):7 ≤ (layNew t es h x).2.1.mask:=by
 unfold layNew
 split
 · exact osi_mask _ _ hm (ins_pos ..)
 · show 7 ≤ 4 * (es.size + 1) + 4
   lia
theorem not_full {t:SetTable} {n:Nat} (hf:t.fits n = true) (hd:t.dummies = #[]) (hm:7 ≤ t.mask) (hn:n ≤ 4):t.tooFull = false:=by
 simp only [SetTable.fits,Bool.and_eq_true,beq_iff_eq,decide_eq_true_eq] at hf
 unfold SetTable.tooFull SetTable.fill
 rw [hd,hf.1]
 simp; lia
theorem no_room {t:SetTable} {n k:Nat} (hf:t.fits n = true) (hd:t.dummies = #[]) (hm:7 ≤ t.mask) (hn:n + k ≤ 4):t.roomFor k = none:=by
 simp only [SetTable.fits,Bool.and_eq_true,beq_iff_eq,decide_eq_true_eq] at hf
 unfold SetTable.roomFor SetTable.fill
 rw [hd,hf.1,if_neg]
 simp; lia
section
variable {s:Shared}
noncomputable def addX (xs:List Str) (x:Str):List Str:=if x ∈ xs then xs else xs ++ [x]
theorem addHX {a:Addr} {o:Obj} {x:Str} {Q:Bool → Shared → Prop} (ho:s.heap.get? a = some o) (hS:Sx w xs o) (hz:(addX xs x).length ≤ 4)
 (h:∀ b h' o',Heap.SameBut a s.heap h' → h'.get? a = some o' → Sx w (addX xs x) o' → Q b { s with heap:=h' }) :
 wpAny (model PG w) A (setAddHashed a (.str x tk) ((PySem.strKind PG w).hash x)) Q E s:=by
 obtain ⟨es,ep,t,X⟩:=hS
 have hkey:(PySem.strKind PG w).is x (.str x tk) = true:=strKind_is PG w x tk
 have hsz:=X.size
 have hb:es.size < scanBound:=by show es.size < 4096; have:=X.small; lia
 unfold setAddHashed setAddHashedIn
 refine wpAny_holding (wpAny_bind (wpAny_setState_of ho X.data X.fits ?_))
 dsimp only
 rw [byScan_of (knd:=PySem.strKind PG w) rfl hb X.el]
 simp only [↓reduceIte]
 unfold setAddByScan
 refine wpAny_bind (wpAny_bind (wpAny_rule (wpAny_bind (wpAny_setScan_of (knd:=PySem.strKind PG w) hkey ho X.data X.fits X.el ?_))))
 have mem:∀ e ∈ es.toList,(PySem.strKind PG w).is x e.2 = true ↔ keyOf e = x:=fun e he => by
  constructor
  · exact keyOf_is
  · intro q
    obtain ⟨⟨k,hk,_⟩,_⟩:=X.el e he
    rw [keyOf_is hk] at q
    rw [← q]; exact hk
 cases hr:List.findIdx? (fun e => (PySem.strKind PG w).is x e.2) es.toList with
 | some j =>
  dsimp only
  obtain ⟨hj,hpj,_⟩:=List.findIdx?_eq_some_iff_getElem.mp hr
  have hin:x ∈ xs:=X.perm.mem_iff.mp (List.mem_map.mpr ⟨_,List.getElem_mem hj,(mem _ (List.getElem_mem hj)).mp hpj⟩)
  have e:addX xs x = xs:=if_pos hin
  rw [e] at h
  exact wpAny_pure (wpAny_pure (h false s.heap o (Heap.SameBut.refl ..) ho ⟨es,ep,t,X⟩))
 | none =>
  dsimp only
  have hin:x ∉ xs:=fun q => by
   obtain ⟨e,he,q2⟩:=List.mem_map.mp (X.perm.mem_iff.mpr q)
   have:=List.findIdx?_eq_none_iff.mp hr e he
   rw [(mem e he).mpr q2] at this; cases this
  have e:addX xs x = xs ++ [x]:=if_neg hin
  rw [e] at h hz
  have hperm:=layNew_perm t es ((PySem.strKind PG w).hash x) (.str x tk)
  have hfits:=layNew_fits t es ((PySem.strKind PG w).hash x) (.str x tk)
  have hled:=layNew_led t es ((PySem.strKind PG w).hash x) (.str x tk)
  have hdum:=layNew_dum t es ((PySem.strKind PG w).hash x) (.str x tk) X.dum
  have hmask:=layNew_mask t es ((PySem.strKind PG w).hash x) (.str x tk) X.mask
  generalize hL:layNew t es ((PySem.strKind PG w).hash x) (.str x tk) = LL at hperm hfits hled hdum hmask ⊢
  obtain ⟨es1,t1,wasDummy,gave⟩:=LL
  dsimp only at hperm hfits hled hdum hmask ⊢
  have hs1:es1.size = xs.length + 1:=by
   have:=hperm.length_eq
   simp at this; lia
  have hz1:xs.length + 1 ≤ 4:=by simpa using hz
  have key:∀ t2:SetTable,t2.fits es1.size = true → t2.led = t.led → t2.dummies = #[] → 7 ≤ t2.mask → t2.plain = false → Sx w (xs ++ [x]) { o with data:=.set es1 (ep + 1) t2 }:=fun t2 a1 a2 a3 a4 a5 => by
   refine ⟨es1,ep + 1,t2,⟨X.ex,rfl,?_,?_,?_,hz,a1,a2.trans X.led,a3,a4,fun ι => a5⟩⟩
   · exact (X.el.push hkey rfl).perm (by simpa using hperm)
   · have:=hperm.map keyOf
     rw [Array.toList_push,List.map_append] at this
     exact this.trans (X.perm.append_right _)
   · exact List.nodup_append.mpr ⟨X.nd,by simp,fun u hu v hv q => by rw [List.mem_singleton] at hv; rw [q,hv] at hu; exact hin hu⟩
  have store:∀ t2:SetTable,t2.fits es1.size = true → t2.led = t.led → t2.dummies = #[] → 7 ≤ t2.mask → t2.plain = false → ∀ R:Option Bool → Shared → Prop,(∀ h',Heap.SameBut a s.heap h' → (∃ o',h'.get? a = some o' ∧ Sx w (xs ++ [x]) o') → R (some true) { s with heap:=h' }) → ∀ rest:Sem (Option Bool),wpAny (model PG w) A (do
   storeSet a es1 t2
   if (!wasDummy && t2.tooFull) = true then rest else pure (some true)) R E s:=fun t2 a1 a2 a3 a4 a5 R hR rest => by
   refine wpAny_bind (wpAny_storeSet_of ho X.data ?_ (fits_of_scanBound (by show es1.size < 4096; lia)))
   rw [not_full a1 a3 a4 (by lia),Bool.and_false,if_neg (by decide)]
   refine wpAny_pure (hR _ (Heap.SameBut.update ..) ⟨_,?_,key t2 a1 a2 a3 a4 a5⟩)
   have:=Heap.get?_update_self (Obj.putSet es1 t2) ho (by rw [putSet_of es1 t2 X.data]; rfl)
   rw [putSet_of es1 t2 X.data] at this; exact this
  have tail:∀ h',Heap.SameBut a s.heap h' → (∃ o',h'.get? a = some o' ∧ Sx w (xs ++ [x]) o') → wpAny (model PG w) A (pure true:Sem Bool) Q E { s with heap:=h' }:=fun h' hs ⟨o',q1,q2⟩ => wpAny_pure (h true h' o' hs q1 q2)
  have bv:∀ (g:Bool → Sem (Option Bool)) (R:Option Bool → Shared → Prop),(t1.plain = true → wpAny (model PG w) A (g false) R E s) → (t1.plain = false → wpAny (model PG w) A (g true) R E s) → wpAny (model PG w) A (if t1.plain = true then hashByValue 8 (.str x tk) >>= g else (pure true:Sem Bool) >>= g) R E s:=fun g R h1 h2 => by
   cases hp:t1.plain with
   | true => rw [if_pos rfl]; exact wpAny_bind (wpAny_pure (h1 hp))
   | false => rw [if_neg (by decide)]; exact wpAny_bind (wpAny_pure (h2 hp))
  cases gave with
  | true =>
   refine wpAny_bind (wpAny_rule (bv _ _ (fun hp => ?_) fun hp => ?_))
   · exact store { t1 with plain:=false } (SetTable.fits_plain_off hfits) hled hdum hmask rfl _ tail _
   · exact store t1 hfits hled hdum hmask hp _ tail _
  | false =>
   refine wpAny_bind (wpAny_pure (bv _ _ (fun hp => ?_) fun hp => ?_))
   · exact store { t1 with plain:=false } (SetTable.fits_plain_off hfits) hled hdum hmask rfl _ tail _
   · exact store t1 hfits hled hdum hmask hp _ tail _
end
variable {sa:Addr}
section
variable {s:Shared} {g:Addr → Option Obj} {N:Ldg} {f:OP → Ldg} {F:Addr × OP} {d:Addr} {kvs:List (Str × Value)}
theorem sx_new:Sx w [] { cls:=.type "set",dict:=none,data:=.set #[] 0 (.fresh 0 0 (!(w.params.followText "set-order"))) }:=
 ⟨#[],0,_,⟨⟨rfl,rfl,rfl⟩,rfl,fun e he => by simp at he,.refl _,List.nodup_nil,Nat.zero_le _,rfl,rfl,rfl,Nat.le_refl _,fun h => absurd h (Nat.lt_irrefl _)⟩⟩
theorem newX (S:St H0 g (F :: N) s) (h:∀ h' a,St H0 g (F :: (a,Sx w []) :: N) h' → Q (.ref a) h'):wpAny (model PG w) A (newSet (.type "set")) Q E s:=by
 unfold newSet setsByText
 refine wpAny_bind (wpAny_bind (wpAny_askSetting (wpAny_pure ?_)))
 dsimp only
 simp only [newObj]
 exact wpAny_bind (wpAny_alloc (wpAny_pure (h _ _ (S.newIn rfl sx_new))))
theorem addH {x:Str} {Q:Bool → Shared → Prop} (S:St H0 g N s) (k:Pk sa (Sx w xs) N f) (hz:(addX xs x).length ≤ 4) (h:∀ b h',St H0 g (f (Sx w (addX xs x))) h' → Q b h') :
 wpAny (model PG w) A (setAddHashed sa (.str x tk) ((PySem.strKind PG w).hash x)) Q E s:=by
 obtain ⟨o,ho,hP⟩:=S.get k
 exact addHX ho hP hz fun b h' o' hs ho' hP' => h b _ (S.put k hs ho' hP')
theorem addS {x:Str} {Q:Bool → Shared → Prop} (S:St H0 g N s) (k:Pk sa (Sx w xs) N f) (hz:(addX xs x).length ≤ 4) (h:∀ b h',St H0 g (f (Sx w (addX xs x))) h' → Q b h') :
 wpAny (model PG w) A (setAdd sa (.str x tk)) Q E s:=by
 unfold setAdd
 refine wpAny_holding (wpAny_bind ((PySem.strKind PG w).pyHash (k:=x) (strKind_is _ _ _ _) ?_))
 exact addH (s:=(tick s)) S k hz h
theorem sub_dict_set:isSubtype (.type "dict") (.type "set") = pure false:=by rw [isSubtype_type]; kernel_rfl
theorem sub_dict_fset:isSubtype (.type "dict") (.type "frozenset") = pure false:=by rw [isSubtype_type]; kernel_rfl
theorem addX_mono (xs:List Str) (ys:List Str):xs.length ≤ (ys.foldl addX xs).length:=by
 induction ys generalizing xs with
 | nil => exact Nat.le_refl _
 | cons y ys ih =>
  refine ltr ?_ (ih (addX xs y))
  unfold addX; split
  · exact Nat.le_refl _
  · simp
theorem starLoop {f:Nat → PUnit → Sem (ForInStep PUnit)} {es:Array DictEntry} (hd:g d = some od) (h2:od.data = .dict es ep) (h3:KeysOf (PySem.strKind PG w) es) (h4:Pairs (PySem.strKind PG w) es.toList kvs)
 (hf:∀ i u,f i u = (do
  let some e:=(← dictEntries d)[i]? | unsupported "dict.changed-during-merge"
  holding [e.key] (do let _ ← setAddHashed sa e.key e.hash)
  if (← dictEpoch d) != ep then unsupported "dict.changed-during-merge"
  pure (.yield ⟨⟩))):∀ (k i:Nat) (xs:List Str) (s:Shared) (Q:PUnit → Shared → Prop),i + k = kvs.length → ((kvs.drop i).map (·.1) |>.foldl addX xs).length ≤ 4 → St H0 g (F :: (sa,Sx w xs) :: N) s →
  (∀ h',St H0 g (F :: (sa,Sx w ((kvs.drop i).map (·.1) |>.foldl addX xs)) :: N) h' → Q ⟨⟩ h') → wpAny (model PG w) A (forIn (List.range' i k) ⟨⟩ f) Q E s
 | 0,i,xs,s,Q,hi,hz,S,h => by
  rw [List.range'_zero,List.forIn_nil]
  have e:kvs.drop i = []:=List.drop_eq_nil_of_le (by omega)
  rw [e] at h
  exact wpAny_pure (h s S)
 | k + 1,i,xs,s,Q,hi,hz,S,h => by
  rw [List.range'_succ,List.forIn_cons]
  have hlt:i < kvs.length:=by omega
  have hlt2:i < es.size:=by have:=h4.length; simp at this; omega
  have hdat:=S.keep _ _ hd
  obtain ⟨kk,hk1,hk2⟩:=h3 es[i] (Array.getElem_mem hlt2)
  obtain ⟨tk,hk3⟩:=Value.isStrOf_shape hk1
  have hpair:=h4.get? (i:=i) (e:=es[i]) (k:=kvs[i].1) (v:=kvs[i].2) (by simp [hlt2]) (by simp [hlt])
  have ekk:kk = kvs[i].1:=(PySem.strKind PG w).inj _ _ _ hk1 hpair.1
  have edr:kvs.drop i = kvs[i] :: kvs.drop (i + 1):=List.drop_eq_getElem_cons hlt
  rw [edr,List.map_cons,List.foldl_cons,← ekk] at hz h
  rw [hf]
  refine wpAny_bind (wpAny_bind (wpAny_dictEntries hdat h2 ?_))
  rw [Array.getElem?_eq_getElem hlt2]
  dsimp only
  refine wpAny_bind (wpAny_holding (wpAny_bind ?_))
  rw [hk3,hk2]
  refine addH S (.tail .head) (ltr (addX_mono _ _) hz) fun b h' S' => wpAny_pure ?_
  refine wpAny_bind (wpAny_dictEpoch (S'.keep _ _ hd) h2 ?_)
  rw [if_neg (by simp)]
  refine wpAny_pure ?_
  exact starLoop hd h2 h3 h4 hf k (i + 1) (addX xs kk) _ Q (by omega) hz S' fun h2 S2 => h h2 S2
end
noncomputable def KIt (d:Addr) (i n ep:Nat):OP:=fun o => o.cls = .type "dict_keyiterator" ∧ o.data = .fields #[.ref d,.int i 0,.int n 0,.int ep 0]
section
variable {s:Shared} {g:Addr → Option Obj} {N:Ldg} {f:OP → Ldg} {Fx:Addr × OP} {d:Addr} {kvs:List (Str × Value)}
theorem dictAt_g {es:Array DictEntry} (S:St H0 g N s) (hd:g d = some od) (h1:od.ExactDict) (h2:od.data = .dict es ep) (h3:KeysOf (PySem.strKind PG w) es) (h4:Pairs (PySem.strKind PG w) es.toList kvs) (h5:(kvs.map (·.1)).Nodup) :
 s.heap.DictAt (PySem.strKind PG w) d kvs ep:=⟨od,es,S.keep _ _ hd,h1,h2,h3,h4,h5⟩
theorem updLoop {es:Array DictEntry} (hd:g d = some od) (h1:od.ExactDict) (h2:od.data = .dict es ep) (h3:KeysOf (PySem.strKind PG w) es) (h4:Pairs (PySem.strKind PG w) es.toList kvs) (h5:(kvs.map (·.1)).Nodup) {it:Addr} :
 ∀ (k i:Nat) (xs:List Str) (s:Shared) (A:Around) (R:Result → Shared → Prop),A.handled = none → i + k = kvs.length → ((kvs.drop i).map (·.1) |>.foldl addX xs).length ≤ 4 → St H0 g (Fx :: (it,KIt d i kvs.length ep) :: (sa,Sx w xs) :: N) s →
  (∀ s',St H0 g (Fx :: (sa,Sx w ((kvs.drop i).map (·.1) |>.foldl addX xs)) :: N) s' → R (.ok (.ret .none)) s') →
  codeAny (model PG w) A (.builtin "set.update.loop" ⟨[.ref sa,.ref it],[]⟩) R s
 | 0,i,xs,s,A,R,hh,hi,hz,S,h => by
  refine codeAny_builtin PyProof.Rows.F.entry_set_update_loop ?_
  rw [Around.under_plainId PyProof.Rows.F.plain_set_update_loop _]
  show wpAny _ A.in1 (pyNext (.ref it) >>= _) _ _ s
  obtain ⟨o,ho,q1,q2⟩:=S.get (.tail .head)
  refine wpAny_bind (wpAny_le (wpAny_pyNext_dict_end (knd:=PySem.strKind PG w) (ep:=ep) hh ⟨o,ho,q1,by rw [q2]⟩ (dictAt_g S hd h1 h2 h3 h4 h5) (List.getElem?_eq_none (by lia)) fun h' he hle => ?_))
  have e:kvs.drop i = []:=List.drop_eq_nil_of_le (by lia)
  rw [e] at h
  exact wpAny_pure (h _ (S.off2 he hle.2))
 | k + 1,i,xs,s,A,R,hh,hi,hz,S,h => by
  have hlt:i < kvs.length:=by lia
  have edr:kvs.drop i = kvs[i] :: kvs.drop (i + 1):=List.drop_eq_getElem_cons hlt
  rw [edr,List.map_cons,List.foldl_cons] at hz h
  refine codeAny_builtin PyProof.Rows.F.entry_set_update_loop ?_
  rw [Around.under_plainId PyProof.Rows.F.plain_set_update_loop _]
  show wpAny _ A.in1 (pyNext (.ref it) >>= _) _ _ s
  obtain ⟨o,ho,q1,q2⟩:=S.get (.tail .head)
  refine wpAny_bind (wpAny_pyNext_dict_item (knd:=PySem.strKind PG w) (i:=i) (ep:=ep) (kvs:=kvs) (k:=kvs[i].1) (v:=kvs[i].2) ⟨o,ho,q1,q2⟩ (dictAt_g S hd h1 h2 h3 h4 h5) (by simp [hlt]) fun key h' hk hit hs => ?_)
  obtain ⟨tk,rfl⟩:=Value.isStrOf_shape hk
  obtain ⟨o',ho',q1',q2'⟩:=hit
  have S1:Stc H0 g (Fx :: (it,KIt d (i + 1) kvs.length ep) :: (sa,Sx w xs) :: N) h' s.gens s.os:=S.put (.tail .head) hs ho' ⟨q1',q2'⟩
  refine wpAny_bind (wpAny_holding (addS S1 (.tail (.tail .head)) (ltr (addX_mono _ _) hz) fun b h2' S2 => ?_))
  refine wpAny_pure ⟨plainId_quiet PyProof.Rows.F.plain_set_update_loop _,?_⟩
  refine updLoop hd h1 h2 h3 h4 h5 k (i + 1) (addX xs kvs[i].1) _ _ _ hh (by lia) hz S2 fun s' S' => h s' S'
theorem starX {Q:Unit → Shared → Prop} (hh:A.handled = none) (S:St H0 g (Fx :: (sa,Sx w xs) :: N) s) (hd:∃ od,g d = some od ∧ Dct w kvs od) (hm:(d == sysModules) = false) (hx:xs.length = 1) (hz:(kvs.map (·.1) |>.foldl addX xs).length ≤ 4) (hk:kvs.length ≤ 3)
 (h:∀ s',St H0 g (Fx :: (sa,Sx w (kvs.map (·.1) |>.foldl addX xs)) :: N) s' → Q () s'):wpAny (model PG w) A (setDisplayStar sa (.ref d)) Q E s:=by
 obtain ⟨od,hd,es,ep,h1,h2,h3,h4,h5⟩:=hd
 have hT:s.TypeIs (.ref d) "dict":=⟨_,S.keep _ _ hd,h1.1⟩
 unfold setDisplayStar
 refine wpAny_bind (wpAny_isInstance hT sub_dict_set ?_)
 rw [if_neg (by decide)]
 refine wpAny_bind (wpAny_isInstance hT sub_dict_fset ?_)
 refine wpAny_bind (wpAny_askSetting ?_)
 dsimp only
 cases hb:(model PG w).w.params.followText "set-display-star-reads-storage" with
 | true =>
  rw [if_pos rfl]
  dsimp only
  refine wpAny_bind (wpAny_pyIter_dict (knd:=PySem.strKind PG w) hm (dictAt_g S hd h1 h2 h3 h4 h5) ?_)
  have S1:=S.newIn (P:=KIt d 0 kvs.length ep) (o:={ cls:=.type "dict_keyiterator",data:=.fields #[.ref d,.int 0 0,.int kvs.length 0,.int ep 0] }) rfl ⟨rfl,rfl⟩
  refine wpAny_bind (wpAny_runValue (updLoop hd h1 h2 h3 h4 h5 kvs.length 0 xs _ _ _ hh (by lia) hz S1 fun s' S' => wpAny_pure (h s' S')))
 | false =>
  rw [if_neg (by decide)]
  dsimp only
  rw [if_neg (by decide)]
  refine wpAny_bind (wpAny_typeOf hT ?_)
  rw [if_pos (by decide)]
  refine wpAny_bind (wpAny_rule ?_)
  rw [hm,if_neg (by decide)]
  refine wpAny_bind (wpAny_dictEpoch (S.keep _ _ hd) h2 ?_)
  refine wpAny_bind (wpAny_dictEntries (S.keep _ _ hd) h2 ?_)
  obtain ⟨o,ho,es',ep',t',X⟩:=S.get (.tail .head)
  have hl:=h4.length
  have hsz:=X.size
  unfold setRoomFor
  refine wpAny_bind (wpAny_bind (wpAny_setState_of ho X.data X.fits ?_))
  dsimp only
  rw [no_room (k:=es.size) X.fits X.dum X.mask (by simp at hl; lia)]
  refine wpAny_pure ?_
  rw [Std.Legacy.Range.forIn_eq_forIn_range']
  have hr:([0:es.size]:Std.Legacy.Range).size = kvs.length:=by simp [Std.Legacy.Range.size]; simpa using hl
  refine wpAny_bind ?_
  show wpAny _ _ (forIn (List.range' 0 ([0:es.size]:Std.Legacy.Range).size 1) _ _) _ _ _
  rw [hr]
  refine starLoop (kvs:=kvs) (ep:=ep) hd h2 h3 h4 (fun i u => rfl) kvs.length 0 xs s _ (by lia) hz S fun h' S' => ?_
  exact wpAny_pure (h _ S')
end
variable {p3:Pos}
section
variable {s:Shared} {g:Addr → Option Obj} {N:Ldg} {f:OP → Ldg} {d:Addr} {kvs:List (Str × Value)}
theorem mainModS {Q:Bool → Shared → Prop} {c:Addr} {o:Obj} {fs:Array Value} (hc:env.code = .ref c) (ho:s.heap.get? c = some o) (hd:o.data = .fields fs) (h:∀ b,Q b s):wpAny (model PG w) A (inMainModule env) Q E s:=by
 unfold inMainModule
 rw [hc,if_neg (by simp)]
 unfold fieldsOf
 refine wpAny_bind (wpAny_bind (wpAny_load ho ?_))
 rw [hd]
 refine wpAny_pure ?_
 dsimp only
 split
 · exact wpAny_bind (wpAny_askSetting (wpAny_pure (h _)))
 · exact wpAny_pure (h _)
theorem dispX {x:T} {c:Addr} {o:Obj} {fs:Array Value} (hh:A.handled = none) (S:St H0 g ((L,Nsp m) :: N) s) (hc:env.code = .ref c) (ho:g c = some o) (hdt:o.data = .fields fs)
 (h1:m "tag" = some (sv x tk)) (h2:m "attrs" = some (.ref d)) (hd:∃ od,g d = some od ∧ Dct w kvs od) (hm:(d == sysModules) = false) (hz:(kvs.map (·.1) |>.foldl addX [mk x]).length ≤ 4) (hk:kvs.length ≤ 3)
 (h:∀ s' a,St H0 g ((L,Nsp m) :: (a,Sx w (kvs.map (·.1) |>.foldl addX [mk x])) :: N) s' → Q (.ref a) s')
 (hE:autoParam (env.locals = L) aQ) (hkk:autoParam (env.scope.kind = .function) aQ) (hl1:autoParam (env.kindOf "tag" = some .local) aQ) (hl2:autoParam (env.kindOf "attrs" = some .local) aQ) :
 wpAny (model PG w) A (eval (.Set [.Name "tag" p1,.Starred (.Name "attrs" p2) p3] 0 pos) env) Q E s:=by
 rw [arm_eval_Set]
 refine wpAny_bind (wpAny_standAt (wpAny_bind (mainModS hc (S.keep _ _ ho) hdt fun b => ?_)))
 show wpAny _ _ (setDisplay (displayRoad 0 _) b [(false,eval (.Name "tag" p1) env >>= fun v => standAt pos >>= fun ι => pure v),(true,eval (.Name "attrs" p2) env >>= fun v => standAt pos >>= fun ι => pure v)]) _ _ _
 have er:displayRoad 0 [Expr.Name "tag" p1,.Starred (.Name "attrs" p2) p3] = .oneByOne:=rfl
 rw [er]
 unfold setDisplay
 rw [if_neg (by decide)]
 refine wpAny_bind (newX S fun h' a S1 => ?_)
 dsimp only
 refine wpAny_bind (wpAny_holding ?_)
 refine wpAny_bind (m:=evalAll [eval (.Name "tag" p1) env >>= fun v => standAt pos >>= fun ι => pure v]) (wpAny_evalAll_cons (wpAny_bind (ldE S1 h1 (wpAny_bind (wpAny_standAt (wpAny_pure (wpAny_evalAll_nil ?_)))) hE hkk hl1)))
 refine wpAny_bind (wpAny_holding ?_)
 rw [List.forIn_cons]
 refine wpAny_bind (wpAny_bind (wpAny_bind (addS S1 (.tail .head) (by simp [addX]) fun b1 h2' S2 => wpAny_pure ?_)))
 dsimp only
 rw [List.forIn_nil]
 refine wpAny_pure ?_
 rw [if_neg (by decide)]
 refine wpAny_pure ?_
 show wpAny _ _ (forIn [(true,eval (.Name "attrs" p2) env >>= fun v => standAt pos >>= fun ι => pure v)] PUnit.unit _ >>= _) _ _ _
 rw [List.forIn_cons]
 refine wpAny_bind (wpAny_bind (wpAny_bind (wpAny_bind (ldE S2 h2 (wpAny_bind (wpAny_standAt (wpAny_pure ?_))) hE hkk hl2))))
 rw [if_pos rfl]
 refine wpAny_bind (wpAny_holding (starX hh S2 hd hm rfl hz hk fun s3 S3 => wpAny_pure ?_))
 dsimp only
 rw [List.forIn_nil]
 refine wpAny_pure (wpAny_pure (wpAny_pure (h s3 a S3)))
end
theorem entry_set_iter:entryFor table "set.__iter__" = some Builtin.«frozenset.__iter__»:=
 entryFor_alias (id':="frozenset.__iter__") (by rw [fastTable_eq_tree]; kernel_rfl) (by decide +kernel) (by decide +kernel) (by rw [fastTable_eq_tree]; kernel_rfl)
theorem erase_perm {α:Type}:∀ {l:List α} {i:Nat} (h:i < l.length),(l[i] :: l.eraseIdx i).Perm l
 | [],i,h => by simp at h
 | x :: xs,0,h => .refl _
 | x :: xs,i + 1,h => by
  have h':i < xs.length:=by simpa using h
  show (xs[i] :: x :: xs.eraseIdx i).Perm _
  exact (List.Perm.swap _ _ _).trans (.cons _ (erase_perm h'))
theorem slot_setit_next:Slot "set_iterator" "__next__" "set_iterator.__next__":=
 .of (owner:="set_iterator") (n:="__next__") (by rw [typeLookup_type,builtinLookup_eq_fast]; kernel_rfl) (by decide +kernel) (by decide +kernel) (by decide +kernel)
  (by first | exact .inl (by decide +kernel) | exact .inr (by decide +kernel)) (by rw [isSubtype_type]; kernel_rfl)
theorem entry_setit_next:entryFor table "set_iterator.__next__" = some Builtin.«set_iterator.__next__»:=entryFor_of_tree (by kernel_rfl)
theorem args_setit_next (a:Value):argsOk "set_iterator.__next__" ⟨[a],[]⟩:=by unfold argsOk; kernel_rfl
section
variable {s:Shared}
theorem wpAny_choose {src:Source} {n:Nat} {Q:Nat → Shared → Prop} (hn:n ≠ 0) (h:∀ i d,i < n → Q i { s with drawn:=d }):wpAny M A (choose src n) Q E s:=fun Γ p hΓ => by
 show Sem.wp M Γ (.choose src n .pure) _ _ _ _
 rw [Sem.wp_choose]
 exact ⟨hn,h _ _ (Nat.mod_lt _ (Nat.pos_of_ne_zero hn))⟩
theorem drawO {α:Type}:∀ (n:Nat) (xs:List α) (s:Shared) (Q:List α → Shared → Prop),xs.length = n → (∀ ys d,ys.Perm xs → Q ys { s with drawn:=d }) → wpAny M A (drawOrder n xs) Q E s
 | 0,xs,s,Q,hl,h => by
  have:xs = []:=List.length_eq_zero_iff.mp hl
  subst this
  unfold drawOrder
  exact wpAny_pure (h [] s.drawn (.refl _))
 | n + 1,[],s,Q,hl,h => by simp at hl
 | n + 1,x :: xs,s,Q,hl,h => by
  unfold drawOrder
  refine wpAny_bind (wpAny_choose (by simp) fun i d hi => ?_)
  rw [List.getElem?_eq_getElem hi]
  dsimp only
  refine wpAny_bind (drawO n _ _ _ (by rw [List.length_eraseIdx_of_lt hi]; lia) fun ys d' hp => wpAny_pure (h _ _ ?_))
  refine (List.Perm.cons _ hp).trans ?_
  exact (erase_perm hi)
end
theorem pick_perm {α:Type} (next:Nat → Nat):∀ (fuel k:Nat) (left:List α) (out:Array α),left.length = fuel → (pickOrder.go next fuel k left out).toList.Perm (out.toList ++ left)
 | 0,k,left,out,h => by
  have:left = []:=List.length_eq_zero_iff.mp h
  subst this
  show out.toList.Perm _
  simp
 | fuel + 1,k,left,out,h => by
  unfold pickOrder.go
  have hi:next k % left.length < left.length:=Nat.mod_lt _ (by lia)
  rw [List.getElem?_eq_getElem hi]
  dsimp only
  refine (pick_perm next fuel (k + 1) _ _ (by rw [List.length_eraseIdx_of_lt hi]; lia)).trans ?_
  rw [Array.toList_push,List.append_assoc]
  exact List.Perm.append_left _ (erase_perm hi)
theorem pickO_perm (next:Nat → Nat) (xs:Array α):(pickOrder next xs).toList.Perm xs.toList:=by
 have:=pick_perm next xs.size 0 xs.toList #[] (by simp)
 simpa [pickOrder] using this
noncomputable abbrev byTxt (w:World):Bool:=w.params.followText "set-order"
inductive ItM (w:World) (g:Addr → Option Obj) (sa:Addr) (es:Array (Int × Value)) (ep:Nat) (t:SetTable):Nat → Value → List Value → Prop
 | text (i:Nat):byTxt w = true → ItM w g sa es ep t i (.int 0 0) ((pickOrder (w.params.setOrder sa ep) es).toList.map (·.2))
 | drawn (i:Nat) (tp:Addr) (ps:List Nat):byTxt w = false → g tp = some (tupO (ps.map fun p:Nat => .int (p:Int) 0)) → ps.Perm (List.range es.size) → ItM w g sa es ep t i (.ref tp) (ps.map fun p => (es.getD p (0,.none)).2)
 | one0:byTxt w = false → es.size = 1 → ItM w g sa es ep t 0 (.int 0 0) (es.toList.map (·.2))
 | one1 (slot:Nat):byTxt w = false → es.size = 1 → SetTable.below t.place slot = 1 → ItM w g sa es ep t 1 (.int slot 0) (es.toList.map (·.2))
variable {ord:List Value}
theorem ItM.len {g:Addr → Option Obj} {es:Array (Int × Value)} {t:SetTable} {i:Nat} {v:Value} (h:ItM w g sa es ep t i v ord):ord.length = es.size:=by
 cases h with
 | text => have:=(pickO_perm (w.params.setOrder sa ep) es).length_eq; simpa using this
 | drawn _ tp ps _ _ hp => have:=hp.length_eq; simpa using this
 | one0 => simp
 | one1 => simp
theorem ItM.perm {g:Addr → Option Obj} {es:Array (Int × Value)} {t:SetTable} {i:Nat} {v:Value} (h:ItM w g sa es ep t i v ord):ord.Perm (es.toList.map (·.2)):=by
 cases h with
 | text => exact (pickO_perm (w.params.setOrder sa ep) es).map _
 | drawn _ tp ps _ _ hp =>
  have h1:=hp.map fun p => (es.getD p (0,.none)).2
  refine h1.trans (List.Perm.of_eq ?_)
  refine List.ext_getElem (by simp) fun j h1 h2 => ?_
  simp at h1
  simp [h1]
 | one0 => exact .refl _
 | one1 => exact .refl _
theorem below_one0 (j:Nat):SetTable.below #[j] 0 = 0:=by
 simp [SetTable.below,SetTable.below.go]
theorem below_one1 (j:Nat):SetTable.below #[j] (j + 1) = 1:=by
 simp [SetTable.below,SetTable.below.go]
theorem one_of {a:Array α} (h:a.size = 1):∃ x,a = #[x]:=by
 obtain ⟨l⟩:=a
 match l,h with
 | [x],_ => exact ⟨x,rfl⟩
section
variable {s:Shared} {g:Addr → Option Obj} {it:Addr} {o oi:Obj} {es:Array (Int × Value)} {t:SetTable} {i:Nat} {first:Value}
theorem nextText {given:Nat} {Q:Option (Value × Nat) → Shared → Prop} (hb:byTxt w = true) (hS:s.heap.get? sa = some o) (X:SX w o es ep t xs) (h:Q (((pickOrder (w.params.setOrder sa ep) es)[given]?).map fun e => (e.2,0)) s) :
 wpAny (model PG w) A (setNext sa 0 given ep) Q E s:=by
 unfold setNext
 refine wpAny_bind (wpAny_setState_of hS X.data X.fits ?_)
 dsimp only
 unfold setsByText
 refine wpAny_bind (wpAny_bind (wpAny_askSetting (wpAny_pure ?_)))
 rw [if_pos (show (model PG w).w.params.followText "set-order" = true from hb),if_neg (by simp)]
 unfold setWalk
 refine wpAny_bind (wpAny_bind (wpAny_setState_of hS X.data X.fits ?_))
 dsimp only
 unfold setsByText
 refine wpAny_bind (wpAny_bind (wpAny_askSetting (wpAny_pure ?_)))
 rw [if_pos (show (model PG w).w.params.followText "set-order" = true from hb)]
 exact wpAny_bind (wpAny_askSetting (wpAny_pure (wpAny_pure h)))
theorem nextOne {slot given:Nat} {Q:Option (Value × Nat) → Shared → Prop} (hb:byTxt w = false) (h1:es.size = 1) (hS:s.heap.get? sa = some o) (X:SX w o es ep t xs)
 (h:Q (match es[SetTable.below t.place slot]?,t.place[SetTable.below t.place slot]? with | some (_,x),some j => some (x,j + 1) | _,_ => none) s):wpAny (model PG w) A (setNext sa slot given ep) Q E s:=by
 unfold setNext
 refine wpAny_bind (wpAny_setState_of hS X.data X.fits ?_)
 dsimp only
 unfold setsByText
 refine wpAny_bind (wpAny_bind (wpAny_askSetting (wpAny_pure ?_)))
 rw [if_neg (show ¬ ((model PG w).w.params.followText "set-order" = true) from by rw [show (model PG w).w.params.followText "set-order" = false from hb]; decide)]
 rw [if_neg (show ¬ (_ = true) from by show ¬ ((!t.plain && decide (es.size > 1)) = true); simp [h1])]
 refine wpAny_bind ?_
 have hled:t.led = true:=by rw [X.led]; show (!(byTxt w)) = true; rw [hb]; rfl
 show wpAny _ _ (if (!t.led && !es.isEmpty) = true then unsupported "set:maker-not-led" else pure ()) _ _ _
 rw [hled,if_neg (by simp)]
 exact wpAny_pure (wpAny_pure h)
theorem fld1 {k:Nat} {a:Value} {vs:Array Value} {Q:Unit → Shared → Prop} (hit:s.heap.get? it = some oi) (hc:oi.cls = .type "set_iterator") (hdI:oi.data = .fields vs) (hk:k < vs.size)
 (h:∀ h' oi',h'.get? it = some oi' → oi'.cls = .type "set_iterator" → oi'.data = .fields (vs.setIfInBounds k a) → Heap.SameBut it s.heap h' → Q () { s with heap:=h' }):wpAny (model PG w) A (setField (.ref it) k a) Q E s:=
 wpAny_setField hit hdI hk (h _ _ (Heap.get?_update_self _ hit (Obj.isFreed_of_fields (Obj.data_mapFields hdI _))) ((Obj.cls_mapFields ..).trans hc) (Obj.data_mapFields hdI _) (Heap.SameBut.update ..))
theorem nextX {v:Value} {Q:Option Value → Shared → Prop} (hit:s.heap.get? it = some oi) (hc:oi.cls = .type "set_iterator") (hdI:oi.data = .fields #[first,.int i 0,.ref sa,.int es.size 0,.int ep 0])
 (hS:s.heap.get? sa = some o) (X:SX w o es ep t xs) (hM:ItM w g sa es ep t i first ord) (kg:∀ b o,g b = some o → s.heap.get? b = some o) (hx:ord[i]? = some v)
 (hQ:∀ h' first' oi',h'.get? it = some oi' → oi'.cls = .type "set_iterator" → oi'.data = .fields #[first',.int (i + 1:Nat) 0,.ref sa,.int es.size 0,.int ep 0] → ItM w g sa es ep t (i + 1) first' ord → Heap.SameBut it s.heap h' → Q (some v) { s with heap:=h' }) :
 wpAny (model PG w) A (pyNext (.ref it)) Q E s:=by
 have hT:s.TypeIs (.ref it) "set_iterator":=⟨oi,hit,hc⟩
 unfold pyNext
 refine wpAny_bind (wpAny_attempt (wpAny_callSpecial?_slot (name:=Str.ofString "__next__") hT slot_setit_next (wpAny_call_entry slot_setit_next hT entry_setit_next ?_ (args_setit_next _))))
 refine wpAny_bind (wpAny_pure ?_)
 refine wpAny_bind (wpAny_fieldsOf hit hdI ?_)
 dsimp only
 refine wpAny_bind (wpAny_setEntries_of hS X.data X.fits ?_)
 rw [if_neg (by simp)]
 cases hM with
 | text _ hb =>
  dsimp only
  have hx':((pickOrder (w.params.setOrder sa ep) es)[i]?).map (·.2) = some v:=by simpa using hx
  obtain ⟨e,he,hv⟩:=Option.map_eq_some_iff.mp hx'
  refine wpAny_bind (nextText hb hS X ?_)
  rw [show ((i:Int).toNat) = i from rfl,show ((ep:Int).toNat) = ep from rfl,he]
  dsimp only [Option.map_some]
  refine wpAny_bind (fld1 hit hc hdI (by simp) fun h1 o1 q1 q2 q3 q4 => ?_)
  refine wpAny_bind (fld1 (s:={ s with heap:=h1 }) q1 q2 q3 (by simp) fun h2 o2 r1 r2 r3 r4 => ?_)
  subst hv
  refine wpAny_pure ⟨_,rfl,wpAny_pure (hQ h2 (.int 0 0) o2 r1 r2 ?_ (.text _ hb) (q4.trans r4))⟩
  rw [r3]; simp [rawInt]
 | drawn _ tp ps hb htp hp =>
  dsimp only
  unfold seqItems?
  refine wpAny_bind (wpAny_bind (wpAny_load (kg _ _ htp) ?_))
  refine wpAny_pure ?_
  obtain ⟨p,hp1,hp2⟩:=Option.map_eq_some_iff.mp (by rw [← List.getElem?_map]; exact hx)
  have hpl:p < es.size:=List.mem_range.mp (hp.mem_iff.mp (List.mem_of_getElem? hp1))
  have hpi:(ps.map fun p:Nat => Value.int (p:Int) 0).toArray[(i:Int).toNat]? = some (.int p 0):=by simp [hp1]
  show wpAny _ _ (match (ps.map fun p:Nat => Value.int (p:Int) 0).toArray[(i:Int).toNat]? with | some (Value.int place tok) => _ | some val => _ | none => _) _ _ _
  rw [hpi]
  dsimp only
  refine wpAny_bind ?_
  unfold setNextDrawn
  refine wpAny_bind (wpAny_setState_of hS X.data X.fits ?_)
  dsimp only
  rw [if_neg (by simp),show ((p:Int).toNat) = p from rfl,Array.getElem?_eq_getElem hpl]
  refine wpAny_pure ?_
  refine wpAny_bind (fld1 hit hc hdI (by simp) fun h1 o1 q1 q2 q3 q4 => ?_)
  have hv:es[p].2 = v:=by rw [← hp2]; simp [hpl]
  have hv':(es.toList.get ⟨p,hpl⟩).2 = v:=hv
  rw [hv']
  refine wpAny_pure ⟨_,rfl,wpAny_pure (hQ h1 (.ref tp) o1 q1 q2 ?_ (.drawn _ tp ps hb htp hp) q4)⟩
  rw [q3]; simp [rawInt]
 | one0 hb h1 =>
  dsimp only
  obtain ⟨e,rfl⟩:=one_of h1
  have hpl:t.place.size = 1:=by
   have:=X.fits
   simp only [SetTable.fits,Bool.and_eq_true,beq_iff_eq] at this
   rw [this.1]; rfl
  obtain ⟨j,hj⟩:=one_of hpl
  refine wpAny_bind (nextOne (slot:=0) hb h1 hS X ?_)
  rw [hj,below_one0,show (#[e]:Array (Int × Value))[0]? = some e from rfl,show (#[j]:Array Nat)[0]? = some j from rfl]
  have hv:e.2 = v:=by simpa using hx
  refine wpAny_bind (fld1 hit hc hdI (by simp) fun h1' o1 q1 q2 q3 q4 => ?_)
  refine wpAny_bind (fld1 (s:={ s with heap:=h1' }) q1 q2 q3 (by simp) fun h2 o2 r1 r2 r3 r4 => ?_)
  subst hv
  refine wpAny_pure ⟨_,rfl,wpAny_pure (hQ h2 (.int (j + 1:Nat) 0) o2 r1 r2 ?_ (.one1 (j + 1) hb h1 (by rw [hj]; exact below_one1 j)) (q4.trans r4))⟩
  rw [r3]; simp [rawInt]
 | one1 slot hb h1 h2 =>
  obtain ⟨e,rfl⟩:=one_of h1
  simp at hx
theorem stopX {Q:Option Value → Shared → Prop} (hh:A.handled = none) (h:∀ h',(∀ b o,s.heap.get? b = some o → h'.get? b = some o) → Q none { s with heap:=h' }) :
 wpAny (model PG w) A.in1 (do raiseNew (← newExc (.type "StopIteration") []):Sem PySem.Fin) (fun fin s' => ∃ v,fin = Fin.done (Flow.ret v) ∧ wpAny (model PG w) A (pure (some v)) Q E s')
 (fun e s' => wpAny (model PG w) A (do if ← isInstance e (.type "StopIteration") then pure none else throw e) Q E s') s:=by
 refine wpAny_bind ?_
 simp only [newExc,newTuple]
 refine wpAny_bind (wpAny_newObj_type ?_ (by size_fits))
 refine wpAny_bind (m:=firstArgMember _ _) (wpAny_of_eq (a:=Value.none) (by first | rfl | (simp only [firstArgMember]; rfl)) ?_)
 refine wpAny_newObj_type ?_ (by size_fits)
 simp only [raiseNew]
 refine wpAny_bind (wpAny_handled ?_)
 rw [show A.in1.handled = none from hh]
 refine wpAny_bind (wpAny_pure (wpAny_throw ?_))
 refine wpAny_bind (wpAny_isInstance (T:="StopIteration") (b:=true) ⟨_,Heap.get?_push_size _ rfl,rfl⟩ isSubtype_stop ?_)
 exact wpAny_pure (h _ fun b o e => Heap.get?_push_of_some _ (Heap.get?_push_of_some _ e))
theorem endX {Q:Option Value → Shared → Prop} (hh:A.handled = none) (hit:s.heap.get? it = some oi) (hc:oi.cls = .type "set_iterator") (hdI:oi.data = .fields #[first,.int i 0,.ref sa,.int es.size 0,.int ep 0])
 (hS:s.heap.get? sa = some o) (X:SX w o es ep t xs) (hM:ItM w g sa es ep t i first ord) (kg:∀ b o,g b = some o → s.heap.get? b = some o) (hx:ord[i]? = none)
 (hQ:∀ h',Heap.ExtBut it s.heap h' → Q none { s with heap:=h' }):wpAny (model PG w) A (pyNext (.ref it)) Q E s:=by
 have hT:s.TypeIs (.ref it) "set_iterator":=⟨oi,hit,hc⟩
 unfold pyNext
 refine wpAny_bind (wpAny_attempt (wpAny_callSpecial?_slot (name:=Str.ofString "__next__") hT slot_setit_next (wpAny_call_entry slot_setit_next hT entry_setit_next ?_ (args_setit_next _))))
 refine wpAny_bind (wpAny_pure ?_)
 refine wpAny_bind (wpAny_fieldsOf hit hdI ?_)
 dsimp only
 refine wpAny_bind (wpAny_setEntries_of hS X.data X.fits ?_)
 rw [if_neg (by simp)]
 have fin:∀ h1,Heap.SameBut it s.heap h1 → ∀ h',(∀ b o,h1.get? b = some o → h'.get? b = some o) → Q none { s with heap:=h' }:=fun h1 q4 h' hk => hQ h' fun b o hb e => hk b o ((q4.2 b hb).trans e)
 cases hM with
 | text _ hb =>
  dsimp only
  have hx':(pickOrder (w.params.setOrder sa ep) es)[i]? = none:=by simpa using hx
  refine wpAny_bind (nextText hb hS X ?_)
  rw [show ((i:Int).toNat) = i from rfl,show ((ep:Int).toNat) = ep from rfl,hx']
  dsimp only [Option.map_none]
  refine wpAny_bind (fld1 hit hc hdI (by simp) fun h1 o1 q1 q2 q3 q4 => ?_)
  exact stopX (s:={ s with heap:=h1 }) hh (fin h1 q4)
 | drawn _ tp ps hb htp hp =>
  dsimp only
  unfold seqItems?
  refine wpAny_bind (wpAny_bind (wpAny_load (kg _ _ htp) ?_))
  refine wpAny_pure ?_
  have hpi:(ps.map fun p:Nat => Value.int (p:Int) 0).toArray[(i:Int).toNat]? = none:=by
   have:ps.length ≤ i:=by simpa using hx
   simp [this]
  show wpAny _ _ (match (ps.map fun p:Nat => Value.int (p:Int) 0).toArray[(i:Int).toNat]? with | some (Value.int place tok) => _ | some val => _ | none => _) _ _ _
  rw [hpi]
  dsimp only
  refine wpAny_bind (fld1 hit hc hdI (by simp) fun h1 o1 q1 q2 q3 q4 => ?_)
  refine wpAny_bind (fld1 (s:={ s with heap:=h1 }) q1 q2 q3 (by simp) fun h2 o2 r1 r2 r3 r4 => ?_)
  exact stopX (s:={ s with heap:=h2 }) hh (fin h2 (q4.trans r4))
 | one0 hb h1 =>
  obtain ⟨e,rfl⟩:=one_of h1
  simp at hx
 | one1 slot hb h1 h2 =>
  dsimp only
  obtain ⟨e,rfl⟩:=one_of h1
  refine wpAny_bind (nextOne (slot:=slot) hb h1 hS X ?_)
  rw [h2,show (#[e]:Array (Int × Value))[1]? = none from rfl]
  refine wpAny_bind (fld1 hit hc hdI (by simp) fun h1 o1 q1 q2 q3 q4 => ?_)
  exact stopX (s:={ s with heap:=h1 }) hh (fin h1 q4)
end
variable {la:Addr}
section
variable {s:Shared} {g:Addr → Option Obj} {it:Addr} {o:Obj} {es:Array (Int × Value)} {t:SetTable}
theorem loopX {res:Value} (X:SX w o es ep t xs) (h1:la ≠ it) (h2:la ≠ sa) (h3:sa ≠ it) (hg:∀ b o,g b = some o → b ≠ la ∧ b ≠ it) (hz:ord.length ≤ 100):∀ (k i:Nat) (h:Heap) (c:Nat) (acc:Array Value) (first:Value) (oi:Obj) (A:Around) (R:Result → Shared → Prop),A.handled = none → ord.length - i = k → i ≤ ord.length →
 h.get? it = some oi → oi.cls = .type "set_iterator" → oi.data = .fields #[first,.int i 0,.ref sa,.int es.size 0,.int ep 0] → h.get? sa = some o → ItM w g sa es ep t i first ord → (∀ b o,g b = some o → h.get? b = some o) →
 h.get? la = some { cls:=.type "list",dict:=none,data:=.seq acc c,slots:=#[] } → acc.toList = ord.take i →
 (∀ h' c',(∀ b o,b ≠ la → b ≠ it → h.get? b = some o → h'.get? b = some o) → h'.get? la = some { cls:=.type "list",dict:=none,data:=.seq ord.toArray c',slots:=#[] } → R (.ok (.ret res)) { s with heap:=h' }) →
 codeAny (model PG w) A (.builtin "list.extend.loop" ⟨[.ref la,.ref it,res],[]⟩) R { s with heap:=h }
 | 0,i,h,c,acc,first,oi,A,R,hh,hk,hi,q1,q2,q3,q4,q5,q6,q7,q8,hR => by
  have hin:i = ord.length:=by lia
  refine codeAny_builtin PySem.F.entry_extend_loop ?_
  rw [Around.under_plainId PySem.F.plain_extend_loop _]
  show wpAny _ A.in1 (pyNext (.ref it) >>= _) _ _ _
  refine wpAny_bind (endX (A:=A.in1) (s:={ s with heap:=h }) hh q1 q2 q3 q4 X q5 q6 (List.getElem?_eq_none (by lia)) fun h' he => ?_)
  have ea:acc = ord.toArray:=by
   have:acc.toList = ord:=by rw [q8,hin]; exact List.take_of_length_le (Nat.le_refl _)
   rw [← this,Array.toArray_toList]
  rw [ea] at q7
  exact wpAny_pure (hR h' c (fun b o _ hb e => he b o hb e) (he la _ h1 q7))
 | k + 1,i,h,c,acc,first,oi,A,R,hh,hk,hi,q1,q2,q3,q4,q5,q6,q7,q8,hR => by
  have hlt:i < ord.length:=by lia
  refine codeAny_builtin PySem.F.entry_extend_loop ?_
  rw [Around.under_plainId PySem.F.plain_extend_loop _]
  show wpAny _ A.in1 (pyNext (.ref it) >>= _) _ _ _
  refine wpAny_bind (nextX (A:=A.in1) (s:={ s with heap:=h }) q1 q2 q3 q4 X q5 q6 (v:=ord[i]) (by simp [hlt]) fun h' first' oi' r1 r2 r3 r4 r5 => ?_)
  dsimp only at r5 ⊢
  have hl':=(r5.2 la h1).trans q7
  have hsz:acc.size = i:=by rw [← Array.length_toList,q8,List.length_take]; lia
  show wpAny _ A.in1 (updateSeq la (·.push ord[i]) >>= _) _ _ _
  refine wpAny_bind ?_
  refine wpAny_updateSeq hl' rfl (wpAny_pure ⟨plainId_quiet PySem.F.plain_extend_loop _,?_⟩) (by rw [hsz,sizeLine_eq]; lia) (by show (acc.push ord[i]).size ≤ sizeLine + 1; rw [Array.size_push,hsz,sizeLine_eq]; lia)
  have up:∀ b ob,b ≠ la → h'.get? b = some ob → (h'.update la (Obj.mapSeq (·.push ord[i]))).get? b = some ob:=fun b ob hb e => (Heap.get?_update_other _ _ (Ne.symm hb)).trans e
  have hlu:=Heap.get?_update_self (Obj.mapSeq (·.push ord[i])) hl' rfl
  refine loopX X h1 h2 h3 hg hz k (i + 1) _ _ (acc.push ord[i]) first' oi' A R hh (by lia) hlt (up _ _ (Ne.symm h1) r1) r2 r3 (up _ _ (Ne.symm h2) ((r5.2 sa h3).trans q4)) r4
   (fun b ob e => up b ob (hg b ob e).1 ((r5.2 b (hg b ob e).2).trans (q6 b ob e))) hlu ?_ fun h'' c'' hk2 hl2 => hR h'' c'' (fun b ob hb1 hb2 e => hk2 b ob hb1 hb2 (up b ob hb1 ((r5.2 b hb2).trans e))) hl2
  rw [Array.toList_push,q8]
  exact (List.take_succ_eq_append_getElem hlt).symm
theorem len_set:typeLookup (.type "set") "__len__" = pure (some (.builtin "set.__len__")):=by rw [typeLookup_type,builtinLookup_eq_fast]; kernel_rfl
theorem hintX (hT:s.TypeIs (.ref sa) "set") {Q:Bool → Shared → Prop} (h:Q false s):wpAny (model PG w) A (Builtin.List.listLengthHint (.ref sa)) Q E s:=by
 unfold Builtin.List.listLengthHint
 refine wpAny_bind (wpAny_specialOf hT len_set ?_)
 generalize hid:("set.__len__":String) = id0
 wp_delta
 rw [show splitId id0 = some ("set","__len__") from by subst hid; decide +kernel]
 subst hid
 refine wpAny_bind (wpAny_isInstance (T:="set") (b:=true) hT (by rw [isSubtype_type]; kernel_rfl) ?_)
 refine wpAny_ite_split (fun hab => absurd hab (by decide)) (fun ι => ?_)
 refine wpAny_ite_split (fun ι => ?_) (fun hab => absurd (by decide +kernel) hab)
 refine wpAny_bind (wpAny_typeOf hT ?_)
 exact wpAny_pure h
end
section
variable {s:Shared} {o:Obj} {es:Array (Int × Value)} {t:SetTable}
theorem iterX (hS:s.heap.get? sa = some o) (X:SX w o es ep t xs) (hne:xs ≠ [])
 (h:∀ h' d it first oi ord gg,(∀ b o,s.heap.get? b = some o → h'.get? b = some o) → s.heap.objs.size ≤ it → h'.get? it = some oi → oi.cls = .type "set_iterator" → oi.data = .fields #[first,.int (0:Nat) 0,.ref sa,.int es.size 0,.int ep 0] →
  ItM w gg sa es ep t 0 first ord → (∀ b o,gg b = some o → h'.get? b = some o ∧ s.heap.objs.size ≤ b ∧ b ≠ it) → Q (.ref it) { s with heap:=h',drawn:=d }):wpAny (model PG w) A (pyIter (.ref sa)) Q E s:=by
 have hT:s.TypeIs (.ref sa) "set":=⟨o,hS,X.ex.1⟩
 have hsz:=X.size
 have hpos:0 < es.size:=by
  have:=List.length_pos_iff.mpr hne
  lia
 refine wpAny_pyIter_slot hT F.slot_set_iter (wpAny_call_entry F.slot_set_iter hT entry_set_iter ?_ (F.args_set_iter_1 _))
 unfold Builtin.«frozenset.__iter__»
 refine wpAny_bind (m:=Builtin.Frozenset.slot0 "__iter__" _) (wpAny_pure ?_)
 refine wpAny_bind ?_
 unfold Builtin.Frozenset.sizeOf
 refine wpAny_bind (wpAny_setEntries_of hS X.data X.fits (wpAny_pure ?_))
 unfold setDrawn
 refine wpAny_bind (wpAny_bind (wpAny_setState_of hS X.data X.fits ?_))
 dsimp only
 unfold setsByText
 refine wpAny_bind (wpAny_bind (wpAny_askSetting (wpAny_pure ?_)))
 refine wpAny_pure ?_
 have hpl:=X.plain hpos
 have fin:∀ (first:Value) (s1:Shared) (ord:List Value) (gg:Addr → Option Obj),(∃ h1 d,s1 = { s with heap:=h1,drawn:=d } ∧ (∀ b o,s.heap.get? b = some o → h1.get? b = some o) ∧ s.heap.objs.size ≤ h1.objs.size) → ItM w gg sa es ep t 0 first ord → (∀ b o,gg b = some o → s1.heap.get? b = some o ∧ s.heap.objs.size ≤ b) →
  wpAny (model PG w) A.in1 (do ret (← newFields "set_iterator" [first,rawInt 0,.ref sa,rawInt es.size,rawInt (← setEpoch sa)])) (fun fin s' => ∃ v,fin = Fin.done (Flow.ret v) ∧ ∃ T r,s'.TypeIs v T ∧ typeLookup (.type T) "__next__" = pure (some r) ∧ Q v s') E s1:=by
  rintro first s1 ord gg ⟨h1,d,rfl,hk,hz⟩ hM hgg
  unfold setEpoch
  refine wpAny_bind (wpAny_bind (wpAny_setState_of (s:={ s with heap:=h1,drawn:=d }) (hk _ _ hS) X.data X.fits (wpAny_pure ?_)))
  refine wpAny_bind (wpAny_newObj_type (wpAny_pure ⟨_,rfl,"set_iterator",_,⟨_,Heap.get?_push_size _ rfl,rfl⟩,slot_setit_next.lookup,?_⟩) (by size_fits))
  refine h _ d _ first _ ord gg (fun b o e => Heap.get?_push_of_some _ (hk b o e)) hz (Heap.get?_push_size _ rfl) rfl rfl hM fun b o e => ⟨Heap.get?_push_of_some _ (hgg b o e).1,(hgg b o e).2,Nat.ne_of_lt (Heap.lt_size (hgg b o e).1)⟩
 cases hb:byTxt w with
 | true =>
  rw [if_neg (show ¬ (_ = true) from by show ¬ ((!(byTxt w) && (!t.plain && decide (es.size > 1))) = true); rw [hb]; simp)]
  refine wpAny_bind (wpAny_pure ?_)
  exact fin (.int 0 0) s _ (fun ι => none) ⟨s.heap,s.drawn,rfl,fun _ _ e => e,Nat.le_refl _⟩ (.text 0 hb) (fun _ _ e => by cases e)
 | false =>
  by_cases h1:es.size = 1
  · rw [if_neg (show ¬ (_ = true) from by show ¬ ((!(byTxt w) && (!t.plain && decide (es.size > 1))) = true); simp [h1])]
    refine wpAny_bind (wpAny_pure ?_)
    exact fin (.int 0 0) s _ (fun ι => none) ⟨s.heap,s.drawn,rfl,fun _ _ e => e,Nat.le_refl _⟩ (.one0 hb h1) (fun _ _ e => by cases e)
  · rw [if_pos (show (_ = true) from by show ((!(byTxt w) && (!t.plain && decide (es.size > 1))) = true); rw [hb,hpl]; simp; lia)]
    refine wpAny_bind (drawO es.size (List.range es.size) _ _ List.length_range fun ps d hp => ?_)
    refine wpAny_bind (wpAny_newTuple ?_ (by have:=hp.length_eq; simp at this; have:=X.small; rw [sizeLine_eq]; simp; lia))
    refine fin (.ref s.heap.objs.size) { s with heap:=s.heap.push (tupO (ps.map fun p:Nat => .int (p:Int) 0)),drawn:=d } _ (fun b => if b = s.heap.objs.size then some (tupO (ps.map fun p:Nat => .int (p:Int) 0)) else none)
     ⟨_,_,rfl,fun b o e => Heap.get?_push_of_some _ e,by rw [push_size]; exact Nat.le_succ _⟩ (.drawn 0 _ ps hb (if_pos rfl) hp) fun b ob e => ?_
    split at e
    · rename_i hbb
      cases e
      rw [hbb]
      exact ⟨Heap.get?_push_size _ rfl,Nat.le_refl _⟩
    · cases e
theorem extendX {res:Value} {c₀:Nat} (hh:A.handled = none) (hS:s.heap.get? sa = some o) (X:SX w o es ep t xs) (hne:xs ≠ []) (hl:s.heap.get? la = some { cls:=.type "list",data:=.seq #[] c₀ }) (h2:la ≠ sa)
 (hR:∀ h' d c' (ord:List Value),ord.Perm (es.toList.map (·.2)) → (∀ b o,b ≠ la → s.heap.get? b = some o → h'.get? b = some o) → h'.get? la = some { cls:=.type "list",dict:=none,data:=.seq ord.toArray c',slots:=#[] } → R (.ok (.ret res)) { s with heap:=h',drawn:=d }) :
 wpAny (model PG w) A.in1 (Builtin.List.listExtendWith (.ref la) (.ref sa) res)
  (fun fin s' => match fin with | .done f => R (.ok f) s' | .again c' => c'.quiet = true ∧ codeAny (model PG w) A c' R s') (fun e s' => R (.error e) s') s:=by
 have hT:s.TypeIs (.ref sa) "set":=⟨o,hS,X.ex.1⟩
 unfold Builtin.List.listExtendWith
 refine wpAny_bind (wpAny_typeOf hT ?_)
 have h1:Builtin.List.listSameRef (.ref la) (.ref sa) = false:=by simp [Builtin.List.listSameRef,h2]
 have h3:(Value.type "set" == Value.type "list") = false:=by decide
 have h4:(Value.type "set" == Value.type "tuple") = false:=by decide
 simp only [h1,h3,h4,Bool.or_false,Bool.false_eq_true,if_false]
 refine wpAny_bind (iterX hS X hne fun h' d it first oi ord gg hk hit q1 q2 q3 hM hgg => ?_)
 have hlsz:la < s.heap.objs.size:=Heap.lt_size hl
 have hssz:sa < s.heap.objs.size:=Heap.lt_size hS
 have n1:la ≠ it:=Nat.ne_of_lt (Nat.lt_of_lt_of_le hlsz hit)
 have n2:sa ≠ it:=Nat.ne_of_lt (Nat.lt_of_lt_of_le hssz hit)
 have hgn:∀ b ob,gg b = some ob → b ≠ la ∧ b ≠ it:=fun b ob e => ⟨Nat.ne_of_gt (Nat.lt_of_lt_of_le hlsz (hgg b ob e).2.1),(hgg b ob e).2.2⟩
 have hol:ord.length ≤ 100:=by rw [hM.len,X.size]; have:=X.small; lia
 have key:∀ (h:Heap) (c₁:Nat),(∀ b ob,b ≠ la → h'.get? b = some ob → h.get? b = some ob) → h.get? la = some { cls:=.type "list",data:=.seq #[] c₁ } →
  codeAny (model PG w) A (.builtin "list.extend.loop" ⟨[.ref la,.ref it,res],[]⟩) R { s with heap:=h,drawn:=d }:=fun h c₁ hk2 hl2 => by
  refine loopX (s:={ s with drawn:=d }) (g:=gg) X n1 h2 n2 hgn hol ord.length 0 h c₁ #[] first oi A R hh (Nat.sub_zero _) (Nat.zero_le _) (hk2 _ _ (Ne.symm n1) q1) q2 q3 (hk2 _ _ (Ne.symm h2) (hk _ _ hS)) hM (fun b ob e => hk2 b ob (hgn b ob e).1 (hgg b ob e).1) hl2 rfl ?_
  intro h'' c'' hk3 hl3
  exact hR h'' d c'' ord hM.perm (fun b ob hb e => hk3 b ob hb (Nat.ne_of_lt (Nat.lt_of_lt_of_le (Heap.lt_size e) hit)) (hk2 b ob hb (hk b ob e))) hl3
 have hl':=hk _ _ hl
 refine wpAny_bind (wpAny_holding (hintX ⟨o,hk _ _ hS,X.ex.1⟩ ?_))
 refine wpAny_ite_split (fun ι => ?_) (fun ι => wpAny_pure ⟨plainId_quiet PySem.F.plain_extend_loop _,key _ c₀ (fun b o _ e => e) hl'⟩)
 refine wpAny_bind (wpAny_rule ?_)
 refine wpAny_bind ?_
 show wpAny _ _ (updateSeq la (·.push .none) >>= fun ι => updateSeq la (·.pop)) _ _ _
 refine wpAny_bind (wpAny_updateSeq hl' rfl ?_)
 have hS₂:=Heap.get?_update_self (Obj.mapSeq (·.push Value.none)) hl' rfl
 refine wpAny_updateSeq (hz:=by seq_fits) hS₂ rfl ?_
 have hS₃:=Heap.get?_update_self (Obj.mapSeq (·.pop)) hS₂ rfl
 refine wpAny_pure ⟨plainId_quiet PySem.F.plain_extend_loop _,key _ _ (fun b o hb e => ?_) hS₃⟩
 exact (Heap.get?_update_other _ _ (Ne.symm hb)).trans ((Heap.get?_update_other _ _ (Ne.symm hb)).trans e)
theorem collectX {R:List Value → Shared → Prop} (hh:A.handled = none) (hS:s.heap.get? sa = some o) (X:SX w o es ep t xs) (hne:xs ≠ [])
 (h:∀ h' d (ord:List Value),ord.Perm (es.toList.map (·.2)) → (∀ b o,s.heap.get? b = some o → h'.get? b = some o) → R ord { s with heap:=h',drawn:=d }):wpAny (model PG w) A (collect (.ref sa)) R E s:=by
 have hssz:sa < s.heap.objs.size:=Heap.lt_size hS
 unfold collect
 refine wpAny_bind (wpAny_runValue (codeAny_builtin entry_proto_collect' ?_))
 rw [Around.under_plainId PySem.F.plain_proto_collect _]
 show wpAny _ A.in1 (newList [] >>= fun l => again (.builtin "list.__iadd__" ⟨[l,.ref sa],[]⟩)) _ _ s
 refine wpAny_bind (wpAny_newObj_type ?_)
 refine wpAny_pure ⟨plainId_quiet PySem.F.plain_list_iadd _,codeAny_builtin entry_list_iadd' ?_⟩
 rw [Around.under_plainId PySem.F.plain_list_iadd _]
 have hS₁:(s.heap.push { cls:=.type "list",data:=.seq ([]:List Value).toArray }).get? s.heap.objs.size = some { cls:=.type "list",data:=.seq #[] }:=Heap.get?_push_size _ rfl
 show wpAny _ A.in1 (Builtin.List.listExtendWith (.ref s.heap.objs.size) (.ref sa) (.ref s.heap.objs.size)) _ _ _
 have key:=extendX (A:=A) (s:={ s with heap:=s.heap.push { cls:=.type "list",data:=.seq ([]:List Value).toArray } }) (la:=s.heap.objs.size) (res:=.ref s.heap.objs.size)
  (R:=fun (q:Result) (s':Shared) => ∃ (h':Heap) (d:Drawn) (c':Nat) (ord:List Value),q = .ok (.ret (.ref s.heap.objs.size)) ∧ s' = { s with heap:=h',drawn:=d } ∧ ord.Perm (es.toList.map (·.2)) ∧ (∀ b o,s.heap.get? b = some o → h'.get? b = some o) ∧ h'.get? s.heap.objs.size = some { cls:=.type "list",dict:=none,data:=.seq ord.toArray c',slots:=#[] })
  hh (Heap.get?_push_of_some _ hS) X hne hS₁ (Nat.ne_of_gt hssz) (fun h' d c' ord hp hk hl => ⟨h',d,c',ord,rfl,rfl,hp,fun b ob e => hk b ob (Nat.ne_of_lt (Heap.lt_size e)) (Heap.get?_push_of_some _ e),hl⟩)
 refine wpAny_mono key (fun fin s' x => ?_) fun e s' x => ?_
 · cases fin with
   | done f =>
    obtain ⟨h',d,c',ord,e,rfl,hp,hk,hl⟩:=x
    cases e
    show wpAny _ A (load s.heap.objs.size >>= _) _ _ _
    refine wpAny_bind (wpAny_load hl ?_)
    exact wpAny_pure (h h' d ord hp hk)
   | again c₁ =>
    refine ⟨x.1,codeAny_mono x.2 fun q s₂ y => ?_⟩
    obtain ⟨h',d,c',ord,rfl,rfl,hp,hk,hl⟩:=y
    show wpAny _ A (load s.heap.objs.size >>= _) _ _ _
    refine wpAny_bind (wpAny_load hl ?_)
    exact wpAny_pure (h h' d ord hp hk)
 · obtain ⟨_,_,_,_,e',_⟩:=x
   cases e'
end
noncomputable abbrev Path:=List (Nat × Nat × Bool)
noncomputable def chk {α:Type} (n:Nat) (ok:Path → α → Bool):KasT α → Path → Bool
 | .ret a,p => ok p a
 | .ask i j k,p => decide (i < n) && decide (j < n) && decide (i ≠ j) && chk n ok (k true) ((i,j,true) :: p) && chk n ok (k false) ((i,j,false) :: p)
theorem kasAll {α:Type} {n:Nat} {ok:Path → α → Bool} {J:Shared → Prop} {rel:Nat → Nat → Bool → Prop} {ask:Nat → Nat → (Bool → Shared → Prop) → Shared → Prop} {Q:α → Shared → Prop}
 (hask:∀ i j,i < n → j < n → i ≠ j → ∀ (C:Bool → Shared → Prop) s,J s → (∀ b s',J s' → rel i j b → C b s') → ask i j C s)
 (hQ:∀ a p s,J s → (∀ e ∈ p,rel e.1 e.2.1 e.2.2) → ok p a = true → Q a s):∀ (t:KasT α) (p:Path) (s:Shared),chk n ok t p = true → (∀ e ∈ p,rel e.1 e.2.1 e.2.2) → J s → t.kasWp ask Q s
 | .ret a,p,s,hc,hp,hJ => hQ a p s hJ hp hc
 | .ask i j k,p,s,hc,hp,hJ => by
  simp only [chk,Bool.and_eq_true,decide_eq_true_eq] at hc
  obtain ⟨⟨⟨⟨h1,h2⟩,h3⟩,h4⟩,h5⟩:=hc
  refine hask i j h1 h2 h3 _ s hJ fun b s' hJ' hr => ?_
  have hp':∀ e ∈ (i,j,b) :: p,rel e.1 e.2.1 e.2.2:=fun e he => by
   rcases List.mem_cons.mp he with rfl | he
   · exact hr
   · exact hp e he
  cases b with
  | true => exact kasAll hask hQ (k true) _ s' h4 hp' hJ'
  | false => exact kasAll hask hQ (k false) _ s' h5 hp' hJ'
noncomputable def okP (n:Nat) (_:Path) (a:Array Nat):Bool:=a.toList.isPerm (List.range n)
noncomputable def bad (p:Path):Bool:=p.any fun e => p.contains (e.2.1,e.1,e.2.2)
noncomputable def okS (n:Nat) (p:Path) (a:Array Nat):Bool:=
 bad p || (a.toList.isPerm (List.range n) && (List.range (n - 1)).all fun k => p.contains (a.getD (k + 1) 0,a.getD k 0,false) || p.contains (a.getD k 0,a.getD (k + 1) 0,true))
theorem chkP {n:Nat} (h2:2 ≤ n) (h4:n ≤ 4):chk n (okP n) (kas_sort n) [] = true:=by
 match n,h2,h4 with
 | 2,_,_ => decide +kernel
 | 3,_,_ => decide +kernel
 | 4,_,_ => decide +kernel
 | 0,h,_ => lia
 | 1,h,_ => lia
 | n + 5,_,h => lia
theorem chkS {n:Nat} (h2:2 ≤ n) (h3:n ≤ 3):chk n (okS n) (kas_sort n) [] = true:=by
 match n,h2,h3 with
 | 2,_,_ => decide +kernel
 | 3,_,_ => decide +kernel
 | 0,h,_ => lia
 | 1,h,_ => lia
 | n + 4,_,h => lia
theorem sortP {n:Nat} {J:Shared → Prop} {ask:Nat → Nat → (Bool → Shared → Prop) → Shared → Prop} {Q:Array Nat → Shared → Prop} {s:Shared} (h2:2 ≤ n) (h4:n ≤ 4)
 (hask:∀ i j,i < n → j < n → i ≠ j → ∀ (C:Bool → Shared → Prop) s,J s → (∀ b s',J s' → C b s') → ask i j C s)
 (hQ:∀ a s,J s → a.toList.Perm (List.range n) → Q a s) (hJ:J s):(kas_sort n).kasWp ask Q s:=
 kasAll (ok:=okP n) (rel:=fun ι ι ι => True) (fun i j a b c C s hs h => hask i j a b c C s hs fun b s' hs' => h b s' hs' trivial) (fun a p s hJ hp hok => hQ a s hJ (List.isPerm_iff.mp hok)) _ [] s (chkP h2 h4) (fun _ h => by cases h) hJ
theorem sortS {n:Nat} {J:Shared → Prop} {lt:Nat → Nat → Bool} {ask:Nat → Nat → (Bool → Shared → Prop) → Shared → Prop} {Q:Array Nat → Shared → Prop} {s:Shared} (h2:2 ≤ n) (h3:n ≤ 3)
 (tot:∀ i j,i < n → j < n → i ≠ j → lt i j = !lt j i)
 (hask:∀ i j,i < n → j < n → i ≠ j → ∀ (C:Bool → Shared → Prop) s,J s → (∀ s',J s' → C (lt i j) s') → ask i j C s)
 (hQ:∀ a s,J s → a.toList.Perm (List.range n) → (∀ k,k + 1 < n → lt (a.getD k 0) (a.getD (k + 1) 0) = true) → Q a s) (hJ:J s):(kas_sort n).kasWp ask Q s:=by
 refine kasAll (ok:=okS n) (rel:=fun i j b => i < n ∧ j < n ∧ i ≠ j ∧ b = lt i j) (fun i j a b c C s hs h => hask i j a b c C s hs fun s' hs' => h _ s' hs' ⟨a,b,c,rfl⟩) (fun a p s hJ hp hok => ?_) _ [] s (chkS h2 h3) (fun _ h => by cases h) hJ
 unfold okS at hok
 rcases Bool.or_eq_true_iff.mp hok with hb | hok
 · exfalso
   obtain ⟨e,he,hc⟩:=List.any_eq_true.mp hb
   have he2:(e.2.1,e.1,e.2.2) ∈ p:=by simpa using hc
   obtain ⟨a1,a2,a3,a4⟩:=hp e he
   obtain ⟨_,_,_,b4⟩:=hp _ he2
   have:=tot e.1 e.2.1 a1 a2 a3
   dsimp only at b4
   rw [← a4,← b4] at this
   cases h:e.2.2 <;> rw [h] at this <;> cases this
 · rw [Bool.and_eq_true] at hok
   refine hQ a s hJ (List.isPerm_iff.mp hok.1) fun k hk => ?_
   have:=List.all_eq_true.mp hok.2 k (List.mem_range.mpr (by lia))
   rcases Bool.or_eq_true_iff.mp this with q | q
   · have q':(a.getD (k + 1) 0,a.getD k 0,false) ∈ p:=List.contains_iff_mem.mp q
     obtain ⟨a1,a2,a3,a4⟩:=hp _ q'
     have:=tot _ _ a2 a1 (Ne.symm a3)
     dsimp only at this a4
     rw [this,← a4]; rfl
   · have q':(a.getD k 0,a.getD (k + 1) 0,true) ∈ p:=List.contains_iff_mem.mp q
     exact (hp _ q').2.2.2.symm
noncomputable def Row (g:Addr → Option Obj) (v:Value) (r:T × T):Prop:=∃ a t1 t2,v = .ref a ∧ g a = some (tupO [sv r.1 t1,sv r.2 t2])
noncomputable def Rws (g:Addr → Option Obj) (vs:List Value) (rs:List (T × T)):Prop:=vs.length = rs.length ∧ ∀ i (h:i < rs.length),Row g (vs.getD i .none) rs[i]
theorem Rws.up {g g':Addr → Option Obj} {vs:List Value} {rs:List (T × T)} (le:tLe g g') (h:Rws g vs rs):Rws g' vs rs:=⟨h.1,fun i hi => let ⟨a,t1,t2,e,q⟩:=h.2 i hi; ⟨a,t1,t2,e,le _ _ q (isTp_tup _)⟩⟩
theorem range_map (l:List α) (d:α):(List.range l.length).map (fun i => l.getD i d) = l:=by
 refine List.ext_getElem (by simp) fun i h1 h2 => ?_
 simp [h2]
theorem Rws.pick {g:Addr → Option Obj} {vs:List Value} {rs:List (T × T)} (h:Rws g vs rs) {p:List Nat} (hp:p.Perm (List.range rs.length)):Rws g (p.map fun i => vs.getD i .none) (p.map fun i => rs.getD i ([],[])) ∧ (p.map fun i => rs.getD i ([],[])).Perm rs:=by
 refine ⟨⟨by simp,fun i hi => ?_⟩,?_⟩
 · have hi':i < p.length:=by simpa using hi
   have hlt:p[i] < rs.length:=List.mem_range.mp (hp.mem_iff.mp (List.getElem_mem hi'))
   have:=h.2 p[i] hlt
   simp [hi'] at this ⊢
   rw [List.getElem?_eq_getElem hlt]
   exact this
 · have:=hp.map fun i => rs.getD i ([],[])
   rw [range_map] at this
   exact this
section
variable {s:Shared} {g:Addr → Option Obj} {N:Ldg} {f:OP → Ldg} {vs:List Value} {rs:List (T × T)}
theorem tot_lt {a b:T} (h:a ≠ b):decide (a < b) = !decide (b < a):=by
 by_cases h1:a < b
 · have:¬ b < a:=fun h2 => List.lt_asymm h1 h2
   simp [h1,this]
 · have:b < a:=by
    rcases List.le_iff_lt_or_eq.mp (List.not_lt.mp h1) with q | q
    · exact q
    · exact absurd q.symm h
   simp [h1,this]
theorem nodup_at (h:(rs.map (·.1)).Nodup) {i j:Nat} (hi:i < rs.length) (hj:j < rs.length) (hne:i ≠ j):rs[i].1 ≠ rs[j].1:=fun e => by
 have:=List.pairwise_iff_getElem.mp h
 rcases Nat.lt_or_gt_of_ne hne with q | q
 · exact this i j (by simpa using hi) (by simpa using hj) q (by simpa using e)
 · exact this j i (by simpa using hj) (by simpa using hi) q (by simpa using e.symm)
theorem katT {h:Heap}:∀ {vs:List Value},(∀ v ∈ vs,∃ a x y t1 t2,v = .ref a ∧ h.get? a = some (tupO [sv x t1,sv y t2])) → ∃ fs,KatTups h vs fs ∧ fs.length = vs.length ∧ ∀ v ∈ fs,∃ x t,v = .str x t
 | [],_ => ⟨[],trivial,rfl,fun _ h => by cases h⟩
 | v :: vs,hv => by
  obtain ⟨fs,h1,h2,h3⟩:=katT fun v' h' => hv v' (List.mem_cons_of_mem _ h')
  obtain ⟨a,x,y,t1,t2,e,q⟩:=hv v (List.mem_cons_self ..)
  subst e
  refine ⟨sv x t1 :: fs,.cons q rfl rfl rfl h1,by rw [List.length_cons,List.length_cons,h2],fun v' h' => ?_⟩
  rcases List.mem_cons.mp h' with rfl | h'
  · exact ⟨_,_,rfl⟩
  · exact h3 v' h'
theorem askT {C:Bool → Shared → Prop} {i j:Nat} {S:Ldg} (St1:St H0 g S s) (hR:Rws g vs rs) (hn:(rs.map (·.1)).Nodup) (hi:i < rs.length) (hj:j < rs.length) (hne:i ≠ j) (h:C (decide (rs[i].1 < rs[j].1)) s) :
 kas_ask PG w A (tuples' true) vs i j C s:=by
 obtain ⟨a,t1,t2,e1,q1⟩:=hR.2 i hi
 obtain ⟨b,u1,u2,e2,q2⟩:=hR.2 j hj
 unfold kas_ask
 rw [e1,e2]
 refine kat_lt (St1.keep _ _ q1) rfl (St1.keep _ _ q2) rfl ?_
 refine kat_cons (wpAny_eqBool_str ?_)
 have:¬ (mk rs[i].1 = mk rs[j].1):=fun e => nodup_at hn hi hj hne (mk_inj e)
 rw [decide_eq_false this]
 refine kat_no (oneLt_str ?_)
 have e:∀ x:T,(mk x).cps.toList = x:=fun x => by simp [mk_cps]
 rw [e,e]
 exact h
theorem zipSnd (h2:vs.length < 2):Array.map (fun x => x.2) (vs.toArray.zip vs.toArray) = vs.toArray:=by
 cases vs with
 | nil => simp
 | cons a r => cases r with
  | nil => simp
  | cons b r => exact absurd h2 (Nat.not_lt.mpr (Nat.succ_le_succ (Nat.succ_le_succ (Nat.zero_le _))))
theorem lsort01 (S:St H0 g ((L,Nsp m) :: N) s) (k:Pk D (Lst vs) N f) (h2:vs.length < 2)
 (h:∀ s',St H0 g ((L,Nsp m) :: f (Lst vs)) s' → Q .none s'):wpAny (model PG w) A (call (.builtin "list.sort") [.ref D]) Q E s:=by
 obtain ⟨n,ho⟩:=S.plist (.tail k)
 have hn2:vs.toArray.size < 2:=by simpa using h2
 refine wpAny_call_entry slot_list_sort ⟨_,ho,rfl⟩ entry_list_sort ?_ (args_list_sort _)
 rw [list_sort_plain]
 refine wpAny_bind (listItems_at ho rfl ?_)
 refine wpAny_bind (listUpdate_at ho rfl ?_ (by rw [List.size_toArray,sizeLine_eq]; lia) (Nat.zero_le _))
 have s1:=Heap.SameBut.update s.heap D (Obj.mapSeq fun ι => (#[]:Array Value))
 obtain ⟨e1,ho1⟩:∃ e1,(s.heap.update D (Obj.mapSeq fun ι => (#[]:Array Value))).get? D = some (seqObj "list" #[] e1):=⟨_,get?_update_seq ho fun ι => #[]⟩
 refine wpAny_bind (seqEpoch_at ho1 rfl ?_)
 refine wpAny_bind (wpAny_newTuple ?_ (by show vs.length ≤ _; rw [sizeLine_eq]; lia))
 refine wpAny_bind (wpAny_newList ?_ (Nat.zero_le _))
 refine wpAny_holding ?_
 dsimp only
 rw [if_pos hn2,if_pos hn2]
 refine wpAny_bind (wpAny_pure ?_)
 refine wpAny_bind (wpAny_pure ?_)
 have S1:Stc H0 g ((L,Nsp m) :: f (Is (seqObj "list" #[] e1))) (s.heap.update D (Obj.mapSeq fun ι => (#[]:Array Value))) s.gens s.os:=S.put (.tail k) s1 ho1 rfl
 have S2:=(S1.pushed { cls:=.type "tuple",data:=.seq vs.toArray }).pushed { cls:=.type "list",data:=.seq #[] }
 have ho2:=Heap.get?_push_of_some { cls:=.type "list",data:=.seq #[] } (Heap.get?_push_of_some { cls:=.type "tuple",data:=.seq vs.toArray } ho1)
 refine wpAny_bind (seqEpoch_at ho2 rfl ?_)
 have ea:Array.map (fun x => x.2) (arrOf (SortSt.mk' general' (vs.toArray.zip vs.toArray) #[] 7 none)) = vs.toArray:=zipSnd h2
 have ef:failedOf (SortSt.mk' general' (vs.toArray.zip vs.toArray) #[] 7 none) = none:=rfl
 rw [ea,ef]
 refine wpAny_bind (listUpdate_at ho2 rfl ?_ (Nat.zero_le _) (by rw [List.size_toArray,sizeLine_eq]; lia))
 dsimp only
 rw [if_neg (by simp)]
 obtain ⟨c2,hc2⟩:∃ c2,((((s.heap.update D (Obj.mapSeq fun ι => (#[]:Array Value))).push { cls:=.type "tuple",data:=.seq vs.toArray }).push { cls:=.type "list",data:=.seq #[] }).update D (Obj.mapSeq fun ι => vs.toArray)).get? D = some (seqObj "list" vs.toArray c2):=⟨_,get?_update_seq ho2 fun ι => vs.toArray⟩
 obtain ⟨pre,post,eN,hf⟩:=k.split
 have k2:Pk D (Is (seqObj "list" #[] e1)) ((L,Nsp m) :: f (Is (seqObj "list" #[] e1))) (fun P' => (L,Nsp m) :: (pre ++ (D,P') :: post)):=.tail (by rw [hf]; exact .app .head)
 have S3:=S2.put k2 (Heap.SameBut.update ..) hc2 (P':=Lst vs) ⟨c2,rfl⟩
 rw [← hf] at S3
 exact wpAny_pure ⟨_,rfl,h _ S3⟩
theorem lsortT (S:St H0 g ((L,Nsp m) :: N) s) (hL:H0.heap.objs.size ≤ L) (k:Pk D (Lst vs) N f) (hR:Rws g vs rs) (hn:(rs.map (·.1)).Nodup) (h2:2 ≤ rs.length) (h4:rs.length ≤ 4)
 (h:∀ s' vs' rs',Rws g vs' rs' → rs'.Perm rs → (rs.length ≤ 3 → ∀ i,(hi:i + 1 < rs'.length) → rs'[i].1 < rs'[i + 1].1) → St H0 g ((L,Nsp m) :: f (Lst vs')) s' → Q .none s') :
 wpAny (model PG w) A (call (.builtin "list.sort") [.ref D]) Q E s:=by
 obtain ⟨n,ho⟩:=S.plist (.tail k)
 refine S.viaUpd hL k ho fun r F Nw hr back => ?_
 have hl:vs.length = rs.length:=hR.1
 refine kat_lsort (vs:=vs) (n:=n) F Nw (.head hr) (by simp) (by lia) (by lia) fun e1 h' F' N' => ?_
 have S1:=back _ h' (Is (seqObj "list" #[] e1)) F' N' rfl
 obtain ⟨fs,k1,k2,k3⟩:=katT (h:=h') (vs:=vs) fun v hv => by
  obtain ⟨i,hi,e⟩:=List.mem_iff_getElem.mp hv
  obtain ⟨a,t1,t2,e1,q⟩:=hR.2 i (by lia)
  exact ⟨a,_,_,t1,t2,by rw [← e,← e1]; simp [hi],S1.keep _ _ q⟩
 refine kat_kind (T:=.type "str") k1 (by lia) (fun v hv => ?_) (by decide) ?_
 · obtain ⟨x,t,rfl⟩:=k3 v hv
   exact .now
 have fin:∀ (p:Array Nat) (s2:Shared),(St H0 g ((L,Nsp m) :: f (Is (seqObj "list" #[] e1))) s2 ∧ Fr H0.heap L s2.heap m ∧ News H0.heap L s2.heap ((D,seqObj "list" #[] e1) :: r)) → p.toList.Perm (List.range rs.length) →
  (rs.length ≤ 3 → ∀ k,k + 1 < rs.length → decide ((rs.getD (p.getD k 0) ([],[])).1 < (rs.getD (p.getD (k + 1) 0) ([],[])).1) = true) →
  KasFin H0.heap L m D e1 (p.toList.map fun i => vs.getD i Value.none) (fun s3 => Q .none s3) s2:=fun p s2 ⟨J1,J2,J3⟩ hp hs => by
  refine KasFin.intro J2 J3 (.head hr) fun h3 c F3 N3 => ?_
  obtain ⟨w1,w2⟩:=hR.pick hp
  refine h _ _ _ w1 w2 (fun h3' i hi => ?_) (let B:=back _ h3 _ F3 N3 ⟨c,rfl⟩; ⟨B.keep,B.low,B.has,B.nd,B.size,J1.gens,J1.os⟩)
  have hpl:=hp.length_eq
  have hi':i + 1 < rs.length:=by simpa [hpl] using hi
  have:=hs h3' i hi'
  have e:∀ j,j < rs.length → p.toList.getD j 0 = p.getD j 0:=fun j hj => by simp
  simp at this ⊢
  simp at hpl
  have hj1:i < p.size:=by lia
  have hj2:i + 1 < p.size:=by lia
  simpa [hj1,hj2] using this
 rw [hl]
 have J0:St H0 g ((L,Nsp m) :: f (Is (seqObj "list" #[] e1))) { s with heap:=h' } ∧ Fr H0.heap L h' m ∧ News H0.heap L h' ((D,seqObj "list" #[] e1) :: r):=⟨S1,F',N'⟩
 have gd:∀ i (hi:i < rs.length),rs.getD i ([],[]) = rs[i]:=fun i hi => by simp [hi]
 by_cases h3:rs.length ≤ 3
 · refine sortS (J:=fun s2 => St H0 g ((L,Nsp m) :: f (Is (seqObj "list" #[] e1))) s2 ∧ Fr H0.heap L s2.heap m ∧ News H0.heap L s2.heap ((D,seqObj "list" #[] e1) :: r)) (lt:=fun i j => decide ((rs.getD i ([],[])).1 < (rs.getD j ([],[])).1)) h2 h3
    (fun i j hi hj hne => ?_) (fun i j hi hj hne C s2 hJ hC => ?_) (fun p s2 hJ hp hs => fin p s2 hJ hp fun _ k hk => hs k hk) J0
   · rw [gd i hi,gd j hj]
     exact tot_lt (nodup_at hn hi hj hne)
   · refine askT hJ.1 hR hn hi hj hne ?_
     have:=hC s2 hJ
     rw [gd i hi,gd j hj] at this
     exact this
 · refine sortP (J:=fun s2 => St H0 g ((L,Nsp m) :: f (Is (seqObj "list" #[] e1))) s2 ∧ Fr H0.heap L s2.heap m ∧ News H0.heap L s2.heap ((D,seqObj "list" #[] e1) :: r)) h2 h4
    (fun i j hi hj hne C s2 hJ hC => askT hJ.1 hR hn hi hj hne (hC _ s2 hJ)) (fun p s2 hJ hp => fin p s2 hJ hp fun h => absurd h h3) J0
end
theorem St.addG {g:Addr → Option Obj} {N:Ldg} {s:Shared} (S:St H0 g N s) (as:List Addr) (hn:∀ a ∈ as,∀ p ∈ N,p.1 ≠ a) (k:∀ g',gLe g g' → St H0 g' N s → (∀ a ∈ as,∀ o,s.heap.get? a = some o → g' a = some o) → C):C:=by
 have le:gLe g (fun b => if b ∈ as then s.heap.get? b else g b):=fun b o e => by
  show (if b ∈ as then s.heap.get? b else g b) = some o
  split
  · exact S.keep _ _ e
  · exact e
 refine k _ le ⟨fun b o e => ?_,fun b o e => le _ _ (S.low b o e),fun p hp => ⟨(S.has p hp).1,?_⟩,S.nd,S.size,S.gens,S.os⟩ fun a ha o e => ?_
 · have e:(if b ∈ as then s.heap.get? b else g b) = some o:=e
   split at e
   · exact e
   · exact S.keep _ _ e
 · show (if p.1 ∈ as then s.heap.get? p.1 else g p.1) = none
   rw [if_neg fun q => hn _ q p hp rfl]
   exact (S.has p hp).2
 · show (if a ∈ as then s.heap.get? a else g a) = some o
   rw [if_pos ha]; exact e
noncomputable def KV:List (Str × Value) → List (T × T) → Prop:=F2 fun e r => e.1 = mk r.1 ∧ ∃ t,e.2 = sv r.2 t
theorem KV.len {es:List (Str × Value)} {rs:List (T × T)} (h:KV es rs):es.length = rs.length:=F2.len h
theorem KV.get {es:List (Str × Value)} {rs:List (T × T)} (h:KV es rs) {i:Nat} {e:Str × Value} (hi:i < rs.length) (q:es[i]? = some e):e.1 = mk rs[i].1 ∧ ∃ t,e.2 = sv rs[i].2 t:=by
 obtain ⟨r,e1,k⟩:=F2.get h q
 rw [(List.getElem?_eq_some_iff.mp e1).2]; exact k
noncomputable def AscT (rs:List (T × T)):Prop:=∀ i,(hi:i + 1 < rs.length) → rs[i].1 < rs[i + 1].1
section
variable {s:Shared} {g:Addr → Option Obj} {N:Ldg} {f:OP → Ldg} {d v:Addr} {vs:List Value} {rs:List (T × T)} {kvs:List (Str × Value)}
theorem lsortA (S:St H0 g ((L,Nsp m) :: N) s) (hL:H0.heap.objs.size ≤ L) (k:Pk D (Lst vs) N f) (hR:Rws g vs rs) (hn:(rs.map (·.1)).Nodup) (h4:rs.length ≤ 4)
 (h:∀ s' vs' rs',Rws g vs' rs' → rs'.Perm rs → (rs.length ≤ 3 → AscT rs') → St H0 g ((L,Nsp m) :: f (Lst vs')) s' → Q .none s'):wpAny (model PG w) A (call (.builtin "list.sort") [.ref D]) Q E s:=by
 by_cases h2:2 ≤ rs.length
 · exact lsortT S hL k hR hn h2 h4 h
 · exact lsort01 S k (by rw [hR.1]; lia) fun s' S' => h s' vs rs hR (.refl _) (fun _ i hi => by lia) S'
theorem sortTail {Q:PySem.Fin → Shared → Prop} (S:St H0 g ((L,Nsp m) :: N) s) (hL:H0.heap.objs.size ≤ L) (hR:Rws g vs rs) (hn:(rs.map (·.1)).Nodup) (h4:rs.length ≤ 4)
 (h:∀ s' D vs' rs',Rws g vs' rs' → rs'.Perm rs → (rs.length ≤ 3 → AscT rs') → St H0 g ((L,Nsp m) :: (D,Lst vs') :: N) s' → Q (.done (.ret (.ref D))) s') :
 wpAny (model PG w) A (do let l ← newList vs; let _ ← holding [l] (call (.builtin "list.sort") [l]); ret l) Q E s:=by
 refine wpAny_bind (newLstS S (fun h' ah' S1 => ?_) (by rw [hR.1]; exact szl (by lia)))
 exact wpAny_bind (wpAny_holding (lsortA (s:=h') S1 hL .head hR hn h4 fun s' vs' rs' w1 w2 w3 S2 => wpAny_pure (h s' _ vs' rs' w1 w2 w3 S2)))
theorem sortedV (hh:A.handled = none) (S:St H0 g ((L,Nsp m) :: N) s) (hL:H0.heap.objs.size ≤ L) (hv:s.heap.IsItemsView v d) (hd:s.heap.DictOf (PySem.strKind PG w) d kvs) (hK:KV kvs rs) (hn:(rs.map (·.1)).Nodup) (h4:rs.length ≤ 4)
 (h:∀ s' g' D vs' rs',gLe g g' → Rws g' vs' rs' → rs'.Perm rs → (rs.length ≤ 3 → AscT rs') → St H0 g' ((L,Nsp m) :: (D,Lst vs') :: N) s' → Q (.ref D) s') :
 wpAny (model PG w) A (call (.builtin "sorted") [.ref v]) Q E s:=by
 obtain ⟨ep,hat⟩:=hd.dictAt
 have hl:=hK.len
 refine call_function_entry kind_sorted plain_sorted entry_sorted (args_sorted1 _) ?_
 unfold Builtin.«sorted»
 refine wpAny_bind (m:=checkCount "sorted" 1 1 _) (wpAny_pure ?_)
 refine wpAny_bind (wpAny_le (kdx_collect (A:=A.in1) (knd:=PySem.strKind PG w) (kvs:=kvs) (ep:=ep) hh hv hat (szl (by lia)) fun h' tk as hk hal hG hle => ?_))
 have S1:St H0 g ((L,Nsp m) :: N) { s with heap:=h',toks:=tk }:=S.grow hk hle.2
 refine S1.addG as (fun a ha p hp e => by
  obtain ⟨⟨o,q,_⟩,_⟩:=S.has p hp
  have:=Heap.lt_size q
  rw [e] at this
  exact absurd this (Nat.not_lt.mpr (Nat.le_of_lt (hG.above a ha)))) fun g1 le1 S2 ha => ?_
 have hR:Rws g1 (as.map Value.ref) rs:=by
  refine ⟨by rw [List.length_map,hal,hl],fun i hi => ?_⟩
  have hia:i < as.length:=by lia
  obtain ⟨key,kk,x,e1,e2,e3⟩:=hG.pairs i as[i] (by simp [hia])
  obtain ⟨tk1,rfl⟩:=Value.isStrOf_shape e2
  obtain ⟨e4,tk2,e5⟩:=hK.get hi e1
  dsimp only at e4 e5
  refine ⟨as[i],tk1,tk2,by simp [hia],?_⟩
  have:=ha as[i] (List.getElem_mem hia) _ e3
  rw [e4,e5] at this
  exact this
 refine sortTail (s:={ s with heap:=h',toks:=tk }) S2 hL hR hn h4 fun s' D vs' rs' w1 w2 w3 S3 => ⟨_,rfl,h s' g1 D vs' rs' le1 w1 w2 w3 S3⟩
end
section
variable {s:Shared} {g:Addr → Option Obj} {N:Ldg} {f:OP → Ldg} {l:Addr} {vs:List Value} {rs:List (T × T)} {kvs:List (Str × Value)}
theorem collL {R:List Value → Shared → Prop} (S:St H0 g N s) (hl:s.heap.IsList l vs.toArray) (hz:vs.length ≤ 1000)
 (h:∀ h',St H0 g N h' → R vs h'):wpAny (model PG w) A (collect (.ref l)) R E s:=by
 refine collect_list hl (h _ ?_) (by rw [sizeLine_eq]; lia)
 refine S.grow (fun b o q => ?_) ?_
 · have hlt:b < s.heap.objs.size:=Heap.lt_size q
   rw [Heap.get?_update_ne _ _ _ _ (Nat.ne_of_lt hlt),Heap.get?_push_ne _ _ _ (Nat.ne_of_lt hlt)]
   exact q
 · rw [Heap.size_update,push_size]; exact Nat.le_succ _
theorem sortedL (S:St H0 g ((L,Nsp m) :: N) s) (hL:H0.heap.objs.size ≤ L) (hl:s.heap.IsList l vs.toArray) (hR:Rws g vs rs) (hn:(rs.map (·.1)).Nodup) (h4:rs.length ≤ 4)
 (h:∀ s' D vs' rs',Rws g vs' rs' → rs'.Perm rs → (rs.length ≤ 3 → AscT rs') → St H0 g ((L,Nsp m) :: (D,Lst vs') :: N) s' → Q (.ref D) s') :
 wpAny (model PG w) A (call (.builtin "sorted") [.ref l]) Q E s:=by
 refine call_function_entry kind_sorted plain_sorted entry_sorted (args_sorted1 _) ?_
 unfold Builtin.«sorted»
 refine wpAny_bind (m:=checkCount "sorted" 1 1 _) (wpAny_pure ?_)
 refine wpAny_bind (collL S hl (by rw [hR.1]; lia) fun h' S1 => ?_)
 exact sortTail (s:=h') S1 hL hR hn h4 fun s' D vs' rs' w1 w2 w3 S3 => ⟨_,rfl,h s' D vs' rs' w1 w2 w3 S3⟩
end
structure Cy (w:World) (H0:Shared):Prop where
 C:Cx w H0
 hd:CodeHd H0.heap 118 116
 bm:∃ mg bm ob,H0.heap.Ns mainGlobals mg ∧ mg "__builtins__" = some (.ref bm) ∧ bm ≠ builtinsNs ∧ H0.heap.get? bm = some ob ∧ ob.cls = .type "module" ∧ ob.dict = some builtinsNs ∧ ob.data = .plain
noncomputable def CodR (q:Str):OP:=fun o => ∃ vs t,o.data = .fields vs ∧ vs[1]? = some (.str q t)
noncomputable def LamL (pos:Pos) (q:Str):Option Addr → Ldg
 | none => [(116,Is (tabObj #[]))]
 | some c => [(116,Is (tabObj #[rawInt pos.line,rawInt pos.col,.ref c])),(c,CodR q)]
theorem nt_codr (q:Str):NT (CodR q):=by rintro o ⟨vs,t,h,_⟩ ⟨_,xs,n,e⟩; rw [h] at e; cases e
section
variable {s:Shared} {g:Addr → Option Obj} {N:Ldg} {F:Addr × OP} {body:Expr} {q:Str} {lam:Option Addr}
theorem St.tab {o' oc:Obj} {c:Addr} {P:OP} (S:St H0 g (F :: (116,P) :: N) s) (hx:Heap.ExtBut 116 s.heap h') (hz:s.heap.objs.size ≤ h'.objs.size) (h1:h'.get? 116 = some o') (hc:s.heap.objs.size ≤ c) (h2:h'.get? c = some oc) {Pc:OP} (p1:P' o') (p2:Pc oc) :
 Stc H0 g (F :: (116,P') :: (c,Pc) :: N) h' s.gens s.os:=by
 have nd:=S.nd
 rw [List.map_cons,List.map_cons,List.nodup_cons,List.nodup_cons] at nd
 have g6:g 116 = none:=(S.has (116,P) (by simp)).2
 have lt:∀ p ∈ F :: (116,P) :: N,p.1 < s.heap.objs.size:=fun p hp => let ⟨⟨o,e,_⟩,_⟩:=S.has p hp; Heap.lt_size e
 refine ⟨fun b o e => hx b o (fun z => by rw [z,g6] at e; cases e) (S.keep b o e),S.low,fun p hp => ?_,?_,ltr S.size hz,S.gens,S.os⟩
 · have old:p ∈ F :: (116,P) :: N → p.1 ≠ 116 → (∃ o,h'.get? p.1 = some o ∧ p.2 o) ∧ g p.1 = none:=fun hm hne =>
    let ⟨⟨o,a,b⟩,c⟩:=S.has p hm; ⟨⟨o,hx _ _ hne a,b⟩,c⟩
   rcases List.mem_cons.mp hp with rfl | hp
   · exact old (by simp) fun e => nd.1 (by rw [e]; simp)
   · rcases List.mem_cons.mp hp with rfl | hp
     · exact ⟨⟨o',h1,p1⟩,g6⟩
     · rcases List.mem_cons.mp hp with rfl | hp
       · refine ⟨⟨oc,h2,p2⟩,?_⟩
         cases e:g c with
         | none => rfl
         | some x => exact absurd (Heap.lt_size (S.keep _ _ e)) (Nat.not_lt.mpr hc)
       · exact old (by simp [hp]) fun e => nd.2.1 (show (116:Addr) ∈ N.map (·.1) from List.mem_map.mpr ⟨p,hp,e⟩)
 · have hcn:∀ p ∈ F :: (116,P) :: N,p.1 ≠ c:=fun p hp e => by
    have:=lt p hp
    rw [e] at this
    exact absurd this (Nat.not_lt.mpr hc)
   rw [List.map_cons,List.map_cons,List.map_cons,List.nodup_cons,List.nodup_cons,List.nodup_cons]
   refine ⟨fun z => ?_,fun z => ?_,fun z => ?_,nd.2.2⟩
   · rcases List.mem_cons.mp z with z | z
     · exact nd.1 (by rw [z]; simp)
     · rcases List.mem_cons.mp z with z | z
       · exact hcn F (by simp) z
       · exact nd.1 (List.mem_cons_of_mem _ z)
   · rcases List.mem_cons.mp z with z | z
     · exact hcn (116,P) (by simp) z
     · exact nd.2.1 z
   · obtain ⟨p,hp,e⟩:=List.mem_map.mp z
     exact hcn p (by simp [hp]) e
theorem lamS (C:Cy w H0) (S:St H0 g (F :: (LamL pos q lam ++ N)) s) (hdef:defaultsOf params env = ([],[])) (hcl:closureFor scope env = pure []) (hge:env.globals = mainGlobals) (hcode:env.code = .ref 118) (hq:env.qual ++ "<lambda>" = q)
 (h:∀ s' g' f c ctv pm,gLe g g' → St H0 g' (F :: (LamL pos q (some c) ++ N)) s' → g' f = some (kla_obj "<lambda>" q params body scope [] pm c ctv) → Q (.ref f) s') :
 wpAny (model PG w) A (eval (.Lambda params body scope pos) env) Q E s:=by
 obtain ⟨⟨X,_⟩,hd,mg,bm,ob,hg,b1,b2,b3,b4,b5,b6⟩:=C
 have kp:=S.kp
 have g116:H0.heap.get? 116 = none:=by
  have:g 116 = none:=by
   cases lam with
   | none => exact (S.has (116,Is (tabObj #[])) (by simp [LamL])).2
   | some c => exact (S.has (116,Is (tabObj #[rawInt pos.line,rawInt pos.col,.ref c])) (by simp [LamL])).2
  cases e:H0.heap.get? 116 with
  | none => rfl
  | some x => rw [S.low _ _ e] at this; cases this
 have hgP:mainGlobals ≠ 116:=by decide
 have hbP:bm ≠ 116:=fun z => by rw [z,g116] at b3; cases b3
 have hbG:bm ≠ mainGlobals:=fun z => by
  obtain ⟨o,es,ep,e,hd,_⟩:=hg
  rw [z,e] at b3; cases b3; rw [hd] at b6; cases b6
 have hb:s.heap.BuiltinsAt mg 116:=⟨bm,ob,b1,b2,hbG,hbP,kp _ _ b3,b4,b5,b6⟩
 refine kla_eval hdef ?_
 rw [hq]
 cases lam with
 | none =>
  have S':St H0 g (F :: (116,Is (tabObj #[])) :: N) s:=S
  obtain ⟨o,ho,e⟩:=S'.get (.tail .head)
  have e:o = tabObj #[]:=e
  subst e
  refine wpAny_le (kla_makeFunction (mg:=mg) hcl hge (hg.keeps kp) hcode (hd.keeps kp) ho trivial rfl hgP hb fun c' ctv h' tk hx hc hlt hrec htb hle => ?_)
  obtain ⟨c₂,oc,vs,t,e2,hoc,hdt,hv⟩:=hrec
  cases e2
  have S1:St H0 g (F :: (116,Is (tabObj #[rawInt pos.line,rawInt pos.col,.ref c'])) :: (c',CodR q) :: N) { s with heap:=h',toks:=tk }:=S'.tab hx (Nat.le_of_lt (Nat.lt_of_le_of_lt hc hlt)) htb hc hoc rfl ⟨vs,t,hdt,hv⟩
  refine S1.newG (o:=kla_obj "<lambda>" q params body scope [] ((mg "__name__").getD .none) c' ctv) rfl fun g1 le1 S2 hf => ?_
  exact h _ g1 _ c' ctv _ le1 S2 hf
 | some c =>
  have S':St H0 g (F :: (116,Is (tabObj #[rawInt pos.line,rawInt pos.col,.ref c])) :: (c,CodR q) :: N) s:=S
  obtain ⟨o,ho,e⟩:=S'.get (.tail .head)
  have e:o = tabObj #[rawInt pos.line,rawInt pos.col,.ref c]:=e
  subst e
  refine wpAny_le (kla_makeFunctionHit (cv:=.ref c) (mg:=mg) hcl hge (hg.keeps kp) hcode (hd.keeps kp) ho trivial (by simp [codeAmong,rawInt]) hb fun ctv h' tk hk hz hle => ?_)
  have S1:St H0 g (F :: (116,Is (tabObj #[rawInt pos.line,rawInt pos.col,.ref c])) :: (c,CodR q) :: N) { s with heap:=h',toks:=tk }:=S'.grow hk hz
  refine S1.newG (o:=kla_obj "<lambda>" q params body scope [] ((mg "__name__").getD .none) c ctv) rfl fun g1 le1 S2 hf => ?_
  exact h _ g1 _ c ctv _ le1 S2 hf
end
variable {k1 k2:Nat} {p4 p5:Pos}
section
variable {s:Shared} {g:Addr → Option Obj} {N:Ldg} {fN:OP → Ldg} {q:Str} {f c:Addr} {ctv:Value}
theorem f_lam {x:T} {pl:Addr → Sem Bool} (C:Cx w H0) (S:St H0 g N s) (hroom:A.depth < recursionLimit)
 (hf:g f = some (kla_obj "<lambda>" q params (.Call (.Attribute (.Name "n" p1) "split" p2) [.Constant (.str "}") k1 p3,.Constant (.int 1) k2 p4] [] p5) scope [] pm c ctv)) (kc:Pk c (CodR q) N fN) (hx:x.length ≤ 1000)
 (h:∀ s' r vs,(∀ v ∈ vs,∃ y t,v = .str y t) → St H0 g ((r,Lst vs) :: N) s' → R (.ok (.ret (.ref r))) s')
 (hbind:bindArgs (kla_fn "<lambda>" q params (.Call (.Attribute (.Name "n" p1) "split" p2) [.Constant (.str "}") k1 p3,.Constant (.int 1) k2 p4] [] p5) scope [] pm (.ref c) ctv) ⟨[sv x tok],[]⟩ = pure [(Str.ofString "n",sv x tok)])
 (hcell:∀ x ∈ scope.names,x.2 ≠ .cell) (hloc:scope.names.lookup (Str.ofString "n") = some .local) (hco:scope.isCoroutine = false) (hgen:scope.isGenerator = false) (hk:scope.kind = .function)
 (he:∀ L,eval (.Call (.Attribute (.Name "n" p1) "split" p2) [.Constant (.str "}") k1 p3,.Constant (.int 1) k2 p4] [] p5) (envOf q scope L f (.ref c)) = (do
  let ov ← eval (.Name "n" p1) (envOf q scope L f (.ref c))
  standAt p2.atName
  let (fx,first) ← holding [ov] (getMethod ov "split" (pl L))
  callWith p5 fx first (backTo p5 (starEach [.Constant (.str "}") k1 p3,.Constant (.int 1) k2 p4] (envOf q scope L f (.ref c)))) [])) :
 codeAny (model PG w) A (.call (.ref f) ⟨[sv x tok],[]⟩) R s:=by
 obtain ⟨_,_,_,_,T⟩:=C.T
 have kp:=S.kp
 obtain ⟨oc,hoc,vs,t,hd,hv⟩:=S.get kc
 refine kla_callFunE hroom (S.keep _ _ hf) rfl hco hgen rfl ⟨c,oc,vs,t,rfl,hoc,hd,hv⟩ ?_
 rw [hbind]
 refine wpAny_pure (wpAny_newFunctionEnv hcell (fun y hy => by rw [List.mem_singleton] at hy; subst hy; exact hloc) (fun h₁ hns hsb => ⟨(T.nolimit.keeps kp).fresh _ hsb,?_⟩) hk)
 have S1:St H0 g ((s.heap.objs.size,Nsp fun y => [(Str.ofString "n",sv x tok)].reverse.lookup y) :: N) { s with heap:=h₁,toks:=s.toks + 1 }:=St.blk (s:=s) (S.new (P:=fun ι => True) rfl trivial) hns hsb
 have hL:H0.heap.objs.size ≤ s.heap.objs.size:=S.size
 generalize s.heap.objs.size = L at S1 hL
 show codeAny _ _ (.expr _ (envOf q scope L f (.ref c))) _ _
 refine kla_codeExpr (MethodCall_ (pl:=pl L) ?_ (he L))
 have hkl:(envOf q scope L f (.ref c)).kindOf "n" = some .local:=hloc
 refine ldE S1 rfl ?_ rfl hk hkl
 refine GM.split (callWith_method1 (spliced_more (Constant_str (spliced_more (wpAny_Constant_int (spliced_none ?_))))))
 refine S1.viaNews hL fun news F Nw b1 b2 => ?_
 refine wpAny_le (splitN2A F Nw (by decide +kernel) (by decide) (fun l h' tk e1 _ _ hl F' N' hle => ?_) (by rw [sizeLine_eq,mk_len]; lia))
 have S2:=b2 h' _ (Lst (strValues l)) hle.2 F' N' ⟨0,rfl⟩
 refine h _ _ (strValues l) (fun v hv => ?_) S2.drop
 obtain ⟨e,_,rfl⟩:=List.mem_map.mp hv
 exact ⟨_,_,rfl⟩
end
section
variable {s:Shared} {a b:Addr} {oa ob:Obj} {xs ys:Array Value} {na nb:Nat}
theorem ltLoop (ha:s.heap.get? a = some oa) (da:oa.data = .seq xs na) (hb:s.heap.get? b = some ob) (db:ob.data = .seq ys nb) (hx:∀ v ∈ xs.toList,∃ x t,v = .str x t) (hy:∀ v ∈ ys.toList,∃ x t,v = .str x t) :
 ∀ (k i:Nat) (A:Around) (R:Result → Shared → Prop),xs.size - i ≤ k → (∀ c,R (.ok (.ret (.bool c))) s) → codeAny (model PG w) A (.builtin "list.__eq__.loop" ⟨[.ref a,.ref b,.int i 0,.int 0 0],[]⟩) R s:=by
 intro k
 induction k with
 | zero =>
  intro i A R hk hR
  refine codeAny_builtin MeetsSeq3.entry_eq_loop ?_
  rw [Around.under_plainId MeetsSeq3.plain_eq_loop _]
  have e:xs[i]? = none:=by simp; omega
  show wpAny _ _ (Builtin.List.listItems (.ref a) >>= _) _ _ _
  refine wpAny_bind (listItems_at ha da (wpAny_bind (listItems_at hb db ?_)))
  rw [show ((i:Int).toNat) = i from rfl,e]
  dsimp only
  refine wpAny_bind (listItems_at ha da (wpAny_bind (listItems_at hb db ?_)))
  exact wpAny_pure (hR _)
 | succ k ih =>
  intro i A R hk hR
  refine codeAny_builtin MeetsSeq3.entry_eq_loop ?_
  rw [Around.under_plainId MeetsSeq3.plain_eq_loop _]
  show wpAny _ _ (Builtin.List.listItems (.ref a) >>= _) _ _ _
  refine wpAny_bind (listItems_at ha da (wpAny_bind (listItems_at hb db ?_)))
  rw [show ((i:Int).toNat) = i from rfl]
  cases e1:xs[i]? with
  | none =>
   dsimp only
   refine wpAny_bind (listItems_at ha da (wpAny_bind (listItems_at hb db ?_)))
   exact wpAny_pure (hR _)
  | some x =>
   cases e2:ys[i]? with
   | none =>
    dsimp only
    refine wpAny_bind (listItems_at ha da (wpAny_bind (listItems_at hb db ?_)))
    exact wpAny_pure (hR _)
   | some y =>
    obtain ⟨x,t1,rfl⟩:=hx _ (by rw [Array.mem_toList_iff]; exact Array.mem_of_getElem? e1)
    obtain ⟨y,t2,rfl⟩:=hy _ (by rw [Array.mem_toList_iff]; exact Array.mem_of_getElem? e2)
    dsimp only
    refine wpAny_bind (wpAny_eqBool_str ?_)
    have hi:i < xs.size:=(Array.getElem?_eq_some_iff.mp e1).1
    cases hd:decide (x = y) with
    | true =>
     rw [if_pos rfl]
     exact wpAny_pure ⟨plainId_quiet MeetsSeq3.plain_eq_loop _,ih (i + 1) A R (by omega) hR⟩
    | false =>
     rw [if_neg (by decide)]
     refine wpAny_bind (listItems_at ha da (wpAny_bind (listItems_at hb db ?_)))
     rw [e1,e2]
     dsimp only
     exact wpAny_bind (show wpAny _ _ (richCompare .Lt (.str x t1) (.str y t2)) _ _ _ from PyProof.Rows.lt_str (wpAny_pure (hR _)))
theorem ltL {C:Bool → Shared → Prop} (hu:A.units < cLine) (ha:s.heap.get? a = some oa) (ca:oa.cls = .type "list") (da:oa.data = .seq xs na) (hb:s.heap.get? b = some ob) (cb:ob.cls = .type "list") (db:ob.data = .seq ys nb) (hx:∀ v ∈ xs.toList,∃ x t,v = .str x t) (hy:∀ v ∈ ys.toList,∃ x t,v = .str x t)
 (h:∀ c,C c s):wpAny (model PG w) A (keyLt' oneType' (.ref a) (.ref b)) C E s:=by
 have hTa:s.TypeIs (.ref a) "list":=⟨oa,ha,ca⟩
 have hTb:s.TypeIs (.ref b) "list":=⟨ob,hb,cb⟩
 rw [keyLt'_oneType,oneLt'_eq]
 simp only [if_true]
 refine wpAny_bind (wpAny_cRoomFor hu ?_)
 refine wpAny_bind (wpAny_callSpecialIfBound?_slot hTa F.slot_list_lt (wpAny_call (codeAny_call_builtin F.slot_list_lt.plain F.entry_list_lt (F.slot_list_lt.check _ _ _ _ _ _ _ _ hTa (F.args_list_lt_2 _ _) ?_))))
 show wpAny _ _ (isInstance (.ref b) (.type "list") >>= _) _ _ _
 refine wpAny_bind (wpAny_isInstance (b:=true) hTb (by rw [isSubtype_type]; kernel_rfl) ?_)
 exact wpAny_pure ⟨plainId_quiet MeetsSeq3.plain_eq_loop _,ltLoop ha da hb db hx hy xs.size 0 _ _ (by omega) fun c => wpAny_truthy_bool (h c)⟩
end
noncomputable def KeyR (g:Addr → Option Obj) (v:Value):Prop:=∃ r o ys n,v = .ref r ∧ g r = some o ∧ o.cls = .type "list" ∧ o.data = .seq ys n ∧ ∀ x ∈ ys.toList,∃ y t,x = .str y t
theorem KeyR.up {g g':Addr → Option Obj} {v:Value} (le:gLe g g') (h:KeyR g v):KeyR g' v:=let ⟨r,o,ys,n,a,b,c⟩:=h; ⟨r,o,ys,n,a,le _ _ b,c⟩
variable {kS:Addr}
section
variable {s:Shared} {g:Addr → Option Obj} {N:Ldg} {F:Addr × OP} {a:Addr} {f:Value} {P:OP}
noncomputable abbrev CallK (w:World) (A:Around) (H0:Shared) (g₀:Addr → Option Obj) (F:Addr × OP) (N:Ldg) (kS a:Addr) (P:OP) (f x:Value):Prop:=
 ∀ g' ks (s':Shared) (Q:Value → Shared → Prop),gLe g₀ g' → St H0 g' (F :: (kS,Lst ks) :: (a,P) :: N) s' → (∀ s'' g'' k,gLe g' g'' → KeyR g'' k → St H0 g'' (F :: (kS,Lst ks) :: (a,P) :: N) s'' → Q k s'') → wpAny (model PG w) A (call f [x]) Q (fun ι ι => False) s'
theorem keysLoop {g₀:Addr → Option Obj} {body:Value → PUnit → Sem (ForInStep PUnit)} {bad:Value → Sem (ForInStep PUnit)}
 (hb:∀ x u,body x u = (do
  match ← (call f [x]).attempt with
  | .ok k => do Builtin.List.listUpdate (.ref kS) (·.push k); pure (.yield ⟨⟩)
  | .error e => bad e)):∀ (vs ks:List Value) (g:Addr → Option Obj) (s:Shared) (Q:PUnit → Shared → Prop),ks.length + vs.length ≤ 100 → (∀ x ∈ vs,CallK w A H0 g₀ F N kS a P f x) → gLe g₀ g → (∀ k ∈ ks,KeyR g k) → St H0 g (F :: (kS,Lst ks) :: (a,P) :: N) s →
  (∀ s' g' ks',gLe g g' → ks'.length = ks.length + vs.length → (∀ k ∈ ks',KeyR g' k) → St H0 g' (F :: (kS,Lst ks') :: (a,P) :: N) s' → Q ⟨⟩ s') → wpAny (model PG w) A (forIn vs ⟨⟩ body) Q E s
 | [],ks,g,s,Q,hz,hc,h0,hk,S,h => by
  rw [List.forIn_nil]
  exact wpAny_pure (h s g ks (gLe.rfl' g) rfl hk S)
 | x :: vs,ks,g,s,Q,hz,hc,h0,hk,S,h => by
  rw [List.forIn_cons,hb]
  rw [List.length_cons] at hz
  refine wpAny_bind (wpAny_bind (wpAny_attempt (wpAny_mono (hc x (List.mem_cons_self ..) g ks s (fun k s2 => ∃ g2,gLe g g2 ∧ KeyR g2 k ∧ St H0 g2 (F :: (kS,Lst ks) :: (a,P) :: N) s2) h0 S fun s2 g2 k le2 hk2 S2 => ⟨g2,le2,hk2,S2⟩) (fun k s2 q => ?_) fun _ _ z => z.elim)))
  obtain ⟨g2,le2,hk2,S2⟩:=q
  dsimp only
  obtain ⟨n,ho⟩:=S2.plist (.tail .head)
  refine wpAny_bind (listUpdate_at ho rfl ?_ (by rw [List.size_toArray,sizeLine_eq]; lia) (by simp; rw [sizeLine_eq]; lia))
  have S3:Stc H0 g2 (F :: (kS,Lst (ks ++ [k])) :: (a,P) :: N) (s2.heap.update kS (Obj.mapSeq (·.push k))) s2.gens s2.os:=S2.put (.tail .head) (Heap.SameBut.update ..) (IsL.update ho _) ⟨_,congrArg (fun z => ({ cls:=.type "list",data:=.seq z _ }:Obj)) (show ks.toArray.push k = (ks ++ [k]).toArray by simp)⟩
  refine wpAny_pure ?_
  refine keysLoop hb vs (ks ++ [k]) g2 _ Q (by simp; lia) (fun x hx => hc x (List.mem_cons_of_mem _ hx)) (h0.tr le2) (fun k' hk' => ?_) S3 fun s' g' ks' le' hl' hk' S' => h s' g' ks' (le2.tr le') (by simp at hl' ⊢; lia) hk' S'
  rcases List.mem_append.mp hk' with z | z
  · exact (hk k' z).up le2
  · rw [List.mem_singleton] at z; rw [z]; exact hk2
end
section
variable {s:Shared} {g:Addr → Option Obj} {N:Ldg} {F:Addr × OP} {a:Addr} {f:Value}
theorem tailK {st:SortSt} {out:List Value} {ks:List Value} {e1:Nat} {Q:PySem.Fin → Shared → Prop} (S:St H0 g (F :: (kS,Lst ks) :: (a,Is (seqObj "list" #[] e1)) :: N) s) (hout:(arrOf st).map (·.2) = out.toArray) (hf:failedOf st = none) (hz:out.length ≤ 100) (hk:ks.length ≤ 100)
 (h:∀ h',St H0 g (F :: (kS,Lst []) :: (a,Lst out) :: N) h' → Q (.done (.ret .none)) h'):wpAny (model PG w) A (ksk_tail a false e1 (.ref kS) st) Q E s:=by
 unfold ksk_tail
 dsimp only
 rw [hout]
 obtain ⟨n,ho⟩:=S.plist (.tail .head)
 refine wpAny_bind (listUpdate_at ho rfl ?_ (by rw [List.size_toArray,sizeLine_eq]; lia) (Nat.zero_le _))
 have S1:St H0 g (F :: (kS,Lst []) :: (a,Is (seqObj "list" #[] e1)) :: N) { s with heap:=s.heap.update kS (Obj.mapSeq fun ι => #[]) }:=S.put (.tail .head) (Heap.SameBut.update ..) (IsL.update ho _) ⟨_,rfl⟩
 refine wpAny_bind (wpAny_letGo ?_)
 obtain ⟨o,ho2,e⟩:=S1.get (.tail (.tail .head))
 have e:o = seqObj "list" #[] e1:=e
 subst e
 refine wpAny_bind (seqEpoch_at ho2 rfl ?_)
 refine wpAny_bind (listUpdate_at ho2 rfl ?_ (Nat.zero_le _) (by simp; rw [sizeLine_eq]; lia))
 rw [hf]
 dsimp only
 rw [if_neg (by simp)]
 have S2:St H0 g (F :: (kS,Lst []) :: (a,Lst out) :: N) { s with heap:=(s.heap.update kS (Obj.mapSeq fun ι => #[])).update a (Obj.mapSeq fun ι => if false = true then out.toArray.reverse else out.toArray) }:=S1.put (.tail (.tail .head)) (Heap.SameBut.update ..) (IsL.update ho2 _) ⟨_,rfl⟩
 exact wpAny_pure (h _ S2)
end
section
variable {s:Shared} {g:Addr → Option Obj} {N:Ldg} {F:Addr × OP} {a:Addr} {f:Value}
theorem endK {vs ks:List Value} {e1:Nat} {Q:PySem.Fin → Shared → Prop} (S:St H0 g (F :: (kS,Lst ks) :: (a,Is (seqObj "list" #[] e1)) :: N) s) (hl:ks.length = vs.length) (h4:vs.length ≤ 4) (hk:∀ k ∈ ks,KeyR g k) (hu:A.units < cLine)
 (h:∀ s' out,out.Perm vs → St H0 g (F :: (kS,Lst []) :: (a,Lst out) :: N) s' → Q (.done (.ret .none)) s'):wpAny (model PG w) A (ksk_end a false vs.toArray e1 (.ref kS) ks.toArray) Q E s:=by
 unfold ksk_end
 dsimp only
 simp only [Bool.false_eq_true,if_false]
 by_cases h2:vs.toArray.size < 2
 · rw [if_pos h2,if_pos h2]
   refine wpAny_bind (wpAny_pure ?_)
   rw [StateT.run_pure]
   refine wpAny_bind (wpAny_pure ?_)
   refine tailK (out:=vs) S ?_ rfl (by lia) (by lia) fun h' S' => h _ vs (.refl _) S'
   show Array.map (fun x => x.2) (ks.toArray.zip vs.toArray) = vs.toArray
   apply Array.toList_inj.mp
   rw [Array.toList_map,Array.toList_zip]
   exact List.map_snd_zip (Nat.le_of_eq hl.symm)
 · rw [if_neg h2,if_neg h2]
   rw [List.size_toArray] at h2
   refine wpAny_bind (kas_kind (T:=.type "list") (by lia) (fun v hv => ?_) (by decide) (by decide) ?_)
   · obtain ⟨r,o,ys,n,rfl,e1,e2,_⟩:=hk v hv
     exact e2 ▸ (Looks.ld (S.keep _ _ e1)).andThen .now
   refine wpAny_bind (wpAny_mono (kat_run (ks:=ks) (vs:=vs) (κ:=oneType')
    (Q:=fun st' s' => ∃ p:Array Nat,(arrOf st').map (·.2) = List.toArray (p.toList.map fun i => vs.getD i Value.none) ∧ failedOf st' = none ∧ p.toList.Perm (List.range vs.length) ∧ s' = s)
    (G:=fun p s' => p.toList.Perm (List.range vs.length) ∧ s' = s) hl (by lia) (by lia) (fun p' st' s' a1 a2 a3 a4 => ⟨p',kat_snds hl a2,a3,a4.1,a4.2⟩)
    (sortP (J:=fun s' => s' = s) (by lia) h4 (fun i j hi hj hne C s' hs hC => ?_) (fun p s' hs hp => ⟨hp,hs⟩) rfl)) ?_ fun _ _ x => x)
   · subst hs
     have gk:∀ i,i < vs.length → KeyR g (ks.getD i Value.none):=fun i hi => by
      have:ks.getD i Value.none = ks[i]:=by simp [hl ▸ hi]
      rw [this]; exact hk _ (List.getElem_mem _)
     obtain ⟨r1,o1,ys1,n1,c1,c2,c3,c4,c5⟩:=gk i hi
     obtain ⟨r2,o2,ys2,n2,d1,d2,d3,d4,d5⟩:=gk j hj
     unfold kas_ask
     rw [c1,d1]
     exact ltL hu (S.keep _ _ c2) c3 c4 (S.keep _ _ d2) d3 d4 c5 d5 fun c => hC c s' rfl
   · rintro ⟨⟨⟩,st'⟩ s' ⟨p,hp,hf,hpm,rfl⟩
     have pv:(p.toList.map fun i => vs.getD i Value.none).Perm vs:=by
      have:=hpm.map fun i => vs.getD i Value.none
      rw [range_map] at this; exact this
     exact tailK S hp hf (by rw [pv.length_eq]; lia) (by lia) fun h' S' => h _ _ pv S'
theorem treeK {vs:List Value} {Q:PySem.Fin → Shared → Prop} (S:St H0 g (F :: (a,Lst vs) :: N) s) (h4:vs.length ≤ 4) (hu:A.units < cLine)
 (hc:∀ x ∈ vs,∀ kS P,CallK w A H0 g F N kS a P f x)
 (h:∀ s' g' out,gLe g g' → out.Perm vs → St H0 g' (F :: (a,Lst out) :: N) s' → Q (.done (.ret .none)) s'):wpAny (model PG w) A (ksk_tree a f false) Q E s:=by
 obtain ⟨n,ho⟩:=S.plist (.tail .head)
 unfold ksk_tree
 refine wpAny_bind (listItems_at ho rfl ?_)
 refine wpAny_bind (listUpdate_at ho rfl ?_ (by rw [List.size_toArray,sizeLine_eq]; lia) (Nat.zero_le _))
 obtain ⟨e1,ho1⟩:∃ e1,(s.heap.update a (Obj.mapSeq fun ι => (#[]:Array Value))).get? a = some (seqObj "list" #[] e1):=⟨_,get?_update_seq ho fun ι => #[]⟩
 have S1:St H0 g (F :: (a,Is (seqObj "list" #[] e1)) :: N) { s with heap:=s.heap.update a (Obj.mapSeq fun ι => (#[]:Array Value)) }:=S.put (.tail .head) (Heap.SameBut.update ..) ho1 rfl
 refine wpAny_bind (seqEpoch_at ho1 rfl ?_)
 refine wpAny_bind (wpAny_newTuple ?_ (by show vs.length ≤ _; rw [sizeLine_eq]; lia))
 refine wpAny_bind (newLstS (vs:=[]) (S1.pushed { cls:=.type "tuple",data:=.seq vs.toArray }) (fun s3 kS S3 => ?_) (Nat.zero_le _))
 refine wpAny_holding ?_
 unfold ksk_rest
 refine wpAny_bind (wpAny_rule ?_)
 rw [List.forIn_toArray]
 refine wpAny_bind (keysLoop (f:=f) (bad:=_) (fun x u => rfl) vs [] g _ _ (by simp; lia) (fun x hx => hc x hx _ _) (gLe.rfl' g) (fun k hk => by cases hk) S3 fun s4 g4 ks le4 hl4 hk4 S4 => ?_)
 obtain ⟨n4,ho4⟩:=S4.plist (.tail .head)
 refine wpAny_bind (listItems_at ho4 rfl ?_)
 refine endK S4 (by simpa using hl4) h4 hk4 hu fun s5 out hp S5 => h s5 g4 out le4 hp (S5.swap.drop)
end
section
variable {s:Shared} {g:Addr → Option Obj} {N:Ldg} {f:OP → Ldg}
theorem dct_nil:Dct w [] { cls:=.type "dict",data:=.dict #[] }:=
 ⟨#[],0,⟨rfl,rfl,rfl⟩,rfl,(fun e he => by simp at he),.nil,List.nodup_nil⟩
theorem dctSet {d:Addr} {kvs:List (Str × Value)} {x:Str} {v:Value} {Q:Unit → Shared → Prop} (S:St H0 g N s) (k:Pk d (Dct w kvs) N f) (hz:kvs.length ≤ 100000) (h:∀ h',St H0 g (f (Dct w (stored kvs x v))) h' → Q () h'):wpAny (model PG w) A (dictSet d (.str x t) v) Q E s:=by
 refine wpAny_dictSet_pairs (strKind_is PG w x t) (S.dct k) (fun h' hm hs => ?_) (ltr hz (by decide))
 obtain ⟨o,ho,r⟩:=Heap.dictOf_iff.mp hm
 exact h _ (S.put k hs ho r)
@[reducible] noncomputable def DcEl (w:World) (H0:Shared) (Lc it acc:Addr) (p:OP) (K:(Addr → Option Obj) → Ldg → List (Str × Value) → Prop) (out:List (Str × Value)) (kv y:Value) (s:Shared):Prop:=
 ∃ x t g m N,kv = .str x t ∧ out.length ≤ 10000 ∧ K g N (stored out x y) ∧ St H0 g ((Lc,Nsp m) :: (it,p) :: (acc,Dct w out) :: N) s
theorem compD {kx vx target:Expr} {it:Addr} {n:Nat} {V:Nat → Value → Prop} (I:Ite PG w A H0 it P n V ok) (K:Nat → (Addr → Option Obj) → Ldg → List (Str × Value) → Prop)
 (hok:∀ i g' m' N' out s,K i g' N' out → St H0 g' ((Lc,Nsp m') :: (it,P i) :: (acc,Dct w out) :: N') s → ok s)
 (turn:∀ i v g' m' N' out s E',i < n → V i v → K i g' N' out → St H0 g' ((Lc,Nsp m') :: (it,P (i + 1)) :: (acc,Dct w out) :: N') s →
  wpAny (model PG w) A (assign target env v) (fun _ s₂ => wpAny (model PG w) A (eval kx env) (fun kv s₃ => wpAny (model PG w) A (eval vx env) (DcEl w H0 Lc it acc (P (i + 1)) (K (i + 1)) out kv) E' s₃) E' s₂) E' s)
 (done:∀ g' m' N' out s,K n g' N' out → St H0 g' ((Lc,Nsp m') :: (acc,Dct w out) :: N') s → R (.ok .next) s)
 (start:K 0 g N []) (S:St H0 g ((Lc,Nsp m) :: (it,P 0) :: (acc,Dct w []) :: N) s) :
 codeAny (model PG w) A (.compLoop (.DictComp kx vx [⟨target,iter,[],0⟩] scope pos) 0 (.ref it) (.ref acc) env) R s:=by
 let J:Nat → Shared → Prop:=fun j s => ∃ i g' m' N' out,i ≤ n ∧ j = n + 1 - i ∧ K i g' N' out ∧ St H0 g' ((Lc,Nsp m') :: (it,P i) :: (acc,Dct w out) :: N') s
 refine codeAny_loop rfl J ?_ (n + 1) ⟨0,g,m,N,[],Nat.zero_le _,rfl,start,S⟩
 rintro j s ⟨i,g',m',N',out,hi,rfl,hK,S'⟩
 show wpAny _ _ ((compTurn (.DictComp kx vx [⟨target,iter,[],0⟩] scope pos) 0 (.ref it) (.ref acc) env).onRaise (fun x => do noteFrame x env; theTreesLotGoes x)) _ _ s
 refine wpAny_noted ?_
 rw [compTurn_dict]
 refine wpAny_bind (wpAny_standAt (wpAny_bind ?_))
 rcases Nat.lt_or_ge i n with hv | hv
 · refine I.next hv (hok _ _ _ _ _ _ hK S') S' fun v s2 hV S2 => wpAny_bind (I.own S2 ?_)
   refine wpAny_bind (wpAny_mono (turn i v g' m' N' out _ _ hv hV hK S2) (fun _ s₂ q => ?_) fun _ _ x => x)
   refine wpAny_bind (show wpAny _ _ (forIn [] true _) _ _ _ from ?_)
   rw [List.forIn_nil]
   refine wpAny_pure ?_
   dsimp only
   rw [if_pos rfl]
   refine wpAny_bind (wpAny_bind (wpAny_mono q (fun kv s₃ r => wpAny_bind (wpAny_holding (wpAny_mono r (fun y s₄ z => ?_) fun _ _ x => x))) fun _ _ x => x))
   obtain ⟨x,t,g2,m2,N2,rfl,hz,a,b⟩:=z
   refine wpAny_bind (wpAny_standAt (wpAny_holding ?_))
   refine dctSet b (.tail (.tail .head)) (ltr hz (by decide)) fun s5 S5 => ?_
   exact wpAny_pure ⟨rfl,n + 1 - (i + 1),by omega,i + 1,g2,m2,N2,_,hv,rfl,a,S5⟩
 · cases Nat.le_antisymm hi hv
   exact I.stop (hok _ _ _ _ _ _ hK S') S' fun s2 S2 => wpAny_pure (done _ _ _ _ _ hK S2)
end
section
variable {s:Shared} {g:Addr → Option Obj} {N:Ldg} {f:OP → Ldg} {t:Tg} {rs:Bool}
noncomputable def bndO (fa x:Addr):Obj:={ cls:=.type "method",dict:=none,data:=.fields #[.ref fa,.ref x],slots:=#[] }
theorem ga_qname (X:(hd.heap_1 w.params).In H0.heap) (S:St H0 g ((L,Nsp m) :: N) s) (hL:H0.heap.objs.size ≤ L) (I:TgIn g t) (k:Pk t.dx (Is (tObj w.params t rs rd)) N f)
 (h:∀ g' h' q,gLe g g' → g' q = some (bndO 83 t.x) → St H0 g' ((L,Nsp m) :: N) h' → Q (.ref q) h'):wpAny (model PG w) A (getAttr (.ref t.x) "_qname" expr) Q E s:=by
 revert X; k_fill; intro X
 have X':(hd.heap_1 w.params).In s.heap:=X.keeps S.kp
 refine' get_bind X' (instT S I (.tail k)) ?k1 (findObj_fn ?k2 ?k3 ?k4 ?k5 ?k6 ?k7) ?k8 (wpAny_call (fn_get (s:=(tick s)) X' ?k9 (handed_on rfl ?_)))
 rotate_right
 · exact S.newG (o:=bndO 83 t.x) rfl fun g' le S' hq => h g' _ _ le hq S'
 (case k1 => k_is); (case k2 => k_is); (case k3 => k_is); (case k4 => k_is); (case k5 => k_is); (case k6 => decide +kernel); (case k8 => k_is)
 · rfl
 · rfl
theorem keeps_B {b fa x:Addr} (h:Heap) (hw:h.get? b = some (bndO fa x) ∧ ∃ o fd,h.get? fa = some o ∧ o.data = .func fd):∃ k,(k = Keeper.frame ∨ k = Keeper.machine ∨ k = Keeper.boundFrame) ∧ Looks M h (keeperOf (.ref b)) k:=by
 obtain ⟨h1,o,fd,h2,h3⟩:=hw
 refine ⟨.boundFrame,.inr (.inr rfl),(Looks.ld (part:=none) h1).andThen ?_⟩
 show Looks M h (load fa >>= fun o => _) _
 refine (Looks.ld (part:=none) h2).andThen ?_
 rw [h3]
 exact .now
theorem cwB {first:List Value} {b fa x:Addr} {e:Expr} {rest:List Expr}
 (h:wpAny M A (spliced (backTo pos (starEach (e :: rest) env))) (fun vs s₁ => (s₁.heap.get? b = some (bndO fa x) ∧ ∃ o fd,s₁.heap.get? fa = some o ∧ o.data = .func fd) ∧ wpAny M A (call (.ref b) (first ++ vs)) Q E s₁) E s)
 (he:autoParam (starEach (e :: rest) env = (false,eval e env) :: starEach rest env) aQ) (hplain:autoParam ((backTo pos (starEach rest env)).any (·.1) = false) aQ) :
 wpAny M A (callWith pos (.ref b) first (backTo pos (starEach (e :: rest) env)) []) Q E s:=by
 rw [he] at h ⊢
 exact callWith_of (by show ((false || (backTo pos (starEach rest env)).any (·.1)) || false) = false; rw [hplain]; rfl) keeps_B (evalArgs_plain h)
end
section
variable {s:Shared} {g:Addr → Option Obj} {N:Ldg} {lam:Option Addr} {q:Str} {pp1 pp2 kp cp:Pos}
theorem SX.strs {o:Obj} {es:Array (Int × Value)} {t:SetTable} (X:SX w o es ep t xs):∀ v ∈ es.toList.map (·.2),∃ y tk,v = .str y tk ∧ y ∈ xs:=by
 intro v hv
 obtain ⟨e,he,rfl⟩:=List.mem_map.mp hv
 obtain ⟨⟨kk,h1,_⟩,_⟩:=X.el e he
 have h2:=keyOf_is h1
 obtain ⟨tk,e3⟩:=Value.isStrOf_shape h1
 refine ⟨kk,tk,e3,?_⟩
 rw [← h2]
 exact X.perm.mem_iff.mp (List.mem_map_of_mem he)
noncomputable def strOf (v:Value):Str:=match v with | .str s _ => s | _ => Str.empty
theorem SX.keys {o:Obj} {es:Array (Int × Value)} {t:SetTable} (X:SX w o es ep t xs):((es.toList.map (·.2)).map strOf).Perm xs:=by
 rw [List.map_map]; exact X.perm
theorem sortedX {pl:Addr → Addr → Addr → Sem Bool} (C:Cy w H0) (hh:A.handled = none) (hroom:A.depth < recursionLimit) (hu:A.units + 2 < cLine)
 (S:St H0 g ((L,Nsp m) :: (sa,Sx w xs) :: (LamL pos q lam ++ N)) s) (hne:xs ≠ []) (hlen:∀ x ∈ xs,x.length ≤ 1000) (hm:m "qnames" = some (.ref sa))
 (h:∀ s' g' D out c,gLe g g' → (∀ v ∈ out,∃ y tk,v = .str y tk) → (out.map strOf).Perm xs → St H0 g' ((L,Nsp m) :: (D,Lst out) :: (sa,Sx w xs) :: (LamL pos q (some c) ++ N)) s' → Q (.ref D) s')
 (hdef:defaultsOf params env = ([],[])) (hcl:closureFor scope env = pure []) (hge:env.globals = mainGlobals) (hbi:env.builtins = builtinsNs) (hcode:env.code = .ref 118) (hq:env.qual ++ "<lambda>" = q)
 (hE:env.locals = L) (hk:env.scope.kind = .function) (hl1:env.kindOf "qnames" = some .local) (hl2:env.kindOf "sorted" = some .globalImplicit)
 (hbind:∀ pm c ctv x tok,bindArgs (kla_fn "<lambda>" q params (.Call (.Attribute (.Name "n" p1) "split" p2) [.Constant (.str "}") k1 p3,.Constant (.int 1) k2 p4] [] p5) scope [] pm (.ref c) ctv) ⟨[sv x tok],[]⟩ = pure [(Str.ofString "n",sv x tok)])
 (hcell:∀ x ∈ scope.names,x.2 ≠ .cell) (hloc:scope.names.lookup (Str.ofString "n") = some .local) (hco:scope.isCoroutine = false) (hgen:scope.isGenerator = false) (hkk:scope.kind = .function)
 (hee:∀ f c L,eval (.Call (.Attribute (.Name "n" p1) "split" p2) [.Constant (.str "}") k1 p3,.Constant (.int 1) k2 p4] [] p5) (envOf q scope L f (.ref c)) = (do
  let ov ← eval (.Name "n" p1) (envOf q scope L f (.ref c))
  standAt p2.atName
  let (fx,first) ← holding [ov] (getMethod ov "split" (pl f c L))
  callWith p5 fx first (backTo p5 (starEach [.Constant (.str "}") k1 p3,.Constant (.int 1) k2 p4] (envOf q scope L f (.ref c)))) []))
 (he1:eval (.Call (.Name "sorted" pp1) [.Name "qnames" pp2] [⟨some "key",.Lambda params (.Call (.Attribute (.Name "n" p1) "split" p2) [.Constant (.str "}") k1 p3,.Constant (.int 1) k2 p4] [] p5) scope pos,kp⟩] cp) env =
  (do callWith cp (← eval (.Name "sorted" pp1) env) [] (backTo cp (starEach [.Name "qnames" pp2] env)) (backToKw cp (keywordEach [⟨some "key",.Lambda params (.Call (.Attribute (.Name "n" p1) "split" p2) [.Constant (.str "}") k1 p3,.Constant (.int 1) k2 p4] [] p5) scope pos,kp⟩] env)))) :
 wpAny (model PG w) A (eval (.Call (.Name "sorted" pp1) [.Name "qnames" pp2] [⟨some "key",.Lambda params (.Call (.Attribute (.Name "n" p1) "split" p2) [.Constant (.str "}") k1 p3,.Constant (.int 1) k2 p4] [] p5) scope pos,kp⟩] cp) env) Q E s:=by
 rw [he1]
 refine wpAny_bind (blE (v:=.builtin "sorted") S C.C (by k_is) boot_sorted (by decide) ?_ hge hbi hk hl2)
 refine callWith_kw (spliced_more (ldE S hm (spliced_none ?_) hE hk hl1))
 show wpAny _ _ (evalAll [eval _ env >>= fun v => standAt cp >>= fun ι => pure v]) _ _ _
 have S0:St H0 g ((L,Nsp m) :: (LamL pos q lam ++ ((sa,Sx w xs) :: N))) s:=S.perm (.cons _ List.perm_middle.symm)
 refine wpAny_evalAll_cons (wpAny_bind (lamS C S0 hdef hcl hge hcode hq fun s1 g1 fa c ctv pm le1 S1 hf => wpAny_bind (wpAny_standAt (wpAny_pure (wpAny_evalAll_nil ?_)))))
 show wpAny _ _ (call (.builtin "sorted") [.ref sa] [(Str.ofString "key",.ref fa)]) _ _ _
 have S1':St H0 g1 ((L,Nsp m) :: (sa,Sx w xs) :: (LamL pos q (some c) ++ N)) s1:=S1.perm (.cons _ List.perm_middle)
 refine call_function_entry_kw kind_sorted plain_sorted entry_sorted (ksk_s1 _ _) ?_
 unfold Builtin.«sorted»
 refine wpAny_bind (m:=checkCount "sorted" 1 1 _) (wpAny_pure ?_)
 obtain ⟨o,ho,es,ep,t,X1⟩:=S1'.get (.tail .head)
 refine wpAny_bind (wpAny_le (collectX (A:=A.in1) hh ho X1 hne fun h2 dr ord hp hkeep hle2 => ?_))
 have S2:St H0 g1 ((L,Nsp m) :: (sa,Sx w xs) :: (LamL pos q (some c) ++ N)) { s1 with heap:=h2,drawn:=dr }:=S1'.grow hkeep hle2.2
 have hol:ord.length ≤ 4:=by
  rw [hp.length_eq,List.length_map,← List.length_map (f:=keyOf),X1.perm.length_eq]; exact X1.small
 refine wpAny_bind (newLstS S2 (fun h3 ah3 S3 => ?_) (by rw [sizeLine_eq]; lia))
 obtain ⟨n3,ho3⟩:=S3.plist (.tail .head)
 refine wpAny_bind (wpAny_holding (wpAny_call_entry_kw slot_list_sort ⟨_,ho3,rfl⟩ entry_list_sort ?body (ksk_l1 _ _)))
 case body =>
  show wpAny (model PG w) A.in1.in1 (Builtin.«list.sort» ⟨[.ref ah3],[(Str.ofString "key",.ref fa)]⟩) _ _ _
  rw [ksk_t1]
  refine treeK (A:=A.in1.in1) S3 hol hu (fun x hx kS P g' ks s' Q' le' S' hQ' => ?_) fun s4 g4 out le4 hp4 S4 => ⟨_,rfl,wpAny_pure ⟨_,rfl,h s4 g4 _ out c (le1.tr le4) (fun v hv => ?_) ?_ S4⟩⟩
  · obtain ⟨y,tk,rfl,hy⟩:=X1.strs x (hp.mem_iff.mp hx)
    have ey:y = mk y.cps.toList:=(mk_of y).symm
    have ly:y.cps.toList.length ≤ 1000:=by
     have:=hlen y hy
     rw [ey,mk_len] at this; exact this
    show wpAny _ _ (call (.ref fa) [.str y tk]) _ _ _
    rw [ey]
    refine wpAny_call (f_lam (A:=A.in1.in1) (pl:=pl fa c) C.C S' hroom (le' _ _ hf) (.tail (.tail (.tail (.tail (.tail .head))))) ly (fun s5 r vs hv S5 => ?_) (hbind _ _ _ _ _) hcell hloc hco hgen hkk (hee fa c))
    have S6:St H0 g' (((L,Nsp m) :: (kS,Lst ks) :: (ah3,P) :: (sa,Sx w xs) :: (LamL pos q (some c) ++ N)) ++ [(r,Lst vs)]) s5:=S5.perm (by
     have:=(List.perm_append_comm (l₁:=[(r,Lst vs)]) (l₂:=((L,Nsp m) :: (kS,Lst ks) :: (ah3,P) :: (sa,Sx w xs) :: (LamL pos q (some c) ++ N))))
     exact this)
    refine S6.freeze fun g6 le6 S7 hr _ => ?_
    obtain ⟨o6,e6,n6,rfl⟩:=hr _ (List.mem_singleton.mpr rfl)
    exact hQ' s5 g6 _ le6 ⟨r,_,vs.toArray,n6,rfl,e6,rfl,rfl,fun x hx => hv x (by simpa using hx)⟩ S7
  · obtain ⟨y,tk,e,_⟩:=X1.strs v (hp.mem_iff.mp (hp4.mem_iff.mp hv))
    exact ⟨y,tk,e⟩
  · exact ((hp4.trans hp).map strOf).trans X1.keys
end
noncomputable def uris:List Uri:=[.no,.xml,.xs,.u,.v,.w,.html,.rdf,.wsdl,.xsi,.dc]
noncomputable def allN:List Nm:=uris.flatMap fun u => [(u,false),(u,true)]
theorem find_name (a:Nm):allN.find? (fun n => nameS n == nameS a) = some a:=nm_all (P:=fun a => allN.find? (fun n => nameS n == nameS a) = some a) (by decide +kernel) a
theorem nameS_inj {a b:Nm} (h:nameS a = nameS b):a = b:=by
 have:=find_name a
 rw [h,find_name b] at this; exact (Option.some.inj this).symm
noncomputable abbrev nmS (n:Nm):Str:=mk (nameS n)
theorem nmS_inj {a b:Nm} (h:nmS a = nmS b):a = b:=nameS_inj (mk_inj h)
noncomputable def addN (ms:List Nm) (n:Nm):List Nm:=if n ∈ ms then ms else ms ++ [n]
theorem mem_nmS {ms:List Nm}:nmS n ∈ ms.map nmS ↔ n ∈ ms:=by
 constructor
 · intro h
   obtain ⟨m,hm,e⟩:=List.mem_map.mp h
   rw [← nmS_inj e]; exact hm
 · exact fun h => List.mem_map_of_mem h
theorem addX_N (ms:List Nm) (n:Nm):addX (ms.map nmS) (nmS n) = (addN ms n).map nmS:=by
 unfold addX addN
 by_cases h:n ∈ ms
 · rw [if_pos h,if_pos (mem_nmS.mpr h)]
 · rw [if_neg h,if_neg fun q => h (mem_nmS.mp q),List.map_append]; rfl
theorem foldX_N (ns ms:List Nm):(ns.map nmS).foldl addX (ms.map nmS) = (ns.foldl addN ms).map nmS:=by
 induction ns generalizing ms with
 | nil => rfl
 | cons n ns ih => rw [List.map_cons,List.foldl_cons,List.foldl_cons,addX_N,ih]
theorem foldN_len (ns ms:List Nm):(ns.foldl addN ms).length ≤ ms.length + ns.length:=by
 induction ns generalizing ms with
 | nil => exact Nat.le_refl _
 | cons n ns ih =>
  rw [List.foldl_cons]
  have:=ih (addN ms n)
  have h2:(addN ms n).length ≤ ms.length + 1:=by unfold addN; split <;> simp
  rw [List.length_cons]; lia
theorem foldN_mem {x:Nm} (ns ms:List Nm):x ∈ ns.foldl addN ms ↔ x ∈ ms ∨ x ∈ ns:=by
 induction ns generalizing ms with
 | nil => simp
 | cons n ns ih =>
  rw [List.foldl_cons,ih,List.mem_cons]
  have:x ∈ addN ms n ↔ x ∈ ms ∨ x = n:=by
   unfold addN; split
   · rename_i h
     exact ⟨.inl,fun q => q.elim id fun e => e ▸ h⟩
   · simp
  rw [this,or_assoc]
theorem foldN_nodup (ns ms:List Nm) (h:ms.Nodup):(ns.foldl addN ms).Nodup:=by
 induction ns generalizing ms with
 | nil => exact h
 | cons n ns ih =>
  rw [List.foldl_cons]
  refine ih _ ?_
  unfold addN; split
  · exact h
  · rename_i q
    exact List.nodup_append.mpr ⟨h,by simp,fun u hu v hv e => by rw [List.mem_singleton] at hv; rw [e,hv] at hu; exact q hu⟩
theorem names_of {out:List Value} {ns:List Nm} (h1:∀ v ∈ out,∃ y tk,v = .str y tk) (h2:(out.map strOf).Perm (ns.map nmS)):∃ ls:List Nm,ls.Perm ns ∧ Txs out (ls.map nameS):=by
 let inv:Str → Nm:=fun x => (allN.find? fun n => nmS n == x).getD (.no,false)
 have hinv:∀ n,inv (nmS n) = n:=fun n => by
  show (allN.find? fun m => nmS m == nmS n).getD _ = n
  have:(fun m => nmS m == nmS n) = fun m => nameS m == nameS n:=by
   funext m; rw [Bool.eq_iff_iff]; simp only [beq_iff_eq]; exact ⟨mk_inj,fun e => by unfold nmS; rw [e]⟩
  rw [this,find_name]; rfl
 refine ⟨out.map fun v => inv (strOf v),?_,?_⟩
 · have:=h2.map inv
   rw [List.map_map,List.map_map] at this
   have e:ns.map (inv ∘ nmS) = ns:=by
    conv => rhs; rw [← List.map_id ns]
    exact List.map_congr_left fun n _ => hinv n
   rw [e] at this
   exact this
 · have key:∀ (l:List Value),(∀ v ∈ l,∃ y tk,v = .str y tk) → (∀ v ∈ l,∃ n,strOf v = nmS n) → Txs l ((l.map fun v => inv (strOf v)).map nameS):=by
    intro l
    induction l with
    | nil => intro _ _; trivial
    | cons v l ih =>
     intro a b
     obtain ⟨y,tk,rfl⟩:=a v (List.mem_cons_self ..)
     obtain ⟨n,hn⟩:=b _ (List.mem_cons_self ..)
     have hn:y = nmS n:=hn
     refine ⟨⟨tk,?_⟩,ih (fun v hv => a v (List.mem_cons_of_mem _ hv)) fun v hv => b v (List.mem_cons_of_mem _ hv)⟩
     show Value.str y tk = sv (nameS (inv y)) tk
     rw [hn,hinv]
   refine key out h1 fun v hv => ?_
   obtain ⟨n,_,e⟩:=List.mem_map.mp (h2.mem_iff.mp (List.mem_map_of_mem hv))
   exact ⟨n,e.symm⟩
structure QF where
 dl:List Lvl
 pl:Lvl
 ps:List (Nm × Pfx)
noncomputable def qstep (rw:Bool) (nl:List Lvl) (s:QF) (n:Nm):QF:=⟨(qn rw s.dl nl s.pl n.1).decl,(qn rw s.dl nl s.pl n.1).pm,s.ps ++ [(n,(qn rw s.dl nl s.pl n.1).p)]⟩
noncomputable def qfold (rw:Bool) (nl dl:List Lvl) (pl:Lvl) (ls:List Nm):QF:=ls.foldl (qstep rw nl) ⟨dl,pl,[]⟩
theorem qfold_snoc (rw:Bool) (nl dl:List Lvl) (pl:Lvl) (ls:List Nm) (n:Nm):qfold rw nl dl pl (ls ++ [n]) = qstep rw nl (qfold rw nl dl pl ls) n:=by
 unfold qfold; rw [List.foldl_append]; rfl
theorem qfold_keys (rw:Bool) (nl dl:List Lvl) (pl:Lvl) (ls:List Nm):(qfold rw nl dl pl ls).ps.map (·.1) = ls:=by
 have:∀ (ls:List Nm) (s:QF),(ls.foldl (qstep rw nl) s).ps.map (·.1) = s.ps.map (·.1) ++ ls:=by
  intro ls
  induction ls with
  | nil => intro s; simp
  | cons n ls ih => intro s; rw [List.foldl_cons,ih]; simp [qstep]
 exact this ls _
structure QOk (rw:Bool) (nl dl:List Lvl) (pl:Lvl) (n:Nm):Prop where
 nd:(dl.flatten.map (·.2)).Nodup
 ne:dl ≠ []
 zd:dl.flatten.length ≤ 1000
 zd2:dl.length ≤ 1000
 zn:nl.flatten.length ≤ 1000
 zn2:nl.length ≤ 1000
 ok:rw = false → n.1 = .no ∨ ∃ p,nl.flatten.lookup n.1 = some p
 no:rw = false → nl.flatten.lookup .no = none
 zp:pl.length ≤ 8
 em:∀ e ∈ pl,e.2 ≠ .em
noncomputable def PqA (g:Addr → Option Obj) (e:Str × Value) (p:Nm × Pfx):Prop:=e.1 = nmS p.1 ∧ ∃ r t1 t2 t3,e.2 = .ref r ∧ g r = some (tupO [sv (qS p.2 p.1.2) t1,sv (locS p.1.2) t2,sv (uriS p.1.1) t3])
noncomputable def PQ (g:Addr → Option Obj):List (Str × Value) → List (Nm × Pfx) → Prop:=F2 (PqA g)
variable {ps:List (Nm × Pfx)}
theorem PQ.tp {g g':Addr → Option Obj} (le:tLe g g') {es:List (Str × Value)} (h:PQ g es ps):PQ g' es ps:=F2.imp (fun _ _ ⟨e,r,t1,t2,t3,a,b⟩ => ⟨e,r,t1,t2,t3,a,le _ _ b (isTp_tup _)⟩) h
theorem PQ.up {g g':Addr → Option Obj} (le:gLe g g') {es:List (Str × Value)} (h:PQ g es ps):PQ g' es ps:=h.tp fun b o e _ => le b o e
theorem PQ.len {g:Addr → Option Obj} {es:List (Str × Value)} (h:PQ g es ps):es.length = ps.length:=F2.len h
theorem PQ.keys {g:Addr → Option Obj} {es:List (Str × Value)} {ps:List (Nm × Pfx)} (h:PQ g es ps):es.map (·.1) = (ps.map (·.1)).map nmS:=by
 induction es generalizing ps with
 | nil => cases ps with
  | nil => rfl
  | cons _ _ => exact h.elim
 | cons e es ih => cases ps with
  | nil => exact h.elim
  | cons p ps => rw [List.map_cons,List.map_cons,List.map_cons,ih h.2,h.1.1]
variable {t1 t2:Tok}
theorem PQ.snoc {g:Addr → Option Obj} {p:Pfx} {r:Addr} {t3:Tok} (hr:g r = some (tupO [sv (qS p n.2) t1,sv (locS n.2) t2,sv (uriS n.1) t3])) {es:List (Str × Value)} (h:PQ g es ps):PQ g (es ++ [(nmS n,.ref r)]) (ps ++ [(n,p)]):=F2.app h ⟨⟨rfl,r,t1,t2,t3,rfl,hr⟩,trivial⟩
theorem PQ.at {g:Addr → Option Obj} {es:List (Str × Value)} {ps:List (Nm × Pfx)} (h:PQ g es ps) {p:Pfx} (hl:ps.lookup n = some p):∃ r t1 t2 t3,valueAt es (nmS n) = some (.ref r) ∧ g r = some (tupO [sv (qS p n.2) t1,sv (locS n.2) t2,sv (uriS n.1) t3]):=by
 induction es generalizing ps with
 | nil => cases ps with
  | nil => cases hl
  | cons _ _ => exact h.elim
 | cons e es ih => cases ps with
  | nil => exact h.elim
  | cons q ps =>
   obtain ⟨⟨e1,r,t1,t2,t3,a,b⟩,h⟩:=h
   rw [List.lookup_cons] at hl
   by_cases hx:n = q.1
   · subst hx
     rw [beq_self_eq_true] at hl
     cases hl
     refine ⟨r,t1,t2,t3,?_,b⟩
     unfold valueAt
     rw [List.find?_cons,e1,decide_eq_true rfl]
     exact congrArg some a
   · rw [beq_false_of_ne hx] at hl
     obtain ⟨r',a1,a2,a3,a4,a5⟩:=ih h hl
     refine ⟨r',a1,a2,a3,?_,a5⟩
     rw [← a4]
     unfold valueAt
     rw [List.find?_cons,decide_eq_false fun z => hx (nmS_inj (e1.symm.trans z)).symm]
theorem stored_new {es:List (Str × Value)} {x:Str} (h:x ∉ es.map (·.1)) (v:Value):stored es x v = es ++ [(x,v)]:=by
 unfold stored
 rw [if_neg]
 intro ha
 obtain ⟨e,he,hk⟩:=List.any_eq_true.mp ha
 have hk:e.1 = x:=by simpa using hk
 exact h (hk ▸ List.mem_map_of_mem he)
noncomputable def GD (w:World) (g:Addr → Option Obj) (d:Addr) (kvs:List (Str × Value)):Prop:=(∃ od,g d = some od ∧ Dct w kvs od) ∧ (d == sysModules) = false
section
variable {s:Shared} {g:Addr → Option Obj} {N:Ldg} {f:OP → Ldg} {d:Addr} {kvs:List (Str × Value)}
theorem GD.of (G:GD w g d kvs) (S:St H0 g N s):s.heap.DictOf (PySem.strKind PG w) d kvs:=let ⟨⟨od,h1,h2⟩,_⟩:=G; Heap.dictOf_iff.mpr ⟨od,S.keep _ _ h1,h2⟩
theorem GD.up {g':Addr → Option Obj} (le:gLe g g') (G:GD w g d kvs):GD w g' d kvs:=let ⟨⟨od,h1,h2⟩,h3⟩:=G; ⟨⟨od,le _ _ h1,h2⟩,h3⟩
theorem gdM {pl:Sem Bool} {Q:Value × List Value → Shared → Prop} (S:St H0 g N s) (G:GD w g d kvs) (slot:Slot "dict" name id) (hty:typeOf (.builtin id) = pure (.type "method_descriptor")) (h:Q (.builtin id,[.ref d]) s) :
 wpAny (model PG w) A (getMethod (.ref d) name pl) Q E s:=getMethod_builtin (G.of S).typeIs PySem.F.plainAttrs_dict slot hty (G.of S).mapOf.noDict h
theorem gdItems (S:St H0 g N s) (G:GD w g d kvs) (h:∀ h' v,St H0 g N h' → h'.heap.IsItemsView v d → Q (.ref v) h'):wpAny (model PG w) A (call (.builtin "dict.items") [.ref d]) Q E s:=
 call_meetsIn PySem.F.slot_dict_items (G.of S).typeIs PySem.F.entry_dict_items (PySem.F.args_dict_items_1 _) (meets_dict_items (PySem.strKind PG w) d G.2) ⟨⟨kvs,G.of S⟩,h _ _ (S.pushed _) ⟨_,Heap.get?_push_size _ rfl,rfl,rfl⟩⟩
theorem gdTruthy {Q:Bool → Shared → Prop} (S:St H0 g N s) (G:GD w g d kvs) (hz:kvs.length ≤ 100000) (h:Q (!kvs.isEmpty) (tick (tick s))):wpAny (model PG w) A (truthy (.ref d)) Q E s:=
 wpAny_truthy_dict G.2 (G.of S) (by lia) h
theorem gdGet1 {x:Str} (S:St H0 g N s) (G:GD w g d kvs) (h:Q ((valueAt kvs x).getD .none) (tick s)):wpAny (model PG w) A (call (.builtin "dict.get") [.ref d,.str x t]) Q E s:=
 call_meetsIn PySem.F.slot_dict_get (G.of S).typeIs PySem.F.entry_dict_get (PySem.F.args_dict_get_2 _ _) (meets_dict_get (PySem.strKind PG w) d (strKind_is PG w x t) G.2) ⟨_,(G.of S).mapOf,h⟩
theorem callBd {b fa x:Addr} {vs:List Value} (S:St H0 g N s) (hb:g b = some (bndO fa x))
 (h:codeAny (model PG w) A (.call (.ref fa) ⟨.ref x :: vs,[]⟩) (fun r s' => match r with | .ok (.ret v) => Q v s' | .error e => E e s' | _ => False) s):wpAny (model PG w) A (call (.ref b) vs) Q E s:=
 wpAny_call (ks_codeAny_call_bound (S.keep _ _ hb) (codeAny_mono h fun r s' q => by
  cases r with
  | error e => exact q
  | ok fl => cases fl <;> first | exact q | exact q.elim))
end
variable {py:Pos}
section
variable {s:Shared} {g:Addr → Option Obj} {N:Ldg}
noncomputable def CmpFinU (H0:Shared) (L Lc:Addr) (y:Str) (acc:Addr) (Q:Flow → Shared → Prop) (R:Result → Shared → Prop):Prop:=
 ∀ m m0 g N s,St H0 g ((Lc,Nsp m) :: (L,Nsp m0) :: N) s → (∀ s',St H0 g ((L,Nsp (up m0 y (.ref acc))) :: N) s' → Q .next s') → R (.ok .next) s
theorem compFinU {Q:Flow → Shared → Prop} {y:Str} (hE:env.locals = L) (hk:env.scope.kind = .function) (hl:env.kindOf y = some .local) :
 CmpFinU H0 L Lc y acc Q (compPost (model prog w) A E (some (assign (.Name y py) env)) (fun _ s' => Q .next s') (.ref acc) Lc):=fun m m0 g N s S' q => by
 show wpAny _ _ (assign (.Name y py) env (.ref acc)) _ _ _
 exact asnE S'.swap (fun s2 S2 => ⟨m,S2.swap.ns .head,fun h'' hs => q _ (S2.swap.off1 hs.extBut (Nat.le_of_eq hs.1.symm))⟩) hE hk hl
@[reducible] noncomputable def UcQ (prog:Program) (w:World) (A:Around) (H0:Shared) (env:Env) (C:Expr) (scope:Scope) (cl:List (Str × Addr)) (PA:OP) (L:Addr) (y:Str) (Q:Flow → Shared → Prop):Value → Shared → Prop:=fun x s₁ =>
 ∃ l vs g N,x = .ref l ∧ s₁.heap.IsList l (List.toArray vs) ∧ St H0 g N s₁ ∧
  ∀ it acc Lc s' R',St H0 g ((Lc,Nsp fun ι => none) :: (it,Itr l 0) :: (acc,PA) :: N) s' → s'.heap.IsList l vs.toArray → CmpFinU H0 L Lc y acc Q R' →
   codeAny (model prog w) A (.compLoop C 0 (.ref it) (.ref acc) (compEnvC scope cl Lc env)) R' s'
end
section
variable {s:Shared} {g:Addr → Option Obj} {N:Ldg}
theorem dcU {kx vx target:Expr} {ifs:List Expr} {rest:List Comprehension} {spos:Pos} {y:Str} {Q:Flow → Shared → Prop}
 (hclos:closureFor scope env = pure cl) (hkind:scope.kind = .function) (hnames:∀ x ∈ scope.names,x.2 = .local → scope.names.lookup x.1 = some .local) (hc:∀ x ∈ scope.names,x.2 ≠ .cell)
 (h:wpAny (model PG w) A (eval iter env) (UcQ PG w A H0 env (.DictComp kx vx (⟨target,iter,ifs,0⟩ :: rest) scope pos) scope cl (Dct w []) L y Q) E s)
 (hs:∀ x,foldedSetIterable iter env x = pure x:=by intro _; rfl)
 (hE:autoParam (env.locals = L) aQ) (hk0:autoParam (env.scope.kind = .function) aQ) (hl0:autoParam (env.kindOf y = some .local) aQ)
 (hsw:autoParam (swapsWith (.DictComp kx vx (⟨target,iter,ifs,0⟩ :: rest) scope pos) (some (.Name y py)) spos.line env = pure true) aQ) :
 wpAny (model PG w) A (exec (.Assign [.Name y py] (.DictComp kx vx (⟨target,iter,ifs,0⟩ :: rest) scope pos) spos) env) Q E s:=by
 rw [exec_Assign_Name_used _ _ _ _ hsw]
 refine wpAny_bind (wpAny_standAt (wpAny_bind ?_))
 show wpAny _ A (do let _ ← comprehension (.DictComp kx vx (⟨target,iter,ifs,0⟩ :: rest) scope pos) scope env iter.pos newDict false (eval iter env) (some (assign (.Name y py) env))) _ _ s
 refine wpAny_bind (wpAny_mono (wpAny_comprehension_free (Q:=fun _ s' => Q .next s') (g:=⟨target,iter,ifs,0⟩) (gs:=rest) rfl hs hclos hkind hnames (wpAny_mono h (fun x s₁ q => ?_) fun _ _ x => x)) (fun _ s' hq => wpAny_pure (wpAny_pure hq)) fun _ _ e => e)
 obtain ⟨l,vs,g,N,rfl,hl,S,go⟩:=q
 exact compGoG (post:=compPost (model PG w) A E (some (assign (.Name y py) env)) fun _ s' => Q .next s') (PA:=Dct w []) (oA:={ cls:=.type "dict",data:=.dict #[] }) S hl hc hkind (fun it acc env' R s' a b => codeAny_compStart_dict a b) (fun Q s q => wpAny_newObj_type q) rfl dct_nil fun it acc Lc s' S' hl' => go it acc Lc s' _ S' hl' (compFinU hE hk0 hl0)
end
noncomputable def rowS (r:T × T):T:=[32] ++ r.1 ++ [61,34] ++ escA r.2 ++ [34]
theorem escA_len (x:T):(escA x).length ≤ 6 * x.length:=escP_len _ 6 (by decide) (by decide) x
noncomputable def lamP:Pos:=⟨136,71,136,96⟩
noncomputable def lamQ:Str:=Str.ofString "C14NWriterTarget._start" ++ ".<locals>." ++ "<lambda>"
noncomputable def xmlnsS (p:Pfx):T:=if p = .em then [120,109,108,110,115] else [120,109,108,110,115,58] ++ pfxS p
noncomputable def nsRow (e:Uri × Pfx):T × T:=(xmlnsS e.2,uriS e.1)
noncomputable def atKey (ps:List (Nm × Pfx)) (n:Nm):T:=if n.1 = .no then locS n.2 else qS ((ps.lookup n).getD .em) n.2
noncomputable def atRow (ps:List (Nm × Pfx)) (e:Nm × T):T × T:=(atKey ps e.1,e.2)
noncomputable def tagOut (q:T) (rows:List (T × T)):List T:=[[60] ++ q] ++ (if rows = [] then [] else [(rows.map rowS).flatten]) ++ [[62]]
noncomputable def namesOf (n:Nm) (ats:List (Nm × T)):List Nm:=(ats.map (·.1)).foldl addN [n]
theorem nt_tab (xs:Array Value):NT (Is (tabObj xs)):=by
 rintro o h ⟨hc,ys,n,e⟩
 have h:o = tabObj xs:=h
 rw [h] at hc e
 first | cases e | (exact absurd hc (by decide))
theorem nt_lam (pos:Pos) (q:Str) (lam:Option Addr):∀ p ∈ LamL pos q lam,NT p.2:=by
 intro p hp
 cases lam with
 | none => rw [LamL,List.mem_singleton] at hp; subst hp; exact nt_tab _
 | some c =>
  rw [LamL] at hp
  rcases List.mem_cons.mp hp with rfl | hp
  · exact nt_tab _
  · rw [List.mem_singleton] at hp; subst hp; exact nt_codr _
variable {N1 N2:Ldg}
theorem St.sub {g:Addr → Option Obj} {N:Ldg} {s:Shared} (S:St H0 g N s) (p:N.Perm (N1 ++ N2)) (nt:∀ p ∈ N2,NT p.2) (k:∀ g₁,gLe g g₁ → St H0 g₁ N1 s →
 (∀ g₂ N' s',gLe g₁ g₂ → St H0 g₂ N' s' → ∀ {D:Prop},(∀ g₃,gLe g g₃ → St H0 g₃ (N' ++ N2) s' → tLe g₂ g₃ → D) → D) → C):C:=(S.perm p).frame nt k
theorem Txs.get {vs:List Value} {ps:List T} (h:Txs vs ps) {i:Nat} {v:Value} (e:vs[i]? = some v):∃ x t,ps[i]? = some x ∧ v = sv x t:=
 let ⟨x,e1,t,e2⟩:=F2.get h e; ⟨x,t,e1,e2⟩
theorem perm_map_inv {α β:Type} (f:α → β):∀ {l:List α} {r:List β},r.Perm (l.map f) → ∃ l':List α,l'.Perm l ∧ r = l'.map f
 | [],r,h => ⟨[],.refl _,by simpa using h.eq_nil⟩
 | x :: l,r,h => by
  have hm:f x ∈ r:=h.mem_iff.mpr (by simp)
  obtain ⟨u,v,rfl⟩:=List.append_of_mem hm
  have h2:(u ++ v).Perm (l.map f):=by
   have:=(List.perm_middle (a:=f x) (l₁:=u) (l₂:=v)).symm.trans h
   exact this.cons_inv
  obtain ⟨l',p,e⟩:=perm_map_inv f h2
  obtain ⟨l1,l2,rfl,rfl,rfl⟩:=List.append_eq_map_iff.mp e
  exact ⟨l1 ++ x :: l2,(List.perm_middle).trans (.cons _ p),by simp⟩
theorem qn_push (rw:Bool) (t:Lvl) (r nl:List Lvl) (pl:Lvl) (u:Uri):∃ x:Lvl,x.length ≤ 1 ∧ (qn rw (t :: r) nl pl u).decl = (t ++ x) :: r:=by
 unfold qn
 split
 · exact ⟨[],by simp,by simp⟩
 · split
   · split
     · exact ⟨[_],by simp,rfl⟩
     · exact ⟨[_],by simp,rfl⟩
   · split
     · exact ⟨[],by simp,by simp⟩
     · split
       · exact ⟨[_],by simp,rfl⟩
       · exact ⟨[],by simp,by simp⟩
theorem qfold_top (rw:Bool) (nl:List Lvl) (r:List Lvl):∀ (ls:List Nm) (t:Lvl) (pl:Lvl) (ps:List (Nm × Pfx)),∃ x:Lvl,x.length ≤ ls.length ∧ (ls.foldl (qstep rw nl) ⟨t :: r,pl,ps⟩).dl = (t ++ x) :: r
 | [],t,pl,ps => ⟨[],by simp,by simp⟩
 | n :: ls,t,pl,ps => by
  obtain ⟨x,h1,h2⟩:=qn_push rw t r nl pl n.1
  rw [List.foldl_cons]
  show ∃ x:Lvl,_ ∧ (ls.foldl (qstep rw nl) ⟨(qn rw (t :: r) nl pl n.1).decl,_,_⟩).dl = _
  rw [h2]
  obtain ⟨y,h3,h4⟩:=qfold_top rw nl r ls (t ++ x) (qn rw (t :: r) nl pl n.1).pm (ps ++ [(n,(qn rw (t :: r) nl pl n.1).p)])
  exact ⟨x ++ y,by simp; lia,by rw [h4,List.append_assoc]⟩
theorem xmlnsS_inj {p q:Pfx} (h:xmlnsS p = xmlnsS q):p = q:=by
 unfold xmlnsS at h
 split at h <;> split at h
 · rename_i a b; rw [a,b]
 · simp at h
 · simp at h
 · exact pfxS_inj (List.append_cancel_left h)
theorem xmlnsS_len (p:Pfx):(xmlnsS p).length ≤ 20:=by have:=pfxS_len p; unfold xmlnsS; split <;> simp; lia
theorem Rws.snoc {g:Addr → Option Obj} {vs:List Value} {rs:List (T × T)} {a:Addr} {r:T × T} (h:Rws g vs rs) (ha:g a = some (tupO [sv r.1 t1,sv r.2 t2])):Rws g (vs ++ [.ref a]) (rs ++ [r]):=by
 refine ⟨by simp [h.1],fun i hi => ?_⟩
 by_cases e:i < rs.length
 · have:=h.2 i e
   rw [List.getElem_append_left e]
   have e2:(vs ++ [Value.ref a]).getD i .none = vs.getD i .none:=by
    have:i < vs.length:=by rw [h.1]; exact e
    simp [List.getElem?_append_left this]
   rw [e2]; exact this
 · have ei:i = rs.length:=by simp at hi; lia
   subst ei
   refine ⟨a,t1,t2,?_,by simpa using ha⟩
   rw [← h.1]; simp
theorem Rws.nil (g:Addr → Option Obj):Rws g [] []:=⟨rfl,fun i hi => by simp at hi⟩
theorem Rws.get {g:Addr → Option Obj} {vs:List Value} {rs:List (T × T)} (h:Rws g vs rs) {i:Nat} {v:Value} (e:vs[i]? = some v):∃ r,rs[i]? = some r ∧ Row g v r:=by
 have hi:i < vs.length:=(List.getElem?_eq_some_iff.mp e).1
 have hi2:i < rs.length:=by rw [← h.1]; exact hi
 refine ⟨rs[i],by simp [hi2],?_⟩
 have:=h.2 i hi2
 have e2:vs.getD i .none = v:=by simp [e]
 rw [e2] at this; exact this
theorem no_space (k:Nm):nmS k ≠ Str.ofString "{http://www.w3.org/XML/1998/namespace}space":=nm_all (P:=fun k => nmS k ≠ Str.ofString "{http://www.w3.org/XML/1998/namespace}space") (by decide +kernel) k
theorem rows_len:∀ (l:List (T × T)),(∀ r ∈ l,r.1.length ≤ 40 ∧ r.2.length ≤ 100) → (l.map rowS).flatten.length ≤ l.length * 700:=by
 intro l
 induction l with
 | nil => intro _; simp
 | cons r l ih =>
  intro hl
  have h1:=ih fun r hr => hl r (List.mem_cons_of_mem _ hr)
  have h2:=hl r (List.mem_cons_self ..)
  have h3:=escA_len r.2
  have h4:(rowS r).length ≤ 700:=by unfold rowS; simp; lia
  rw [List.map_cons,List.flatten_cons,lap,List.length_cons]; lia
variable {y:Mine.T}
theorem addT {s:Shared} {x:T} {X:Str} {u:Tok} (hX:X = mk x) (hz:x.length + y.length ≤ 100000) (h:∀ t' tk,Q (sv (x ++ y) t') { s with toks:=tk }) :
 wpAny (model prog w) A (binaryOp .Add (.str X t) (.str (mk y) u)) Q E s:=by
 subst hX
 refine add_str (fun t' tk => ?_) (by rw [mk_len,mk_len]; exact szl (ltr hz (by decide)))
 rw [mk_app]
 exact h t' tk
theorem keys_nm {kvs:List (Str × Value)} {ats:List (Nm × T)} (hK:KV kvs (ats.map fun e => (nameS e.1,e.2))):kvs.map (·.1) = (ats.map (·.1)).map nmS:=by
 induction ats generalizing kvs with
 | nil => cases kvs with
  | nil => rfl
  | cons _ _ => exact hK.elim
 | cons e ats ih => cases kvs with
  | nil => exact hK.elim
  | cons k kvs => rw [List.map_cons,List.map_cons,List.map_cons,hK.1.1,ih hK.2]
theorem names_len (n:Nm) (ats:List (Nm × T)) (h:ats.length ≤ 3):(namesOf n ats).length ≤ 4:=by
 have:=foldN_len (ats.map (·.1)) [n]
 rw [List.length_map] at this
 exact ltr this (by simp; lia)
theorem names_self (n:Nm) (ats:List (Nm × T)):n ∈ namesOf n ats:=(foldN_mem _ _).mpr (.inl (List.mem_singleton.mpr rfl))
theorem look_key {k:Nm} (hk:k ∈ ps.map (·.1)):∃ p,ps.lookup k = some p:=by
 induction ps with
 | nil => cases hk
 | cons e ps ih =>
  rw [List.lookup_cons]
  by_cases he:(k == e.1) = true
  · rw [he]; exact ⟨_,rfl⟩
  · simp only [he]
    rcases List.mem_cons.mp hk with q | q
    · exact absurd (by simpa using q) he
    · exact ih q
theorem no_val {kvs:List (Str × Value)} {ats:List (Nm × T)} (hK:KV kvs (ats.map fun e => (nameS e.1,e.2))):valueAt kvs (Str.ofString "{http://www.w3.org/XML/1998/namespace}space") = none:=by
 unfold valueAt
 rw [Option.map_eq_none_iff,List.find?_eq_none]
 intro e he
 have:e.1 ∈ kvs.map (·.1):=List.mem_map_of_mem he
 rw [keys_nm hK] at this
 obtain ⟨k,_,hk⟩:=List.mem_map.mp this
 have:=no_space k
 rw [hk] at this
 simpa using this
theorem atKey_len (ps:List (Nm × Pfx)) (n:Nm):(atKey ps n).length ≤ 40:=by
 unfold atKey
 split
 · rw [locS_len]; decide
 · exact ltr (qS_len _ _) (by decide)
theorem rows_ok {xr:List (T × T)} {l0:Lvl} {as':List (Nm × T)} (hx:xr.Perm (l0.map nsRow)) (hv:∀ e ∈ as',e.2.length ≤ 100):∀ r ∈ xr ++ as'.map (atRow ps),r.1.length ≤ 40 ∧ r.2.length ≤ 100:=by
 intro r hr
 rcases List.mem_append.mp hr with hr | hr
 · obtain ⟨e,_,rfl⟩:=List.mem_map.mp (hx.mem_iff.mp hr)
   exact ⟨ltr (xmlnsS_len e.2) (by decide),ltr (uriS_len e.1) (by decide)⟩
 · obtain ⟨e,he,rfl⟩:=List.mem_map.mp hr
   exact ⟨atKey_len ps e.1,hv e he⟩
theorem nt_cons {F:Addr × OP} {N:Ldg} (h:NT F.2) (hN:∀ p ∈ N,NT p.2):∀ p ∈ F :: N,NT p.2:=fun p hp => (List.mem_cons.mp hp).elim (fun e => e ▸ h) (hN p)
noncomputable abbrev PP:=Shared → Prop
noncomputable def kn:Expr → Nat
 | .Starred _ _ => 1
 | .Call _ _ _ _ => 2
 | .ListComp .. => 3
 | .SetComp .. => 3
 | .DictComp .. => 3
 | .Set .. => 4
 | _ => 0
noncomputable def noStar:List Expr → Bool
 | [] => true
 | e :: r => bif Nat.beq (kn e) 1 then false else noStar r
noncomputable def plainB (e:Expr):Bool:=!Nat.beq (kn e) 2
noncomputable def isComp (e:Expr):Bool:=Nat.beq (kn e) 3
noncomputable def isSet (e:Expr):Bool:=Nat.beq (kn e) 4
set_option genSizeOf false in
set_option genInjectivity false in
inductive Tr where
 | fin (P:PP)
 | val (X:Sem Value) (k:Value → Tr)
 | bl (X:Sem Bool) (k:Bool → Tr)
 | un (X:Sem Unit) (k:Tr)
 | cmp (op:CmpOp) (a b:Value) (k:Bool → Tr)
 | mt (o:Value) (name:Str) (pl:Sem Bool) (k:Value × List Value → Tr)
 | ld (x:Str) (p:Pos) (k:Value → Tr)
 | st (x:Str) (v:Value) (k:Tr)
 | str (c:Str) (k:Value → Tr)
 | int (i:Int) (k:Value → Tr)
 | sub (v s:Expr) (o i:Value) (k:Value → Tr)
 | slc (o i j:Value) (k:Value → Tr)
 | cw (p:Pos) (f:Value) (first:List Value) (args:List Expr) (k:Value → Tr)
 | cal (f:Value) (vs:List Value) (k:Value → Tr)
 | kp (b:Addr) (o:Obj) (c:Tr)
 | ex (e:Expr) (k:Value → Tr)
 | itx (e:Expr) (k:Bool → Tr)
 | sm (st:Stmt) (k:Flow → Tr)
 | as (t:Expr) (v:Value) (k:Tr)
 | seq (sts:List Stmt) (k:Flow → Tr)
 | lp (t:Expr) (x:Value) (body:List Stmt) (k:Flow → Tr)
 | lc (u:Option (Value → Sem Unit)) (C:Expr) (sc:Scope) (cl:List (Str × Addr)) (x:Value) (k:Value → Tr)
structure Zc where
 w:World
 d:Nat
 u:Nat
 E:Value → PP
 env:Env
 H0:Shared
 C:Cx w H0
 hL:H0.heap.objs.size ≤ env.locals
 kf:env.scope.kind = .function
 gl:env.globals = mainGlobals
 bi:env.builtins = builtinsNs
noncomputable def slcW (o i j:Value) (k:Value → PP):PP:=fun s => ∃ x t l u,o = .str x t ∧ i = partValue l ∧ j = partValue u ∧ (sliceMade x t l u none).post k { s with heap:=s.heap.push { cls:=.type "slice",data:=.fields #[i,j,.none] } }
noncomputable def lpW (M:Model) (A:Around) (E:Value → PP) (env:Env) (t:Expr) (x:Value) (body:List Stmt) (k:Flow → PP):PP:=wpAny M A (pyIter x) (fun it => codeAny M A (.forLoop t it body [] env) (fun r s' => match r with | .ok f => k f s' | .error e => cameBackBy M A env E e s')) E
theorem Zc.i (Z:Zc):interactive Z.env = false:=by unfold interactive; rw [Z.kf]; rfl
noncomputable def lcW (M:Model) (A:Around) (E:Value → PP) (env:Env) (u:Option (Value → Sem Unit)) (C:Expr) (sc:Scope) (cl:List (Str × Addr)) (x:Value) (Q:Value → PP):PP:=wpAny M A (pyIter x) (fun it => wpAny M A (newList []) (fun acc => wpAny M A (newFunctionEnv sc env.globals cl [] env.qual none .none (some env)) (fun cenv =>
 codeAny M A (.compStart C 0 it acc { cenv with scope:=relabel sc env }) (compPost M A E u Q acc cenv.locals)) E) E) E
section
variable (M:Model) (A:Around) (E:Value → PP) (env:Env) (In:PP)
noncomputable def dn:Tr → PP
 | .fin P => P
 | .val X k => wpAny M A X (fun v => dn (k v)) E
 | .bl X k => wpAny M A X (fun v => dn (k v)) E
 | .un X k => wpAny M A X (fun ι => dn k) E
 | .cmp op a b k => wpAny M A (compareOp op a b) (fun c => wpAny M A (truthy c) (fun v => dn (k v)) E) E
 | .mt o name pl k => wpAny M A (getMethod o name pl) (fun v => dn (k v)) E
 | .ld x p k => wpAny M A (eval (.Name x p) env) (fun v => dn (k v)) E
 | .st x v k => wpAny M A (storeName env x v) (fun ι => dn k) E
 | .str c k => fun s => dn (k (.str c s.toks)) (tick s)
 | .int i k => fun s => dn (k (.int i s.toks)) (tick s)
 | .sub v s o i k => wpAny M A (subscriptTail v s o i) (fun v => dn (k v)) E
 | .slc o i j k => slcW o i j fun v => dn (k v)
 | .cw p f first args k => wpAny M A (callWith p f first (backTo p (starEach args env)) []) (fun v => dn (k v)) E
 | .cal f vs k => fun s => In s ∧ wpAny M A (call f vs) (fun v => dn (k v)) E s
 | .kp b o c => fun s => s.heap.get? b = some o ∧ dn c s
 | .ex e k => wpAny M A (eval e env) (fun v => dn (k v)) E
 | .itx e k => wpAny M A (isTrue e env (eval e env)) (fun v => dn (k v)) E
 | .sm st k => wpAny M A (exec st env) (fun v => dn (k v)) E
 | .as t v k => wpAny M A (assign t env v) (fun ι => dn k) E
 | .seq sts k => wpAny M A (execs sts env) (fun f => dn (k f)) E
 | .lp t x body k => lpW M A E env t x body fun v => dn (k v)
 | .lc u C sc cl x k => lcW M A E env u C sc cl x fun v => dn (k v)
end
noncomputable abbrev den (Z:Zc):Tr → PP:=dn (model PG Z.w) (ar Z.d Z.u) Z.E Z.env (fun s => (hd.heap_1 Z.w.params).In s.heap)
noncomputable def argT (ev:Expr → (Value → Tr) → Tr):List Expr → (List Value → Tr) → Tr
 | [],k => k []
 | e :: r,k => ev e fun v => argT ev r fun vs => k (v :: vs)
section
variable (env:Env)
noncomputable def cmpT (ev:Expr → (Value → Tr) → Tr) (e:Expr) (l:Expr) (ops:List CmpOp) (rs:List Expr) (k:Bool → Tr):Tr:=match ops with
 | [] => .itx e k
 | op :: ops => match ops,rs with
  | [],r :: rs => match rs with
   | [] => bif behindInMarks op r then .itx e k else ev l fun a => ev r fun b => .cmp op a b k
   | _ :: _ => .itx e k
  | _,_ => .itx e k
noncomputable def boT (it:Expr → (Bool → Tr) → Tr) (op:BoolOp) (xs:List Expr) (p:Pos) (k:Bool → Tr):Tr:=match op with
 | .And => match xs with
  | [] => k true
  | x :: r => it x fun c => match c with
   | true => it (.BoolOp .And r p) k
   | false => k false
 | .Or => match xs with
  | [] => k false
  | x :: r => it x fun c => match c with
   | true => k true
   | false => it (.BoolOp .Or r p) k
noncomputable def itT (ev:Expr → (Value → Tr) → Tr):Nat → Expr → (Bool → Tr) → Tr
 | 0,e,k => .itx e k
 | n + 1,e,k => match e with
  | .UnaryOp op x _ => match op with
   | .Not => itT ev n x fun b => k (!b)
   | _ => .itx e k
  | .BoolOp op xs p => boT (itT ev n) op xs p k
  | .Compare l ops rs _ => cmpT ev e l ops rs k
  | .Name _ _ => ev e fun v => .bl (truthy v) k
  | .Attribute _ _ _ => ev e fun v => .bl (truthy v) k
  | .Subscript _ _ _ => ev e fun v => .bl (truthy v) k
  | .Call _ _ _ _ => ev e fun v => .bl (truthy v) k
  | _ => .itx e k
noncomputable def cwT (ev:Expr → (Value → Tr) → Tr) (pos:Pos) (f:Value) (first:List Value) (args:List Expr) (k:Value → Tr):Tr:=match f with
 | .builtin id => argT ev args fun vs => .val (call (.builtin id) (first ++ vs)) k
 | .type T => match first,args with
  | [],e :: r => argT ev (e :: r) fun vs => .val (call (.type T) vs) k
  | _,_ => .cw pos f first args k
 | _ => .cw pos f first args k
noncomputable def conT (e:Expr) (c:Const) (k:Value → Tr):Tr:=match c with
 | .none => k .none
 | .bool b => k (.bool b)
 | .str c => .str c k
 | .int i => .int i k
 | _ => .ex e k
noncomputable def calT (ev:Expr → (Value → Tr) → Tr) (e f:Expr) (args:List Expr) (w:List Keyword) (pos:Pos) (k:Value → Tr):Tr:=match w with
 | _ :: _ => .ex e k
 | [] => match f with
  | .Name x xp => bif noStar args then .ld x xp fun f => cwT ev pos f [] args k else .ex e k
  | .Attribute o name ap => bif plainB o && noStar args && decide (args.length < 30) && (ap.endLine == pos.line) then ev o fun ov => .mt ov name (do return (← importBound o env).getD true) fun fx => cwT ev pos fx.1 fx.2 args k
   else .ex e k
  | _ => .ex e k
noncomputable def partT (ev:Expr → (Value → Tr) → Tr) (p:Option Expr) (k:Value → Tr):Tr:=match p with
 | none => k .none
 | some e => ev e k
noncomputable def evT:Nat → Expr → (Value → Tr) → Tr
 | 0,e,k => .ex e k
 | n + 1,e,k => match e with
  | .Constant c _ _ => conT e c k
  | .BinOp l op r _ => evT n l fun a => evT n r fun b => .val (binaryOp op a b) k
  | .UnaryOp op x _ => evT n x fun v => .val (unaryOp op v) k
  | .IfExp t b o _ => itT (evT n) n t fun c => match c with
   | true => evT n b k
   | false => evT n o k
  | .Compare l ops rs _ => match ops,rs with
   | op :: [],r :: [] => bif behindInMarks op r then .ex e k else evT n l fun a => evT n r fun b => .val (compareOp op a b) k
   | _,_ => .ex e k
  | .Subscript v i _ => match i with
   | .Slice _ _ _ _ => .ex e k
   | _ => evT n v fun o => evT n i fun j => .sub v i o j k
  | .Name x p => .ld x p k
  | .Attribute x attr _ => match x with
   | .Name x xp => .ld x xp fun o => .val (getAttr o attr true) k
   | _ => .ex e k
  | .Tuple es _ _ => bif noStar es then argT (evT n) es fun vs => .val (newTuple vs) k else .ex e k
  | .List es _ => bif noStar es then argT (evT n) es fun vs => .val (newList vs) k else .ex e k
  | .Call f args w pos => calT env (evT n) e f args w pos k
  | _ => .ex e k
noncomputable def seqT (sts:List Stmt) (k:Flow → Tr):Tr:=match sts with
 | [] => k .next
 | st :: r => .seq (st :: r) k
noncomputable def nxT (r:List Stmt) (k:Flow → Tr) (f:Flow):Tr:=match f with
 | .next => seqT r k
 | _ => k f
noncomputable def as1T (ev:Expr → (Value → Tr) → Tr) (s:Stmt) (t v:Expr) (k:Flow → Tr):Tr:=match t with
 | .Name x _ => bif isComp v then .sm s k else ev v fun u => .st x u (k .next)
 | .Attribute o a _ => bif isComp v then .sm s k else ev v fun u => ev o fun ov => .un (setAttr ov a u) (k .next)
 | .Subscript o i _ => bif isComp v then .sm s k else ev v fun u => ev o fun ov => ev i fun iv => .un (setItem ov iv u) (k .next)
 | _ => .sm s k
noncomputable def exT (n:Nat) (s:Stmt) (k:Flow → Tr):Tr:=match s with
 | .Return e _ => match e with
  | some e => evT env n e fun v => k (.ret v)
  | none => k (.ret .none)
 | .Pass _ => k .next
 | .If t b o _ => itT (evT env n) n t fun c => match c with
  | true => seqT b k
  | false => seqT o k
 | .Assign ts v _ => match ts with
  | [] => .sm s k
  | t :: ts => match ts with
   | [] => as1T (evT env n) s t v k
   | _ :: _ => .sm s k
 | .Expr e _ => bif isComp e then .sm s k else evT env n e fun ι => k .next
 | .For t it body els _ => match els with
  | [] => bif isSet it then .sm s k else evT env n it fun x => .lp t x body k
  | _ :: _ => .sm s k
 | _ => .sm s k
noncomputable def tgT (t:Expr) (v:Value) (k:Tr):Tr:=match t with
 | .Name x _ => .st x v k
 | .Subscript o i _ => evT env 20 o fun ov => evT env 20 i fun iv => .un (setItem ov iv v) k
 | _ => .as t v k
end
variable {In:PP}
section
variable {E:Value → PP}
theorem star_cons {e:Expr} {r:List Expr} (h:noStar (e :: r) = true):starEach (e :: r) env = (false,eval e env) :: starEach r env ∧ noStar r = true:=by
 cases e <;> first | exact ⟨rfl,h⟩ | (cases h)
theorem star_all {pos:Pos}:∀ {r:List Expr},noStar r = true → (backTo pos (starEach r env)).any (·.1) = false
 | [],_ => rfl
 | e :: r,h => by
  obtain ⟨h1,h2⟩:=star_cons (env:=env) h
  rw [h1]
  exact star_all h2
noncomputable abbrev EvOk (M:Model) (A:Around) (E:Value → PP) (env:Env) (In:PP) (ev:Expr → (Value → Tr) → Tr):Prop:=∀ {e k s},dn M A E env In (ev e k) s → wpAny M A (eval e env) (fun v => dn M A E env In (k v)) E s
noncomputable abbrev ItOk (M:Model) (A:Around) (E:Value → PP) (env:Env) (In:PP) (ev:Expr → (Bool → Tr) → Tr):Prop:=∀ {e k s},dn M A E env In (ev e k) s → wpAny M A (isTrue e env (eval e env)) (fun v => dn M A E env In (k v)) E s
theorem thn {X:Sem α} {Q Q':α → PP} {s:Shared} (h:wpAny M A X Q E s) (k:∀ v s',Q v s' → Q' v s'):wpAny M A X Q' E s:=wpAny_mono h k fun _ _ x => x
theorem bifY {b:Bool} {P:α → Prop} {x y:α} (h:P (bif b then x else y)):(b = true ∧ P x) ∨ (b = false ∧ P y):=by
 cases b
 · exact .inr ⟨rfl,h⟩
 · exact .inl ⟨rfl,h⟩
theorem argT_ok {ev} (hev:EvOk M A E env In ev) {pos:Pos}:∀ {r:List Expr} {k:List Value → Tr} {s:Shared},noStar r = true → dn M A E env In (argT ev r k) s → wpAny M A (spliced (backTo pos (starEach r env))) (fun vs => dn M A E env In (k vs)) E s
 | [],_,_,_,h => spliced_none h
 | e :: r,k,s,hn,h =>
  let ⟨h1,h2⟩:=star_cons (env:=env) hn
  spliced_more (thn (hev h) fun v s2 h' => argT_ok hev h2 h') h1
theorem boT_ok {it} (hit:ItOk M A E env In it) {op:BoolOp} {xs:List Expr} {p:Pos} {k:Bool → Tr} {s:Shared} (h:dn M A E env In (boT it op xs p k) s):wpAny M A (isTrue (.BoolOp op xs p) env (eval (.BoolOp op xs p) env)) (fun v => dn M A E env In (k v)) E s:=by
 cases op with
 | And => cases xs with
  | nil => exact isTrue_and_nil h
  | cons x r => exact isTrue_and (thn (hit h) fun c s' h' => by
   cases c with
   | true => exact ifY rfl (hit h')
   | false => exact ifN Bool.false_ne_true h')
 | Or => cases xs with
  | nil => exact isTrue_or_nil h
  | cons x r => exact isTrue_or (thn (hit h) fun c s' h' => by
   cases c with
   | true => exact ifY rfl h'
   | false => exact ifN Bool.false_ne_true (hit h'))
theorem cmpT_ok {ev} (hev:EvOk M A E env In ev) {l:Expr} {ops:List CmpOp} {rs:List Expr} {pos:Pos} {k:Bool → Tr} {s:Shared} (h:dn M A E env In (cmpT ev (.Compare l ops rs pos) l ops rs k) s) :
 wpAny M A (isTrue (.Compare l ops rs pos) env (eval (.Compare l ops rs pos) env)) (fun v => dn M A E env In (k v)) E s:=by
 cases ops with
 | nil => exact h
 | cons op ops => cases ops with
  | cons _ _ => exact h
  | nil => cases rs with
   | nil => exact h
   | cons r rs => cases rs with
    | cons _ _ => exact h
    | nil =>
     rcases bifY (P:=fun c => dn M A E env In c s) h with ⟨_,h⟩ | ⟨hm,h⟩
     · exact h
     · exact wpAny_isTrue_Compare1 (thn (hev h) fun a s₁ h₁ => hev h₁) hm
theorem itT_ok {ev} (hev:EvOk M A E env In ev):∀ n,ItOk M A E env In (itT ev n):=by
 intro n
 induction n with
 | zero => intro e k s h; exact h
 | succ n ih =>
  intro e k s h
  have pl:∀ {x:Expr},dn M A E env In (ev x fun v => .bl (truthy v) k) s → wpAny M A (eval x env) (fun v s₁ => wpAny M A (truthy v) (fun v => dn M A E env In (k v)) E s₁) E s:=fun h => hev h
  cases e with
  | UnaryOp op x p => cases op with
   | Not => exact isTrue_not (ih h)
   | _ => exact h
  | BoolOp op xs p => exact boT_ok ih h
  | Compare l ops rs pos => exact cmpT_ok hev h
  | Name x p => exact isTrue_plain (pl h)
  | Attribute x a p => exact isTrue_plain (pl h)
  | Subscript x a p => exact isTrue_plain (pl h)
  | Call x a w p => exact isTrue_plain (pl h)
  | _ => exact h
theorem plainB_he {o:Expr} {ap:Pos} {args:List Expr} (ho:plainB o = true) (hs:noStar args = true) (hl:args.length < 30) (hp:(ap.endLine == pos.line) = true):eval (.Call (.Attribute o name ap) args [] pos) env = (do
 let ov ← eval o env
 standAt ap.atName
 let (f,first) ← holding [ov] (getMethod ov name (do return (← importBound o env).getD true))
 callWith pos f first (backTo pos (starEach args env)) []):=by
 have hm:methodCallForm (args.length + 0) (backTo pos (starEach args env)) [] = true:=by
  have h1:=star_all (env:=env) (pos:=pos) hs
  unfold methodCallForm
  rw [List.any_eq_false] at h1
  have:(backTo pos (starEach args env)).all (fun x => !x.1) = true:=List.all_eq_true.mpr fun x hx => by simpa using h1 x hx
  rw [this]
  simpa using hl
 have h1:eval (.Call (.Attribute o name ap) args [] pos) env = (do
  let ov ← attributeBase o name env (eval o env)
  standAt ap.atName
  methodCall o name ap pos env ov (args.length + 0) (backTo pos (starEach args env)) []):=rfl
 rw [h1]
 unfold methodCall
 rw [hm]
 have h2:attributeBase o name env (eval o env) = eval o env:=by
  cases o <;> first | rfl | (cases ho)
 rw [h2]
 unfold methodCallPos calleeOf
 rw [hp]
 rfl
theorem cwT_ok {ev} (hev:EvOk M A E env In ev) {pos:Pos} {f:Value} {first:List Value} {args:List Expr} {k:Value → Tr} {s:Shared} (hn:noStar args = true) (h:dn M A E env In (cwT ev pos f first args k) s) :
 wpAny M A (callWith pos f first (backTo pos (starEach args env)) []) (fun v => dn M A E env In (k v)) E s:=by
 cases f with
 | builtin id =>
  cases args with
  | nil =>
   have h:wpAny M A (call (.builtin id) (first ++ [])) (fun v => dn M A E env In (k v)) E s:=h
   rw [List.append_nil] at h
   exact callWith_method0 h
  | cons e r =>
   obtain ⟨h1,h2⟩:=star_cons (env:=env) hn
   exact callWith_method1 (argT_ok (ev:=ev) (k:=fun vs => .val (call (.builtin id) (first ++ vs)) k) hev hn h) h1 (star_all h2)
 | type T => cases first with
  | cons _ _ => cases args <;> exact h
  | nil => cases args with
   | nil => exact h
   | cons e r =>
    obtain ⟨h1,h2⟩:=star_cons (env:=env) hn
    exact PyProof.Rows.callWith_type1 (argT_ok (ev:=ev) (k:=fun vs => .val (call (.type T) vs) k) hev hn h) h1 (star_all h2)
 | _ => exact h
theorem calT_ok {ev} (hev:EvOk M A E env In ev) {f:Expr} {args:List Expr} {w:List Keyword} {pos:Pos} {k:Value → Tr} {s:Shared} (h:dn M A E env In (calT env ev (.Call f args w pos) f args w pos k) s) :
 wpAny M A (eval (.Call f args w pos) env) (fun v => dn M A E env In (k v)) E s:=by
 cases w with
 | cons _ _ => exact h
 | nil => cases f with
  | Name x xp =>
   rcases bifY (P:=fun c => dn M A E env In c s) h with ⟨hn,h⟩ | ⟨_,h⟩
   · exact Call_ (thn (Q:=fun f => dn M A E env In (cwT ev pos f [] args k)) h fun f s₁ h₁ => cwT_ok hev hn h₁)
   · exact h
  | Attribute o name ap =>
   rcases bifY (P:=fun c => dn M A E env In c s) h with ⟨hn,h⟩ | ⟨_,h⟩
   · rw [Bool.and_eq_true,Bool.and_eq_true,Bool.and_eq_true,decide_eq_true_eq] at hn
     obtain ⟨⟨⟨n1,n2⟩,n3⟩,n4⟩:=hn
     exact MethodCall_ (thn (hev h) fun ov s₁ h₁ => by
      have h₁:wpAny M A (getMethod ov name (do return (← importBound o env).getD true)) (fun fx => dn M A E env In (cwT ev pos fx.1 fx.2 args k)) E s₁:=h₁
      exact thn h₁ fun fx s₂ h₂ => cwT_ok hev n2 h₂) (plainB_he n1 n2 n3 n4)
   · exact h
  | _ => exact h
theorem evT_ok:∀ n,EvOk M A E env In (evT env n):=by
 intro n
 induction n with
 | zero => intro e k s h; exact h
 | succ n ih =>
  intro e k s h
  cases e with
  | Constant c x p => cases c with
   | none => exact wpAny_Constant_none h
   | bool b => exact wpAny_Constant_bool h
   | str c => exact Constant_str h
   | int i => exact wpAny_Constant_int h
   | _ => exact h
  | BinOp l op r p => exact wpAny_BinOp (thn (ih h) fun a s₁ h₁ => ih h₁)
  | UnaryOp op x p => exact UnaryOp_ (ih h)
  | IfExp t b o p => exact IfExp_ (thn (itT_ok ih n h) fun c s₂ h₂ => by
   cases c with
   | true => exact ifY rfl (ih h₂)
   | false => exact ifN Bool.false_ne_true (ih h₂))
  | Compare l ops rs pos => cases ops with
   | nil => exact h
   | cons op ops => cases ops with
    | cons _ _ => exact h
    | nil => cases rs with
     | nil => exact h
     | cons r rs => cases rs with
      | cons _ _ => exact h
      | nil =>
       rcases bifY (P:=fun c => dn M A E env In c s) h with ⟨_,h⟩ | ⟨hm,h⟩
       · exact h
       · exact wpAny_Compare1 (thn (ih h) fun a s₁ h₁ => ih h₁) hm
  | Subscript v i p => cases i with
   | Slice _ _ _ _ => exact h
   | _ => exact Subscript_ (thn (ih h) fun a s₁ h₁ => ih h₁)
  | Attribute x a p => cases x with
   | Name x xp => exact Attribute_Name_ h
   | _ => exact h
  | Tuple es c pos =>
   rcases bifY (P:=fun c => dn M A E env In c s) h with ⟨hn,h⟩ | ⟨_,h⟩
   · exact Tuple_ (argT_ok ih hn h)
   · exact h
  | List es pos =>
   rcases bifY (P:=fun c => dn M A E env In c s) h with ⟨hn,h⟩ | ⟨_,h⟩
   · exact List_ (argT_ok ih hn h)
   · exact h
  | Call f args w pos => exact calT_ok ih h
  | _ => exact h
theorem swap_no {v:Expr} {t:Option Expr} {l:Nat} (h:isComp v = false):swapsWith v t l env = pure false:=by
 cases v <;> first | rfl | (cases h)
theorem seqT_ok {sts:List Stmt} {k:Flow → Tr} {s:Shared} (h:dn M A E env In (seqT sts k) s):wpAny M A (execs sts env) (fun v => dn M A E env In (k v)) E s:=by
 cases sts with
 | nil => exact wpAny_execs_nil h
 | cons _ _ => exact h
theorem exT_ok (hi:interactive env = false) {st:Stmt} {k:Flow → Tr} {s:Shared} {n:Nat} (h:dn (model PG w) A E env In (exT env n st k) s):wpAny (model PG w) A (exec st env) (fun v => dn (model PG w) A E env In (k v)) E s:=by
 cases st with
 | Return e p => cases e with
  | none => exact wpAny_Return_none h
  | some e => exact wpAny_Return_some (evT_ok n h)
 | Pass p => exact wpAny_Pass h
 | If t b o p => exact wpAny_If (thn (itT_ok (evT_ok n) n h) fun c s₂ h₂ => by
  cases c with
  | true => exact ifY rfl (seqT_ok h₂)
  | false => exact ifN Bool.false_ne_true (seqT_ok h₂))
 | Assign ts v pos => cases ts with
  | nil => exact h
  | cons x ts => cases ts with
   | cons _ _ => exact h
   | nil => cases x with
    | Name x px =>
     rcases bifY (P:=fun c => dn (model PG w) A E env In c s) h with ⟨_,h⟩ | ⟨hc,h⟩
     · exact h
     · exact wpAny_Assign_Name (evT_ok n h) (swap_no hc)
    | Attribute o a px =>
     rcases bifY (P:=fun c => dn (model PG w) A E env In c s) h with ⟨_,h⟩ | ⟨hc,h⟩
     · exact h
     · exact plainObj_wpAny_Assign_Attribute (thn (evT_ok n h) fun _ _ z => evT_ok n z) (swap_no hc)
    | Subscript o i px =>
     rcases bifY (P:=fun c => dn (model PG w) A E env In c s) h with ⟨_,h⟩ | ⟨hc,h⟩
     · exact h
     · exact wpAny_Assign_Subscript (thn (evT_ok n h) fun _ _ z => thn (evT_ok n z) fun _ _ z => evT_ok n z) (swap_no hc)
    | _ => exact h
 | Expr e pos =>
  rcases bifY (P:=fun c => dn (model PG w) A E env In c s) h with ⟨_,h⟩ | ⟨hc,h⟩
  · exact h
  · exact wpAny_Expr_any (evT_ok n h) hi (swap_no hc)
 | For t it body els pos => cases els with
  | cons _ _ => exact h
  | nil =>
   rcases bifY (P:=fun c => dn (model PG w) A E env In c s) h with ⟨_,h⟩ | ⟨hc,h⟩
   · exact h
   · exact wpAny_For (evT_ok n h) (by intro x; cases it <;> first | rfl | (cases hc))
 | _ => exact h
theorem seq_ok (hi:interactive env = false) {st:Stmt} {r:List Stmt} {k:Flow → Tr} {s:Shared} {n:Nat} (h:dn (model PG w) A E env In (exT env n st (nxT r k)) s):dn (model PG w) A E env In (.seq (st :: r) k) s:=by
 refine wpAny_execs_cons (thn (exT_ok hi h) fun f s' h' => ?_)
 cases f with
 | next => exact seqT_ok h'
 | _ => exact h'
end
noncomputable def At {α:Type} (p:α):Nat → List α → Prop
 | 0,q :: _ => p = q
 | i + 1,_ :: l => At p i l
 | _,[] => False
noncomputable def updL {α:Type} (p:α):Nat → List α → List α
 | 0,_ :: l => p :: l
 | i + 1,q :: l => q :: updL p i l
 | _,[] => []
noncomputable abbrev Fr1:=List (Str × Option Value)
noncomputable def setF (v:Value):Nat → Fr1 → Fr1
 | 0,p :: l => (p.1,some v) :: l
 | i + 1,p :: l => p :: setF v i l
 | _,[] => []
noncomputable def KeyAt (x:Str):Nat → Fr1 → Prop
 | 0,p :: _ => x = p.1
 | i + 1,_ :: l => KeyAt x i l
 | _,[] => False
theorem At.pk {a:Addr} {P:OP}:∀ {i:Nat} {N:Ldg},At (a,P) i N → Pk a P N fun P' => updL (a,P') i N
 | 0,_ :: _,h => by cases h; exact .head
 | _ + 1,_ :: _,h => .tail (At.pk h)
 | 0,[],h => h.elim
 | _ + 1,[],h => h.elim
theorem At.mem {α:Type} {p:α}:∀ {i:Nat} {l:List α},At p i l → p ∈ l
 | 0,_ :: _,h => by cases h; exact List.mem_cons_self ..
 | _ + 1,_ :: _,h => List.mem_cons_of_mem _ (At.mem h)
 | 0,[],h => h.elim
 | _ + 1,[],h => h.elim
theorem setF_keys {v:Value}:∀ {i:Nat} {l:Fr1},(setF v i l).map (·.1) = l.map (·.1)
 | 0,_ :: _ => rfl
 | i + 1,_ :: l => congrArg (_ :: ·) (setF_keys (i:=i) (l:=l))
 | 0,[] => rfl
 | _ + 1,[] => rfl
theorem setF_mem {v:Value} {x:Str}:∀ {i:Nat} {l:Fr1},KeyAt x i l → (l.map (·.1)).Nodup → ∀ p ∈ setF v i l,p = (x,some v) ∨ (p ∈ l ∧ p.1 ≠ x)
 | 0,q :: l,h,hn,p,hp => by
  have h:x = q.1:=h
  rcases List.mem_cons.mp hp with rfl | hp
  · exact .inl (by rw [h])
  · exact .inr ⟨List.mem_cons_of_mem _ hp,fun e => (List.nodup_cons.mp (show (q.1 :: l.map (·.1)).Nodup from hn)).1 (h ▸ e ▸ List.mem_map_of_mem hp)⟩
 | i + 1,q :: l,h,hn,p,hp => by
  have hn:=List.nodup_cons.mp (show (q.1 :: l.map (·.1)).Nodup from hn)
  rcases List.mem_cons.mp hp with rfl | hp
  · refine .inr ⟨List.mem_cons_self ..,fun e => hn.1 ?_⟩
    have:∀ {i:Nat} {l:Fr1},KeyAt x i l → x ∈ l.map (·.1):=by
     intro i
     induction i with
     | zero => intro l h; cases l with
      | nil => exact h.elim
      | cons p l => exact List.mem_cons.mpr (.inl h)
     | succ i ih => intro l h; cases l with
      | nil => exact h.elim
      | cons p l => exact List.mem_cons_of_mem _ (ih h)
    rw [e]; exact this h
  · rcases setF_mem (i:=i) h hn.2 p hp with e | ⟨h1,h2⟩
    · exact .inl e
    · exact .inr ⟨List.mem_cons_of_mem _ h1,h2⟩
 | 0,[],h,_,_,_ => h.elim
 | _ + 1,[],h,_,_,_ => h.elim
noncomputable def Frm (l:Fr1):OP:=fun o => ∃ m,Nsp m o ∧ (l.map (·.1)).Nodup ∧ ∀ p ∈ l,m p.1 = p.2
theorem nt_frm (l:Fr1):NT (Frm l):=fun o ⟨m,hm,_⟩ => nt_nsp m o hm
structure Hr (H0:Shared) (g:Addr → Option Obj) (N:Ldg) (φ:PP):Prop where
 run:∀ s,St H0 g N s → φ s
theorem St.frm {g:Addr → Option Obj} {N:Ldg} {s:Shared} {l:Fr1} (S:St H0 g ((L,Frm l) :: N) s):∃ m,St H0 g ((L,Nsp m) :: N) s ∧ (l.map (·.1)).Nodup ∧ ∀ p ∈ l,m p.1 = p.2:=by
 obtain ⟨o,ho,m,hm,hl⟩:=S.get .head
 exact ⟨m,⟨S.keep,S.low,fun p hp => by
  rcases List.mem_cons.mp hp with rfl | hp
  · exact ⟨⟨o,ho,hm⟩,(S.has _ (List.mem_cons_self ..)).2⟩
  · exact S.has p (List.mem_cons_of_mem _ hp),S.nd,S.size,S.gens,S.os⟩,hl⟩
theorem St.toFr {g:Addr → Option Obj} {N:Ldg} {s:Shared} (l:Fr1) (S:St H0 g ((L,Nsp m) :: N) s) (hn:(l.map (·.1)).Nodup) (h:∀ p ∈ l,m p.1 = p.2):St H0 g ((L,Frm l) :: N) s:=
 ⟨S.keep,S.low,fun p hp => by
  rcases List.mem_cons.mp hp with rfl | hp
  · obtain ⟨⟨o,ho,hm⟩,hx⟩:=S.has _ (List.mem_cons_self ..)
    exact ⟨⟨o,ho,m,hm,hn,h⟩,hx⟩
  · exact S.has p (List.mem_cons_of_mem _ hp),S.nd,S.size,S.gens,S.os⟩
noncomputable def G (Z:Zc) (g:Addr → Option Obj) (l:Fr1) (N:Ldg) (c:Tr):Prop:=Hr Z.H0 g ((Z.env.locals,Frm l) :: N) (den Z c)
variable {Z:Zc} {c:Tr}
theorem G.run {g:Addr → Option Obj} {l:Fr1} {N:Ldg} (h:G Z g l N c):∀ s,St Z.H0 g ((Z.env.locals,Frm l) :: N) s → den Z c s:=Hr.run h
structure Lo (env:Env) (x:Str) (k:NameKind:=.local):Prop where
 k:env.kindOf x = some k
 d:(x == ("__debug__":Str)) = false
noncomputable def rsV:Tr → Value → Tr
 | .val _ k,v => k v
 | .ld _ _ k,v => k v
 | .str _ k,v => k v
 | .int _ k,v => k v
 | .sub _ _ _ _ k,v => k v
 | .slc _ _ _ k,v => k v
 | .cal _ _ k,v => k v
 | .ex _ k,v => k v
 | .cw _ _ _ _ k,v => k v
 | .lc _ _ _ _ _ k,v => k v
 | c,_ => c
noncomputable def rsB:Tr → Bool → Tr
 | .bl _ k,b => k b
 | .cmp _ _ _ k,b => k b
 | .itx _ k,b => k b
 | c,_ => c
noncomputable def rsU:Tr → Tr
 | .un _ k => k
 | .st _ _ k => k
 | .as _ _ k => k
 | .kp _ _ k => k
 | c => c
noncomputable def rsF:Tr → Flow → Tr
 | .sm _ k,f => k f
 | .lp _ _ _ k,f => k f
 | c,_ => c
noncomputable def rsM:Tr → Value × List Value → Tr
 | .mt _ _ _ k,f => k f
 | c,_ => c
structure TV where
 e:Expr:=dkE
 e2:Expr:=dkE
 s:Stmt:=.Pass ⟨0,0,0,0⟩
 p:Pos:=⟨0,0,0,0⟩
 pl:Sem Bool:=pure true
 ar:List Expr:=[]
 fv:List Value:=[]
 bd:List Stmt:=[]
noncomputable def trV:Tr → TV
 | .ld _ p _ => { p:=p }
 | .cw p _ fv ar _ => { p:=p,fv:=fv,ar:=ar }
 | .mt _ _ pl _ => { pl:=pl }
 | .ex e _ => { e:=e }
 | .sub v s _ _ _ => { e:=v,e2:=s }
 | .lp t _ b _ => { e:=t,bd:=b }
 | .as t _ _ => { e:=t }
 | .sm s _ => { s:=s,e:=(svS s).x }
 | .lc _ C _ _ _ _ => { e:=C }
 | _ => {}
noncomputable def pC (c:Tr):Pos:=(trV c).p
noncomputable def plC (c:Tr):Sem Bool:=(trV c).pl
noncomputable def exC (c:Tr):Expr:=(trV c).e
noncomputable def e1C (c:Tr):Expr:=(trV c).e
noncomputable def e2C (c:Tr):Expr:=(trV c).e2
noncomputable def arC (c:Tr):List Expr:=(trV c).ar
noncomputable def fvC (c:Tr):List Value:=(trV c).fv
noncomputable def bdC (c:Tr):List Stmt:=(trV c).bd
noncomputable def cE (c:Tr):Expr:=(trV c).e
noncomputable def smC (c:Tr):Stmt:=(trV c).s
noncomputable def tgC (c:Tr):List Expr:=(svS (trV c).s).tg
noncomputable def cN (c:Tr):Expr:=(tgC c).headD dkE
noncomputable def cP (c:Tr):Pos:=(svS (trV c).s).p
noncomputable def dP (e:Expr):Pos:=(evE e).p
noncomputable def dkT:Tr:=.fin fun ι => True
noncomputable def hdT:Tr → Tr
 | .fin P => .fin P
 | .val X _ => .val X fun ι => dkT
 | .bl X _ => .bl X fun ι => dkT
 | .un X _ => .un X dkT
 | .cmp o a b _ => .cmp o a b fun ι => dkT
 | .mt o n _ _ => .mt o n (pure true) fun ι => dkT
 | .ld x _ _ => .ld x ⟨0,0,0,0⟩ fun ι => dkT
 | .st x v _ => .st x v dkT
 | .str x _ => .str x fun ι => dkT
 | .int x _ => .int x fun ι => dkT
 | .sub _ _ o i _ => .sub dkE dkE o i fun ι => dkT
 | .slc o i j _ => .slc o i j fun ι => dkT
 | .cw _ f _ _ _ => .cw ⟨0,0,0,0⟩ f [] [] fun ι => dkT
 | .cal f vs _ => .cal f vs fun ι => dkT
 | .kp b o _ => .kp b o dkT
 | .ex _ _ => .ex dkE fun ι => dkT
 | .itx _ _ => .itx dkE fun ι => dkT
 | .sm s _ => .sm s fun ι => dkT
 | .as _ v _ => .as dkE v dkT
 | .seq _ _ => .seq [] fun ι => dkT
 | .lp _ x _ _ => .lp dkE x [] fun ι => dkT
 | .lc u _ sc cl x _ => .lc u dkE sc cl x fun ι => dkT
noncomputable def mkT (c:Tr):Tr → Tr
 | .fin P => .fin P
 | .val X _ => .val X (rsV c)
 | .bl X _ => .bl X (rsB c)
 | .un X _ => .un X (rsU c)
 | .cmp o a b _ => .cmp o a b (rsB c)
 | .mt o n _ _ => .mt o n (plC c) (rsM c)
 | .ld x _ _ => .ld x (pC c) (rsV c)
 | .st x v _ => .st x v (rsU c)
 | .str x _ => .str x (rsV c)
 | .int x _ => .int x (rsV c)
 | .sub _ _ o i _ => .sub (e1C c) (e2C c) o i (rsV c)
 | .slc o i j _ => .slc o i j (rsV c)
 | .cw _ f _ _ _ => .cw (pC c) f (fvC c) (arC c) (rsV c)
 | .cal f vs _ => .cal f vs (rsV c)
 | .kp b o _ => .kp b o (rsU c)
 | .ex _ _ => .ex (exC c) (rsV c)
 | .itx _ _ => c
 | .sm s _ => .sm s (rsF c)
 | .as _ v _ => .as (e1C c) v (rsU c)
 | .seq _ _ => c
 | .lp _ x _ _ => .lp (e1C c) x (bdC c) (rsF c)
 | .lc u _ sc cl x _ => .lc u (cE c) sc cl x (rsV c)
theorem hdT_e (c:Tr):c = mkT c (hdT c):=by cases c <;> rfl
noncomputable def HdV (X:Sem Value) (c:Tr):Prop:=hdT c = .val X fun ι => dkT
theorem HdV.e {X:Sem Value} (h:HdV X c):c = .val X (rsV c):=(hdT_e c).trans (congrArg (mkT c) h)
noncomputable def HdB (X:Sem Bool) (c:Tr):Prop:=hdT c = .bl X fun ι => dkT
theorem HdB.e {X:Sem Bool} (h:HdB X c):c = .bl X (rsB c):=(hdT_e c).trans (congrArg (mkT c) h)
noncomputable def HdU (X:Sem Unit) (c:Tr):Prop:=hdT c = .un X dkT
theorem HdU.e {X:Sem Unit} (h:HdU X c):c = .un X (rsU c):=(hdT_e c).trans (congrArg (mkT c) h)
noncomputable def HdC (op:CmpOp) (a b:Value) (c:Tr):Prop:=hdT c = .cmp op a b fun ι => dkT
theorem HdC.e {op:CmpOp} {a b:Value} (h:HdC op a b c):c = .cmp op a b (rsB c):=(hdT_e c).trans (congrArg (mkT c) h)
noncomputable def HdM (o:Value) (n:Str) (c:Tr):Prop:=hdT c = .mt o n (pure true) fun ι => dkT
theorem HdM.e {o:Value} {n:Str} (h:HdM o n c):c = .mt o n (plC c) (rsM c):=(hdT_e c).trans (congrArg (mkT c) h)
noncomputable def HdLd (x:Str) (c:Tr):Prop:=hdT c = .ld x ⟨0,0,0,0⟩ fun ι => dkT
theorem HdLd.e {x:Str} (h:HdLd x c):c = .ld x (pC c) (rsV c):=(hdT_e c).trans (congrArg (mkT c) h)
noncomputable def HdSt (x:Str) (v:Value) (c:Tr):Prop:=hdT c = .st x v dkT
theorem HdSt.e {x:Str} {v:Value} (h:HdSt x v c):c = .st x v (rsU c):=(hdT_e c).trans (congrArg (mkT c) h)
noncomputable def HdS (x:Str) (c:Tr):Prop:=hdT c = .str x fun ι => dkT
theorem HdS.e {x:Str} (h:HdS x c):c = .str x (rsV c):=(hdT_e c).trans (congrArg (mkT c) h)
noncomputable def HdI (x:Int) (c:Tr):Prop:=hdT c = .int x fun ι => dkT
theorem HdI.e {x:Int} (h:HdI x c):c = .int x (rsV c):=(hdT_e c).trans (congrArg (mkT c) h)
noncomputable def HdSub (o i:Value) (c:Tr):Prop:=hdT c = .sub dkE dkE o i fun ι => dkT
theorem HdSub.e {o i:Value} (h:HdSub o i c):c = .sub (e1C c) (e2C c) o i (rsV c):=(hdT_e c).trans (congrArg (mkT c) h)
noncomputable def HdCw (f:Value) (c:Tr):Prop:=hdT c = .cw ⟨0,0,0,0⟩ f [] [] fun ι => dkT
theorem HdCw.e {f:Value} (h:HdCw f c):c = .cw (pC c) f (fvC c) (arC c) (rsV c):=(hdT_e c).trans (congrArg (mkT c) h)
noncomputable def HdCal (f:Value) (vs:List Value) (c:Tr):Prop:=hdT c = .cal f vs fun ι => dkT
theorem HdCal.e {f:Value} {vs:List Value} (h:HdCal f vs c):c = .cal f vs (rsV c):=(hdT_e c).trans (congrArg (mkT c) h)
noncomputable def HdKp (b:Addr) (o:Obj) (c:Tr):Prop:=hdT c = .kp b o dkT
theorem HdKp.e {b:Addr} {o:Obj} (h:HdKp b o c):c = .kp b o (rsU c):=(hdT_e c).trans (congrArg (mkT c) h)
noncomputable def HdEx (u:Unit) (c:Tr):Prop:=hdT c = .ex dkE fun ι => dkT
theorem HdEx.e {u:Unit} (h:HdEx u c):c = .ex (exC c) (rsV c):=(hdT_e c).trans (congrArg (mkT c) h)
noncomputable def HdLp (x:Value) (c:Tr):Prop:=hdT c = .lp dkE x [] fun ι => dkT
theorem HdLp.e {x:Value} (h:HdLp x c):c = .lp (e1C c) x (bdC c) (rsF c):=(hdT_e c).trans (congrArg (mkT c) h)
noncomputable def HdSm (s:Stmt) (c:Tr):Prop:=hdT c = .sm s fun ι => dkT
theorem HdSm.e {s:Stmt} (h:HdSm s c):c = .sm s (rsF c):=(hdT_e c).trans (congrArg (mkT c) h)
noncomputable def HdSl (o i j:Value) (c:Tr):Prop:=hdT c = .slc o i j fun ι => dkT
theorem HdSl.e {o i j:Value} (h:HdSl o i j c):c = .slc o i j (rsV c):=(hdT_e c).trans (congrArg (mkT c) h)
noncomputable def HdAs (v:Value) (c:Tr):Prop:=hdT c = .as dkE v dkT
theorem HdAs.e {v:Value} (h:HdAs v c):c = .as (e1C c) v (rsU c):=(hdT_e c).trans (congrArg (mkT c) h)
noncomputable def HdFin (φ:PP) (c:Tr):Prop:=hdT c = .fin φ
variable {φ:PP}
theorem HdFin.e (h:HdFin φ c):c = .fin φ:=(hdT_e c).trans (congrArg (mkT c) h)
noncomputable def HdLc (u:Option (Value → Sem Unit)) (sc:Scope) (cl:List (Str × Addr)) (x:Value) (c:Tr):Prop:=hdT c = .lc u dkE sc cl x fun ι => dkT
theorem HdLc.e {u:Option (Value → Sem Unit)} {x:Value} (h:HdLc u sc cl x c):c = .lc u (cE c) sc cl x (rsV c):=(hdT_e c).trans (congrArg (mkT c) h)
noncomputable def rsC (env:Env) (c:Tr) (f:Value):Tr:=argT (evT env 20) (arC c) fun vs => .cal f (fvC c ++ vs) (rsV c)
noncomputable def rsK (env:Env) (c:Tr) (f:Value) (b:Addr) (o:Obj):Tr:=argT (evT env 20) (arC c) fun vs => .kp b o (.val (call f (fvC c ++ vs)) (rsV c))
section
variable {g:Addr → Option Obj} {l:Fr1} {N:Ldg} {s:Shared}
noncomputable abbrev wz {α:Type} (Z:Zc) (X:Sem α) (Q:α → PP):PP:=wpAny (model PG Z.w) (ar Z.d Z.u) X Q Z.E
theorem den_at {c':Tr} (hc:c = c') (h:den Z c' s):den Z c s:=by rw [hc]; exact h
theorem outV {X:Sem Value} (hc:HdV X c) (h:wz Z X (fun v => den Z (rsV c v)) s):den Z c s:=den_at hc.e h
theorem outB {X:Sem Bool} (hc:HdB X c) (h:wz Z X (fun v => den Z (rsB c v)) s):den Z c s:=den_at hc.e h
theorem outU {X:Sem Unit} (hc:HdU X c) (h:wz Z X (fun ι => den Z (rsU c)) s):den Z c s:=den_at hc.e h
theorem outC {op:CmpOp} {a b:Value} (hc:HdC op a b c) (h:wz Z (compareOp op a b) (fun v => wz Z (truthy v) fun b => den Z (rsB c b)) s):den Z c s:=den_at hc.e h
theorem outM {o:Value} {n:Str} (hc:HdM o n c) (h:wz Z (getMethod o n (plC c)) (fun v => den Z (rsM c v)) s):den Z c s:=den_at hc.e h
theorem outSub {o i:Value} (hc:HdSub o i c) (h:wz Z (subscriptTail (e1C c) (e2C c) o i) (fun v => den Z (rsV c v)) s):den Z c s:=den_at hc.e h
theorem outLd {x:Str} (hc:HdLd x c) (h:wz Z (eval (.Name x (pC c)) Z.env) (fun v => den Z (rsV c v)) s):den Z c s:=den_at hc.e h
theorem outSt {x:Str} {v:Value} (hc:HdSt x v c) (h:wz Z (storeName Z.env x v) (fun ι => den Z (rsU c)) s):den Z c s:=den_at hc.e h
theorem outS {x:Str} (hc:HdS x c) (h:den Z (rsV c (.str x s.toks)) (tick s)):den Z c s:=den_at hc.e h
theorem outI {x:Int} (hc:HdI x c) (h:den Z (rsV c (.int x s.toks)) (tick s)):den Z c s:=den_at hc.e h
end
section
variable {g:Addr → Option Obj} {l:Fr1} {N:Ldg}
noncomputable def HdQ:Tr → Prop
 | .seq sts _ => match sts with
  | [] => False
  | _ :: _ => True
 | _ => False
noncomputable def rsQ (env:Env):Tr → Tr
 | .seq sts k => match sts with
  | [] => k .next
  | st :: r => exT env 20 st (nxT r k)
 | c => c
theorem nx {Z:Zc} {g:Addr → Option Obj} {l:Fr1} {N:Ldg} {c:Tr} (h:G Z g l N (rsQ Z.env c)) (hc:HdQ c:=by exact trivial):G Z g l N c:=Hr.mk fun s S => by
 cases c with
 | seq sts k => cases sts with
  | nil => exact hc.elim
  | cons st r => exact seq_ok Z.i (h.run s S)
 | _ => exact hc.elim
theorem ld {x:Str} {v:Value} (i:Nat) (hl:Lo Z.env x) (h:G Z g l N (rsV c v))
 (hc:autoParam (HdLd x c) aR) (hv:autoParam (At (x,some v) i l) aR):G Z g l N c:=Hr.mk fun s S => outLd hc (by
 obtain ⟨m,S1,hm⟩:=S.frm
 exact ldE S1 (hm.2 _ hv.mem) (h.run s S) rfl Z.kf hl.k hl.d)
theorem ldc {x:Str} {v:Value} {a:Addr} (i:Nat) (hl:Lo Z.env x .cell) (hx:Z.env.cells.lookup x = some a) (h:G Z g l N (rsV c v))
 (hc:autoParam (HdLd x c) aR) (hk:autoParam (At (a,Cel (some v)) i N) aR):G Z g l N c:=Hr.mk fun s S => outLd hc (ldC S (At.pk (i:=i + 1) hk) (h.run s S) hx Z.kf hl.k hl.d)
theorem gl {x:Str} {v:Value} (hl:Lo Z.env x .globalImplicit) (hx:nsIn (hd.heap_1 Z.w.params) mainGlobals x = some (some v)) (h:G Z g l N (rsV c v))
 (hc:autoParam (HdLd x c) aR):G Z g l N c:=Hr.mk fun s S => outLd hc (glE S Z.C hx (h.run s S) Z.gl Z.kf hl.k hl.d)
theorem bl {x:Str} {v:Value} (hl:Lo Z.env x .globalImplicit) (hx:nsIn (hd.heap_1 Z.w.params) mainGlobals x = some none) (hv:bootBuiltins x = some v) (hn:x ≠ "__name__") (h:G Z g l N (rsV c v))
 (hc:autoParam (HdLd x c) aR):G Z g l N c:=Hr.mk fun s S => outLd hc (blE S Z.C hx hv hn (h.run s S) Z.gl Z.bi Z.kf hl.k hl.d)
theorem st {x:Str} {v:Value} (i:Nat) (hl:Lo Z.env x) (h:G Z g (setF v i l) N (rsU c))
 (hc:autoParam (HdSt x v c) aR) (hk:autoParam (KeyAt x i l) aR):G Z g l N c:=Hr.mk fun s S => outSt hc (by
 obtain ⟨m,S1,hn,hm⟩:=S.frm
 refine stE S1 (fun s2 S2 => h.run s2 (S2.toFr _ (by rw [setF_keys]; exact hn) fun p hp => ?_)) rfl Z.kf hl.k
 rcases setF_mem hk hn p hp with rfl | ⟨h1,h2⟩
 · exact up_eq _ _ _
 · exact (up_ne h2).trans (hm p h1))
theorem stc {x:Str} {v:Value} {v0:Option Value} {a:Addr} (i:Nat) (hl:Lo Z.env x .cell) (hx:Z.env.cells.lookup x = some a) (h:G Z g l (updL (a,Cel (some v)) i N) (rsU c))
 (hc:autoParam (HdSt x v c) aR) (hk:autoParam (At (a,Cel v0) i N) aR):G Z g l N c:=Hr.mk fun s S => outSt hc (stC S (At.pk (i:=i + 1) hk) (fun s2 S2 => h.run s2 S2) hx Z.kf hl.k)
theorem letG (h:let c':=c; let l':=l; let N':=N; G Z g l' N' c'):G Z g l N c:=h
theorem cs {x:Str} (h:let c':=c; let l':=l; let N':=N; ∀ t,G Z g l' N' (rsV c' (.str x t)))
 (hc:autoParam (HdS x c) aR):G Z g l N c:=Hr.mk fun s S => outS hc ((h s.toks).run (tick s) S)
theorem csM {X:Str} (x:T) (h:let c':=c; let l':=l; let N':=N; ∀ t,G Z g l' N' (rsV c' (sv x t)))
 (hc:autoParam (HdS X c) aR) (hX:X = mk x:=by kernel_rfl):G Z g l N c:=by subst hX; exact cs h hc
theorem ci {x:Int} (h:let c':=c; let l':=l; let N':=N; ∀ t,G Z g l' N' (rsV c' (.int x t)))
 (hc:autoParam (HdI x c) aR):G Z g l N c:=Hr.mk fun s S => outI hc ((h s.toks).run (tick s) S)
theorem tn (h:G Z g l N (rsB c false))
 (hc:autoParam (HdB (truthy .none) c) aR):G Z g l N c:=Hr.mk fun s S => outB hc (truthy_none (h.run s S))
theorem tb {b:Bool} (h:G Z g l N (rsB c b))
 (hc:autoParam (HdB (truthy (.bool b)) c) aR):G Z g l N c:=Hr.mk fun s S => outB hc (wpAny_truthy_bool (h.run s S))
theorem neg {i:Int} (h:let c':=c; let l':=l; let N':=N; ∀ t,G Z g l' N' (rsV c' (.int (-i) t)))
 (hc:autoParam (HdV (unaryOp .USub (.int i t)) c) aR):G Z g l N c:=Hr.mk fun s S => outV hc (neg_int ((h _).run (tick s) S))
theorem gap {a:Addr} {its:List Value} (i:Nat) (h:G Z g l N (rsM c (.builtin "list.append",[.ref a])))
 (hk:autoParam (At (a,Lst its) i N) aR) (hc:autoParam (HdM (.ref a) "append" c) aR):G Z g l N c:=Hr.mk fun s S => outM hc <| gmApp S (At.pk (i:=i + 1) hk) (h.run s S)
theorem app {a:Addr} {its its':List Value} {x:Value} (i:Nat) (h:G Z g l (updL (a,Lst its') i N) (rsV c .none))
 (hk:autoParam (At (a,Lst its) i N) aR) (hc:autoParam (HdV (call (.builtin "list.append") [.ref a,x]) c) aR) (hz:its.length ≤ sizeLine:=by exact Nat.le_of_ble_eq_true rfl) (he:autoParam (its' = its ++ [x]) aR):G Z g l N c:=Hr.mk fun s S => outV hc (appS S (At.pk (i:=i + 1) hk) hz fun s2 S2 => h.run s2 (he ▸ S2))
theorem last {a:Addr} {its:List Value} {x:Value} (i:Nat) (h:G Z g l N (rsV c x))
 (hk:autoParam (At (a,Lst its) i N) aR) (hc:autoParam (HdSub (.ref a) (.int (-1) t) c) aR) (hs:autoParam (operate [(.ref a),(.int (-1) t)] (getItem (.ref a) (.int (-1) t)) = subscripted (e2C c) false (.ref a) (.int (-1) t)) aR) (hx:autoParam (its.getLast? = some x) aR):G Z g l N c:=Hr.mk fun s S => outSub hc (lastTail S (At.pk (i:=i + 1) hk) hx (h.run s S) hs.symm)
section
variable {t:Tg} {rs b:Bool}
theorem gps (I:TgIn g t) (i:Nat) (h:G Z g l N (rsV c (.ref t.ps)))
 (hk:autoParam (At (t.dx,Is (tObj Z.w.params t rs rd)) i N) aR) (hc:autoParam (HdV (getAttr (.ref t.x) "_preserve_space" b) c) aR):G Z g l N c:=Hr.mk fun s S => outV hc (ga_ps Z.C.X S I (At.pk (i:=i + 1) hk) (h.run (tick s) S))
theorem gwr (I:TgIn g t) (i:Nat) (h:G Z g l N (rsV c (.ref t.wr)))
 (hk:autoParam (At (t.dx,Is (tObj Z.w.params t rs rd)) i N) aR) (hc:autoParam (HdV (getAttr (.ref t.x) "_write" b) c) aR):G Z g l N c:=Hr.mk fun s S => outV hc (ga_write Z.C.X S I (At.pk (i:=i + 1) hk) (h.run (tick s) S))
end
noncomputable def wrO (o:Addr):Obj:={ cls:=.type "builtin_function_or_method",data:=.fields #[.builtin "list.append",.ref o] }
theorem cwk {wr o:Addr} (h:G Z g l N (rsK Z.env c (.ref wr) wr (wrO o)))
 (hc:autoParam (HdCw (.ref wr) c) aR) (hn:autoParam ((noStar (arC c),(arC c).isEmpty) = (true,false)) aR):G Z g l N c:=Hr.mk fun s S => by
 injection hn with h1 h2
 refine den_at hc.e ?_
 have h:=h.run s S
 unfold rsK at h
 generalize arC c = args at *
 cases args with
 | nil => cases h2
 | cons e rest =>
  obtain ⟨h3,h4⟩:=star_cons (env:=Z.env) h1
  exact cwW (thn (argT_ok (ev:=evT Z.env 20) (k:=fun vs => .kp wr (wrO o) (.val (call (.ref wr) (fvC c ++ vs)) (rsV c))) (evT_ok 20) h1 h) fun _ _ z => z) h3 (star_all h4)
theorem kp {b:Addr} {o:Obj} (hg:g b = some o) (h:G Z g l N (rsU c))
 (hc:autoParam (HdKp b o c) aR):G Z g l N c:=Hr.mk fun s S => den_at hc.e ⟨S.keep _ _ hg,h.run s S⟩
theorem gdm {d:Addr} {kvs:List (Str × Value)} (D:GD Z.w g d kvs) (slot:Slot "dict" name id) (hty:typeOf (.builtin id) = pure (.type "method_descriptor")) (h:G Z g l N (rsM c (.builtin id,[.ref d])))
 (hc:autoParam (HdM (.ref d) name c) aR):G Z g l N c:=Hr.mk fun s S => outM hc <| gdM S D slot hty (h.run s S)
theorem gdg1 {d:Addr} {kvs:List (Str × Value)} {x:Str} {v:Value} (D:GD Z.w g d kvs) (h:G Z g l N (rsV c v))
 (hc:autoParam (HdV (call (.builtin "dict.get") [.ref d,.str x t]) c) aR) (hv:autoParam ((valueAt kvs x).getD .none = v) aR):G Z g l N c:=Hr.mk fun s S => outV hc (gdGet1 S D (by rw [hv]; exact h.run (tick s) S))
theorem dct {d:Addr} {kvs:List (Str × Value)} {x:Str} {v:Value} (i:Nat) (h:G Z g l N (rsV c v))
 (hk:autoParam (At (d,Dct Z.w kvs) i N) aR) (hc:autoParam (HdSub (.ref d) (.str x t) c) aR) (hs:autoParam (operate [(.ref d),(.str x t)] (getItem (.ref d) (.str x t)) = subscripted (e2C c) false (.ref d) (.str x t)) aR) (hv:autoParam (valueAt kvs x = some v) aR):G Z g l N c:=Hr.mk fun s S => outSub hc (dctTail S (At.pk (i:=i + 1) hk) hv (h.run (tick s) S) hs.symm)
theorem tup {r:Addr} {vs:List Value} {x:Value} {i:Nat} (hg:g r = some (tupO vs)) (h:G Z g l N (rsV c x))
 (hc:autoParam (HdSub (.ref r) (.int i t) c) aR) (hs:autoParam (operate [(.ref r),(.int i t)] (getItem (.ref r) (.int i t)) = subscripted (e2C c) false (.ref r) (.int i t)) aR) (hx:autoParam (vs[i]? = some x) aR) (hz:vs.length < 2 ^ 62:=by exact Nat.le_of_ble_eq_true rfl):G Z g l N c:=Hr.mk fun s S => outSub hc (tupTail S hg hx hz (h.run s S) hs.symm)
theorem adT {x:T} {u:Tok} (h:let c':=c; let l':=l; let N':=N; ∀ t',G Z g l' N' (rsV c' (sv (x ++ y) t')))
 (hc:autoParam (HdV (binaryOp .Add (sv x t) (sv y u)) c) aR) (hz:x.length + y.length ≤ 100000:=by exact Nat.le_of_ble_eq_true rfl):G Z g l N c:=Hr.mk fun s S => outV hc (addT rfl hz fun t' tk => (h t').run { s with toks:=tk } S)
theorem cwr {t:Tg} {its:List Value} {v:Value} (I:TgIn g t) (i:Nat) (h:G Z g l (updL (t.out,Lst (its ++ [v])) i N) (rsV c .none))
 (hk:autoParam (At (t.out,Lst its) i N) aR) (hc:autoParam (HdV (call (.ref t.wr) [v]) c) aR) (hz:its.length ≤ sizeLine:=by exact Nat.le_of_ble_eq_true rfl):G Z g l N c:=Hr.mk fun s S => outV hc (callWr S I (At.pk (i:=i + 1) hk) hz fun s2 S2 => h.run s2 S2)
end
noncomputable abbrev go (Z:Zc) (sts:List Stmt) (k:Flow → Tr):Tr:=.seq sts k
noncomputable def finT (Q:Flow → PP) (f:Flow):Tr:=.fin (Q f)
section
variable {g:Addr → Option Obj} {N:Ldg}
theorem Hr.perm (p:N.Perm N1) (h:Hr H0 g N1 φ):Hr H0 g N φ:=Hr.mk fun s S => h.run s (S.perm p)
theorem Hr.dropN:∀ {N:Ldg} (i:Nat) (h:Hr H0 g (N.drop i) φ),Hr H0 g N φ
 | _,0,h => h
 | [],_ + 1,h => h
 | _ :: _,i + 1,h => Hr.mk fun s S => (Hr.dropN i h).run s S.drop
theorem Hr.weak {g':Addr → Option Obj} (le:gLe g g') (low:∀ b o,H0.heap.get? b = some o → g b = some o) (h:Hr H0 g N φ):Hr H0 g' N φ:=Hr.mk fun s S => h.run s (S.weak le low)
theorem Hr.drop {F:Addr × OP} (h:Hr H0 g N φ):Hr H0 g (F :: N) φ:=Hr.mk fun s S => h.run s S.drop
end
section
variable {g:Addr → Option Obj} {l:Fr1} {N:Ldg}
theorem G.eqN (h:G Z g l N1 c) (e:N1 = N):G Z g l N c:=e ▸ h
theorem G.perm (p:N.Perm N1) (h:G Z g l N1 c):G Z g l N c:=Hr.perm (.cons _ p) h
theorem G.dropN (i:Nat) (h:G Z g l (N.drop i) c):G Z g l N c:=Hr.mk fun s S => by
 induction i generalizing N with
 | zero => exact h.run s S
 | succ i ih => cases N with
  | nil => exact h.run s S
  | cons p N => exact ih h (S.perm (.swap _ _ _)).drop
theorem G.low (h:(∀ b o,Z.H0.heap.get? b = some o → g b = some o) → G Z g l N c):G Z g l N c:=Hr.mk fun s S => (h S.low).run s S
theorem G.drop {F:Addr × OP} (h:G Z g l N c):G Z g l (F :: N) c:=Hr.mk fun s S => h.run s (S.perm (.swap _ _ _)).drop
theorem frUp {x:Str} {v:Value} {i:Nat} (hn:(l.map (·.1)).Nodup) (hm:∀ p ∈ l,m p.1 = p.2) (hk:KeyAt x i l):∀ p ∈ setF v i l,up m x v p.1 = p.2:=fun p hp => by
 rcases setF_mem hk hn p hp with rfl | ⟨h1,h2⟩
 · exact up_eq _ _ _
 · exact (up_ne h2).trans (hm p h1)
theorem keyF {x:Str} {v:Value} {i j:Nat} (h:KeyAt x j l):KeyAt x j (setF v i l):=by
 induction l generalizing i j with
 | nil => cases j <;> exact h.elim
 | cons p l ih => cases i <;> cases j <;> first | exact h | exact ih h
noncomputable def tuEs (e:Expr):List Expr:=(evE e).es
noncomputable def tuK (e:Expr):Nat:=(evE e).n
noncomputable def tuP (e:Expr):Pos:=(evE e).p
noncomputable def isN2 (x y:Str) (e:Expr):Prop:=e = .Tuple [.Name x (tuP ((tuEs e).headD e)),.Name y (tuP ((tuEs e).tail.headD e))] (tuK e) (tuP e)
theorem as2W {x y:Str} {a:Addr} {u v:Value} {s:Shared} (i j:Nat) (hx:Lo Z.env x) (hy:Lo Z.env y) (hg:g a = some (tupO [u,v])) (S:St Z.H0 g ((Z.env.locals,Frm l) :: N) s) {Q:Unit → PP} (h:∀ s',St Z.H0 g ((Z.env.locals,Frm (setF v j (setF u i l))) :: N) s' → Q () s')
 {e:Expr} (ht:isN2 x y e) (h1:KeyAt x i l) (h2:KeyAt y j l):wz Z (assign e Z.env (.ref a)) Q s:=by
 have ht:e = _:=ht
 rw [ht]
 obtain ⟨m,S1,hn,hm⟩:=S.frm
 exact asnT2 rfl S1 (.inl (tupAt S1 hg)) (fun s2 S2 => h s2 (S2.toFr _ (by rw [setF_keys,setF_keys]; exact hn) (frUp (by rw [setF_keys]; exact hn) (frUp hn hm h1) (keyF h2)))) rfl Z.kf hx.k hy.k
theorem as2 {x y:Str} {a:Addr} {u v:Value} (i j:Nat) (hx:Lo Z.env x) (hy:Lo Z.env y) (hg:g a = some (tupO [u,v])) (h:G Z g (setF v j (setF u i l)) N (rsU c))
 (hc:autoParam (HdAs (.ref a) c) aR) (ht:autoParam (isN2 x y (e1C c)) aR) (h1:autoParam (KeyAt x i l) aR) (h2:autoParam (KeyAt y j l) aR):G Z g l N c:=Hr.mk fun s S => den_at hc.e (as2W i j hx hy hg S (fun s' S' => h.run s' S') ht h1 h2)
noncomputable def cR (Z:Zc) (c:Tr):Result → PP
 | .ok f => match f with
  | .ret v => den Z (rsV c v)
  | _ => fun ι => False
 | .error e => Z.E e
theorem cal {f:Value} {vs:List Value} (h:Hr Z.H0 g ((Z.env.locals,Frm l) :: N) (codeAny (model PG Z.w) (ar Z.d Z.u) (.call f ⟨vs,[]⟩) (cR Z c)))
 (hc:autoParam (HdCal f vs c) aR):G Z g l N c:=Hr.mk fun s S => den_at hc.e
 ⟨Z.C.at S,wpAny_call (codeAny_mono (h.run s S) fun r s' q => by
  cases r with
  | error e => exact q
  | ok fl => cases fl <;> first | exact q | exact q.elim)⟩
theorem calS {f:Value} {vs:List Value} (p:N.Perm (N1 ++ N2)) (nt:∀ p ∈ N2,NT p.2) (h:∀ g1 R,gLe g g1 → (∀ g2 N' v,gLe g1 g2 → (∀ g3,gLe g g3 → tLe g2 g3 → G Z g3 l (N' ++ N2) (rsV c v)) → Hr Z.H0 g2 N' (R (.ok (.ret v)))) → Hr Z.H0 g1 N1 (codeAny (model PG Z.w) (ar Z.d Z.u) (.call f ⟨vs,[]⟩) R))
 (hc:autoParam (HdCal f vs c) aR):G Z g l N c:=
 cal (hc:=hc) <| Hr.mk fun s S => St.sub S (N1:=N1) (N2:=(Z.env.locals,Frm l) :: N2) ((List.Perm.cons _ p).trans List.perm_middle.symm) (nt_cons (nt_frm l) nt) fun g1 le1 S1 back => (h g1 (cR Z c) le1 (fun g2 N' v le2 q => Hr.mk fun s' S' => back _ _ s' le2 S' fun g3 le3 S3 tl => (q g3 le3 tl).run s' (S3.perm List.perm_middle))).run s S1
theorem cwf {fa:Addr} (h:G Z g l N (rsC Z.env c (.ref fa)))
 (hc:autoParam (HdCw (.ref fa) c) aR) (hn:autoParam (noStar (arC c) = true) aR) (hf:keepIn (hd.heap_1 Z.w.params) (.ref fa) = true:=by k_is):G Z g l N c:=Hr.mk fun s S => by
 refine den_at hc.e ?_
 have h:=h.run s S
 unfold rsC at h
 generalize arC c = args at *
 cases args with
 | nil => exact callWith_K0 (Z.C.at S) hf h.2
 | cons e rest =>
  obtain ⟨h1,h2⟩:=star_cons (env:=Z.env) hn
  exact callWith_K Z.C.X hf (thn (argT_ok (ev:=evT Z.env 20) (k:=fun vs => .cal (.ref fa) (fvC c ++ vs) (rsV c)) (evT_ok 20) hn h) fun _ _ z => z) h1 (star_all h2)
end
structure RetH (H0:Shared) (R:Result → PP) (Q:Flow → PP):Prop where
 ret:∀ {g N v},Hr H0 g N (R (.ok (.ret v))) → Hr H0 g N (Q (.ret v))
 nxt:∀ {g N},Hr H0 g N (R (.ok (.ret .none))) → Hr H0 g N (Q .next)
theorem look_nd {p:Str × Value}:∀ {l:List (Str × Value)},(l.map (·.1)).Nodup → p ∈ l → l.lookup p.1 = some p.2
 | [],_,h => by cases h
 | q :: l,hn,h => by
  rw [List.map_cons,List.nodup_cons] at hn
  rw [List.lookup_cons]
  rcases List.mem_cons.mp h with rfl | h
  · simp
  · have:(p.1 == q.1) = false:=by
     rw [beq_eq_false_iff_ne]
     exact fun e => hn.1 (e ▸ List.mem_map_of_mem h)
    rw [this]
    exact look_nd hn.2 h
theorem look_no {x:Str}:∀ {l:List (Str × Value)},x ∉ l.map (·.1) → l.lookup x = none
 | [],_ => rfl
 | q :: l,h => by
  rw [List.map_cons,List.mem_cons,not_or] at h
  rw [List.lookup_cons,beq_eq_false_iff_ne.mpr h.1]
  exact look_no h.2
noncomputable def frm0 (binds:List (Str × Value)) (xs:List Str):Fr1:=binds.map (fun p => (p.1,some p.2)) ++ xs.map fun x => (x,none)
noncomputable def zC (w:World) (d u:Nat) (E:Value → PP) (H0:Shared) (C:Cx w H0) (qual:Str) (sc:Scope) (L fa:Addr) (cdv:Value) (hL:H0.heap.objs.size ≤ L) (hk:sc.kind = .function):Zc:=⟨w,d + 1,u + 3,E,envOf qual sc L fa cdv,H0,C,hL,hk,rfl,rfl⟩
noncomputable def ndB (l:List Str):Bool:=decide l.Nodup
theorem callG {g:Addr → Option Obj} {N:Ldg} {R:Result → PP} {nm:Str} {an od:Option Addr} {fa:Addr} {u:Nat} (xs:List Str) (C:Cx w H0)
 (ho:(hd.heap_1 w.params).lookup fa = some ⟨oc,od,.func (fnOf nm qual params body sc dV kV doc pm an cdv ct),osl⟩) (hcd:codeIn (hd.heap_1 w.params) cdv qual = true) (hroom:d < recursionLimit)
 (hbind:∀ s,(hd.heap_1 w.params).In s.heap → BindsTo s (fnOf nm qual params body sc dV kV doc pm an cdv ct) args binds) (hloc:∀ y ∈ binds,sc.names.lookup y.1 = some .local) (hnd:true = ndB (binds.map (·.1) ++ xs))
 (hcell:∀ x ∈ sc.names,x.2 ≠ .cell)
 (hco:sc.isCoroutine = false) (hgen:sc.isGenerator = false) (hk:sc.kind = .function)
 (h:∀ L Q' E' (hL:H0.heap.objs.size ≤ L),RetH H0 R Q' → G (zC w d u E' H0 C qual sc L fa cdv hL hk) g (frm0 binds xs) N (go (zC w d u E' H0 C qual sc L fa cdv hL hk) body (finT Q'))):Hr H0 g N (codeAny (model PG w) (ar d u) (.call (.ref fa) args) R):=Hr.mk fun s S => by
 have hnd:=of_decide_eq_true hnd.symm
 rw [List.nodup_append] at hnd
 obtain ⟨n1,n2,n3⟩:=hnd
 refine callS S C ho hcd hroom (hbind s (C.at S)) hloc (fun L s1 Q' E' hL S1 q => ?_) hcell hco hgen hk
 have hn0:((frm0 binds xs).map (·.1)).Nodup:=by
  have e:(frm0 binds xs).map (·.1) = binds.map (·.1) ++ xs:=by
   unfold frm0
   rw [List.map_append,List.map_map,List.map_map]
   exact congrArg (_ ++ ·) (by rw [show ((fun p:Str × Option Value => p.1) ∘ fun x => (x,none)) = id from rfl,List.map_id])
  rw [e]; exact List.nodup_append.mpr ⟨n1,n2,n3⟩
 have hm:∀ p ∈ frm0 binds xs,binds.reverse.lookup p.1 = p.2:=by
  intro p hp
  rcases List.mem_append.mp hp with hp | hp
  · obtain ⟨q,hq,rfl⟩:=List.mem_map.mp hp
    exact look_nd (l:=binds.reverse) (by rw [List.map_reverse]; exact (List.reverse_perm _).nodup_iff.mpr n1) (List.mem_reverse.mpr hq)
  · obtain ⟨x,hx,rfl⟩:=List.mem_map.mp hp
    refine look_no fun hy => ?_
    rw [List.map_reverse,List.mem_reverse] at hy
    exact n3 _ hy _ hx rfl
 exact (h L Q' E' hL ⟨fun h => Hr.mk fun s S => q.ret _ s (h.run s S),fun h => Hr.mk fun s S => q.nxt s (h.run s S)⟩).run s1 (S1.toFr _ hn0 hm)
noncomputable def Zc.sE (Z:Zc) (E:Value → PP):Zc:={ Z with E:=E }
noncomputable def lpT (env:Env) (c:Tr) (v:Value) (Q:Flow → PP):Tr:=tgT env (e1C c) v (.seq (bdC c) (finT Q))
structure LoopG (Z:Zc) (it:Addr) (P:OP) (K:(Addr → Option Obj) → Fr1 → Ldg → Prop) (c:Tr) (Q:Flow → PP):Prop where
 go:∀ {g l N},K g l N → G Z g l ((it,P) :: N) (finT Q .next)
 cont:∀ {g l N},K g l N → G Z g l ((it,P) :: N) (finT Q .cont)
 brk:∀ {g N},Hr Z.H0 g N (den Z (rsF c .next)) → Hr Z.H0 g N (Q .brk)
 ret:∀ {g N v},Hr Z.H0 g N (den Z (rsF c (.ret v))) → Hr Z.H0 g N (Q (.ret v))
section
variable {E:Value → PP}
theorem tgT_ok {t:Expr} {v:Value} {k:Tr} {s:Shared} (h:dn (model PG w) A E env In (tgT env t v k) s):wpAny (model PG w) A (assign t env v) (fun ι => dn (model PG w) A E env In k) E s:=by
 cases t with
 | Name x p => exact wpAny_assign_Name h
 | Subscript o i p => exact asnSub (thn (evT_ok 20 (k:=fun ov => evT env 20 i fun iv => .un (setItem ov iv v) k) h) fun _ _ z => evT_ok 20 (k:=fun iv => .un (setItem _ iv v) k) z)
 | _ => exact h
end
section
variable {g:Addr → Option Obj} {l:Fr1} {N:Ldg}
structure Src (w:World) (d u:Nat) (H0:Shared) (x:Value) (P:Nat → OP) (n:Nat) (V:Nat → Value → Prop) (ok:PP):Prop where
 I:∀ it,Ite PG w (ar d u) H0 it P n V ok
 iter:∀ {g N s} {Q E:Value → PP},St H0 g N s → ok s → (∀ s' it,St H0 g ((it,P 0) :: N) s' → Q (.ref it) s') → wpAny (model PG w) (ar d u) (pyIter x) Q E s
 self:∀ {it o s} {Q E:Value → PP},s.heap.get? it = some o → P 0 o → Q (.ref it) s → wpAny (model PG w) (ar d u) (pyIter (.ref it)) Q E s
theorem srcL {u:Nat} {a:Addr} {vs:List Value}:Src w d u H0 (.ref a) (Itr a) vs.length (fun i v => vs[i]? = some v) (fun s => s.heap.IsList a vs.toArray):=
 ⟨fun it => iteL rfl,fun S hl h => iterS0 S hl fun s' it S' _ => h s' it S',fun ho hP h => wpAny_pyIter_listiter ⟨_,ho,hP.1,hP.2⟩ h⟩
theorem outLp {x:Value} (hc:HdLp x c) {s:Shared} (h:wz Z (pyIter x) (fun it s' => codeAny (model PG Z.w) (ar Z.d Z.u) (.forLoop (e1C c) it (bdC c) [] Z.env) (fun r s' => match r with | .ok f => den Z (rsF c f) s' | .error e => cameBackBy (model PG Z.w) (ar Z.d Z.u) Z.env Z.E e s') s') s):den Z c s:=den_at hc.e h
theorem lpI {x:Value} {n:Nat} {V:Nat → Value → Prop} {ok:PP} (Sr:Src Z.w Z.d Z.u Z.H0 x P n V ok) (h0:∀ s,St Z.H0 g ((Z.env.locals,Frm l) :: N) s → ok s) (K:Nat → (Addr → Option Obj) → Fr1 → Ldg → Prop) (hok:∀ j g' l' N' s it,K j g' l' N' → St Z.H0 g' ((Z.env.locals,Frm l') :: (it,P j) :: N') s → ok s) (start:K 0 g l N) (done:∀ g' l' N',K n g' l' N' → G Z g' l' N' (rsF c .next)) (turn:∀ j v it E Q' g' l' N',j < n → V j v → K j g' l' N' → LoopG Z it (P (j + 1)) (K (j + 1)) c Q' → G (Z.sE E) g' l' ((it,P (j + 1)) :: N') (lpT Z.env c v Q'))
 (hc:autoParam (HdLp x c) aR):G Z g l N c:=Hr.mk fun s S => outLp hc <| Sr.iter S (h0 s S) fun s2 it S2 => by
 obtain ⟨m,S3,hn,hm⟩:=St.frm (S2.perm (.swap _ _ _))
 refine forI (Sr.I it) (fun i g m N => ∃ l:Fr1,((l.map (·.1)).Nodup ∧ ∀ p ∈ l,m p.1 = p.2) ∧ K i g l N) ?_ ?_ ?_ ⟨l,⟨hn,hm⟩,start⟩ S3
 · rintro j g' m' N' s' ⟨l',⟨h1,h2⟩,hK⟩ S'
   exact hok j g' l' N' s' it hK (S'.toFr l' h1 h2)
 · rintro j v g' m' N' s' Q' E' hi hv ⟨l',⟨h1,h2⟩,hK⟩ S' q
   have:=(turn j v it E' Q' g' l' N' hi hv hK ⟨fun hK => Hr.mk fun s S => ?_,fun hK => Hr.mk fun s S => ?_,fun h => Hr.mk fun s S => q.brk s (h.run s S),fun h => Hr.mk fun s S => q.ret _ s (h.run s S)⟩).run s' (S'.toFr l' h1 h2)
   · exact thn (tgT_ok this) fun _ _ z => z
   · obtain ⟨m2,S2,hm2⟩:=S.frm
     exact q.nxt _ _ _ s ⟨⟨_,hm2,hK⟩,S2⟩
   · obtain ⟨m2,S2,hm2⟩:=S.frm
     exact q.cont _ _ _ s ⟨⟨_,hm2,hK⟩,S2⟩
 · rintro g' m' N' s' ⟨l',⟨h1,h2⟩,hK⟩ S'
   exact (done g' l' N' hK).run s' (S'.toFr l' h1 h2)
theorem lpL {a:Addr} {vs:List Value} (i:Nat) (K:Nat → (Addr → Option Obj) → Fr1 → Ldg → Prop) (hl:∀ j g' l' N',K j g' l' N' → ∃ i,At (a,Lst vs) i N') (start:K 0 g l N) (done:∀ g' l' N',K vs.length g' l' N' → G Z g' l' N' (rsF c .next)) (turn:∀ j v it E Q' g' l' N',j < vs.length → vs[j]? = some v → K j g' l' N' → LoopG Z it (Itr a (j + 1)) (K (j + 1)) c Q' → G (Z.sE E) g' l' ((it,Itr a (j + 1)) :: N') (lpT Z.env c v Q'))
 (hk:autoParam (At (a,Lst vs) i N) aR) (hc:autoParam (HdLp (.ref a) c) aR):G Z g l N c:=
 lpI srcL (hc:=hc) (fun s S => S.list (At.pk (i:=i + 1) hk)) K (fun j g' l' N' s it hK S => by
  obtain ⟨i,hi⟩:=hl j g' l' N' hK
  exact S.list (At.pk (i:=i + 2) hi)) start done turn
end
section
variable {g:Addr → Option Obj} {l:Fr1} {N:Ldg}
theorem two {op:CmpOp} {a b:Value} {p:Prop} [Decidable p] (r:∀ {s} {Q:Value → PP},St Z.H0 g ((Z.env.locals,Frm l) :: N) s → (∀ s',St Z.H0 g ((Z.env.locals,Frm l) :: N) s' → Q (.bool (decide p)) s') → wz Z (compareOp op a b) Q s) (h1:let c':=c; let l':=l; let N':=N; p → G Z g l' N' (rsB c' true)) (h2:let c':=c; let l':=l; let N':=N; ¬ p → G Z g l' N' (rsB c' false))
 (hc:autoParam (HdC op a b c) aR):G Z g l N c:=Hr.mk fun s S => outC hc (r S fun s' S' => wpAny_truthy_bool (by
  by_cases hp:p
  · rw [decide_eq_true hp]; exact (h1 hp).run s' S'
  · rw [decide_eq_false hp]; exact (h2 hp).run s' S'))
section
variable {a b:Int} {u:Tok}
theorem adI (h:let c':=c; let l':=l; let N':=N; ∀ t,G Z g l' N' (rsV c' (.int (a + b) t)))
 (hc:autoParam (HdV (binaryOp .Add (.int a t) (.int b u)) c) aR):G Z g l N c:=Hr.mk fun s S => outV hc (add_int ((h _).run (tick s) S))
theorem sbI (h:let c':=c; let l':=l; let N':=N; ∀ t,G Z g l' N' (rsV c' (.int (a - b) t)))
 (hc:autoParam (HdV (binaryOp .Sub (.int a t) (.int b u)) c) aR):G Z g l N c:=Hr.mk fun s S => outV hc (sub_int ((h _).run (tick s) S))
theorem mdI (h:let c':=c; let l':=l; let N':=N; ∀ t,G Z g l' N' (rsV c' (.int (a.fmod b) t)))
 (hc:autoParam (HdV (binaryOp .Mod (.int a t) (.int b u)) c) aR) (hb:autoParam (b ≠ 0) aD):G Z g l N c:=Hr.mk fun s S => outV hc (mod_int hb ((h _).run (tick s) S))
theorem fdI (h:let c':=c; let l':=l; let N':=N; ∀ t,G Z g l' N' (rsV c' (.int (a.fdiv b) t)))
 (hc:autoParam (HdV (binaryOp .FloorDiv (.int a t) (.int b u)) c) aR) (hb:autoParam (b ≠ 0) aD) (hp:b.natAbs.log2 < 9000:=by decide +kernel):G Z g l N c:=Hr.mk fun s S => outV hc (floordiv_int hb ((h _).run (tick s) S) (Or.inl (PyProof.noPylong_of_log2 hp)))
theorem ltI (h1:let c':=c; let l':=l; let N':=N; a < b → G Z g l' N' (rsB c' true)) (h2:let c':=c; let l':=l; let N':=N; ¬ a < b → G Z g l' N' (rsB c' false))
 (hc:autoParam (HdC .Lt (.int a t) (.int b u) c) aR):G Z g l N c:=two (hc:=hc) (fun S q => lt_int (q _ S)) h1 h2
theorem gtI (h1:let c':=c; let l':=l; let N':=N; b < a → G Z g l' N' (rsB c' true)) (h2:let c':=c; let l':=l; let N':=N; ¬ b < a → G Z g l' N' (rsB c' false))
 (hc:autoParam (HdC .Gt (.int a t) (.int b u) c) aR):G Z g l N c:=two (hc:=hc) (fun S q => gt_int (q _ S)) h1 h2
theorem eqI (h1:let c':=c; let l':=l; let N':=N; a = b → G Z g l' N' (rsB c' true)) (h2:let c':=c; let l':=l; let N':=N; ¬ a = b → G Z g l' N' (rsB c' false))
 (hc:autoParam (HdC .Eq (.int a t) (.int b u) c) aR):G Z g l N c:=two (hc:=hc) (fun S q => eq_int (q _ S)) h1 h2
theorem neI (h1:let c':=c; let l':=l; let N':=N; a ≠ b → G Z g l' N' (rsB c' true)) (h2:let c':=c; let l':=l; let N':=N; ¬ a ≠ b → G Z g l' N' (rsB c' false))
 (hc:autoParam (HdC .NotEq (.int a t) (.int b u) c) aR):G Z g l N c:=two (hc:=hc) (fun S q => ne_int (by
 have e:(a != b) = decide (a ≠ b):=by rw [Bool.eq_iff_iff,bne_iff_ne,decide_eq_true_eq]
 rw [e]; exact q _ S)) h1 h2
end
section
variable {x:T} {u:Tok}
theorem neS (h1:let c':=c; let l':=l; let N':=N; x ≠ y → G Z g l' N' (rsB c' true)) (h2:let c':=c; let l':=l; let N':=N; ¬ x ≠ y → G Z g l' N' (rsB c' false))
 (hc:autoParam (HdC .NotEq (sv x t) (sv y u) c) aR):G Z g l N c:=two (hc:=hc) (fun S q => PyProof.Rows.ne_str (by
 have e:(mk x != mk y) = decide (x ≠ y):=by
  rw [Bool.eq_iff_iff,bne_iff_ne,decide_eq_true_eq]
  exact ⟨fun h e => h (congrArg mk e),fun h e => h (mk_inj e)⟩
 rw [e]; exact q _ S)) h1 h2
theorem eqS (h1:let c':=c; let l':=l; let N':=N; x = y → G Z g l' N' (rsB c' true)) (h2:let c':=c; let l':=l; let N':=N; ¬ x = y → G Z g l' N' (rsB c' false))
 (hc:autoParam (HdC .Eq (sv x t) (sv y u) c) aR):G Z g l N c:=two (hc:=hc) (fun S q => PyProof.Rows.eq_str (by
 have e:(mk x == mk y) = decide (x = y):=by
  rw [Bool.eq_iff_iff,beq_iff_eq,decide_eq_true_eq]
  exact ⟨fun h => mk_inj h,fun h => congrArg mk h⟩
 rw [e]; exact q _ S)) h1 h2
end
section
variable {x:T} {u:Tok}
theorem eqSN (h:G Z g l N (rsB c false)) (hc:autoParam (HdC .Eq (sv x t) (sv y u) c) aR) (hn:autoParam (¬ x = y) aD):G Z g l N c:=eqS (hc:=hc) (fun e => absurd e hn) (fun ι => h)
theorem eqSY (h:G Z g l N (rsB c true)) (hc:autoParam (HdC .Eq (sv x t) (sv y u) c) aR) (hn:autoParam (x = y) aQ):G Z g l N c:=eqS (hc:=hc) (fun ι => h) (fun e => absurd hn e)
theorem neSN (h:G Z g l N (rsB c false)) (hc:autoParam (HdC .NotEq (sv x t) (sv y u) c) aR) (hn:autoParam (x = y) aQ):G Z g l N c:=neS (hc:=hc) (fun e => absurd hn e) (fun ι => h)
theorem neSY (h:G Z g l N (rsB c true)) (hc:autoParam (HdC .NotEq (sv x t) (sv y u) c) aR) (hn:autoParam (x ≠ y) aD):G Z g l N c:=neS (hc:=hc) (fun ι => h) (fun e => absurd hn e)
end
theorem nwL {vs:List Value} (h:let c':=c; let l':=l; let N':=N; ∀ a,G Z g l' ((a,Lst vs) :: N') (rsV c' (.ref a)))
 (hc:autoParam (HdV (newList vs) c) aR) (hz:vs.length ≤ sizeLine:=by exact Nat.le_of_ble_eq_true rfl):G Z g l N c:=Hr.mk fun s S => outV hc (newLstS S (fun s2 a S2 => (h a).run s2 S2) hz)
theorem nwT {vs:List Value} (h:let c':=c; let l':=l; let N':=N; ∀ g' a,gLe g g' → g' a = some (tupO vs) → G Z g' l' N' (rsV c' (.ref a)))
 (hc:autoParam (HdV (newTuple vs) c) aR) (hz:vs.length ≤ sizeLine:=by exact Nat.le_of_ble_eq_true rfl):G Z g l N c:=Hr.mk fun s S => outV hc (newTupS S (fun g' s2 a le S2 ho => (h g' a le ho).run s2 S2) hz)
theorem gtL {E:Value → PP} {s:Shared} {a:Addr} {vs:List Value} {k:Int} {x:Value} {Q:Value → PP} (hl:s.heap.IsList a vs.toArray) (h0:0 ≤ k) (hfit:k < 2 ^ 63) (hx:vs[k.toNat]? = some x) (h:Q x s)
 (hs:subscripted slice false (.ref a) (.int k t) = operate [.ref a,.int k t] (getItem (.ref a) (.int k t))):wpAny (model PG Z.w) A (subscriptTail value slice (.ref a) (.int k t)) Q E s:=
 tail_any hl.typeIs slot_list_getitem.lookup (wpAny_getItem_list hl h0 hfit (by simpa using hx) h) hs
theorem itL {a:Addr} {vs:List Value} {k:Int} {x:Value} (i:Nat) (h:G Z g l N (rsV c x))
 (hk:autoParam (At (a,Lst vs) i N) aR) (hc:autoParam (HdSub (.ref a) (.int k t) c) aR) (hs:autoParam (operate [(.ref a),(.int k t)] (getItem (.ref a) (.int k t)) = subscripted (e2C c) false (.ref a) (.int k t)) aR) (h0:autoParam (0 ≤ k) aD) (hfit:autoParam (k < 2 ^ 63) aD) (hx:autoParam (vs[k.toNat]? = some x) aR):G Z g l N c:=Hr.mk fun s S => outSub hc (gtL (S.list (At.pk (i:=i + 1) hk)) h0 hfit hx (h.run s S) hs.symm)
theorem adL {a b:Addr} {vs ws:List Value} (i j:Nat) (h:let c':=c; let l':=l; let N':=N; ∀ a,G Z g l' ((a,Lst (vs ++ ws)) :: N') (rsV c' (.ref a)))
 (hk:autoParam (At (a,Lst vs) i N) aR) (hj:autoParam (At (b,Lst ws) j N) aR) (hc:autoParam (HdV (binaryOp .Add (.ref a) (.ref b)) c) aR) (hz:vs.length + ws.length ≤ sizeLine:=by exact Nat.le_of_ble_eq_true rfl):G Z g l N c:=Hr.mk fun s S => outV hc (by
 have h1:=(S.plist (At.pk (i:=i + 1) hk)).choose_spec
 have h2:=(S.plist (At.pk (i:=j + 1) hj)).choose_spec
 refine P.add_list h1 h2 ?_ (by simpa using hz)
 exact (h _).run _ (S.newIn (P:=Lst (vs ++ ws)) (o:={ cls:=.type "list",data:=.seq (vs.toArray ++ ws.toArray) }) rfl ⟨0,by simp⟩))
theorem trL {a:Addr} {its:List Value} (i:Nat) (h:G Z g l N (rsB c (!its.isEmpty)))
 (hk:autoParam (At (a,Lst its) i N) aR) (hc:autoParam (HdB (truthy (.ref a)) c) aR) (hz:its.length ≤ 1000000:=by exact Nat.le_of_ble_eq_true rfl):G Z g l N c:=Hr.mk fun s S => outB hc (truthyS S (At.pk (i:=i + 1) hk) (Nat.lt_of_le_of_lt hz (by decide)) (h.run (tick (tick s)) S))
theorem crI {i:Int} (h:let c':=c; let l':=l; let N':=N; ∀ t,G Z g l' N' (rsV c' (sv [i.toNat] t)))
 (hc:autoParam (HdV (call (.builtin "chr") [.int i t]) c) aR) (h0:autoParam (0 ≤ i) aD) (h1:autoParam (i ≤ 0x10FFFF) aD):G Z g l N c:=Hr.mk fun s S => outV hc (P.chr_of_int (by rw [decide_eq_false (Int.not_lt.mpr h0),decide_eq_false (Int.not_lt.mpr h1)]; rfl) ((h _).run (tick s) S))
noncomputable def eatM (f:Nat → Tok):List T → Tr → Tr
 | [],c => c
 | x :: xs,c => match c with
  | .str _ k => eatM (fun n => f (n + 1)) xs (k (sv x (f 0)))
  | c => c
noncomputable def svs (f:Nat → Tok):List T → List Value
 | [] => []
 | x :: xs => sv x (f 0) :: svs (fun n => f (n + 1)) xs
noncomputable def eatS (f:Nat → Tok):List T → Tr → List Str
 | [],_ => []
 | x :: xs,c => match c with
  | .str y k => y :: eatS (fun n => f (n + 1)) xs (k (sv x (f 0)))
  | _ => []
theorem svs_txs:∀ (f:Nat → Tok) (xs:List T),Txs (svs f xs) xs
 | _,[] => trivial
 | _,_ :: xs => ⟨⟨_,rfl⟩,svs_txs _ xs⟩
theorem csL:∀ {N:Ldg} (xs:List T) {c:Tr} (hc:∀ f,eatS f xs c = xs.map mk) (h:let c':=c; let l':=l; let N':=N; ∀ f,G Z g l' N' (eatM f xs c')),G Z g l N c
 | _,[],_,_,h => h fun ι => 0
 | N,x :: xs,c,hc,h => by
  cases c with
  | str y k =>
   have e:y = mk x:=(List.cons.inj (hc fun ι => 0)).1
   refine cs (hc:=by rw [e]; rfl) (x:=mk x) fun t => ?_
   refine csL xs (fun f => (List.cons.inj (hc fun n => match n with | 0 => t | n + 1 => f n)).2) fun f => ?_
   exact h fun n => match n with | 0 => t | n + 1 => f n
  | _ => exact nomatch hc fun ι => 0
end
noncomputable def signT (n:Int):Nat:=if n.fmod 1112064 < 55296 then (n.fmod 1112064).toNat else (n.fmod 1112064 + 2048).toNat
noncomputable def pieces:List T:=[[38],[60],[62],[34],[13],[10],[9],[32],[],[38,108,116,59],[45,45,62],[63]]
noncomputable def pieceT (n:Int):T:=(pieces ++ [[signT (n.fdiv 13)]]).getD (n.fmod 13).toNat []
theorem fm_nat (n:Int) {k:Int} (hk:0 < k):∃ j:Nat,n.fmod k = j ∧ (j:Int) < k:=by
 have h1:=fmod_lo n hk
 exact ⟨(n.fmod k).toNat,(Int.toNat_of_nonneg h1).symm,by rw [Int.toNat_of_nonneg h1]; exact fmod_hi n hk⟩
theorem pieceT_len (n:Int):(pieceT n).length ≤ 4:=by
 have all:∀ {l:List T} {k:Nat},(∀ x ∈ l,x.length ≤ 4) → (l.getD k []).length ≤ 4:=fun {l k} h => by
  rw [List.getD_eq_getElem?_getD]
  cases e:l[k]? with
  | none => exact Nat.zero_le _
  | some x => exact h x (List.mem_of_getElem? e)
 refine all fun x hx => ?_
 rcases List.mem_append.mp hx with h | h
 · exact (by decide:∀ x ∈ pieces,x.length ≤ 4) x h
 · rw [List.mem_singleton.mp h]; exact Nat.le_of_ble_eq_true rfl
structure NEn (env:Env):Prop where
 n:Lo env "n"
 chr:Lo env "chr" .globalImplicit
section
variable {g:Addr → Option Obj} {N:Ldg} {k:Flow → Tr} {n:Int}
theorem b_sign (B:NEn Z.env) (h:∀ t',G Z g [("n",some (.int n t))] N (k (.ret (sv [signT n] t')))):G Z g [("n",some (.int n t))] N (go Z (fnB 11) k):=by
 obtain ⟨j,e,hj⟩:=fm_nat n (k:=1112064) (by decide)
 refine letG ?_; intro c l N
 refine nx ?_
 refine bl B.chr (by k_is) boot_chr (by decide) ?_
 refine ld 0 B.n ?_
 refine ci ?_; intro c l N _
 refine mdI ?_; intro c l N _
 refine ci ?_; intro c l N _
 have lo:0 ≤ n.fmod 1112064:=e ▸ Int.natCast_nonneg j
 have hi:n.fmod 1112064 < 1112064:=e ▸ hj
 refine ltI ?_ ?_ <;> (intro c l N hc; refine ld 0 B.n ?_; refine ci ?_; intro c l N _; refine mdI ?_; intro c l N _)
 · refine crI ?_ (h0:=lo) (h1:=Int.le_trans (Int.le_of_lt hi) (by decide)); intro c l N t'
   have:=h t'
   unfold signT at this
   rw [if_pos hc] at this
   exact this
 · refine ci ?_; intro c l N _
   refine adI ?_; intro c l N _
   refine crI ?_ (h0:=Int.le_trans lo (Int.le_add_of_nonneg_right (by decide))) (h1:=Int.add_le_add_right (Int.le_of_lt_add_one (b:=1112063) hi) 2048); intro c l N t'
   have:=h t'
   unfold signT at this
   rw [if_neg hc] at this
   exact this
end
theorem f_sign {u:Nat} {R:Result → PP} {g:Addr → Option Obj} {N:Ldg} {n:Int} (C:Cx w H0) (hroom:d ≤ 900) (h:∀ t',Hr H0 g N (R (.ok (.ret (sv [signT n] t'))))) :
 Hr H0 g N (codeAny (model PG w) (ar d u) (.call (.ref 173) ⟨[.int n t],[]⟩) R):=by
 refine' callG (binds:=[(Str.ofString "n",.int n t)]) (body:=fnB 11) [] C ?k6 ?k7 (Nat.lt_of_le_of_lt hroom (by decide)) ?k9 ?kB ?kN ?c5 ?c2 ?c3 ?c4 ?_
 walk_at "fn"
 intro L Q E hL q
 refine b_sign ?_ fun t' => (q.ret (h t').drop)
 constructor <;> exact ⟨rfl,rfl⟩
section
variable {g:Addr → Option Obj} {l:Fr1} {N:Ldg} {k:Flow → Tr} {n:Int}
theorem c_sign (hroom:Z.d ≤ 900) (h:let c':=c; let l':=l; let N':=N; ∀ t',G Z g l' N' (rsV c' (sv [signT n] t')))
 (hc:autoParam (HdCal (.ref 173) [.int n t] c) aR):G Z g l N c:=cal (hc:=hc) (f_sign Z.C hroom h)
structure PEn (env:Env):Prop where
 n:Lo env "n"
 signs:Lo env "signs"
 ls:Lo env "_law_sign" .globalImplicit
theorem b_piece {Q:Flow → PP} (B:PEn Z.env) (hroom:Z.d ≤ 900) (h:∀ t',Hr Z.H0 g N (Q (.ret (sv (pieceT n) t')))):G Z g [("n",some (.int n t)),("signs",none)] N (go Z (fnB 12) (finT Q)):=by
 obtain ⟨j,e,hj⟩:=fm_nat n (k:=13) (by decide)
 refine letG ?_; intro c l N
 refine nx ?_
 refine csL pieces (fun f => by kernel_rfl) ?_; intro c l N f
 refine nwL (vs:=svs f pieces) ?_; intro c l N D
 refine st 1 B.signs ?_
 refine nx ?_
 refine ld 1 B.signs ?_
 refine gl B.ls (by k_is) ?_
 refine cwf ?_
 refine ld 0 B.n ?_
 refine ci ?_; intro c l N _
 refine fdI ?_; intro c l N _
 refine c_sign hroom ?_; intro c l N t3
 refine nwL ?_; intro c l N D2
 refine adL 1 0 ?_; intro c l N D3
 refine ld 0 B.n ?_
 refine ci ?_; intro c l N _
 refine mdI ?_; intro c l N _
 rw [e]
 have hT:=(svs_txs f pieces).app (Txs.one [signT (n.fdiv 13)] t3)
 obtain ⟨v,hv⟩:∃ v,(svs f pieces ++ [sv [signT (n.fdiv 13)] t3])[j]? = some v:=⟨_,List.getElem?_eq_getElem (Int.ofNat_lt.mp hj)⟩
 obtain ⟨x,tx,hx,rfl⟩:=hT.get hv
 have hpx:pieceT n = x:=by unfold pieceT; rw [e,Int.toNat_natCast,List.getD_eq_getElem?_getD,hx]; rfl
 refine itL 0 ?_ (h0:=Int.natCast_nonneg j) (hfit:=Int.lt_trans hj (by decide)) (hx:=hv)
 have:=h tx
 rw [hpx] at this
 exact this.dropN 4
end
theorem f_piece {u:Nat} {R:Result → PP} {g:Addr → Option Obj} {N:Ldg} {n:Int} (C:Cx w H0) (hroom:d ≤ 890) (h:∀ t',Hr H0 g N (R (.ok (.ret (sv (pieceT n) t'))))) :
 Hr H0 g N (codeAny (model PG w) (ar d u) (.call (.ref 180) ⟨[.int n t],[]⟩) R):=by
 refine' callG (binds:=[(Str.ofString "n",.int n t)]) (body:=fnB 12) [Str.ofString "signs"] C ?k6 ?k7 (Nat.lt_of_le_of_lt hroom (by decide)) ?k9 ?kB ?kN ?c5 ?c2 ?c3 ?c4 ?_
 walk_at "fn"
 intro L Q E hL q
 refine b_piece ?_ (ltr (Nat.succ_le_succ hroom) (by decide)) fun t' => (q.ret (h t'))
 constructor <;> exact ⟨rfl,rfl⟩
noncomputable def partsQ (p:Pfx) (b:Bool):List T:=if p = .em then [locS b] else [pfxS p,locS b]
theorem split_q (p:Pfx) (b:Bool):Txt.split (mk (qS p b)) (Str.ofString ":") = (partsQ p b).map mk:=pb_all (P:=fun p b => Txt.split (mk (qS p b)) (Str.ofString ":") = (partsQ p b).map mk) (by decide +kernel) p b
theorem in_q (p:Pfx) (b:Bool):(!(Builtin.Str.occurrences (mk (qS p b)) (Str.ofString ":") 0 (mk (qS p b)).length 1).isEmpty) = decide (p ≠ .em):=pb_all (P:=fun p b => (!(Builtin.Str.occurrences (mk (qS p b)) (Str.ofString ":") 0 (mk (qS p b)).length 1).isEmpty) = decide (p ≠ .em)) (by decide +kernel) p b
theorem txs_values:∀ {l:List (Str × Tok)} {xs:List T},l.map (·.1) = xs.map mk → Txs (strValues l) xs
 | [],[],_ => trivial
 | (y,t) :: l,x :: xs,e => by
  rw [List.map_cons,List.map_cons] at e
  injection e with e1 e2
  exact ⟨⟨t,by show Value.str y t = _; rw [show y = mk x from e1]⟩,txs_values e2⟩
 | [],_ :: _,e => by cases e
 | _ :: _,[],e => by cases e
theorem Txs.at {x:T} {vs:List Value} {xs:List T} (h:Txs vs xs) {i:Nat} (e:xs[i]? = some x):∃ t,vs[i]? = some (sv x t):=by
 obtain ⟨v,e1,t,rfl⟩:=F2.at h e
 exact ⟨t,e1⟩
theorem Txs.last {x:T} {vs:List Value} {xs:List T} (h:Txs vs xs) (hx:xs.getLast? = some x):∃ t,vs.getLast? = some (sv x t):=by
 rw [List.getLast?_eq_getElem?] at hx ⊢
 rw [h.len]
 exact h.at hx
section
variable {g:Addr → Option Obj} {l:Fr1} {N:Ldg} {p:Pfx} {b:Bool} {u:Tok}
theorem inQ (h1:let c':=c; let l':=l; let N':=N; p ≠ .em → G Z g l' N' (rsB c' true)) (h2:let c':=c; let l':=l; let N':=N; ¬ p ≠ .em → G Z g l' N' (rsB c' false))
 (hc:autoParam (HdC .In (.str (Str.ofString ":") u) (sv (qS p b) t) c) aR):G Z g l N c:=two (hc:=hc) (fun S q => in_str (by rw [in_q]; exact q _ S)) h1 h2
theorem gsp {x:T} (h:G Z g l N (rsM c (.builtin "str.split",[sv x t])))
 (hc:autoParam (HdM (sv x t) "split" c) aR):G Z g l N c:=Hr.mk fun s S => outM hc <| PySem.GM.split (h.run s S)
theorem St.viaF {s:Shared} (S:St H0 g ((L,Frm l) :: N) s) (hL:H0.heap.objs.size ≤ L) (k:∀ m news,Fr H0.heap L s.heap m → News H0.heap L s.heap news →
 (∀ h',s.heap.objs.size ≤ h'.objs.size → Fr H0.heap L h' m → News H0.heap L h' news → Stc H0 g ((L,Frm l) :: N) h' s.gens s.os) →
 (∀ h' o (P:OP),s.heap.objs.size ≤ h'.objs.size → Fr H0.heap L h' m → News H0.heap L h' ((s.heap.objs.size,o) :: news) → P o → Stc H0 g ((L,Frm l) :: (s.heap.objs.size,P) :: N) h' s.gens s.os) → C):C:=by
 obtain ⟨m,S1,hn,hm⟩:=S.frm
 exact S1.viaNews hL fun news F Nw k1 k2 => k m news F Nw (fun h' a b c => St.toFr (s:={ s with heap:=h' }) l (k1 h' a b c) hn hm) fun h' o P a b c d => St.toFr (s:={ s with heap:=h' }) l (k2 h' o P a b c d) hn hm
theorem spQ (h:let c':=c; let l':=l; let N':=N; ∀ D vs,Txs vs (partsQ p b) → G Z g l' ((D,Lst vs) :: N') (rsV c' (.ref D)))
 (hc:autoParam (HdV (call (.builtin "str.split") [sv (qS p b) t,.str (Str.ofString ":") u]) c) aR):G Z g l N c:=Hr.mk fun s S => outV hc (by
 refine S.viaF Z.hL fun m news F Nw k1 k2 => ?_
 refine wpAny_le (splitN1A F Nw (by decide +kernel) (fun l h' k e1 _ _ hl F' N' hle => ?_) (by rw [mk_len]; exact szl (ltr (Nat.add_le_add_right (qS_len p b) 2) (by decide))))
 rw [split_q] at e1
 exact (h _ (strValues l) (txs_values e1)).run _ (k2 h' _ (Lst (strValues l)) hle.2 F' N' ⟨0,rfl⟩))
theorem gds {d:Addr} {kvs:List (Str × Value)} {x:Str} {v:Value} (D:GD Z.w g d kvs) (h:G Z g l N (rsV c v))
 (hc:autoParam (HdSub (.ref d) (.str x t) c) aR) (hs:autoParam (operate [.ref d,.str x t] (getItem (.ref d) (.str x t)) = subscripted (e2C c) false (.ref d) (.str x t)) aR) (hv:autoParam (valueAt kvs x = some v) aR):G Z g l N c:=Hr.mk fun s S => outSub hc
 (tail_any (D.of S).typeIs slot_dict_getitem.lookup (wpAny_getItem_of (strKind_is PG Z.w x t) (D.of S).mapOf hv (h.run (tick s) S)) hs.symm)
end
structure FEn (env:Env):Prop where
 name:Lo env "name"
 level:Lo env "level"
 bare:Lo env "bare"
 uri:Lo env "uri"
variable {tu:Tok}
section
variable {g:Addr → Option Obj} {N:Ldg} {Q:Flow → PP} {p:Pfx} {b:Bool} {x:Uri} {lv:Addr} {v3:Value}
noncomputable abbrev flL (p:Pfx) (b:Bool) (t:Tok) (lv:Addr) (v3:Value) (o:Option Value):Fr1:=[("name",some (sv (qS p b) t)),("level",some (.ref lv)),("bare",some v3),(Str.ofString "uri",o)]
theorem b_full2 (B:FEn Z.env) (h:∀ t',Hr Z.H0 g N (Q (.ret (sv (nameS (x,b)) t')))):G Z g (flL p b t lv v3 (some (sv (uriS x) tu))) N (go Z [atB (fnB 14) 1] (finT Q)):=by
 have hq:∀ {vs},Txs vs (partsQ p b) → ∃ tl,vs.getLast? = some (sv (locS b) tl):=fun hT => hT.last (by unfold partsQ; split <;> rfl)
 refine letG ?_; intro c l N
 refine nx ?_
 refine ld 3 B.uri ?_
 refine csM (uriS .no) ?_; intro c l N _
 refine neS ?_ ?_ <;> intro c l N hx
 · have hx:x ≠ .no:=fun e => hx (by rw [e])
   have hn:nameS (x,b) = [123] ++ uriS x ++ [125] ++ locS b:=by unfold nameS; rw [if_neg hx]
   rw [hn] at h
   have l1:=uriS_len x
   refine csM ([123]) ?_; intro c l N _
   refine ld 3 B.uri ?_
   refine adT ?_ (hz:=ltr (Nat.add_le_add_left l1 _) (by decide)); intro c l N _
   refine csM ([125]) ?_; intro c l N _
   refine adT ?_ (hz:=ltr (Nat.add_le_add_right (lap ▸ Nat.add_le_add_left l1 _) _) (by decide)); intro c l N _
   refine ld 0 B.name ?_
   refine gsp ?_
   refine cs ?_; intro c l N _
   refine spQ ?_; intro c l N D vs hT
   refine ci ?_; intro c l N _
   refine neg ?_; intro c l N _
   obtain ⟨tl,hl⟩:=hq hT
   refine last 0 ?_ (hx:=hl)
   refine adT ?_ (hz:=by rw [lap,lap,locS_len]; exact ltr (Nat.add_le_add_right (Nat.add_le_add_right (Nat.add_le_add_left l1 _) _) _) (by decide)); intro c l N t'
   exact (h t').dropN 2
 · have hx:x = .no:=uriS_inj (Classical.not_not.mp hx)
   have hn:nameS (x,b) = locS b:=by unfold nameS; rw [if_pos hx]
   rw [hn] at h
   refine ld 0 B.name ?_
   refine gsp ?_
   refine cs ?_; intro c l N _
   refine spQ ?_; intro c l N D vs hT
   refine ci ?_; intro c l N _
   refine neg ?_; intro c l N _
   obtain ⟨tl,hl⟩:=hq hT
   refine last 0 ?_ (hx:=hl)
   exact (h tl).dropN 2
theorem b_full {kvs:List (Str × Value)} {bx:Uri} (B:FEn Z.env) (D:GD Z.w g lv kvs) (hv:p ≠ .em → valueAt kvs (mk (pfxS p)) = some (sv (uriS x) tu)) (hb:p = .em → bx = x)
 (h:∀ t',Hr Z.H0 g N (Q (.ret (sv (nameS (x,b)) t')))):G Z g (flL p b t lv (sv (uriS bx) t2) none) N (go Z (fnB 14) (finT Q)):=by
 refine letG ?_; intro c l N
 refine nx ?_
 refine cs ?_; intro c l N _
 refine ld 0 B.name ?_
 refine inQ ?_ ?_ <;> intro c l N hp
 · refine ld 1 B.level ?_
   refine ld 0 B.name ?_
   refine gsp ?_
   refine cs ?_; intro c l N _
   refine spQ ?_; intro c l N _ vs hT
   refine ci ?_; intro c l N _
   obtain ⟨t0,h0⟩:=hT.at (i:=0) (x:=pfxS p) (by unfold partsQ; rw [if_neg hp]; rfl)
   refine itL (k:=0) 0 ?_ (hx:=h0)
   refine gds D ?_ (hv:=hv hp)
   refine st 3 B.uri ?_
   exact b_full2 B fun t' => (h t').dropN 1
 · refine ld 2 B.bare ?_
   refine st 3 B.uri ?_
   have e:=hb (Classical.not_not.mp hp)
   subst e
   exact b_full2 B h
end
theorem f_full {u:Nat} {R:Result → PP} {g:Addr → Option Obj} {N:Ldg} {p:Pfx} {b:Bool} {x bx:Uri} {lv:Addr} {kvs:List (Str × Value)}
 (C:Cx w H0) (hroom:d ≤ 890) (D:GD w g lv kvs) (hv:p ≠ .em → valueAt kvs (mk (pfxS p)) = some (sv (uriS x) tu)) (hb:p = .em → bx = x) (h:∀ t',Hr H0 g N (R (.ok (.ret (sv (nameS (x,b)) t'))))) :
 Hr H0 g N (codeAny (model PG w) (ar d u) (.call (.ref 194) ⟨[sv (qS p b) t,.ref lv,sv (uriS bx) t2],[]⟩) R):=by
 refine' callG (binds:=[(Str.ofString "name",sv (qS p b) t),(Str.ofString "level",.ref lv),(Str.ofString "bare",sv (uriS bx) t2)]) (body:=fnB 14) [Str.ofString "uri"] C ?k6 ?k7 (Nat.lt_of_le_of_lt hroom (by decide)) ?k9 ?kB ?kN ?c5 ?c2 ?c3 ?c4 ?_
 walk_at "fn"
 intro L Q E hL q
 refine b_full ?_ D hv hb fun t' => (q.ret (h t'))
 constructor <;> exact ⟨rfl,rfl⟩
theorem rep_len {y z:T} (hzy:z.length ≤ y.length):∀ (l:T) (k:Nat),(rep y z k l).length ≤ l.length - k
 | [],k => by cases k <;> exact Nat.zero_le _
 | c :: r,k + 1 => by
  rw [rep,List.length_cons,Nat.add_sub_add_right]
  exact rep_len hzy r k
 | c :: r,0 => by
  rw [rep]
  split
  · rename_i hp
    have hl:=(List.isPrefixOf_iff_prefix.mp hp).length_le
    have:=rep_len hzy r (y.length - 1)
    rw [lap]
    refine ltr (Nat.add_le_add hzy this) ?_
    cases e:y.length with
    | zero => rw [Nat.zero_add,List.length_cons]; exact Nat.le_succ_of_le (Nat.sub_le _ _)
    | succ m =>
     rw [e] at hl
     rw [Nat.succ_add,Nat.succ_sub_one,Nat.add_sub_cancel' (Nat.le_of_succ_le_succ hl)]; exact Nat.le_refl _
  · exact Nat.succ_le_succ (rep_len hzy r 0)
variable {z:Mine.T}
theorem rep_le (hzy:z.length ≤ y.length) (l:T):(rep y z 0 l).length ≤ l.length:=rep_len hzy l 0
structure Gb (Z:Zc) (b:Nat) (g:Addr → Option Obj) (l:Fr1) (N:Ldg) (c:Tr):Prop where
 run:∀ s,b ≤ s.toks → St Z.H0 g ((Z.env.locals,Frm l) :: N) s → den Z c s
section
variable {b:Nat} {g:Addr → Option Obj} {l:Fr1} {N:Ldg}
theorem leB {X:Sem α} {Q:α → PP} {s:Shared} (hb:b ≤ s.toks) (h:wz Z X (fun v s' => b ≤ s'.toks → Q v s') s):wz Z X Q s:=wpAny_toks (thn h fun _ _ q l => q (ltr hb l))
theorem Gb.of (h:Gb Z 0 g l N c):G Z g l N c:=Hr.mk fun s S => h.run s (Nat.zero_le _) S
theorem nxB (h:Gb Z b g l N (rsQ Z.env c)) (hc:HdQ c:=by exact trivial):Gb Z b g l N c:=Gb.mk fun s hb S => by
 cases c with
 | seq sts k => cases sts with
  | nil => exact hc.elim
  | cons st r => exact seq_ok Z.i (h.run s hb S)
 | _ => exact hc.elim
theorem ldB {x:Str} {v:Value} (i:Nat) (hl:Lo Z.env x) (h:Gb Z b g l N (rsV c v)) (hc:autoParam (HdLd x c) aR) (hv:autoParam (At (x,some v) i l) aR):Gb Z b g l N c:=Gb.mk fun s hb S => outLd hc (by
 obtain ⟨m,S1,hm⟩:=S.frm
 exact ldE S1 (hm.2 _ hv.mem) (h.run s hb S) rfl Z.kf hl.k hl.d)
theorem stTB {x:Str} {v:Value} (i:Nat) (hl:Lo Z.env x) (h:Gb Z b g (setF v i l) N (rsU c)) (hc:autoParam (HdSt x v c) aR) (hk:autoParam (KeyAt x i l) aR):Gb Z b g l N c:=Gb.mk fun s hb S => by
 have:=st (g:=g) (N:=N) (c:=.st x v (.fin fun s => b ≤ s.toks → den Z (rsU c) s)) i hl (Hr.mk fun s S hb => h.run s hb S) rfl hk
 exact outSt hc (leB hb (this.run s S))
theorem csB {X:Str} (x:T) (h:let c':=c; let l':=l; let N':=N; ∀ t,b ≤ t → Gb Z (t + 1) g l' N' (rsV c' (sv x t))) (hc:autoParam (HdS X c) aR) (hX:X = mk x:=by kernel_rfl):Gb Z b g l N c:=Gb.mk fun s hb S => by
 subst hX
 exact outS hc ((h s.toks hb).run (tick s) (Nat.le_refl _) S)
theorem adB {x:T} {u:Tok} (hx:x ≠ []) (hy:y ≠ []) (h:let c':=c; let l':=l; let N':=N; ∀ t',b ≤ t' → Gb Z b g l' N' (rsV c' (sv (x ++ y) t'))) (hc:autoParam (HdV (binaryOp .Add (sv x t) (sv y u)) c) aR) (hz:autoParam (x.length + y.length ≤ 100000) aD):Gb Z b g l N c:=Gb.mk fun s hb S => outV hc (by
 refine binaryOp_concat (typeIs_str s _ t) (typeIs_str s _ u) PySem.noFill_str_add PySem.seq_str_add ?_
 refine wpAny_call_entry slot_str_add (typeIs_str s _ t) entry_str_add ?_ (args_str_add _ _)
 show wpAny _ _ (do
  if (true && (mk x).length == 0) = true then (do rule "str.__add__.left-empty"; ret (.str (mk y) u)) else
  if (true && (mk y).length == 0) = true then (do rule "str.__add__.right-empty"; ret (.str (mk x) t)) else
  retStr (mk x ++ mk y)) _ _ s
 have h1:((mk x).length == 0) = false:=by rw [mk_len]; exact beq_false_of_ne fun e => hx (List.length_eq_zero_iff.mp e)
 have h2:((mk y).length == 0) = false:=by rw [mk_len]; exact beq_false_of_ne fun e => hy (List.length_eq_zero_iff.mp e)
 rw [h1,h2]
 refine wpAny_bind (wpAny_mkStr (wpAny_pure ⟨_,rfl,?_⟩) ?_)
 · rw [mk_app]; exact (h s.toks hb).run (tick s) (Nat.le_succ_of_le hb) S
 · rw [mk_app,mk_len,lap]; exact szl (ltr hz (by decide)))
theorem nwTB {vs:List Value} (h:let c':=c; let l':=l; let N':=N; ∀ g' a,gLe g g' → g' a = some (tupO vs) → Gb Z b g' l' N' (rsV c' (.ref a))) (hc:autoParam (HdV (newTuple vs) c) aR) (hz:vs.length ≤ sizeLine:=by exact Nat.le_of_ble_eq_true rfl):Gb Z b g l N c:=
 Gb.mk fun s hb S => outV hc (leB hb (newTupS S (fun g' s2 a le S2 ho hb => (h g' a le ho).run s2 hb S2) hz))
theorem nwLB {vs:List Value} (h:let c':=c; let l':=l; let N':=N; ∀ a,Gb Z b g l' ((a,Lst vs) :: N') (rsV c' (.ref a))) (hc:autoParam (HdV (newList vs) c) aR) (hz:vs.length ≤ sizeLine:=by exact Nat.le_of_ble_eq_true rfl):Gb Z b g l N c:=
 Gb.mk fun s hb S => outV hc (leB hb (newLstS S (fun s2 a S2 hb => (h a).run s2 hb S2) hz))
theorem grB {x:T} (h:Gb Z b g l N (rsM c (.builtin "str.replace",[sv x t]))) (hc:autoParam (HdM (sv x t) "replace" c) aR):Gb Z b g l N c:=Gb.mk fun s hb S => outM hc (PySem.GM.replace (h.run s hb S))
theorem rpB {x:T} {u v:Tok} (hu:u ≠ 0) (hv:v ≠ 0) (huv:u ≠ v) (hyz:y ≠ z) (hy:0 < y.length) (hx:x.length ≤ 1048576) (hz:z.length ≤ 14) (h:let c':=c; let l':=l; let N':=N; ∀ t',Gb Z b g l' N' (rsV c' (sv (rep y z 0 x) t')))
 (hc:autoParam (HdV (call (.builtin "str.replace") [sv x t,sv y u,sv z v]) c) aR):Gb Z b g l N c:=Gb.mk fun s hb S => outV hc (leB hb (by
 refine SC.replaceW hu hv huv (beq_false_of_ne fun e => hyz (mk_inj e)) (by rw [mk_len]; exact hx) (by rw [mk_len]; exact hz) fun t' k hb => ?_
 rw [replace_mk x y z hy]
 exact (h t').run { s with toks:=k } hb S))
theorem lpB {a:Addr} {vs:List Value} (i:Nat) (K:Nat → Fr1 → Ldg → Prop) (hl:∀ j l' N',K j l' N' → ∃ i,At (a,Lst vs) i N') (start:K 0 l N)
 (done:∀ l' N',K vs.length l' N' → Gb Z b g l' N' (rsF c .next))
 (turn:∀ j v it E Q' l' N',vs[j]? = some v → K j l' N' → (∀ {l N},K (j + 1) l N → Gb Z b g l ((it,Itr a (j + 1)) :: N) (finT Q' .next)) → Gb (Z.sE E) b g l' ((it,Itr a (j + 1)) :: N') (lpT Z.env c v Q'))
 (hk:autoParam (At (a,Lst vs) i N) aR) (hc:autoParam (HdLp (.ref a) c) aR):Gb Z b g l N c:=Gb.mk fun s hb S => outLp hc (by
 refine leB hb (iterS0 S (S.list (At.pk (i:=i + 1) hk)) fun s2 it S2 _ hb => ?_)
 have I:=iteL (prog:=PG) (w:=Z.w) (A:=ar Z.d Z.u) (H0:=Z.H0) (l:=a) (it:=it) (vs:=vs) rfl
 refine codeAny_forLoop_any (fun k s => ∃ i l' N',i ≤ vs.length ∧ k = vs.length + 1 - i ∧ K i l' N' ∧ b ≤ s.toks ∧ St Z.H0 g ((Z.env.locals,Frm l') :: (it,Itr a i) :: N') s) ?_ (vs.length + 1) ⟨0,l,N,Nat.zero_le _,rfl,start,hb,S2.perm (.swap _ _ _)⟩
 rintro k s ⟨i,l',N',hi,rfl,hK,hb,S'⟩
 have hls:s.heap.IsList a vs.toArray:=by
  obtain ⟨j,hj⟩:=hl i l' N' hK
  exact S'.list (At.pk (i:=j + 2) hj)
 rcases Nat.lt_or_ge i vs.length with hv | hv
 · refine wpAny_toks (I.next hv hls S' fun v s2 hV S2 tk => I.own S2 ?_)
   have hb2:=ltr hb tk
   have key:∀ E' Q',(∀ {l N s},K (i + 1) l N → b ≤ s.toks → St Z.H0 g ((Z.env.locals,Frm l) :: (it,Itr a (i + 1)) :: N) s → Q' .next s) → wpAny (model PG Z.w) (ar Z.d Z.u) (assign (e1C c) Z.env v) (fun ι => wpAny (model PG Z.w) (ar Z.d Z.u) (execs (bdC c) Z.env) Q' E') E' s2:=fun E' Q' q =>
    thn (tgT_ok ((turn i v it E' Q' l' N' hV hK fun hK2 => Gb.mk fun s hb S => q hK2 hb S).run s2 hb2 S2)) fun _ _ z => z
   refine key _ _ fun {l N s} hK2 hb S => ?_
   · exact ⟨vs.length + 1 - (i + 1),Nat.sub_lt_sub_left (Nat.lt_succ_of_lt hv) (Nat.lt_succ_self i),i + 1,l,N,hv,rfl,hK2,hb,S⟩
 · cases Nat.le_antisymm hi hv
   exact wpAny_toks (I.stop hls S' fun s2 S2 tk => wpAny_execs_nil ((done l' N' hK).run s2 (ltr hb tk) S2)))
theorem asB {x y:Str} {a:Addr} {u v:Value} (i j:Nat) (hx:Lo Z.env x) (hy:Lo Z.env y) (hg:g a = some (tupO [u,v])) (h:Gb Z b g (setF v j (setF u i l)) N (rsU c))
 (hc:autoParam (HdAs (.ref a) c) aR) (ht:autoParam (isN2 x y (e1C c)) aR) (h1:autoParam (KeyAt x i l) aR) (h2:autoParam (KeyAt y j l) aR):Gb Z b g l N c:=Gb.mk fun s hb S => den_at hc.e (wpAny_toks (as2W (Q:=fun _ s' => s.toks ≤ s'.toks → den Z (rsU c) s') i j hx hy hg S (fun s' S' tk => h.run s' (ltr hb tk) S') ht h1 h2))
end
noncomputable def PrB (g:Addr → Option Obj) (b:Nat):List Value → List (T × T) → Prop
 | [],[] => True
 | v :: vs,r :: rs => (∃ ad t1 t2,v = .ref ad ∧ g ad = some (tupO [sv r.1 t1,sv r.2 t2]) ∧ t2 ≠ 0 ∧ t2 < b) ∧ PrB g b vs rs
 | _,_ => False
theorem PrB.get {g:Addr → Option Obj} {b:Nat}:∀ {vs:List Value} {rs:List (T × T)},PrB g b vs rs → ∀ {i:Nat} {v:Value},vs[i]? = some v → ∃ r ad t1 t2,rs[i]? = some r ∧ v = .ref ad ∧ g ad = some (tupO [sv r.1 t1,sv r.2 t2]) ∧ t2 ≠ 0 ∧ t2 < b
 | _ :: _,r :: _,h,0,_,e => by cases e; obtain ⟨⟨ad,t1,t2,q⟩,_⟩:=h; exact ⟨r,ad,t1,t2,rfl,q⟩
 | _ :: _,_ :: _,h,i + 1,v,e => h.2.get (i:=i) e
 | [],[],_,_,_,e => nomatch e
 | [],_ :: _,h,_,_,_ => h.elim
 | _ :: _,[],h,_,_,_ => h.elim
noncomputable def entRows:List (T × T):=[([108,116],[60]),([103,116],[62]),([113,117,111,116],[34]),([35,120,57],[9]),([35,120,65],[10]),([35,120,68],[13])]
noncomputable def stepP (x:T) (r:T × T):T:=rep ([38] ++ r.1 ++ [59]) r.2 0 x
theorem ent_ok:∀ r ∈ entRows,r.1 ≠ [] ∧ r.1.length ≤ 4 ∧ r.2.length = 1 ∧ [38] ++ r.1 ++ [59] ≠ r.2:=by decide
theorem foldP_len:∀ (rs:List (T × T)) (x:T),(∀ r ∈ rs,r.2.length = 1) → (rs.foldl stepP x).length ≤ x.length
 | [],x,_ => Nat.le_refl _
 | r :: rs,x,h => by
  rw [List.foldl_cons]
  refine ltr (foldP_len rs _ fun r hr => h r (List.mem_cons_of_mem _ hr)) (rep_le ?_ x)
  rw [h r (List.mem_cons_self ..),lap]; exact Nat.le_add_left _ _
structure LpEn (env:Env):Prop where
 text:Lo env "text"
 name:Lo env "name"
 sign:Lo env "sign"
section
variable {g:Addr → Option Obj} {N0:Ldg} {Q:Flow → PP} {x:T}
noncomputable abbrev lpF (v:Value) (a b:Option Value):Fr1:=[("text",some v),(Str.ofString "name",a),(Str.ofString "sign",b)]
theorem b_plain (B:LpEn Z.env) (hx:x.length ≤ 1000000) (h:∀ t',Hr Z.H0 g N0 (Q (.ret (sv (plain x) t')))):G Z g (lpF (sv x t) none none) N0 (go Z (fnB 13) (finT Q)):=by
 have hr2:∀ r ∈ entRows,r.2.length = 1:=fun r hr => (ent_ok r hr).2.2.1
 refine G.low fun low => ?_
 refine Gb.of ?_
 refine nxB ?_
 have pr:∀ {g:Addr → Option Obj} {b:Nat} {ad:Addr} {r:T × T} {t1 t2:Tok} {vs rs},g ad = some (tupO [sv r.1 t1,sv r.2 t2]) → t2 ≠ 0 → t2 < b → PrB g b vs rs → PrB g b (.ref ad :: vs) (r :: rs):=fun a b c d => ⟨⟨_,_,_,rfl,a,b,c⟩,d⟩
 refine csB [108,116] ?_; intro c l N t1 h1
 refine csB [60] ?_; intro c l N u1 k1
 refine nwTB ?_; intro c l N g1 a1 le1 e1
 refine csB [103,116] ?_; intro c l N t2 h2
 refine csB [62] ?_; intro c l N u2 k2
 refine nwTB ?_; intro c l N g2 a2 le2 e2
 refine csB [113,117,111,116] ?_; intro c l N t3 h3
 refine csB [34] ?_; intro c l N u3 k3
 refine nwTB ?_; intro c l N g3 a3 le3 e3
 refine csB [35,120,57] ?_; intro c l N t4 h4
 refine csB [9] ?_; intro c l N u4 k4
 refine nwTB ?_; intro c l N g4 a4 le4 e4
 refine csB [35,120,65] ?_; intro c l N t5 h5
 refine csB [10] ?_; intro c l N u5 k5
 refine nwTB ?_; intro c l N g5 a5 le5 e5
 refine csB [35,120,68] ?_; intro c l N t6 h6
 refine csB [13] ?_; intro c l N u6 k6
 refine nwTB ?_; intro c l N g6 a6 le6 e6
 refine nwLB ?_; intro c l N D
 have l56:=le5.tr le6
 have l46:=le4.tr l56
 have l36:=le3.tr l46
 have l26:=le2.tr l36
 have m5:u5 < u6 + 1:=Nat.lt_succ_of_lt (Nat.lt_of_lt_of_le (Nat.lt_succ_self _) (ltr h6 (Nat.le_of_succ_le k6)))
 have m4:u4 < u6 + 1:=Nat.lt_trans (Nat.lt_of_lt_of_le (Nat.lt_succ_self _) (ltr h5 (Nat.le_of_succ_le k5))) m5
 have m3:u3 < u6 + 1:=Nat.lt_trans (Nat.lt_of_lt_of_le (Nat.lt_succ_self _) (ltr h4 (Nat.le_of_succ_le k4))) m4
 have m2:u2 < u6 + 1:=Nat.lt_trans (Nat.lt_of_lt_of_le (Nat.lt_succ_self _) (ltr h3 (Nat.le_of_succ_le k3))) m3
 have m1:u1 < u6 + 1:=Nat.lt_trans (Nat.lt_of_lt_of_le (Nat.lt_succ_self _) (ltr h2 (Nat.le_of_succ_le k2))) m2
 have z:∀ {t u:Nat},t + 1 ≤ u → u ≠ 0:=fun h e => Nat.not_succ_le_zero _ (e ▸ h)
 have hP:PrB g6 (u6 + 1) [.ref a1,.ref a2,.ref a3,.ref a4,.ref a5,.ref a6] entRows:=
  pr (l26 _ _ e1) (z k1) m1 (pr (l36 _ _ e2) (z k2) m2 (pr (l46 _ _ e3) (z k3) m3 (pr (l56 _ _ e4) (z k4) m4 (pr (le6 _ _ e5) (z k5) m5 (pr e6 (z k6) (Nat.lt_succ_self _) trivial)))))
 have h6:∀ t',Hr Z.H0 g6 N0 (Q (.ret (sv (plain x) t'))):=fun t' => (h t').weak (le1.tr l26) low
 refine lpB (vs:=[.ref a1,.ref a2,.ref a3,.ref a4,.ref a5,.ref a6]) 0 (fun i l N => ∃ tx a b,l = lpF (sv ((entRows.take i).foldl stepP x) tx) a b ∧ N = (D,Lst [.ref a1,.ref a2,.ref a3,.ref a4,.ref a5,.ref a6]) :: N0) (fun i l N ⟨_,_,_,_,e⟩ => ⟨0,by rw [e]; rfl⟩) ⟨t,none,none,rfl,rfl⟩ ?_ ?_
 · rintro l N ⟨tx,a,b,rfl,rfl⟩
   have hl:(entRows.foldl stepP x).length ≤ x.length:=foldP_len _ _ hr2
   refine nxB ?_
   refine ldB 0 B.text ?_
   refine grB ?_
   refine csB eAmp ?_; intro c l N p1 q1
   refine csB [38] ?_; intro c l N p2 q2
   refine rpB (y:=eAmp) (z:=[38]) (fun e => Nat.not_succ_le_zero _ (e ▸ q1)) (z q2) (Nat.ne_of_lt q2) (by decide) (by decide) (ltr hl (ltr hx (by decide))) (by decide) ?_; intro c l N t'
   exact Gb.mk fun s _ S => ((h6 t').dropN 2).run s S
 · rintro i v it E Q' l N hv ⟨tx,a,b,rfl,rfl⟩ q
   obtain ⟨r,ad,t1,t2,hr,rfl,hg,q1,q2⟩:=hP.get hv
   obtain ⟨r1,r2,r3,r4⟩:=ent_ok r (List.mem_of_getElem? hr)
   have hl:((entRows.take i).foldl stepP x).length ≤ x.length:=foldP_len _ _ fun r hr => hr2 r (List.mem_of_mem_take hr)
   have l5:([38] ++ r.1).length ≤ 5:=by rw [lap]; exact Nat.add_le_add_left r2 1
   refine asB 1 2 B.name B.sign hg ?_
   refine nxB ?_
   refine ldB 0 B.text ?_
   refine grB ?_
   refine csB [38] ?_; intro c l N p1 c1
   refine ldB 1 B.name ?_
   refine adB (List.cons_ne_nil _ _) r1 ?_ (hz:=ltr (Nat.add_le_add_left r2 1) (by decide)); intro c l N p2 c2
   refine csB [59] ?_; intro c l N p3 c3
   refine adB (List.cons_ne_nil _ _) (List.cons_ne_nil _ _) ?_ (hz:=ltr (Nat.add_le_add_right l5 1) (by decide)); intro c l N p4 c4
   refine ldB 2 B.sign ?_
   have lt:t2 < p4:=Nat.lt_of_lt_of_le q2 (ltr (Nat.le_of_succ_le (ltr (Nat.succ_le_succ c1) c3)) (Nat.le_of_succ_le c4))
   refine rpB (y:=[38] ++ r.1 ++ [59]) (z:=r.2) (Nat.ne_of_gt (Nat.lt_of_le_of_lt (Nat.zero_le _) lt)) q1 (Nat.ne_of_gt lt) r4 (by rw [lap]; exact Nat.succ_pos _) (ltr hl (ltr hx (by decide))) (by rw [r3]; decide) ?_; intro c l N t'
   refine stTB 0 B.text ?_
   have etk:entRows.take (i + 1) = entRows.take i ++ [r]:=by rw [List.take_add_one,hr]; rfl
   have:=q ⟨t',some (sv r.1 t1),some (sv r.2 t2),rfl,rfl⟩
   rw [etk,List.foldl_append] at this
   exact Gb.mk fun s hb S => this.run s (ltr (ltr (Nat.le_of_succ_le (ltr (Nat.succ_le_succ c1) c3)) (Nat.le_succ p3)) hb) S
end
theorem f_plain {u:Nat} {R:Result → PP} {g:Addr → Option Obj} {N:Ldg} {x:T} (C:Cx w H0) (hroom:d ≤ 890) (hx:x.length ≤ 1000000) (h:∀ t',Hr H0 g N (R (.ok (.ret (sv (plain x) t'))))) :
 Hr H0 g N (codeAny (model PG w) (ar d u) (.call (.ref 187) ⟨[sv x t],[]⟩) R):=by
 refine' callG (binds:=[(Str.ofString "text",sv x t)]) (body:=fnB 13) [Str.ofString "name",Str.ofString "sign"] C ?k6 ?k7 (Nat.lt_of_le_of_lt hroom (by decide)) ?k9 ?kB ?kN ?c5 ?c2 ?c3 ?c4 ?_
 walk_at "fn"
 intro L Q E hL q
 refine b_plain ?_ hx fun t' => (q.ret (h t'))
 constructor <;> exact ⟨rfl,rfl⟩
structure ScOk (env:Env) (cl:List (Str × Addr)) (sc:Scope):Prop where
 clos:closureFor sc env = pure cl
 kind:sc.kind = .function
 names:∀ x ∈ sc.names,x.2 = .local → sc.names.lookup x.1 = some .local
 cells:∀ x ∈ sc.names,x.2 ≠ .cell
noncomputable def nP (e:Expr):Pos:=(evE e).p
noncomputable def cU:Tr → Option (Value → Sem Unit)
 | .lc u _ _ _ _ _ => u
 | _ => none
noncomputable def lcEl (e:Expr):Expr:=(evE e).a
noncomputable def lcGs (e:Expr):List Comprehension:=(evE e).gs
noncomputable def lcSc (e:Expr):Scope:=(evE e).sc
noncomputable def lcPo (e:Expr):Pos:=(evE e).p
noncomputable def lcG1 (e:Expr):Comprehension:=(lcGs e).headD ⟨e,e,[],0⟩
noncomputable def LcF (e:Expr):Prop:=e = .ListComp (lcEl e) (lcG1 e :: (lcGs e).tail) (lcSc e) (lcPo e)
noncomputable def rsLc (env:Env) (cl:List (Str × Addr)) (c:Tr):Tr:=evT env 20 (lcG1 (cE c)).iter fun x => .lc none (cE c) (lcSc (cE c)) cl x (rsV c)
noncomputable def rsLa (env:Env) (cl:List (Str × Addr)) (c:Tr):Tr:=evT env 20 (lcG1 (cE c)).iter fun x => .lc (some (assign (cN c) env)) (cE c) (lcSc (cE c)) cl x fun ι => rsF c .next
section
variable {g:Addr → Option Obj} {l:Fr1} {N:Ldg}
theorem folded {it:Expr} (hc:isSet it = false) (x:Value):foldedSetIterable it env x = pure x:=by cases it <;> first | rfl | (cases hc)
theorem lcG (sc:ScOk Z.env cl (lcSc (cE c))) (h:G Z g l N (rsLc Z.env cl c))
 (hc:autoParam (HdEx () c) aR) (hf:autoParam (LcF (cE c)) aR) (h1:autoParam ((isSet (lcG1 (cE c)).iter,firstAsync (lcGs (cE c))) = (false,false)) aR):G Z g l N c:=Hr.mk fun s S => den_at hc.e (by
 have hce:exC c = cE c:=by rw [hc.e]; rfl
 rw [hce]
 have h:=h.run s S
 unfold rsLc at h
 have hf':cE c = .ListComp (lcEl (cE c)) (lcG1 (cE c) :: (lcGs (cE c)).tail) (lcSc (cE c)) (lcPo (cE c)):=hf
 generalize cE c = C at *
 injection h1 with h1 h2
 have e2:lcGs C = lcG1 C :: (lcGs C).tail:=congrArg lcGs hf'
 have e:eval C Z.env = comprehension C (lcSc C) Z.env (lcG1 C).iter.pos (newList []) (firstAsync (lcGs C)) (eval (lcG1 C).iter Z.env) none:=by rw [hf']; generalize lcG1 C = q; cases q; rfl
 show wpAny _ _ (eval C Z.env) _ _ _
 rw [e,h2]
 exact wpAny_comprehension_free (by rw [hf']; rfl) (folded h1) sc.clos sc.kind sc.names (evT_ok 20 (k:=fun x => .lc none C (lcSc C) cl x (rsV c)) h))
theorem lcA {y:Str} (sc:ScOk Z.env cl (lcSc (cE c))) (h:G Z g l N (rsLa Z.env cl c))
 (hc:autoParam (HdSm (.Assign [cN c] (cE c) (cP c)) c) aR) (hy:autoParam (cN c = .Name y (nP (cN c))) aR) (hf:autoParam (LcF (cE c)) aR) (h1:autoParam ((isSet (lcG1 (cE c)).iter,firstAsync (lcGs (cE c))) = (false,false)) aR) (hl:autoParam (Lo Z.env y) aA) (hw':(true,false) = ((nP (cN c)).line == (lcPo (cE c)).line,(lcSc (cE c)).names.any fun x => x.1 == y && (x.2 == .local || x.2 == .cell)):=by kernel_rfl):G Z g l N c:=Hr.mk fun s S => den_at hc.e (by
 have hw:swapsWith (cE c) (some (.Name y (nP (cN c)))) (cP c).line Z.env = pure true:=by
  injection hw' with w1 w2
  have hf':cE c = .ListComp (lcEl (cE c)) (lcG1 (cE c) :: (lcGs (cE c)).tail) (lcSc (cE c)) (lcPo (cE c)):=hf
  rw [hf']
  show (pure (Z.env.blockKind == .function && Z.env.kindOf y == some .local && (nP (cN c)).line == (lcPo (cE c)).line && !((lcSc (cE c)).names.any fun x => x.1 == y && (x.2 == .local || x.2 == .cell))):Sem Bool) = pure true
  rw [← w1,← w2,hl.k]
  unfold Env.blockKind
  rw [Z.kf]
  rfl
 have h:=h.run s S
 unfold rsLa at h
 have hf':cE c = .ListComp (lcEl (cE c)) (lcG1 (cE c) :: (lcGs (cE c)).tail) (lcSc (cE c)) (lcPo (cE c)):=hf
 rw [hy] at h ⊢
 generalize cE c = C at *
 generalize nP (cN c) = py at *
 injection h1 with h1 h2
 have e:(do let _ ← comprehension C (lcSc C) Z.env (lcG1 C).iter.pos (newList []) (firstAsync (lcGs C)) (eval (lcG1 C).iter Z.env) (some (assign (.Name y py) Z.env)):Sem Unit) = evalThenUse C Z.env (assign (.Name y py) Z.env):=by rw [hf']; generalize lcG1 C = q; cases q; rfl
 show wpAny _ _ (exec (.Assign [.Name y py] C (cP c)) Z.env) _ _ _
 rw [exec_Assign_Name_used _ _ _ _ hw]
 refine wpAny_bind (wpAny_standAt (wpAny_bind ?_))
 rw [← e,h2]
 exact wpAny_bind (wpAny_mono (wpAny_comprehension_free (Q:=fun ι => den Z (rsF c .next)) (by rw [hf']; rfl) (folded h1) sc.clos sc.kind sc.names (evT_ok 20 (k:=fun x => .lc (some (assign (.Name y py) Z.env)) C (lcSc C) cl x fun ι => rsF c .next) h)) (fun _ s' hq => wpAny_pure (wpAny_pure hq)) fun _ _ e => e))
noncomputable def Zc.co (Z:Zc) (sc:Scope) (cl:List (Str × Addr)) (Lc:Addr) (E:Value → PP) (hk:sc.kind = .function) (hL:Z.H0.heap.objs.size ≤ Lc):Zc:=⟨Z.w,Z.d,Z.u,E,compEnvC sc cl Lc Z.env,Z.H0,Z.C,hL,hk,Z.gl,Z.bi⟩
noncomputable def finV (Q:Value → PP) (x:Value):Tr:=.fin (Q x)
noncomputable def ifT (env:Env) (ifs:List Expr) (a b:Tr):Tr:=match ifs with
 | [] => a
 | t :: _ => itT (evT env 20) 20 t fun c => match c with
  | true => a
  | false => b
noncomputable def lcT (env:Env) (c:Tr) (v:Value) (Qe:Value → PP) (Qs:PP):Tr:=tgT env (lcG1 (cE c)).target v (ifT env (lcG1 (cE c)).ifs (evT env 20 (lcEl (cE c)) (finV Qe)) (.fin Qs))
noncomputable def oneB (e:Expr):Bool:=(lcGs e).tail.isEmpty && (lcG1 e).ifs.tail.isEmpty && (lcG1 e).is_async == 0
noncomputable def frV (xs:List Str) (m:Str → Option Value):Fr1:=xs.map fun x => (x,m x)
structure CoG (Z:Zc) (it acc:Addr) (P:OP) (K:(Addr → Option Obj) → List Value → Prop) (out:List Value) (N:Ldg) (Qe:Value → PP) (Qs:PP):Prop where
 el:∀ {g l x},K g (out ++ [x]) → G Z g l ((it,P) :: (acc,Lst out) :: N) (finV Qe x)
 sk:∀ {g l},K g out → G Z g l ((it,P) :: (acc,Lst out) :: N) (.fin Qs)
theorem frV_ok {s:Shared} (xs:List Str) (hx:ndB xs = true) (S:St H0 g ((L,Nsp m) :: N) s):St H0 g ((L,Frm (frV xs m)) :: N) s:=by
 refine S.toFr _ ?_ fun p hp => ?_
 · have:(frV xs m).map (·.1) = xs:=by unfold frV; rw [List.map_map]; exact List.map_id _
   rw [this]; exact of_decide_eq_true hx
 · obtain ⟨x,_,rfl⟩:=List.mem_map.mp hp; rfl
theorem Frm.ns {s:Shared} (S:St H0 g ((L,Frm l) :: N) s):∃ m,St H0 g ((L,Nsp m) :: N) s:=let ⟨m,h,_⟩:=S.frm; ⟨m,h⟩
theorem turn0 {E:Value → PP} {target:Expr} {v:Value} {Q:Value → PP} {b:Tr} {s:Shared} (h:dn (model PG w) A E env In (tgT env target v (ifT env [] (evT env 20 elt (finV Q)) b)) s) :
 wpAny (model PG w) A (assign target env v) (fun _ s₂ => wpAny (model PG w) A (eval elt env) Q E s₂) E s:=
 thn (tgT_ok h) fun _ s z => by
  have z:dn (model PG w) A E env In (evT env 20 elt (finV Q)) s:=z
  exact evT_ok 20 z
theorem turn1 {E:Value → PP} {target t:Expr} {v:Value} {Q:Value → PP} {Qs:PP} {Q':Bool → PP} {s:Shared} (h:dn (model PG w) A E env In (tgT env target v (ifT env [t] (evT env 20 elt (finV Q)) (.fin Qs))) s)
 (h1:∀ s,wpAny (model PG w) A (eval elt env) Q E s → Q' true s) (h2:∀ s,Qs s → Q' false s) :
 wpAny (model PG w) A (assign target env v) (fun _ s₂ => wpAny (model PG w) A (PySem.isTrue t env (eval t env)) Q' E s₂) E s:=
 thn (tgT_ok h) fun _ s z => by
  have z:dn (model PG w) A E env In (itT (evT env 20) 20 t fun c => match c with
   | true => evT env 20 elt (finV Q)
   | false => .fin Qs) s:=z
  refine thn (itT_ok (fun {e k s} => evT_ok (env:=env) 20) 20 z) fun b s3 z => ?_
  cases b with
  | false => exact h2 _ z
  | true =>
   have z:dn (model PG w) A E env In (evT env 20 elt (finV Q)) s3:=z
   exact h1 _ (evT_ok 20 z)
theorem coLoop {n:Nat} {V:Nat → Value → Prop} {ok:PP} {sc2:Scope} {target:Expr} {ifs:List Expr} {it:Addr} {m0:Str → Option Value} {s:Shared} {R:Result → PP}
 (I:Ite PG Z.w (ar Z.d Z.u) Z.H0 it P n V ok) (hk:sc.kind = .function) (hL:Z.H0.heap.objs.size ≤ Lc) (h2:ifs.tail = []) (xs:List Str) (hx:ndB xs = true) (K:Nat → (Addr → Option Obj) → List Value → Prop)
 (hz:∀ j g' out,K j g' out → out.length ≤ 1000000) (hok:∀ j g' m' out s,K j g' out → CSt Z.H0 Lc it acc (P j) g' m' out N s → ok s) (start:K 0 g [])
 (done:∀ g' m' out s,K n g' out → St Z.H0 g' ((Lc,Nsp m') :: (acc,Lst out) :: N) s → R (.ok .next) s)
 (turn:∀ E j v g' out m Qe Qs,j < n → V j v → K j g' out → CoG (Z.co sc cl Lc E hk hL) it acc (P (j + 1)) (K (j + 1)) out N Qe Qs →
  G (Z.co sc cl Lc E hk hL) g' (frV xs m) ((it,P (j + 1)) :: (acc,Lst out) :: N) (tgT (Z.co sc cl Lc E hk hL).env target v (ifT (Z.co sc cl Lc E hk hL).env ifs (evT (Z.co sc cl Lc E hk hL).env 20 elt (finV Qe)) (.fin Qs))))
 (S:CSt Z.H0 Lc it acc (P 0) g m0 [] N s):codeAny (model PG Z.w) (ar Z.d Z.u) (.compLoop (.ListComp elt [⟨target,iter,ifs,0⟩] sc2 pos) 0 (.ref it) (.ref acc) (compEnvC sc cl Lc Z.env)) R s:=by
 have hok':∀ i g' m' N' out s,(K i g' out ∧ N' = N) → CSt Z.H0 Lc it acc (P i) g' m' out N' s → ok s:=by
  rintro i g' m' N' out s ⟨hK,rfl⟩ S'
  exact hok i g' m' out s hK S'
 have dn':∀ g' m' N' out s,(K n g' out ∧ N' = N) → St Z.H0 g' ((Lc,Nsp m') :: (acc,Lst out) :: N') s → R (.ok .next) s:=by
  rintro g' m' N' out s ⟨hK,rfl⟩ S'
  exact done g' m' out s hK S'
 cases ifs with
 | nil =>
  let KK:Nat → (Addr → Option Obj) → Ldg → List Value → Prop:=fun j g' N' out => K j g' out ∧ N' = N
  refine compE (pp:=iter.pos) (target:=target) (elt:=elt) I (by unfold compTurn; dsimp only [List.getElem?_cons_zero]; rfl) KK hok' ?_ dn' ⟨start,rfl⟩ S
  rintro j v g' m' N' out s' Q' E' hj hv ⟨hK,rfl⟩ S' q
  have h:=turn E' j v g' out m' Q' (fun ι => True) hj hv hK ⟨fun {g2 l2 x} hK2 => Hr.mk fun s S => ?_,fun ι => Hr.mk fun ι ι => trivial⟩
  · exact turn0 (h.run s' (frV_ok xs hx S'))
  · obtain ⟨m,S⟩:=Frm.ns S
    exact q x g2 m _ s (hz _ _ _ hK) ⟨hK2,rfl⟩ S
 | cons t ts =>
  have h2:ts = []:=h2
  subst h2
  let KK:Nat → (Addr → Option Obj) → Ldg → List Value → Prop:=fun j g' N' out => K j g' out ∧ N' = N
  refine compB (c:=t) (elt:=elt) (iter:=iter) (target:=target) I KK hok' ?_ dn' ⟨start,rfl⟩ S
  rintro j v g' m' N' out s' Q' E' hj hv ⟨hK,rfl⟩ S' q1 q2
  have h:=turn E' j v g' out m' (fun x s => ∃ g2 m2 N2,(K (j + 1) g2 (out ++ [x]) ∧ N2 = N') ∧ CSt Z.H0 Lc it acc (P (j + 1)) g2 m2 out N2 s) (Q' false) hj hv hK ⟨fun {g2 l2 x} hK2 => Hr.mk fun s S => ?_,fun {g2 l2} hK2 => Hr.mk fun s S => ?_⟩
  · exact turn1 (h.run s' (frV_ok xs hx S')) (fun s3 z => q1 s3 fun Q'' q => thn z fun x s4 ⟨g2,m2,N2,a,b⟩ => q x g2 m2 N2 s4 (hz _ _ _ hK) a b) fun _ z => z
  · obtain ⟨m,S⟩:=Frm.ns S
    exact ⟨g2,m,_,⟨hK2,rfl⟩,S⟩
  · obtain ⟨m,S⟩:=Frm.ns S
    exact q2 g2 m _ s ⟨hK2,rfl⟩ S
theorem coS {x:Value} {n:Nat} {V:Nat → Value → Prop} {ok:PP} (Sr:Src Z.w Z.d Z.u Z.H0 x P n V ok) (so:ScOk Z.env cl sc) (Kn:(Addr → Option Obj) → List Value → Prop) (h0:∀ s,St Z.H0 g ((Z.env.locals,Frm l) :: N) s → ok s)
 (loop:∀ it acc Lc m0 s R,Z.H0.heap.objs.size ≤ Lc → CSt Z.H0 Lc it acc (P 0) g m0 [] ((Z.env.locals,Frm l) :: N) s → (∀ g' m' out s,Kn g' out → St Z.H0 g' ((Lc,Nsp m') :: (acc,Lst out) :: (Z.env.locals,Frm l) :: N) s → R (.ok .next) s) → codeAny (model PG Z.w) (ar Z.d Z.u) (.compLoop (cE c) 0 (.ref it) (.ref acc) (compEnvC sc cl Lc Z.env)) R s)
 (fin:∀ g' acc Lc out m s,Kn g' out → St Z.H0 g' ((Lc,Nsp m) :: (acc,Lst out) :: (Z.env.locals,Frm l) :: N) s → compPost (model PG Z.w) (ar Z.d Z.u) Z.E (cU c) (fun v => den Z (rsV c v)) (.ref acc) Lc (.ok .next) s)
 (hc:autoParam (HdLc (cU c) sc cl x c) aR) (hf:autoParam (LcF (cE c)) aR) (ha:autoParam ((lcG1 (cE c)).is_async = 0) aR):G Z g l N c:=Hr.mk fun s S => den_at hc.e (by
 have hf':cE c = .ListComp (lcEl (cE c)) (lcG1 (cE c) :: (lcGs (cE c)).tail) (lcSc (cE c)) (lcPo (cE c)):=hf
 generalize cU c = u at *
 generalize cE c = C at *
 generalize rsV c = k at *
 generalize lcG1 C = gn at *
 generalize (lcGs C).tail = gs at *
 generalize lcEl C = elt at *
 generalize lcSc C = sc2 at *
 generalize lcPo C = pos at *
 obtain ⟨target,iter,ifs,asy⟩:=gn
 have ha:asy = 0:=ha
 subst ha
 subst hf'
 refine Sr.iter S (h0 s S) fun s1 it S1 => wpAny_newList ?_
 have S2:=S1.newIn (P:=Lst []) (o:={ cls:=.type "list",data:=.seq #[] }) rfl ⟨0,rfl⟩
 have hL:Z.H0.heap.objs.size ≤ (s1.heap.push { cls:=.type "list",data:=.seq #[] }).objs.size:=by rw [push_size]; exact Nat.le_succ_of_le S1.size
 refine wpAny_newFunctionEnv so.cells (fun x hx => nomatch hx) (fun h' hns hsb => ?_) so.kind
 have S3:=St.blk (St.new (s:={ s1 with heap:=s1.heap.push { cls:=.type "list",data:=.seq #[] } }) S2 (P:=fun ι => True) (o:={ cls:=.type "dict",data:=.dict #[] }) rfl trivial) hns hsb
 have key:=loop it _ _ _ { s1 with heap:=h' } _ hL S3 (fun g' m' out s hK S' => fin g' _ _ out m' s hK S')
 refine codeAny_compStart_list key ?_
 obtain ⟨o,ho',hP⟩:=(S3.has (it,P 0) (List.mem_cons_of_mem _ (List.mem_cons_self ..))).1
 exact Sr.self ho' hP key)
theorem coA {x:Value} {n:Nat} {V:Nat → Value → Prop} {ok:PP} (Sr:Src Z.w Z.d Z.u Z.H0 x P n V ok) (so:ScOk Z.env cl sc) (xs:List Str) (K:Nat → (Addr → Option Obj) → List Value → Prop) (hz:∀ j g' out,K j g' out → out.length ≤ 1000000) (h0:∀ N1 s g',gLe g g' → St Z.H0 g' (N1 ++ (Z.env.locals,Frm l) :: N) s → ok s) (hle:∀ j g' out,K j g' out → gLe g g') (start:K 0 g []) (fin:∀ g' acc Lc out m s,K n g' out → St Z.H0 g' ((Lc,Nsp m) :: (acc,Lst out) :: (Z.env.locals,Frm l) :: N) s → compPost (model PG Z.w) (ar Z.d Z.u) Z.E (cU c) (fun v => den Z (rsV c v)) (.ref acc) Lc (.ok .next) s) (turn:∀ Lc hL E j v it acc g' out m Qe Qs,j < n → V j v → K j g' out → CoG (Z.co sc cl Lc E so.kind hL) it acc (P (j + 1)) (K (j + 1)) out ((Z.env.locals,Frm l) :: N) Qe Qs → G (Z.co sc cl Lc E so.kind hL) g' (frV xs m) ((it,P (j + 1)) :: (acc,Lst out) :: (Z.env.locals,Frm l) :: N) (lcT (Z.co sc cl Lc E so.kind hL).env c v Qe Qs))
 (hc:autoParam (HdLc (cU c) sc cl x c) aR) (hf:autoParam (LcF (cE c)) aR) (ho:autoParam (oneB (cE c) = true) aR) (hx:autoParam (ndB xs = true) aR):G Z g l N c:=
 coS (hc:=hc) (hf:=hf) (ha:=by unfold oneB at ho; rw [Bool.and_eq_true] at ho; exact eq_of_beq ho.2) Sr so (K n) (fun s S => h0 [] s g (gLe.rfl' g) S) (fun it acc Lc m0 s R hL S fin' => by
  have hf':cE c = .ListComp (lcEl (cE c)) (lcG1 (cE c) :: (lcGs (cE c)).tail) (lcSc (cE c)) (lcPo (cE c)):=hf
  unfold lcT at turn
  clear fin hc
  generalize cE c = C at *
  unfold oneB at ho
  rw [Bool.and_eq_true,Bool.and_eq_true,List.isEmpty_iff,List.isEmpty_iff] at ho
  obtain ⟨⟨h1,h2⟩,h3⟩:=ho
  have h3:=eq_of_beq h3
  generalize lcG1 C = gn at *
  rw [h1] at hf'
  obtain ⟨target,iter,ifs,asy⟩:=gn
  have h3:asy = 0:=h3
  subst h3
  generalize lcEl C = elt at *
  generalize lcSc C = sc2 at *
  generalize lcPo C = pos at *
  subst hf'
  exact coLoop (elt:=elt) (target:=target) (iter:=iter) (ifs:=ifs) (sc2:=sc2) (pos:=pos) (cl:=cl) (Sr.I it) so.kind hL h2 xs hx K hz (fun j g' m' out s hK S' => h0 [_,_,_] s g' (hle _ _ _ hK) S') start (fun g' m' out s hK S' => fin' g' m' out s hK S') (fun E j v g' out m Qe Qs => turn _ hL E j v it _ g' out m Qe Qs) S) fin
theorem coFin {y:Str} {g':Addr → Option Obj} {out:List Value} {s:Shared} (i:Nat) (hl:Lo Z.env y) (hk:KeyAt y i l) (hu:cU c = some (assign (.Name y py) Z.env)) (h:G Z g' (setF (.ref acc) i l) ((acc,Lst out) :: N) (rsV c .none)) (S:St Z.H0 g' ((Lc,Nsp m) :: (acc,Lst out) :: (Z.env.locals,Frm l) :: N) s) :
 compPost (model PG Z.w) (ar Z.d Z.u) Z.E (cU c) (fun v => den Z (rsV c v)) (.ref acc) Lc (.ok .next) s:=by
 rw [hu]
 have S2:St Z.H0 g' ((Z.env.locals,Frm l) :: (Lc,Nsp m) :: (acc,Lst out) :: N) s:=S.perm ((List.Perm.cons _ (.swap _ _ _)).trans (.swap _ _ _))
 obtain ⟨m0,S3,hn,hm⟩:=S2.frm
 show wpAny _ _ (assign (.Name y py) Z.env (.ref acc)) _ _ _
 refine asnE S3 (fun s2 S2 => ⟨m,S2.swap.ns .head,fun h'' hs => h.run _ ?_⟩) rfl Z.kf hl.k
 have S4:=S2.swap.off1 hs.extBut (Nat.le_of_eq hs.1.symm)
 refine St.toFr (s:={ s2 with heap:=h'' }) _ S4 (by rw [setF_keys]; exact hn) fun p hp => ?_
 rcases setF_mem hk hn p hp with rfl | ⟨h1,h2⟩
 · exact up_eq _ _ _
 · exact (up_ne h2).trans (hm p h1)
section
variable {x:Value} {n:Nat} {V:Nat → Value → Prop} {ok:PP}
theorem coV (Sr:Src Z.w Z.d Z.u Z.H0 x P n V ok) (so:ScOk Z.env cl sc) (xs:List Str) (K:Nat → (Addr → Option Obj) → List Value → Prop) (hz:∀ j g' out,K j g' out → out.length ≤ 1000000) (h0:∀ N1 s g',gLe g g' → St Z.H0 g' (N1 ++ (Z.env.locals,Frm l) :: N) s → ok s) (hle:∀ j g' out,K j g' out → gLe g g') (start:K 0 g []) (done:∀ g' acc out,K n g' out → G Z g' l ((acc,Lst out) :: N) (rsV c (.ref acc))) (turn:∀ Lc hL E j v it acc g' out m Qe Qs,j < n → V j v → K j g' out → CoG (Z.co sc cl Lc E so.kind hL) it acc (P (j + 1)) (K (j + 1)) out ((Z.env.locals,Frm l) :: N) Qe Qs → G (Z.co sc cl Lc E so.kind hL) g' (frV xs m) ((it,P (j + 1)) :: (acc,Lst out) :: (Z.env.locals,Frm l) :: N) (lcT (Z.co sc cl Lc E so.kind hL).env c v Qe Qs))
 (hc:autoParam (HdLc none sc cl x c) aR) (hf:autoParam (LcF (cE c)) aR) (ho:autoParam (oneB (cE c) = true) aR) (hx:autoParam (ndB xs = true) aR):G Z g l N c:=
 have hu:cU c = none:=congrArg cU hc.e
 coA (hc:=by rw [hu]; exact hc) (hf:=hf) (ho:=ho) (hx:=hx) Sr so xs K hz h0 hle start (fun g' acc Lc out m s hK S => by
  rw [hu]
  exact compFin m g' _ s S fun s' S' => (done g' acc out hK).run s' (S'.perm (.swap _ _ _))) turn
theorem coU {y:Str} (i:Nat) (hl:Lo Z.env y) (Sr:Src Z.w Z.d Z.u Z.H0 x P n V ok) (so:ScOk Z.env cl sc) (xs:List Str) (K:Nat → (Addr → Option Obj) → List Value → Prop) (hz:∀ j g' out,K j g' out → out.length ≤ 1000000) (h0:∀ N1 s g',gLe g g' → St Z.H0 g' (N1 ++ (Z.env.locals,Frm l) :: N) s → ok s) (hle:∀ j g' out,K j g' out → gLe g g') (start:K 0 g []) (done:∀ g' acc out,K n g' out → G Z g' (setF (.ref acc) i l) ((acc,Lst out) :: N) (rsV c .none)) (turn:∀ Lc hL E j v it acc g' out m Qe Qs,j < n → V j v → K j g' out → CoG (Z.co sc cl Lc E so.kind hL) it acc (P (j + 1)) (K (j + 1)) out ((Z.env.locals,Frm l) :: N) Qe Qs → G (Z.co sc cl Lc E so.kind hL) g' (frV xs m) ((it,P (j + 1)) :: (acc,Lst out) :: (Z.env.locals,Frm l) :: N) (lcT (Z.co sc cl Lc E so.kind hL).env c v Qe Qs))
 (hk:autoParam (KeyAt y i l) aR) (hc:autoParam (HdLc (some (assign (.Name y py) Z.env)) sc cl x c) aR) (hf:autoParam (LcF (cE c)) aR) (ho:autoParam (oneB (cE c) = true) aR) (hx:autoParam (ndB xs = true) aR):G Z g l N c:=
 have hu:cU c = some (assign (.Name y py) Z.env):=congrArg cU hc.e
 coA (hc:=by rw [hu]; exact hc) (hf:=hf) (ho:=ho) (hx:=hx) Sr so xs K hz h0 hle start (fun g' acc Lc out m s hK S => coFin i hl hk hu (done g' acc out hK) S) turn
theorem coSU {y:Str} (i:Nat) (hl:Lo Z.env y) (Sr:Src Z.w Z.d Z.u Z.H0 x P n V ok) (so:ScOk Z.env cl sc) (Kn:(Addr → Option Obj) → List Value → Prop) (h0:∀ s,St Z.H0 g ((Z.env.locals,Frm l) :: N) s → ok s)
 (loop:∀ it acc Lc m0 s R,Z.H0.heap.objs.size ≤ Lc → CSt Z.H0 Lc it acc (P 0) g m0 [] ((Z.env.locals,Frm l) :: N) s → (∀ g' m' out s,Kn g' out → St Z.H0 g' ((Lc,Nsp m') :: (acc,Lst out) :: (Z.env.locals,Frm l) :: N) s → R (.ok .next) s) → codeAny (model PG Z.w) (ar Z.d Z.u) (.compLoop (cE c) 0 (.ref it) (.ref acc) (compEnvC sc cl Lc Z.env)) R s)
 (done:∀ g' acc out,Kn g' out → G Z g' (setF (.ref acc) i l) ((acc,Lst out) :: N) (rsV c .none))
 (hk:autoParam (KeyAt y i l) aR) (hc:autoParam (HdLc (some (assign (.Name y py) Z.env)) sc cl x c) aR) (hf:autoParam (LcF (cE c)) aR) (ha:autoParam ((lcG1 (cE c)).is_async = 0) aR):G Z g l N c:=
 have hu:cU c = some (assign (.Name y py) Z.env):=congrArg cU hc.e
 coS (hc:=by rw [hu]; exact hc) (hf:=hf) (ha:=ha) Sr so Kn h0 loop fun g' acc Lc out m s hK S => coFin i hl hk hu (done g' acc out hK) S
theorem srcAt {a:Addr} {vs:List Value} {j:Nat} (hk:At (a,Lst vs) j N) {F:Addr × OP} (N1:Ldg) (s:Shared) (S:St H0 g (N1 ++ F :: N) s):s.heap.IsList a vs.toArray:=S.list (.app (.tail hk.pk))
theorem coVL {a:Addr} {vs:List Value} (j:Nat) (so:ScOk Z.env cl sc) (xs:List Str) (K:Nat → (Addr → Option Obj) → List Value → Prop) (hz:∀ j g' out,K j g' out → out.length ≤ 1000000) (hle:∀ j g' out,K j g' out → gLe g g') (start:K 0 g []) (done:∀ g' acc out,K vs.length g' out → G Z g' l ((acc,Lst out) :: N) (rsV c (.ref acc)))
 (turn:∀ Lc hL E j v it acc g' out m Qe Qs,vs[j]? = some v → K j g' out → CoG (Z.co sc cl Lc E so.kind hL) it acc (Itr a (j + 1)) (K (j + 1)) out ((Z.env.locals,Frm l) :: N) Qe Qs → G (Z.co sc cl Lc E so.kind hL) g' (frV xs m) ((it,Itr a (j + 1)) :: (acc,Lst out) :: (Z.env.locals,Frm l) :: N) (lcT (Z.co sc cl Lc E so.kind hL).env c v Qe Qs))
 (hk:autoParam (At (a,Lst vs) j N) aR) (hc:autoParam (HdLc none sc cl (.ref a) c) aR) (hf:autoParam (LcF (cE c)) aR) (ho:autoParam (oneB (cE c) = true) aR) (hx:autoParam (ndB xs = true) aR):G Z g l N c:=
 coV (hc:=hc) (hf:=hf) (ho:=ho) (hx:=hx) srcL so xs K hz (fun N1 s g' _ S => srcAt hk N1 s S) hle start done fun Lc hL E j v it acc g' out m Qe Qs _ => turn Lc hL E j v it acc g' out m Qe Qs
theorem coUL {y:Str} {a:Addr} {vs:List Value} (i j:Nat) (hl:Lo Z.env y) (so:ScOk Z.env cl sc) (xs:List Str) (K:Nat → (Addr → Option Obj) → List Value → Prop) (hz:∀ j g' out,K j g' out → out.length ≤ 1000000) (hle:∀ j g' out,K j g' out → gLe g g') (start:K 0 g []) (done:∀ g' acc out,K vs.length g' out → G Z g' (setF (.ref acc) i l) ((acc,Lst out) :: N) (rsV c .none))
 (turn:∀ Lc hL E j v it acc g' out m Qe Qs,vs[j]? = some v → K j g' out → CoG (Z.co sc cl Lc E so.kind hL) it acc (Itr a (j + 1)) (K (j + 1)) out ((Z.env.locals,Frm l) :: N) Qe Qs → G (Z.co sc cl Lc E so.kind hL) g' (frV xs m) ((it,Itr a (j + 1)) :: (acc,Lst out) :: (Z.env.locals,Frm l) :: N) (lcT (Z.co sc cl Lc E so.kind hL).env c v Qe Qs))
 (hk:autoParam (KeyAt y i l) aR) (hj:autoParam (At (a,Lst vs) j N) aR) (hc:autoParam (HdLc (some (assign (.Name y py) Z.env)) sc cl (.ref a) c) aR) (hf:autoParam (LcF (cE c)) aR) (ho:autoParam (oneB (cE c) = true) aR) (hx:autoParam (ndB xs = true) aR):G Z g l N c:=
 coU (hk:=hk) (hc:=hc) (hf:=hf) (ho:=ho) (hx:=hx) i hl srcL so xs K hz (fun N1 s g' _ S => srcAt hj N1 s S) hle start done fun Lc hL E j v it acc g' out m Qe Qs _ => turn Lc hL E j v it acc g' out m Qe Qs
end
end
open Builtin Builtin.Str in
theorem occ_skip (x y:Str) (hi limit:Nat):∀ (l:List Nat) (st:Array Nat × Nat),(∀ i ∈ l,¬ (((st.1.size < limit ∧ st.2 ≤ i) ∧ i + y.length ≤ hi) ∧ subAt x y i = true)) → (forIn l st (StrLaws.occBody x y hi limit)).run = st
 | [],st,_ => rfl
 | a :: l,st,h => by
  rw [List.forIn_cons]
  unfold StrLaws.occBody
  rw [if_neg (h a (List.mem_cons_self ..))]
  exact occ_skip x y hi limit l st fun i hi => h i (List.mem_cons_of_mem _ hi)
noncomputable abbrev Occ (X y:T) (j:Nat):Prop:=(X.drop j).take y.length = y
open Builtin Builtin.Str in
theorem occ_sub (X y:T) (j:Nat):subAt (mk X) (mk y) j = decide (Occ X y j):=by
 rw [StrLaws.subAt_eq,mk_cps,mk_cps,mk_len,Bool.eq_iff_iff]
 rw [beq_iff_eq,decide_eq_true_iff]
open Builtin Builtin.Str in
theorem occ_aux {X y:T} {j:Nat} (hj:Occ X y j) (hjl:j + y.length ≤ X.length):∀ (n lo free:Nat),j = lo + n → free ≤ lo → (∀ i,lo ≤ i → i < j → ¬ Occ X y i) →
 (forIn (List.range' lo (X.length + 1 - lo)) (#[],free) (StrLaws.occBody (mk X) (mk y) X.length 1)).run.fst.toList = [j]
 | 0,lo,free,e,hf,hno => by
  have e:j = lo:=e
  subst e
  rw [Nat.succ_sub (ltr (Nat.le_add_right _ _) hjl),List.range'_succ,List.forIn_cons]
  unfold StrLaws.occBody
  rw [if_pos ⟨⟨⟨Nat.lt_succ_self _,hf⟩,by rw [mk_len]; exact hjl⟩,by rw [occ_sub]; exact decide_eq_true hj⟩]
  have h2:=occ_skip (mk X) (mk y) X.length 1 (List.range' (j + 1) (X.length - j)) (#[j],j + (mk y).length) (fun i hi q => absurd q.1.1.1 (Nat.lt_irrefl 1))
  show (forIn (List.range' (j + 1) (X.length - j)) (#[j],j + (mk y).length) (StrLaws.occBody (mk X) (mk y) X.length 1)).run.fst.toList = _
  rw [h2]
 | n + 1,lo,free,e,hf,hno => by
  have e2:j = lo + 1 + n:=by rw [e,Nat.succ_add]; rfl
  have hlj:lo < j:=by rw [e]; exact Nat.lt_add_of_pos_right (Nat.succ_pos n)
  have hlo:lo ≤ X.length:=ltr (Nat.le_of_lt hlj) (ltr (Nat.le_add_right _ _) hjl)
  rw [Nat.succ_sub hlo,List.range'_succ,List.forIn_cons]
  unfold StrLaws.occBody
  rw [if_neg (fun q => hno lo (Nat.le_refl _) hlj (by have:=q.2; rw [occ_sub] at this; exact of_decide_eq_true this))]
  have:=occ_aux hj hjl n (lo + 1) free e2 (Nat.le_succ_of_le hf) fun i h1 h2 => hno i (Nat.le_of_succ_le h1) h2
  rw [Nat.succ_sub_succ] at this
  exact this
open Builtin Builtin.Str in
theorem occ_first {X:T} {lo j:Nat} (hlo:lo ≤ j) (hj:Occ X y j) (hjl:j + y.length ≤ X.length) (hno:∀ i,lo ≤ i → i < j → ¬ Occ X y i):occurrences (mk X) (mk y) lo X.length 1 = [j]:=by
 rw [StrLaws.occ_eq]
 exact occ_aux hj hjl (j - lo) lo lo (Nat.add_sub_cancel' hlo).symm (Nat.le_refl _) hno
theorem Occ.len {X:T} {j:Nat} (h:Occ X y j) (hy:y ≠ []):j + y.length ≤ X.length:=by
 have h1:((X.drop j).take y.length).length = y.length:=by rw [h]
 rw [List.length_take,List.length_drop] at h1
 have h2:y.length ≤ X.length - j:=by rw [← h1]; exact Nat.min_le_right _ _
 have h3:0 < X.length - j:=Nat.lt_of_lt_of_le (List.length_pos_iff.mpr hy) h2
 exact (Nat.le_sub_iff_add_le' (Nat.le_of_lt (Nat.lt_of_sub_pos h3))).mp h2
theorem least (P:Nat → Prop) [DecidablePred P]:∀ (n lo:Nat),P (lo + n) → ∃ j,lo ≤ j ∧ P j ∧ ∀ i,lo ≤ i → i < j → ¬ P i
 | 0,lo,h => ⟨lo,Nat.le_refl _,h,fun i h1 h2 => absurd h2 (Nat.not_lt.mpr h1)⟩
 | n + 1,lo,h => by
  by_cases h0:P lo
  · exact ⟨lo,Nat.le_refl _,h0,fun i h1 h2 => absurd h2 (Nat.not_lt.mpr h1)⟩
  · have h':P (lo + 1 + n):=by rw [Nat.succ_add]; exact h
    obtain ⟨j,h1,h2,h3⟩:=least P n (lo + 1) h'
    refine ⟨j,Nat.le_of_succ_le h1,h2,fun i q1 q2 => ?_⟩
    rcases Nat.eq_or_lt_of_le q1 with e | e
    · rw [← e]; exact h0
    · exact h3 i e q2
section
variable {s:Shared}
theorem index3 {X:T} {Y:Str} {at':Nat} {u v:Tok} (hY:Y = mk y) (hy:y ≠ []) (hz:X.length ≤ 1000000) (hat:at' ≤ X.length) (hex:∃ j,at' ≤ j ∧ Occ X y j)
 (h:∀ j,at' ≤ j → Occ X y j → (∀ i,at' ≤ i → i < j → ¬ Occ X y i) → Q (.int (j:Nat) s.toks) (tick s)):wpAny (model prog w) A (call (.builtin "str.index") [sv X t,.str Y u,.int (at':Nat) v]) Q E s:=by
 subst hY
 obtain ⟨j0,q1,q2⟩:=hex
 obtain ⟨j,h1,h2,h3⟩:=least (Occ X y) (j0 - at') at' (by rw [Nat.add_sub_cancel' q1]; exact q2)
 have ho:=occ_first h1 h2 (h2.len hy) h3
 refine wpAny_call_entry F.slot_str_index (typeIs_str s _ t) F.entry_str_index ?_ (F.args_str_index_3 _ _ _)
 show wpAny _ _ (Builtin.Str.searchRange (mk X).length [.int (at':Nat) v] >>= fun (lo,hi) => match Builtin.Str.occurrences (mk X) (mk y) lo hi 1 with | i :: _ => retInt i | [] => (do rule "str.index.not-found"; raiseError "ValueError" "substring not found")) _ _ _
 refine wpAny_bind ?_
 unfold Builtin.Str.searchRange
 show wpAny _ _ (do
  let lo ← (do
   if (← specialOf (.int (at':Nat) v) "__index__").isNone then
    rule "str.search-range.no-index"
    raiseError "TypeError" "slice indices must be integers or None or have an __index__ method"
   let i ← asIndex (.int (at':Nat) v)
   pure (max 0 (if i < 0 then i + (mk X).length else i)))
  let hi ← (pure ((mk X).length:Int):Sem Int)
  pure (lo.toNat,min hi.toNat (mk X).length)) _ _ _
 refine wpAny_bind (wpAny_bind (wpAny_specialOf (name:=Str.ofString "__index__") (typeIs_int s _ v) F.slot_int_index.lookup ?_))
 show wpAny _ _ (asIndex (.int (at':Nat) v) >>= _) _ _ _
 refine wpAny_bind (wpAny_of_eq (a:=((at':Nat):Int)) rfl ?_)
 refine wpAny_pure (wpAny_bind (wpAny_pure (wpAny_pure ?_)))
 have e1:(max 0 (if ((at':Nat):Int) < 0 then ((at':Nat):Int) + (mk X).length else ((at':Nat):Int))).toNat = at':=by rw [if_neg (by lia)]; lia
 have e2:min (((mk X).length:Nat):Int).toNat (mk X).length = X.length:=by rw [mk_len]; lia
 rw [e1,e2]
 dsimp only
 rw [ho]
 exact wpAny_bind (wpAny_mkInt (wpAny_pure ⟨_,rfl,h j h1 h2 h3⟩))
theorem chrAt {X:T} {i c:Nat} {u:Tok} (hz:X.length ≤ 1000000) (hc:X[i]? = some c) (h:Q (sv [c] s.toks) (tick s))
 (hs:autoParam (subscripted slice false (sv X t) (.int (i:Nat) u) = operate [sv X t,.int (i:Nat) u] (getItem (sv X t) (.int (i:Nat) u))) aQ):wpAny (model prog w) A (subscriptTail value slice (sv X t) (.int (i:Nat) u)) Q E s:=by
 have hi:i < X.length:=(List.getElem?_eq_some_iff.mp hc).1
 refine tail_any (typeIs_str s _ t) F.slot_str_getitem.lookup (P.getItem_str (c:=c) ?_ ?_ h) hs
 · simp; lia
 · have:seqIndex? ((i:Nat):Int) (mk X).length = some i:=by
    rw [mk_len]; unfold seqIndex?; simp; lia
   rw [this]
   show (mk X).cps[i]? = some c
   rw [← Array.getElem?_toList,mk_cps]; exact hc
end
section
variable {g:Addr → Option Obj} {l:Fr1} {N:Ldg}
theorem ixT {X:T} {at':Nat} {u v:Tok} (h:let c':=c; let l':=l; let N':=N; ∀ j t,at' ≤ j → Occ X y j → (∀ i,at' ≤ i → i < j → ¬ Occ X y i) → G Z g l' N' (rsV c' (.int (j:Nat) t)))
 (hc:autoParam (HdV (call (.builtin "str.index") [sv X t,sv y u,.int (at':Nat) v]) c) aR) (hy:y ≠ []:=by exact List.cons_ne_nil _ _) (hz:autoParam (X.length ≤ 1000000) aA) (ha:autoParam (at' ≤ X.length) aA) (hex:autoParam (∃ j,at' ≤ j ∧ Occ X y j) aA):G Z g l N c:=
 Hr.mk fun s S => outV hc (index3 rfl hy hz ha hex fun j h1 h2 h3 => (h j s.toks h1 h2 h3).run (tick s) S)
theorem chT {X:T} {i x:Nat} {u:Tok} (h:let c':=c; let l':=l; let N':=N; ∀ t,G Z g l' N' (rsV c' (sv [x] t)))
 (hc:autoParam (HdSub (sv X t) (.int (i:Nat) u) c) aR) (hs:autoParam (operate [sv X t,.int (i:Nat) u] (getItem (sv X t) (.int (i:Nat) u)) = subscripted (e2C c) false (sv X t) (.int (i:Nat) u)) aR) (hx:autoParam (X[i]? = some x) aA) (hz:autoParam (X.length ≤ 1000000) aA):G Z g l N c:=
 Hr.mk fun s S => outSub hc (chrAt hz hx ((h s.toks).run (tick s) S) hs.symm)
theorem lnT {X:T} (h:let c':=c; let l':=l; let N':=N; ∀ t,G Z g l' N' (rsV c' (.int (X.length:Nat) t)))
 (hc:autoParam (HdV (call (.builtin "len") [sv X t]) c) aR) (hz:autoParam (X.length ≤ 1000000) aA):G Z g l N c:=
 Hr.mk fun s S => outV hc (P.len_str (by rw [mk_len]; lia) (by rw [mk_len]; exact (h (s.toks + 1)).run (tick (tick s)) S))
theorem mnL {a:Addr} {vs:List Value} {ns:List Int} (i:Nat) (hi:IntsAre vs ns) (hne:0 < ns.length) (h:let c':=c; let l':=l; let N':=N; ∀ M t,M ∈ ns → (∀ a ∈ ns,M ≤ a) → G Z g l' N' (rsV c' (.int M t)))
 (hk:autoParam (At (a,Lst vs) i N) aR) (hc:autoParam (HdV (call (.builtin "min") [.ref a]) c) aR):G Z g l N c:=Hr.mk fun s S => outV hc (by
 refine S.viaF Z.hL fun m news F Nw k1 k2 => ?_
 exact wpAny_le (min_list_N rfl F Nw (S.list (At.pk (i:=i + 1) hk)) hi hne fun h' M t tk F' N' hM hle hl => (h M t hM hle).run _ (k1 h' hl.2 F' N')))
theorem dcp {d:Addr} {kvs:List (Str × Value)} (D:GD Z.w g d kvs) (hz:kvs.length ≤ 100000) (h:let c':=c; let l':=l; let N':=N; ∀ a,Z.H0.heap.objs.size ≤ a → G Z g l' ((a,Dct Z.w kvs) :: N') (rsV c' (.ref a)))
 (hc:autoParam (HdV (call (.type "dict") [.ref d]) c) aR):G Z g l N c:=Hr.mk fun s S => outV hc (by
 refine kt_call_dict D.2 (D.of S) (szl (ltr hz (by decide))) fun h' hm hsb => ?_
 obtain ⟨o,ho,hq⟩:=Heap.dictOf_iff.mp hm
 exact (h _ S.size).run _ ((S.newIn (P:=fun ι => True) rfl trivial).put (.tail .head) hsb ho hq))
noncomputable def whE (s:Stmt):Expr:=(svS s).x
noncomputable def whB (s:Stmt):List Stmt:=(svS s).b
noncomputable def whP (s:Stmt):Pos:=(svS s).p
noncomputable def whT (env:Env) (c:Tr) (Q:Flow → PP) (Qf:PP):Tr:=itT (evT env 20) 20 (whE (smC c)) fun b => match b with
 | true => .seq (whB (smC c)) (finT Q)
 | false => .fin Qf
structure WhG (Z:Zc) (n:Nat) (K:Nat → (Addr → Option Obj) → Fr1 → Ldg → Prop) (c:Tr) (Q:Flow → PP) (Qf:PP):Prop where
 go:∀ {j g l N},K j g l N → j < n → G Z g l N (finT Q .next)
 cont:∀ {j g l N},K j g l N → j < n → G Z g l N (finT Q .cont)
 brk:∀ {g N},Hr Z.H0 g N (den Z (rsF c .next)) → Hr Z.H0 g N (Q .brk)
 ret:∀ {g N v},Hr Z.H0 g N (den Z (rsF c (.ret v))) → Hr Z.H0 g N (Q (.ret v))
 off:∀ {g N},Hr Z.H0 g N (den Z (rsF c .next)) → Hr Z.H0 g N Qf
theorem whG (n:Nat) (K:Nat → (Addr → Option Obj) → Fr1 → Ldg → Prop) (start:K n g l N)
 (turn:∀ n g' l' N' E Q Qf,K n g' l' N' → WhG Z n K c Q Qf → G (Z.sE E) g' l' N' (whT Z.env c Q Qf))
 (hc:autoParam (HdSm (.While (whE (smC c)) (whB (smC c)) [] (whP (smC c))) c) aR):G Z g l N c:=Hr.mk fun s S => den_at hc.e (by
 refine wpAny_While (codeAny_whileLoop (fun n s' => ∃ g' l' N',K n g' l' N' ∧ St Z.H0 g' ((Z.env.locals,Frm l') :: N') s') ?_ n ⟨g,l,N,start,S⟩)
 rintro n s' ⟨g',l',N',hK,S'⟩
 have key:∀ Q Qf E',WhG Z n K c Q Qf → wpAny (model PG Z.w) (ar Z.d Z.u) (PySem.isTrue (whE (smC c)) Z.env (eval (whE (smC c)) Z.env)) (fun b s₂ => if b = true then wpAny (model PG Z.w) (ar Z.d Z.u) (execs (whB (smC c)) Z.env) Q E' s₂ else Qf s₂) E' s':=fun Q Qf E' q => by
  have h:=(turn n g' l' N' E' Q Qf hK q).run s' S'
  have h:dn (model PG Z.w) (ar Z.d Z.u) E' Z.env (fun s => (hd.heap_1 Z.w.params).In s.heap) (itT (evT Z.env 20) 20 (whE (smC c)) fun b => match b with
   | true => .seq (whB (smC c)) (finT Q)
   | false => .fin Qf) s':=h
  refine thn (itT_ok (fun {e k s} => evT_ok (env:=Z.env) 20) 20 h) fun b s3 z => ?_
  cases b with
  | true => exact ifY rfl z
  | false => exact ifN Bool.false_ne_true z
 refine wpAny_mono (key (fun f s₃ => match f with
  | .next | .cont => ∃ m,m < n ∧ ∃ g' l' N',K m g' l' N' ∧ St Z.H0 g' ((Z.env.locals,Frm l') :: N') s₃
  | .brk => den Z (rsF c .next) s₃
  | .ret v => den Z (rsF c (.ret v)) s₃) (den Z (rsF c .next)) _ ⟨fun hK hj => Hr.mk fun s S => ⟨_,hj,_,_,_,hK,S⟩,fun hK hj => Hr.mk fun s S => ⟨_,hj,_,_,_,hK,S⟩,id,id,id⟩) (fun b s₂ z => ?_) fun _ _ x => x
 cases b with
 | true =>
  rw [if_pos rfl] at z ⊢
  exact thn z fun f s z => by cases f <;> exact z
 | false =>
  rw [if_neg Bool.false_ne_true] at z ⊢
  exact wpAny_execs_nil z)
end
noncomputable def Rg (a n i:Nat):OP:=fun o => o = { cls:=.type "range_iterator",dict:=none,data:=.fields #[rawInt (((a + i:Nat)):Int),rawInt ((n:Int) - i),rawInt 1],slots:=#[] }
noncomputable def rgO (a b:Int) (t u v:Tok):Obj:={ cls:=.type "range",data:=.fields #[.int a t,.int b u,.int 1 v] }
theorem rg_size {a n:Nat} (hz:a + n ≤ 10000000):Builtin.Range.small ((a:Nat):Int) ((a + n:Nat):Int) 1 = true ∧ Builtin.Range.rangeSize ((a:Nat):Int) ((a + n:Nat):Int) 1 = (n:Int):=by
 refine ⟨small_one (by lia) (by lia) (by lia) (by lia),?_⟩
 rw [rangeSize_one]; split <;> lia
section
variable {s:Shared} {g:Addr → Option Obj} {N:Ldg} {F:Addr × OP}
theorem nextR {it:Addr} {a n i:Nat} {Q:Option Value → Shared → Prop} (S:St H0 g (F :: (it,Rg a n i) :: N) s) (hi:i < n)
 (h:∀ t s',St H0 g (F :: (it,Rg a n (i + 1)) :: N) s' → Q (some (.int ((a + i:Nat):Int) t)) s'):wpAny (model prog w) A (pyNext (.ref it)) Q E s:=by
 obtain ⟨o,ho,e⟩:=S.get (.tail .head)
 have e:o = _:=e
 subst e
 refine wpAny_pyNext_range_item ho (Int.sub_pos_of_lt (Int.ofNat_lt.mpr hi)) fun h' hit hs => h _ _ (S.put (.tail .head) hs hit ?_)
 show _ = _
 have e1:(((a + i:Nat):Int)) + 1 = ((a + (i + 1):Nat):Int):=rfl
 have e2:((n:Int) - i) - 1 = (n:Int) - ((i + 1:Nat):Int):=Int.sub_sub ..
 rw [e1,e2]
theorem endR {it:Addr} {a n:Nat} {Q:Option Value → Shared → Prop} (hh:A.handled = none) (S:St H0 g (F :: (it,Rg a n n) :: N) s)
 (h:∀ s',St H0 g (F :: N) s' → Q none s'):wpAny (model prog w) A (pyNext (.ref it)) Q E s:=by
 obtain ⟨o,ho,e⟩:=S.get (.tail .head)
 have e:o = _:=e
 subst e
 exact wpAny_le (wpAny_pyNext_range_end hh ho (Int.le_of_eq (Int.sub_self _)) fun h' he hle => h _ (S.off2 he hle.2))
theorem letGoR {it:Addr} {a n i:Nat} {target:Expr} {v:Value} {Q:Unit → Shared → Prop} (S:St H0 g (F :: (it,Rg a n i) :: N) s) (h:Q () s):wpAny (model prog w) A (letOwnedTupleGo target (.ref it) v) Q E s:=by
 obtain ⟨o,ho,e⟩:=S.get (.tail .head)
 have e:o = _:=e
 subst e
 exact letGo ho rfl (by decide) h
end
theorem srcR {u:Nat} {r:Addr} {a n:Nat} {t3:Tok} (hz:a + n ≤ 10000000):Src w d u H0 (.ref r) (Rg a n) n (fun i v => ∃ t,v = .int ((a + i:Nat):Int) t) (fun s => s.heap.get? r = some (rgO ((a:Nat):Int) ((a + n:Nat):Int) t1 t2 t3)):=by
 obtain ⟨h1,h2⟩:=rg_size hz
 refine ⟨fun it => ⟨fun hi _ S h => nextR S hi fun t s' S' => h _ s' ⟨t,rfl⟩ S',fun _ S h => endR rfl S h,fun S h => letGoR S h⟩,fun S ok h => ?_,fun ho hP h => ?_⟩
 · refine wpAny_pyIter_range ok h1 (h _ _ (S.new rfl ?_))
   rw [h2]
   show _ = _
   rw [show ((n:Int) - ((0:Nat):Int)) = n from Int.sub_zero _]; rfl
 · have hP:_ = _:=hP
   subst hP
   exact wpAny_pyIter_rangeiter ho h
section
variable {g:Addr → Option Obj} {l:Fr1} {N:Ldg}
theorem rg2 {a b:Int} {u:Tok} (h:let c':=c; let l':=l; let N':=N; ∀ g' r t u v,gLe g g' → g' r = some (rgO a b t u v) → G Z g' l' N' (rsV c' (.ref r)))
 (hc:autoParam (HdV (call (.type "range") [.int a t,.int b u]) c) aR):G Z g l N c:=Hr.mk fun s S => outV hc (S.newG (o:=rgO a b t u s.toks) rfl fun g' le S' hr => call_range_2 ((h g' _ _ _ _ le hr).run _ S'))
theorem rg1 {b:Int} (h:let c':=c; let l':=l; let N':=N; ∀ g' r t u v,gLe g g' → g' r = some (rgO 0 b t u v) → G Z g' l' N' (rsV c' (.ref r)))
 (hc:autoParam (HdV (call (.type "range") [.int b t]) c) aR):G Z g l N c:=Hr.mk fun s S => outV hc (S.newG (o:=rgO 0 b s.toks t (s.toks + 1)) rfl fun g' le S' hr => call_range_1 ((h g' _ _ _ _ le hr).run _ S'))
end
inductive Itm
 | text (x:T)
 | com (x:T)
 | pi (x:T)
 | stop (p:Pfx) (b:Bool)
 | start (p:Pfx) (b:Bool) (ns:Lvl) (ats:List ((Pfx × Bool) × T))
noncomputable def atR (e:(Pfx × Bool) × T):T × T:=(qS e.1.1 e.1.2,e.2)
noncomputable def rowsOf (ns:Lvl) (ats:List ((Pfx × Bool) × T)):List (T × T):=ns.map nsRow ++ ats.map atR
noncomputable def itemS:Itm → T
 | .text x => escC x
 | .com x => comS x
 | .pi x => piS x
 | .stop p b => [60,47] ++ qS p b ++ [62]
 | .start p b ns ats => [60] ++ qS p b ++ ((rowsOf ns ats).map rowS).flatten ++ [62]
inductive Ev
 | two (k x:T)
 | start (n:T) (rows:List (T × T))
noncomputable def kText:T:=[116,101,120,116]
noncomputable def kCom:T:=[99,111,109,109,101,110,116]
noncomputable def kPi:T:=[112,105]
noncomputable def kEnd:T:=[101,110,100]
noncomputable def kStart:T:=[115,116,97,114,116]
noncomputable def comE (x:T):Ev:=.two kCom ([60,33,45,45] ++ x ++ [45,45,62])
noncomputable def piE (x:T):Ev:=.two kPi (if x = [] then [60,63,116,63,62] else [60,63,116,32] ++ x ++ [63,62])
noncomputable abbrev Lm:=Pfx → Option Uri
noncomputable def upd1 (lm:Lm) (e:Uri × Pfx):Lm:=fun p => if p = e.2 then some e.1 else lm p
noncomputable def upd (lm:Lm) (ns:Lvl):Lm:=ns.foldl upd1 lm
noncomputable def uriOf (lm:Lm) (p:Pfx):Uri:=(lm p).getD .no
noncomputable def atUri (lm:Lm) (p:Pfx):Uri:=if p = .em then .no else uriOf lm p
noncomputable def atFull (lm:Lm) (e:(Pfx × Bool) × T):T × T:=(nameS (atUri lm e.1.1,e.1.2),e.2)
theorem pfx5 (p:Pfx) (b:Bool):(qS p b).take 5 ≠ [120,109,108,110,115]:=pb_all (P:=fun p b => (qS p b).take 5 ≠ [120,109,108,110,115]) (by decide +kernel) p b
theorem xmlns5 (p:Pfx):(xmlnsS p).take 5 = [120,109,108,110,115]:=by
 unfold xmlnsS; split <;> rfl
theorem xmlns6 (p:Pfx):(xmlnsS p).drop 6 = pfxS p:=by
 unfold xmlnsS; split
 · rename_i h; rw [h]; rfl
 · rfl
theorem qS_chars (p:Pfx) (b:Bool):∀ c ∈ qS p b,c ≠ 60 ∧ c ≠ 62 ∧ c ≠ 32 ∧ c ≠ 61 ∧ c ≠ 34 ∧ c ≠ 33 ∧ c ≠ 63 ∧ c ≠ 47 ∧ c ≠ 38:=pb_all (P:=fun p b => ∀ c ∈ qS p b,c ≠ 60 ∧ c ≠ 62 ∧ c ≠ 32 ∧ c ≠ 61 ∧ c ≠ 34 ∧ c ≠ 33 ∧ c ≠ 63 ∧ c ≠ 47 ∧ c ≠ 38) (by decide +kernel) p b
theorem xmlns_chars (p:Pfx):∀ c ∈ xmlnsS p,c ≠ 60 ∧ c ≠ 62 ∧ c ≠ 32 ∧ c ≠ 61 ∧ c ≠ 34:=pfx_all (P:=fun p => ∀ c ∈ xmlnsS p,c ≠ 60 ∧ c ≠ 62 ∧ c ≠ 32 ∧ c ≠ 61 ∧ c ≠ 34) (by decide +kernel) p
theorem qS_ne (p:Pfx) (b:Bool):qS p b ≠ []:=pb_all (P:=fun p b => qS p b ≠ []) (by decide +kernel) p b
theorem escC_ne {x:T} (h:x ≠ []):escC x ≠ []:=by
 intro e
 have:=plain_C [] x [] (by simp) (by simp)
 rw [e] at this
 simp at this
 exact h (this.symm.trans (by decide))
theorem plain_com (x:T):plain (comS x) = [60,33,45,45] ++ x ++ [45,45,62]:=plain_C _ x _ (by decide) (by decide)
theorem plain_pi (x:T):plain (piS x) = if x = [] then [60,63,116,63,62] else [60,63,116,32] ++ x ++ [63,62]:=by
 unfold piS
 split
 · decide
 · exact plain_C _ x _ (by decide) (by decide)
theorem plain_text (x:T):plain (escC x) = x:=by
 have:=plain_C [] x [] (by simp) (by simp)
 simpa using this
theorem least_at {X a b:T} {c st j:Nat} (hd:X.drop st = a ++ (c :: y) ++ b) (hc:c ∉ a) (h1:st ≤ j) (h2:Occ X (c :: y) j) (h3:∀ i,st ≤ i → i < j → ¬ Occ X (c :: y) i):j = st + a.length:=by
 have e:X.drop (st + a.length) = (c :: y) ++ b:=by rw [← List.drop_drop,hd,List.append_assoc,List.drop_left]
 have ho:Occ X (c :: y) (st + a.length):=by show (X.drop _).take _ = _; rw [e,List.take_left]
 obtain ⟨k,rfl⟩:∃ k,j = st + k:=⟨j - st,(Nat.add_sub_cancel' h1).symm⟩
 rcases Nat.lt_or_ge k a.length with q | q
 · exfalso
   have h2:(X.drop (st + k)).take (c :: y).length = c :: y:=h2
   rw [← List.drop_drop,hd,List.append_assoc,List.drop_append_of_le_length (Nat.le_of_lt q),List.drop_eq_getElem_cons q] at h2
   have h4:=(List.cons.inj h2).1
   exact hc (h4 ▸ List.getElem_mem q)
 · rcases Nat.eq_or_lt_of_le q with q | q
   · rw [q]
   · exact absurd ho (h3 _ (Nat.le_add_right _ _) (Nat.add_lt_add_left q _))
theorem occ_at {X a b:T} {st:Nat} (hd:X.drop st = a ++ y ++ b):Occ X y (st + a.length):=by
 show (X.drop _).take _ = _
 rw [← List.drop_drop,hd,List.append_assoc,List.drop_left,List.take_left]
theorem slice_at {X a b:T} {st k:Nat} (hd:X.drop st = a ++ b) (hk:k = a.length):(X.drop st).take k = a:=by rw [hd,hk,List.take_left]
theorem get_at {X b:T} {c st:Nat} (hd:X.drop st = c :: b):X[st]? = some c:=by
 have:(X.drop st)[0]? = some c:=by rw [hd]; rfl
 rw [List.getElem?_drop] at this; simpa using this
theorem len_at {X a:T} {st:Nat} (hd:X.drop st = a) (ha:a ≠ []):st + a.length = X.length:=by
 have h1:X.length - st = a.length:=by rw [← hd,List.length_drop]
 have h2:0 < X.length - st:=by rw [h1]; exact List.length_pos_iff.mpr ha
 rw [← h1]; exact Nat.add_sub_cancel' (Nat.le_of_lt (Nat.lt_of_sub_pos h2))
structure Rd where
 evs:List Ev
 marks:List T
 names:List (Pfx × Bool)
 levels:List Lm
inductive RStep:Rd → Itm → Rd → Prop
 | text {r x}:x ≠ [] → x.length ≤ 2000 → RStep r (.text x) { r with evs:=r.evs ++ [.two kText x] }
 | com {r x}:x.length ≤ 100 → RStep r (.com x) { r with evs:=r.evs ++ [comE x] }
 | pi {r x}:x.length ≤ 100 → RStep r (.pi x) { r with evs:=r.evs ++ [piE x] }
 | stop {r p b lm ls ns e}:r.levels = lm :: ls → r.names = (p,b) :: ns → (lm .em = some e) → (p ≠ .em → ∃ u,lm p = some u) →
  RStep r (.stop p b) { r with evs:=r.evs ++ [.two kEnd (nameS (uriOf lm p,b))],names:=ns,levels:=ls }
 | start {r p b ns ats lm ls e rows}:r.levels = lm :: ls → upd lm ns .em = some e → (p ≠ .em → ∃ u,upd lm ns p = some u) → (∀ a ∈ ats,a.1.1 ≠ .em → ∃ u,upd lm ns a.1.1 = some u ∧ u ≠ .no) →
  ats.length ≤ 3 → ns.length ≤ 4 → (∀ a ∈ ats,a.2.length ≤ 100) → ((ats.map (atFull (upd lm ns))).map (·.1)).Nodup → rows.Perm (ats.map (atFull (upd lm ns))) → AscT rows →
  RStep r (.start p b ns ats) { evs:=r.evs ++ [.start (nameS (uriOf (upd lm ns) p,b)) rows],marks:=r.marks ++ (((ats.filter fun a => decide (a.1.1 ≠ .em)).map fun a => pfxS a.1.1) ++ [pfxS p]),names:=(p,b) :: r.names,levels:=upd lm ns :: r.levels }
theorem asc_pair:∀ {l:List (T × T)},AscT l → l.Pairwise fun a b => a.1 < b.1
 | [],_ => .nil
 | [a],_ => by simp
 | a :: b :: l,h => by
  have h2:AscT (b :: l):=fun i hi => h (i + 1) (by simpa using hi)
  have ih:=asc_pair h2
  have h0:a.1 < b.1:=h 0 (by simp)
  refine List.pairwise_cons.mpr ⟨fun c hc => ?_,ih⟩
  rcases List.mem_cons.mp hc with rfl | hc
  · exact h0
  · exact List.lt_trans h0 ((List.pairwise_cons.mp ih).1 c hc)
theorem pair_eq:∀ {l r:List (T × T)},l.Perm r → l.Pairwise (fun a b => a.1 < b.1) → r.Pairwise (fun a b => a.1 < b.1) → l = r
 | [],r,p,_,_ => by simpa using p.symm.eq_nil.symm
 | a :: l,[],p,_,_ => by simpa using p.eq_nil
 | a :: l,b :: r,p,hl,hr => by
  have h1:=List.pairwise_cons.mp hl
  have h2:=List.pairwise_cons.mp hr
  have e:a = b:=by
   rcases List.mem_cons.mp (p.mem_iff.mp (List.mem_cons_self ..)) with e | ha
   · exact e
   · rcases List.mem_cons.mp (p.symm.mem_iff.mp (List.mem_cons_self ..)) with e | hb
     · exact e.symm
     · exact absurd (h2.1 a ha) (List.lt_asymm (h1.1 b hb))
  subst e
  rw [pair_eq p.cons_inv h1.2 h2.2]
theorem asc_eq {l r:List (T × T)} (p:l.Perm r) (hl:AscT l) (hr:AscT r):l = r:=pair_eq p (asc_pair hl) (asc_pair hr)
noncomputable def EvR (g:Addr → Option Obj) (v:Value):Ev → Prop
 | .two k x => Row g v (k,x)
 | .start n rows => ∃ a a2 D t1 t2 o vs,v = .ref a ∧ g a = some (tupO [sv kStart t1,.ref a2]) ∧ g a2 = some (tupO [sv n t2,.ref D]) ∧ g D = some o ∧ Lst vs o ∧ Rws g vs rows
noncomputable def EvsR (g:Addr → Option Obj):List Value → List Ev → Prop:=F2 (EvR g)
theorem EvR.up {g g':Addr → Option Obj} (le:gLe g g') {v:Value} {e:Ev} (h:EvR g v e):EvR g' v e:=by
 cases e with
 | two k x => obtain ⟨a,t1,t2,e,q⟩:=h; exact ⟨a,t1,t2,e,le _ _ q⟩
 | start n rows => obtain ⟨a,a2,D,t1,t2,o,vs,e,q1,q2,q3,q4,q5⟩:=h; exact ⟨a,a2,D,t1,t2,o,vs,e,le _ _ q1,le _ _ q2,le _ _ q3,q4,q5.up fun b o q _ => le b o q⟩
theorem EvsR.up {g g':Addr → Option Obj} (le:gLe g g') {vs:List Value} {es:List Ev} (h:EvsR g vs es):EvsR g' vs es:=F2.imp (fun ι ι => EvR.up le) h
theorem EvsR.len {g:Addr → Option Obj} {vs:List Value} {es:List Ev} (h:EvsR g vs es):vs.length = es.length:=F2.len h
theorem EvsR.snoc {g:Addr → Option Obj} {v:Value} {e:Ev} (h:EvR g v e) {vs:List Value} {es:List Ev} (q:EvsR g vs es):EvsR g (vs ++ [v]) (es ++ [e]):=F2.app q ⟨h,trivial⟩
noncomputable def LvR (kvs:List (Str × Value)) (lm:Lm):Prop:=∀ p,match lm p with | some u => ∃ t,valueAt kvs (mk (pfxS p)) = some (sv (uriS u) t) | none => valueAt kvs (mk (pfxS p)) = none
noncomputable def LvsR (w:World) (g:Addr → Option Obj):List Value → List Lm → Prop
 | [],[] => True
 | v :: vs,lm :: ls => (∃ d kvs,v = .ref d ∧ GD w g d kvs ∧ LvR kvs lm ∧ kvs.length ≤ 4 * (ls.length + 1)) ∧ LvsR w g vs ls
 | _,_ => False
theorem LvsR.up {w:World} {g g':Addr → Option Obj} (le:gLe g g'):∀ {vs:List Value} {ls:List Lm},LvsR w g vs ls → LvsR w g' vs ls
 | [],[],_ => trivial
 | _ :: _,_ :: _,⟨⟨d,kvs,e,G,q⟩,h⟩ => ⟨⟨d,kvs,e,G.up le,q⟩,h.up le⟩
 | [],_ :: _,h => h.elim
 | _ :: _,[],h => h.elim
theorem LvsR.len {w:World} {g:Addr → Option Obj}:∀ {vs:List Value} {es:List Lm},LvsR w g vs es → vs.length = es.length
 | [],[],_ => rfl
 | _ :: _,_ :: _,h => by rw [List.length_cons,List.length_cons,h.2.len]
 | [],_ :: _,h => h.elim
 | _ :: _,[],h => h.elim
theorem va_cons_ne {e:Str × Value} {y:Str} (h:¬ (e.1 = y)) (l:List (Str × Value)):valueAt (e :: l) y = valueAt l y:=by unfold valueAt; rw [List.find?_cons]; simp [h]
theorem va_cons_eq {e:Str × Value} {y:Str} (h:e.1 = y) (l:List (Str × Value)):valueAt (e :: l) y = some e.2:=by unfold valueAt; rw [List.find?_cons]; simp [h]
theorem va_map_ne {x y:Str} (h:¬ (x = y)) (v:Value):∀ kvs:List (Str × Value),valueAt (kvs.map fun kv => if kv.1 = x then (kv.1,v) else kv) y = valueAt kvs y
 | [] => rfl
 | e :: kvs => by
  rw [List.map_cons]
  by_cases hx:e.1 = x
  · rw [if_pos hx,va_cons_ne (by show ¬ (e.1 = y); rw [hx]; exact h),va_cons_ne (by rw [hx]; exact h),va_map_ne h v kvs]
  · rw [if_neg hx]
    by_cases hy:e.1 = y
    · rw [va_cons_eq hy,va_cons_eq hy]
    · rw [va_cons_ne hy,va_cons_ne hy,va_map_ne h v kvs]
theorem va_map_eq {x:Str} (v:Value):∀ kvs:List (Str × Value),(kvs.any fun kv => decide (kv.1 = x)) = true → valueAt (kvs.map fun kv => if kv.1 = x then (kv.1,v) else kv) x = some v
 | [],h => by simp at h
 | e :: kvs,h => by
  rw [List.map_cons]
  by_cases hx:e.1 = x
  · rw [if_pos hx,va_cons_eq (e:=(e.1,v)) hx]
  · rw [if_neg hx,va_cons_ne hx,va_map_eq v kvs (by rw [List.any_cons,decide_eq_false hx,Bool.false_or] at h; exact h)]
theorem va_app {x y:Str} (v:Value):∀ kvs:List (Str × Value),valueAt (kvs ++ [(x,v)]) y = (valueAt kvs y).or (if y = x then some v else none)
 | [] => by
  by_cases h:y = x
  · rw [List.nil_append,va_cons_eq h.symm,if_pos h]; rfl
  · rw [List.nil_append,va_cons_ne (fun z => h z.symm),if_neg h]; rfl
 | e :: kvs => by
  by_cases hy:e.1 = y
  · rw [List.cons_append,va_cons_eq hy,va_cons_eq hy]; rfl
  · rw [List.cons_append,va_cons_ne hy,va_cons_ne hy,va_app v kvs]
theorem valueAt_stored (kvs:List (Str × Value)) (x y:Str) (v:Value):valueAt (stored kvs x v) y = if y = x then some v else valueAt kvs y:=by
 unfold stored
 by_cases h:y = x
 · subst h
   rw [if_pos rfl]
   split
   · rename_i ha; exact va_map_eq v kvs ha
   · rename_i ha
     rw [va_app,if_pos rfl]
     have:valueAt kvs y = none:=by
      unfold valueAt
      rw [Option.map_eq_none_iff,List.find?_eq_none]
      intro e he hq
      exact ha (List.any_eq_true.mpr ⟨e,he,hq⟩)
     rw [this]; rfl
 · rw [if_neg h]
   split
   · exact va_map_ne (fun z => h z.symm) v kvs
   · rw [va_app,if_neg h]; simp
theorem LvR.put {kvs:List (Str × Value)} {lm:Lm} (h:LvR kvs lm) (e:Uri × Pfx) (t:Tok):LvR (stored kvs (mk (pfxS e.2)) (sv (uriS e.1) t)) (upd1 lm e):=by
 intro p
 unfold upd1
 by_cases hp:p = e.2
 · subst hp
   simp only [if_true]
   exact ⟨t,by rw [valueAt_stored,if_pos rfl]⟩
 · simp only [hp,if_false]
   have hne:¬ (mk (pfxS p) = mk (pfxS e.2)):=fun z => hp (pfxS_inj (mk_inj z))
   have:=h p
   cases hl:lm p with
   | none => rw [hl] at this; dsimp only at this ⊢; rw [valueAt_stored,if_neg hne]; exact this
   | some u => rw [hl] at this; dsimp only at this ⊢; obtain ⟨t,q⟩:=this; exact ⟨t,by rw [valueAt_stored,if_neg hne]; exact q⟩
theorem stored_len (kvs:List (Str × Value)) (x:Str) (v:Value):(stored kvs x v).length ≤ kvs.length + 1:=by
 unfold stored; split <;> simp
noncomputable def lm0:Lm:=fun p => if p = .em then some .no else if p = .xml then some .xml else none
theorem lvR0 (t1 t2:Tok):LvR [(mk [],sv [] t1),(mk [120,109,108],sv (uriS .xml) t2)] lm0:=by
 intro p
 unfold lm0
 by_cases h1:p = .em
 · subst h1
   simp only [if_true]
   exact ⟨t1,rfl⟩
 · simp only [h1,if_false]
   by_cases h2:p = .xml
   · subst h2
     simp only [if_true]
     refine ⟨t2,?_⟩
     unfold valueAt
     rw [List.find?_cons]
     have:(decide (mk [] = mk (pfxS .xml))) = false:=by decide +kernel
     first | (simp [pfxS]; done) | simp [pfxS,mk]
   · simp only [h2,if_false]
     unfold valueAt
     rw [Option.map_eq_none_iff,List.find?_eq_none]
     intro e he hq
     have hq:e.1 = mk (pfxS p):=by simpa using hq
     rcases List.mem_cons.mp he with rfl | he
     · exact h1 (pfxS_nil (mk_inj hq).symm)
     · rw [List.mem_singleton] at he
       subst he
       exact h2 (pfxS_inj (mk_inj hq).symm)
noncomputable def zCC (w:World) (d u:Nat) (E:Value → PP) (H0:Shared) (C:Cx w H0) (qual:Str) (sc:Scope) (L fa:Addr) (cdv:Value) (hL:H0.heap.objs.size ≤ L) (hk:sc.kind = .function):Zc:=⟨w,d + 1,u + 3,E,envOfC qual sc L fa cdv,H0,C,hL,hk,rfl,rfl⟩
theorem callGC {g:Addr → Option Obj} {N:Ldg} {R:Result → PP} {nm:Str} {an od:Option Addr} {fa:Addr} {u:Nat} (xs:List Str) (C:Cx w H0)
 (ho:(hd.heap_1 w.params).lookup fa = some ⟨oc,od,.func (fnOf nm qual params body sc dV kV doc pm an cdv ct),osl⟩) (hcd:codeIn (hd.heap_1 w.params) cdv qual = true) (hroom:d < recursionLimit)
 (hbind:∀ s,(hd.heap_1 w.params).In s.heap → BindsTo s (fnOf nm qual params body sc dV kV doc pm an cdv ct) args binds)
 (hkind:∀ n,∀ x ∈ binds,sc.names.lookup x.1 = some .local ∨ (sc.names.lookup x.1 = some .cell ∧ ((cellsFrom n sc.names []).lookup x.1).isSome = true))
 (hcn:∀ n,((cellsFrom n sc.names []).map (·.1)).Nodup) (hxs:ndB xs = true) (hco:sc.isCoroutine = false) (hgen:sc.isGenerator = false) (hk:sc.kind = .function)
 (h:∀ L Q' E' (hL:H0.heap.objs.size ≤ L),RetH H0 R Q' → G (zCC w d u E' H0 C qual sc L fa cdv hL hk) g (frV xs (bindL (envOfC qual sc L fa cdv).kindOf binds fun ι => none)) ((cellsFrom (L + 1) sc.names []).map (fun c => (c.2,Cel (bindC (envOfC qual sc L fa cdv).kindOf binds (fun ι => none) c.1))) ++ N) (go (zCC w d u E' H0 C qual sc L fa cdv hL hk) body (finT Q'))) :
 Hr H0 g N (codeAny (model PG w) (ar d u) (.call (.ref fa) args) R):=Hr.mk fun s S =>
 callC S C ho hcd hroom (hbind s (C.at S)) (hkind _) hcn (fun L s1 Q' E' hL S1 q => (h L Q' E' hL ⟨fun h => Hr.mk fun s S => q.ret _ s (h.run s S),fun h => Hr.mk fun s S => q.nxt s (h.run s S)⟩).run s1 (frV_ok xs hxs S1)) hco hgen hk
noncomputable def seqAs (env:Env):List Expr → List Value → Tr → Tr
 | e :: es,v :: vs,k => tgT env e v (seqAs env es vs k)
 | _,_,k => k
noncomputable def HdTu (c:Tr):Prop:=e1C c = .Tuple (tuEs (e1C c)) (tuK (e1C c)) (tuP (e1C c))
section
variable {g:Addr → Option Obj} {l:Fr1} {N:Ldg}
theorem seqAs_ok {k:Tr}:∀ {es:List Expr} {vs:List Value} {s:Shared},(assignEach es Z.env).length = vs.length → noStar es = true → den Z (seqAs Z.env es vs k) s → wz Z (assignInOrder ((assignEach es Z.env).map (·.2)) vs) (fun ι => den Z k) s
 | [],[],_,_,_,h => assignInOrder_nil h
 | [],_ :: _,_,hn,_,_ => nomatch hn
 | e :: es,vs,s,hn,hs,h => by
  have e1:assignEach (e :: es) Z.env = (false,assign e Z.env) :: assignEach es Z.env ∧ noStar es = true:=by
   cases e <;> first | exact ⟨rfl,hs⟩ | (cases hs)
  rw [e1.1] at hn ⊢
  cases vs with
  | nil => exact nomatch hn
  | cons v vs => exact wpAny_assignInOrder_more (thn (tgT_ok (k:=seqAs Z.env es vs k) h) fun _ s' h' => seqAs_ok (Nat.succ.inj hn) e1.2 h')
theorem find_star {env:Env}:∀ {es:List Expr},noStar es = true → (assignEach es env).findIdx? (·.1) = none
 | [],_ => rfl
 | e :: es,h => by
  have e1:assignEach (e :: es) env = (false,assign e env) :: assignEach es env ∧ noStar es = true:=by
   cases e <;> first | exact ⟨rfl,h⟩ | (cases h)
  rw [e1.1,List.findIdx?_cons,find_star e1.2]; rfl
theorem asU {a:Addr} {vs:List Value} (hg:g a = some (tupO vs)) (h:G Z g l N (seqAs Z.env (tuEs (e1C c)) vs (rsU c)))
 (hc:autoParam (HdAs (.ref a) c) aR) (ht:autoParam (HdTu c) aR) (hn:autoParam ((noStar (tuEs (e1C c)),(assignEach (tuEs (e1C c)) Z.env).length) = (true,vs.length)) aR):G Z g l N c:=Hr.mk fun s S => den_at hc.e (by
 have ht:e1C c = .Tuple (tuEs (e1C c)) (tuK (e1C c)) (tuP (e1C c)):=ht
 injection hn with h1 h2
 show wpAny _ _ (assign (e1C c) Z.env (.ref a)) _ _ _
 rw [ht]
 exact asnTup rfl S (.inl (tupAt S hg)) h2 (find_star h1) fun s' S' => seqAs_ok h2 h1 (h.run s' S'))
noncomputable def rsTu (env:Env) (c:Tr):Tr:=evT env 20 (cE c) fun v => .as ((tgC c).headD (cE c)) v (rsF c .next)
theorem tuA {elts:List Expr} {k:Nat} {tp:Pos} (h:G Z g l N (rsTu Z.env c)) (hc:autoParam (HdSm (.Assign (tgC c) (cE c) (cP c)) c) aR) (ht:autoParam (tgC c = [.Tuple elts k tp]) aR)
 (hs:autoParam (swapsWithSole (tgC c) (cE c) (cP c).line Z.env = pure false) aR) (hw:autoParam (swappedStores (tgC c) (cE c) Z.env = pure none) aR):G Z g l N c:=Hr.mk fun s S => den_at hc.e (by
 have h:=h.run s S
 unfold rsTu at h
 rw [ht] at hs hw h ⊢
 generalize cE c = e at *
 have h:den Z (evT Z.env 20 e fun v => .as (.Tuple elts k tp) v (rsF c .next)) s:=h
 exact Assign_Tuple (evT_ok 20 h) hs hw)
theorem dc2 (k1 k2 v1 v2:T) {c1 c2 d1 d2:Str} {i1 i2 i3 i4:Nat} {p1 p2 p3 p4 pos:Pos} (h:let c':=c; let l':=l; let N':=N; ∀ D t1 t2,Z.H0.heap.objs.size ≤ D → G Z g l' ((D,Dct Z.w [(mk k1,sv v1 t1),(mk k2,sv v2 t2)]) :: N') (rsV c' (.ref D)))
 (hc:autoParam (HdEx () c) aR) (hd:autoParam (exC c = .Dict [some (.Constant (.str c1) i1 p1),some (.Constant (.str c2) i2 p2)] [.Constant (.str d1) i3 p3,.Constant (.str d2) i4 p4] pos) aR)
 (h1:c1 = mk k1:=by decide +kernel) (h2:c2 = mk k2:=by decide +kernel) (h3:d1 = mk v1:=by decide +kernel) (h4:d2 = mk v2:=by decide +kernel) (hne:autoParam (k1 ≠ k2) aD):G Z g l N c:=Hr.mk fun s S => den_at hc.e (by
 subst h1 h2 h3 h4
 show wpAny _ _ (eval (exC c) Z.env) _ _ _
 rw [hd]
 refine wpAny_Dict_pairs (knd:=PySem.strKind PG Z.w) (pairs:=[(eval (.Constant (.str (mk k1)) i1 p1) Z.env,do let x ← eval (.Constant (.str (mk v1)) i3 p3) Z.env; standAt pos; pure x),(eval (.Constant (.str (mk k2)) i2 p2) Z.env,do let x ← eval (.Constant (.str (mk v2)) i4 p4) Z.env; standAt pos; pure x)]) rfl (List.cons_ne_nil _ _) (Nat.le_of_ble_eq_true rfl) ?_
 refine evalPairs_cons (Constant_str (wpAny_bind (Constant_str (wpAny_bind (wpAny_standAt (wpAny_pure ?_))))))
 refine evalPairs_cons (Constant_str (wpAny_bind (Constant_str (wpAny_bind (wpAny_standAt (wpAny_pure (evalPairs_nil ?_)))))))
 have S1:=S.newIn (P:=Dct Z.w []) (o:={ cls:=.type "dict",data:=.dict #[] }) rfl dct_nil
 refine ⟨[(mk k1,sv v1 (s.toks + 1)),(mk k2,sv v2 (s.toks + 1 + 1 + 1))],⟨strKind_is PG Z.w _ _,rfl,strKind_is PG Z.w _ _,rfl,trivial⟩,?_,fun h' hm hs => ?_⟩
 · exact St.dct (s:={ s with heap:=s.heap.push { cls:=.type "dict",data:=.dict #[] } }) S1 (.tail .head)
 have em:merged ([]:List (Str × Value)) [(mk k1,sv v1 (s.toks + 1)),(mk k2,sv v2 (s.toks + 1 + 1 + 1))] = [(mk k1,sv v1 (s.toks + 1)),(mk k2,sv v2 (s.toks + 1 + 1 + 1))]:=by
  have hk:¬ (mk k1 = mk k2):=fun z => hne (mk_inj z)
  simp [merged,stored,hk]
 rw [em] at hm
 obtain ⟨o,ho,r⟩:=Heap.dictOf_iff.mp hm
 exact (h _ _ _ S.size).run _ (S1.put (.tail .head) hs ho r))
theorem G.fz {a:Addr} {P:OP} (h:∀ g',gLe g g' → (∃ o,g' a = some o ∧ P o) → G Z g' l N c):G Z g l ((a,P) :: N) c:=Hr.mk fun s S =>
 St.freeze (N:=(Z.env.locals,Frm l) :: N) (N₂:=[(a,P)]) (S.perm ((List.Perm.swap _ _ _).trans (List.perm_append_comm (l₁:=[(a,P)])))) fun g' le S' ho _ => (h g' le (ho (a,P) (List.mem_singleton.mpr rfl))).run s S'
end
noncomputable def sbV (e:Expr):Expr:=(evE e).a
noncomputable def sbS (e:Expr):Expr:=(evE e).b
noncomputable def sbP (e:Expr):Pos:=(evE e).p
noncomputable def slA (e:Expr):Option Expr:=(evE e).lo
noncomputable def slB (e:Expr):Option Expr:=(evE e).hi
noncomputable def isSl (e:Expr):Prop:=e = .Subscript (sbV e) (.Slice (slA (sbS e)) (slB (sbS e)) none (sbP (sbS e))) (sbP e)
noncomputable def rsSl (env:Env) (c:Tr):Tr:=evT env 20 (sbV (exC c)) fun o => partT (evT env 20) (slA (sbS (exC c))) fun i => partT (evT env 20) (slB (sbS (exC c))) fun j => .slc o i j (rsV c)
section
variable {g:Addr → Option Obj} {l:Fr1} {N:Ldg}
theorem partT_ok {n:Nat} {p:Option Expr} {k:Value → Tr} {s:Shared} (h:den Z (partT (evT Z.env n) p k) s):wz Z (evalPart p Z.env) (fun v => den Z (k v)) s:=by
 cases p with
 | none => exact evalPart_none_step h
 | some e => exact evalPart_some_step (evT_ok n h)
theorem slX (h:G Z g l N (rsSl Z.env c)) (hc:autoParam (HdEx () c) aR) (he:autoParam (isSl (exC c)) aR) (ht:∀ o r,letTemporaryGo (sbV (exC c)) o r = pure ():=by intro _ _; rfl):G Z g l N c:=Hr.mk fun s S => den_at hc.e (by
 have h:=h.run s S
 unfold rsSl at h
 have he:exC c = .Subscript (sbV (exC c)) (.Slice (slA (sbS (exC c))) (slB (sbS (exC c))) none (sbP (sbS (exC c)))) (sbP (exC c)):=he
 show wpAny _ _ (eval (exC c) Z.env) _ _ _
 rw [he]
 generalize sbV (exC c) = v at *
 generalize slA (sbS (exC c)) = a at *
 generalize slB (sbS (exC c)) = b at *
 have h:den Z (evT Z.env 20 v fun o => partT (evT Z.env 20) a fun i => partT (evT Z.env 20) b fun j => .slc o i j (rsV c)) s:=h
 exact wpAny_Subscript_str_slice (thn (evT_ok 20 h) fun o s1 z => thn (partT_ok z) fun i s2 z => thn (partT_ok z) fun j s3 z => z) ht)
theorem sl2 {x:T} {a b:Nat} {ta tb:Tok} (h:let c':=c; let l':=l; let N':=N; ∀ t,G Z g l' N' (rsV c' (sv ((x.drop a).take (b - a)) t))) (hc:autoParam (HdSl (sv x t) (.int (a:Nat) ta) (.int (b:Nat) tb) c) aR) (hz:autoParam (x.length ≤ 1000000) aA):G Z g l N c:=Hr.mk fun s S => den_at hc.e (by
 refine ⟨mk x,t,some (a,ta),some (b,tb),rfl,rfl,rfl,made_slice (by rw [mk_len]; exact szl (ltr hz (by decide))) fun t' tk => ?_⟩
 have e:Txt.slice (mk x) (Option.map (·.1) (some ((a:Int),ta))) (Option.map (·.1) (some ((b:Int),tb))) = mk ((x.drop a).take (b - a)):=by show Txt.slice (mk x) (some (a:Int)) (some (b:Int)) = _; rw [slice_nat,mk_cps]
 rw [e]
 exact (h t').run _ (S.pushed _))
theorem slTo' {x:T} {b:Nat} {tb:Tok} (h:let c':=c; let l':=l; let N':=N; ∀ t,G Z g l' N' (rsV c' (sv (x.take b) t))) (hc:autoParam (HdSl (sv x t) .none (.int (b:Nat) tb) c) aR) (hz:autoParam (x.length ≤ 1000000) aA):G Z g l N c:=Hr.mk fun s S => den_at hc.e (by
 refine ⟨mk x,t,none,some (b,tb),rfl,rfl,rfl,made_slice (by rw [mk_len]; exact szl (ltr hz (by decide))) fun t' tk => ?_⟩
 have e:Txt.slice (mk x) (Option.map (·.1) (none:Option (Int × Tok))) (Option.map (·.1) (some ((b:Int),tb))) = mk (x.take b):=by show Txt.slice (mk x) none (some (b:Int)) = _; rw [slice_to,mk_cps]
 rw [e]
 exact (h t').run _ (S.pushed _))
theorem slFrom' {x:T} {b:Nat} {tb:Tok} (h:let c':=c; let l':=l; let N':=N; ∀ t,G Z g l' N' (rsV c' (sv (x.drop b) t))) (hc:autoParam (HdSl (sv x t) (.int (b:Nat) tb) .none c) aR) (hz:autoParam (x.length ≤ 1000000) aA):G Z g l N c:=Hr.mk fun s S => den_at hc.e (by
 refine ⟨mk x,t,some (b,tb),none,rfl,rfl,rfl,made_slice (by rw [mk_len]; exact szl (ltr hz (by decide))) fun t' tk => ?_⟩
 have e:Txt.slice (mk x) (Option.map (·.1) (some ((b:Int),tb))) (Option.map (·.1) (none:Option (Int × Tok))) = mk (x.drop b):=by show Txt.slice (mk x) (some (b:Int)) none = _; rw [slice_from,mk_cps]
 rw [e]
 exact (h t').run _ (S.pushed _))
theorem adN {a:Nat} (b:Nat) {u:Tok} (h:let c':=c; let l':=l; let N':=N; ∀ t,G Z g l' N' (rsV c' (.int ((a + b:Nat):Int) t))) (hc:autoParam (HdV (binaryOp .Add (.int (a:Nat) t) (.int (b:Nat) u)) c) aR):G Z g l N c:=adI (hc:=hc) h
theorem gix {x:T} (h:G Z g l N (rsM c (.builtin "str.index",[sv x t]))) (hc:autoParam (HdM (sv x t) "index" c) aR):G Z g l N c:=Hr.mk fun s S => outM hc (PySem.GM.index (h.run s S))
theorem c_plain {x:T} (hroom:Z.d ≤ 890) (h:let c':=c; let l':=l; let N':=N; ∀ t',G Z g l' N' (rsV c' (sv (plain x) t'))) (hc:autoParam (HdCal (.ref 187) [sv x t] c) aR) (hx:autoParam (x.length ≤ 1000000) aA):G Z g l N c:=cal (hc:=hc) (f_plain Z.C hroom hx h)
theorem c_full {p:Pfx} {b:Bool} {x bx:Uri} {lv:Addr} {kvs:List (Str × Value)} (hroom:Z.d ≤ 890) (D:GD Z.w g lv kvs) (hv:p ≠ .em → valueAt kvs (mk (pfxS p)) = some (sv (uriS x) tu)) (hb:p = .em → bx = x) (h:let c':=c; let l':=l; let N':=N; ∀ t',G Z g l' N' (rsV c' (sv (nameS (x,b)) t')))
 (hc:autoParam (HdCal (.ref 194) [sv (qS p b) t,.ref lv,sv (uriS bx) t2] c) aR):G Z g l N c:=cal (hc:=hc) (f_full Z.C hroom D hv hb h)
end
noncomputable def readB:List Stmt:=fnB 15
noncomputable def readW:List Stmt:=subB readB[1]?
noncomputable def readS:List Stmt:=subE (subE (subE (subE readW[1]?)[0]?)[0]?)[0]?
structure REn (env:Env) (cT cL:Addr):Prop where
 cl:env.cells.lookup (Str.ofString "level") = some cL
 ct:env.cells.lookup (Str.ofString "text") = some cT
 level:Lo env "level" .cell
 text:Lo env "text" .cell
 events:Lo env "events"
 marks:Lo env "marks"
 names:Lo env "names"
 levels:Lo env "levels"
 at':Lo env "at"
 stop:Lo env "stop"
 name:Lo env "name"
 pairs:Lo env "pairs"
 middle:Lo env "middle"
 behind:Lo env "behind"
 key:Lo env "key"
 value:Lo env "value"
 keys:Lo env "keys"
 attrs:Lo env "attrs"
 pl:Lo env "_law_plain" .globalImplicit
 full:Lo env "_law_full" .globalImplicit
 len:Lo env "len" .globalImplicit
 min:Lo env "min" .globalImplicit
 range:Lo env "range" .globalImplicit
 dict:Lo env "dict" .globalImplicit
 sorted:Lo env "sorted" .globalImplicit
structure RA where
 ev:Addr
 mr:Addr
 nm:Addr
 lv:Addr
noncomputable def rdN:List Str:=["events","marks","names","levels","at","stop","name","pairs","middle","behind","key","value","keys","attrs"]
noncomputable def rdF (V:RA) (at':Value) (stop name pairs:Option Value) (o:Nat → Option Value):Fr1:=[("events",some (.ref V.ev)),("marks",some (.ref V.mr)),("names",some (.ref V.nm)),("levels",some (.ref V.lv)),("at",some at'),(Str.ofString "stop",stop),(Str.ofString "name",name),(Str.ofString "pairs",pairs),
 (Str.ofString "middle",o 0),(Str.ofString "behind",o 1),(Str.ofString "key",o 2),(Str.ofString "value",o 3),(Str.ofString "keys",o 4),(Str.ofString "attrs",o 5)]
variable {K:Flow → Tr} {Y:Mine.T} {at':Value} {cL cT:Addr}
section
variable {g:Addr → Option Obj} {N:Ldg} {V:RA}
inductive RwK (g:Addr → Option Obj) (Y R:T) (k:Nat) (rows:List (T × T)) (F:Option Value → (Nat → Option Value) → Fr1) (N:List Value → Ldg):Nat → (Addr → Option Obj) → Fr1 → Ldg → Prop
 | mk {g' dn rs j tj vs o} (e:rows = dn ++ rs) (le:gLe g g') (d:Y.drop j = (rs.map rowS).flatten ++ [62] ++ R) (z:j + (rs.map rowS).flatten.length = k + (rows.map rowS).flatten.length) (r:Rws g' vs dn) :
  RwK g Y R k rows F N rs.length g' (F (some (.int (j:Nat) tj)) o) (N vs)
theorem rowsW {R:T} {k P D:Nat} {PD PL:OP} {tj:Tok} {nm:Option Value} {o:Nat → Option Value} {rows:List (T × T)} {r:List Stmt} (B:REn Z.env cT cL) (hroom:Z.d ≤ 880) (hkey:∀ r ∈ rows,61 ∉ r.1) (hrl:rows.length ≤ 10) (hY:Y.length ≤ 1000000) (hd:Y.drop k = (rows.map rowS).flatten ++ [62] ++ R)
 (h:∀ g' vs tj o',gLe g g' → Rws g' vs rows → G Z g' (rdF V at' (some (.int ((k + (rows.map rowS).flatten.length:Nat):Int) tj)) nm (some (.ref P)) o') ((D,PD) :: (P,Lst vs) :: (cL,PL) :: (cT,Cel (some (sv Y t))) :: N) (seqT r K)) :
 G Z g (rdF V at' (some (.int (k:Nat) tj)) nm (some (.ref P)) o) ((D,PD) :: (P,Lst []) :: (cL,PL) :: (cT,Cel (some (sv Y t))) :: N) (go Z (atB readS 2 :: r) K):=by
 refine nx ?_
 let KF:Option Value → (Nat → Option Value) → Fr1:=fun j o => rdF V at' j nm (some (.ref P)) o
 let KM:List Value → Ldg:=fun vs => (D,PD) :: (P,Lst vs) :: (cL,PL) :: (cT,Cel (some (sv Y t))) :: N
 let KI:Nat → (Addr → Option Obj) → Fr1 → Ldg → Prop:=RwK g Y R k rows KF KM
 refine whG rows.length KI (.mk (dn:=[]) (vs:=[]) rfl (gLe.rfl' g) hd rfl ⟨rfl,fun i hi => absurd hi (Nat.not_lt_zero i)⟩) ?_
 intro n g' l N' E Q Qf I q
 cases I with | mk hrs le hdj hz hR => ?_
 rename_i dn rs j tj vs o
 cases rs with
 | nil =>
  have hg:Y[j]? = some 62:=get_at (b:=R) hdj
  refine letG ?_; intro c l N
  refine ldc 3 B.text B.ct ?_
  refine ld 5 B.stop ?_
  refine chT ?_; intro c l N _
  refine csM [32] ?_; intro c l N _
  refine eqSN ?_
  have ez:j = k + (rows.map rowS).flatten.length:=hz
  rw [List.append_nil] at hrs
  subst hrs
  subst ez
  exact q.off (h g' vs tj o le hR)
 | cons r rs =>
  obtain ⟨rest,hrest⟩:∃ rest,rest = (rs.map rowS).flatten ++ [62] ++ R:=⟨_,rfl⟩
  have hd9:Y.drop j = [32] ++ r.1 ++ [61,34] ++ (escA r.2 ++ [34] ++ rest):=by
   rw [hdj,hrest,List.map_cons,List.flatten_cons]
   show ([32] ++ r.1 ++ [61,34] ++ escA r.2 ++ [34]) ++ _ ++ _ ++ _ = _
   simp only [List.append_assoc]
  have hg:Y[j]? = some 32:=get_at (X:=Y) hd9
  have hrm:r ∈ rows:=by rw [hrs]; exact List.mem_append_right _ (List.mem_cons_self ..)
  have hj:j ≤ Y.length:=Nat.le_of_lt (List.getElem?_eq_some_iff.mp hg).1
  have hx1:∃ i,j ≤ i ∧ Occ Y [61,34] i:=⟨j + ([32] ++ r.1).length,Nat.le_add_right _ _,occ_at hd9⟩
  refine letG ?_; intro c l N
  refine ldc 3 B.text B.ct ?_
  refine ld 5 B.stop ?_
  refine chT ?_; intro c l N _
  refine csM [32] ?_; intro c l N _
  refine eqSY ?_
  refine nx ?_
  refine ldc 3 B.text B.ct ?_
  refine gix ?_
  refine csM [61,34] ?_; intro c l N _
  refine ld 5 B.stop ?_
  refine ixT ?_; intro c l N j9 tm p1 p2 p3
  have e9:j9 = j + ([32] ++ r.1).length:=least_at (a:=[32] ++ r.1) (c:=61) (y:=[34]) hd9 (fun z => by
   rcases List.mem_append.mp z with q | q
   · exact absurd q (by decide)
   · exact hkey r hrm q) p1 p2 p3
  have hd10:Y.drop (j9 + 2) = escA r.2 ++ [34] ++ rest:=by
   have e2:j + ([32] ++ r.1).length + 2 = j + ([32] ++ r.1 ++ [61,34]).length:=by rw [lap (as:=[32] ++ r.1),Nat.add_assoc]; rfl
   rw [e9,e2,← List.drop_drop,hd9,List.drop_left]
  have hl10:j9 + 2 ≤ Y.length:=by
   have h1:=len_at hd10 (fun e => nomatch (List.append_eq_nil_iff.mp (List.append_eq_nil_iff.mp e).1).2)
   rw [← h1]; exact Nat.le_add_right _ _
  have hx2:∃ i,j9 + 2 ≤ i ∧ Occ Y [34] i:=⟨j9 + 2 + (escA r.2).length,Nat.le_add_right _ _,occ_at hd10⟩
  refine st 8 B.middle ?_
  refine nx ?_
  refine ldc 3 B.text B.ct ?_
  refine gix ?_
  refine csM [34] ?_; intro c l N _
  refine ld 8 B.middle ?_
  refine ci ?_; intro c l N _
  refine adN 2 ?_; intro c l N _
  refine ixT ?_; intro c l N ja tb p4 p5 p6
  have ea:ja = j9 + 2 + (escA r.2).length:=least_at (a:=escA r.2) (c:=34) (y:=[]) hd10 (escA_quot _) p4 p5 p6
  refine st 9 B.behind ?_
  refine nx ?_
  have hs1:(Y.drop (j + 1)).take (j9 - (j + 1)) = r.1:=slice_at (b:=[61,34] ++ (escA r.2 ++ [34] ++ rest)) (by rw [← List.drop_drop,hd9]; simp only [List.append_assoc]; rfl) (by rw [e9,lap,← Nat.add_assoc]; exact Nat.add_sub_cancel_left ..)
  have hs2:(Y.drop (j9 + 2)).take (ja - (j9 + 2)) = escA r.2:=slice_at (b:=[34] ++ rest) (by rw [hd10,List.append_assoc]) (by rw [ea]; exact Nat.add_sub_cancel_left ..)
  have hle2:(escA r.2).length ≤ 1000000:=by rw [← hs2,List.length_take,List.length_drop]; exact ltr (Nat.min_le_right _ _) (ltr (Nat.sub_le _ _) hY)
  have hvl:vs.length ≤ 10:=by rw [hR.1]; exact ltr (by rw [hrs,lap]; exact Nat.le_add_right _ _) hrl
  refine ld 7 B.pairs ?_
  refine gap 1 ?_
  refine slX ?_
  refine ldc 3 B.text B.ct ?_
  refine ld 5 B.stop ?_
  refine ci ?_; intro c l N _
  refine adN 1 ?_; intro c l N _
  refine ld 8 B.middle ?_
  refine sl2 ?_; intro c l N u1
  rw [hs1]
  refine gl B.pl (by k_is) ?_
  refine cwf ?_
  refine slX ?_
  refine ldc 3 B.text B.ct ?_
  refine ld 8 B.middle ?_
  refine ci ?_; intro c l N _
  refine adN 2 ?_; intro c l N _
  refine ld 9 B.behind ?_
  refine sl2 ?_; intro c l N _
  rw [hs2]
  refine c_plain (ltr hroom (by decide)) ?_; intro c l N u2
  rw [plain_A]
  refine nwT ?_; intro c l N g1 a le1 ho
  refine app 1 ?_ (hz:=szl (ltr hvl (by decide)))
  refine nx ?_
  refine ld 9 B.behind ?_
  refine ci ?_; intro c l N _
  refine adN 1 ?_; intro c l N _
  refine st 5 B.stop ?_
  have el:(rowS r).length = ([32] ++ r.1).length + 2 + (escA r.2).length + 1:=by
   show ([32] ++ r.1 ++ [61,34] ++ escA r.2 ++ [34]).length = _
   rw [lap,lap,lap (as:=[32] ++ r.1)]; rfl
  refine q.go (j:=rs.length) (.mk (dn:=dn ++ [r]) (j:=ja + 1) (vs:=vs ++ [.ref a]) (o:=fun i => match i with | 0 => some (.int (j9:Nat) tm) | 1 => some (.int (ja:Nat) tb) | i => o i) (by rw [hrs,List.append_assoc]; rfl) (le.tr le1) ?_ ?_ (Rws.snoc (hR.up fun b o e _ => le1 b o e) ho)) (Nat.lt_succ_self _)
  · rw [ea,Nat.add_assoc,← List.drop_drop,hd10,show (escA r.2).length + 1 = (escA r.2 ++ [34]).length from (lap (bs:=[34])).symm,List.drop_left,hrest]
  · rw [← hz,List.map_cons,List.flatten_cons,lap,← Nat.add_assoc,el,ea,e9]
    simp only [Nat.add_assoc]
end
theorem upd_take {lm:Lm} {ns:Lvl} {i:Nat} {e:Uri × Pfx} (h:ns[i]? = some e):upd lm (ns.take (i + 1)) = upd1 (upd lm (ns.take i)) e:=by
 rw [List.take_add_one,h]; unfold upd; rw [List.foldl_append]; rfl
theorem row_at {ns:Lvl} {ats:List ((Pfx × Bool) × T)} {i:Nat} {r:T × T} (h:(rowsOf ns ats)[i]? = some r):(∃ e,ns[i]? = some e ∧ r = nsRow e) ∨ (ns.length ≤ i ∧ ∃ e,ats[i - ns.length]? = some e ∧ r = atR e):=by
 unfold rowsOf at h
 rcases Nat.lt_or_ge i ns.length with hi | hi
 · rw [List.getElem?_append_left (by rw [List.length_map]; exact hi),List.getElem?_map] at h
   cases e:ns[i]? with
   | none => rw [e] at h; cases h
   | some x => rw [e] at h; exact .inl ⟨x,rfl,(Option.some.inj h).symm⟩
 · rw [List.getElem?_append_right (by rw [List.length_map]; exact hi),List.getElem?_map,List.length_map] at h
   cases e:ats[i - ns.length]? with
   | none => rw [e] at h; cases h
   | some x => rw [e] at h; exact .inr ⟨hi,x,rfl,(Option.some.inj h).symm⟩
theorem row_len {ns:Lvl} {ats:List ((Pfx × Bool) × T)} {r:T × T} (h:r ∈ rowsOf ns ats):r.1.length ≤ 1000000:=by
 rcases List.mem_append.mp h with q | q
 · obtain ⟨e,_,rfl⟩:=List.mem_map.mp q
   show (xmlnsS e.2).length ≤ 1000000
   unfold xmlnsS; split
   · decide
   · rw [lap]; exact ltr (Nat.add_le_add_left (pfxS_len e.2) _) (by decide)
 · obtain ⟨e,_,rfl⟩:=List.mem_map.mp q
   exact ltr (qS_len e.1.1 e.1.2) (by decide)
inductive LvK (g:Addr → Option Obj) (lm:Lm) (ns:Lvl) (z:Nat) (F:(Nat → Option Value) → Fr1) (N:List (Str × Value) → Ldg):Nat → (Addr → Option Obj) → Fr1 → Ldg → Prop
 | mk {i kvs o} (h:LvR kvs (upd lm (ns.take i))) (hz:kvs.length ≤ z + (ns.take i).length):LvK g lm ns z F N i g (F o) (N kvs)
variable {stop:Option Value}
section
variable {g:Addr → Option Obj} {N:Ldg} {V:RA}
theorem sdT {d:Addr} {kvs:List (Str × Value)} {x:T} {v:Value} {l:Fr1} (i:Nat) (h:G Z g l (updL (d,Dct Z.w (stored kvs (mk x) v)) i N) (rsU c)) (hk:autoParam (At (d,Dct Z.w kvs) i N) aR) (hc:autoParam (HdU (setItem (.ref d) (sv x t) v) c) aR) (hz:autoParam (kvs.length ≤ 100000) aD):G Z g l N c:=Hr.mk fun s S => outU hc (setD S (At.pk (i:=i + 1) hk) hz fun s2 S2 => h.run s2 S2)
theorem levelF {P:Addr} {nm:Option Value} {o:Nat → Option Value} {kvs:List (Str × Value)} {lm:Lm} {ns:Lvl} {ats:List ((Pfx × Bool) × T)} {vs:List Value} {r:List Stmt} (B:REn Z.env cT cL) (hkl:kvs.length ≤ 50000) (hns:ns.length ≤ 4) (hLm:LvR kvs lm) (hR:Rws g vs (rowsOf ns ats))
 (h:∀ kvs' o',LvR kvs' (upd lm ns) → kvs'.length ≤ kvs.length + 4 → G Z g (rdF V at' stop nm (some (.ref P)) o') ((D,Dct Z.w kvs') :: (P,Lst vs) :: (cL,Cel (some (.ref D))) :: N) (seqT r K)) :
 G Z g (rdF V at' stop nm (some (.ref P)) o) ((D,Dct Z.w kvs) :: (P,Lst vs) :: (cL,Cel (some (.ref D))) :: N) (go Z (atB readS 3 :: r) K):=by
 refine letG ?_; intro c l N1
 refine nx ?_
 refine ld 7 B.pairs ?_
 let KF:(Nat → Option Value) → Fr1:=fun o => rdF V at' stop nm (some (.ref P)) o
 let KM:List (Str × Value) → Ldg:=fun kvs => (D,Dct Z.w kvs) :: (P,Lst vs) :: (cL,Cel (some (.ref D))) :: N
 let KI:Nat → (Addr → Option Obj) → Fr1 → Ldg → Prop:=LvK g lm ns kvs.length KF KM
 refine lpL 1 KI (fun j g' l' N' I => by cases I; exact ⟨1,rfl⟩) (.mk (i:=0) hLm (Nat.le_refl _)) ?_ ?_
 · intro g' l' N' I
   cases I with | mk h1 h2 => ?_
   rename_i kvs' o'
   have ht:ns.take vs.length = ns:=List.take_of_length_le (by rw [hR.1]; unfold rowsOf; rw [lap,List.length_map]; exact Nat.le_add_right _ _)
   rw [ht] at h1 h2
   exact h kvs' o' h1 (ltr h2 (Nat.add_le_add_left hns _))
 · intro j v it E Q' g' l' N' hj hv I q
   cases I with | mk h1 h2 => ?_
   rename_i kvs' o'
   obtain ⟨r,hr,ad,t1,t2,rfl,hg⟩:=hR.get hv
   have hrl:=row_len (List.mem_of_getElem? hr)
   refine letG ?_; intro c l N
   refine as2 10 11 B.key B.value hg ?_
   refine nx ?_
   refine slX ?_
   refine ld 10 B.key ?_
   refine ci ?_; intro c l N _
   refine slTo' (b:=5) ?_; intro c l N _
   refine csM [120,109,108,110,115] ?_; intro c l N _
   refine eqS ?_ ?_ <;> intro c l N h5
   · rcases row_at hr with ⟨e,he,rfl⟩ | ⟨_,e,_,rfl⟩
     · refine nx ?_
       refine ld 11 B.value ?_
       refine ldc 3 B.level B.cl ?_
       refine slX ?_
       refine ld 10 B.key ?_
       refine ci ?_; intro c l N _
       refine slFrom' (b:=6) ?_; intro c l N _
       have e6:(nsRow e).1.drop 6 = pfxS e.2:=xmlns6 e.2
       rw [e6]
       refine sdT 1 ?_ (hz:=ltr h2 (ltr (Nat.add_le_add hkl (ltr (List.length_take_le' j ns) hns)) (by decide)))
       refine q.go (.mk (o:=fun i => match i with | 2 => some (sv (nsRow e).1 t1) | 3 => some (sv (nsRow e).2 t2) | i => o' i) ?_ ?_)
       · rw [upd_take he]; exact h1.put e t2
       · rw [List.take_add_one,he]
         exact ltr (stored_len _ _ _) (by rw [lap]; exact Nat.succ_le_succ h2)
     · exact absurd h5 (pfx5 e.1.1 e.1.2)
   · rcases row_at hr with ⟨e,he,rfl⟩ | ⟨hi,e,_,rfl⟩
     · exact absurd (xmlns5 e.2) h5
     · have e1:ns.take (j + 1) = ns.take j:=by rw [List.take_of_length_le (Nat.le_succ_of_le hi),List.take_of_length_le hi]
       exact q.go (.mk (o:=fun i => match i with | 2 => some (sv (atR e).1 t1) | 3 => some (sv (atR e).2 t2) | i => o' i) (by rw [e1]; exact h1) (by rw [e1]; exact h2))
end
theorem look_map {k:NameKind} (F:Str × NameKind → NameKind):∀ {names:List (Str × NameKind)} {x:Str},names.lookup x = some k → (names.map fun e => (e.1,F e)).lookup x = some (F (x,k))
 | [],_,h => by simp at h
 | (n,j) :: r,x,h => by
  rw [List.map_cons,List.lookup_cons]
  rw [List.lookup_cons] at h
  cases hx:x == n with
  | true =>
   rw [hx] at h
   have:x = n:=eq_of_beq hx
   subst this
   have h:j = k:=Option.some.inj h
   subst h; rfl
  | false => rw [hx] at h; exact look_map F h
theorem kindC {x:Str} {k:NameKind} (h:scope.names.lookup x = some k) (hk:k ≠ .free):(compEnvC scope cl Lc env).kindOf x = some k:=by
 have e:(scope.names.map fun e => (e.1,(fun e:Str × NameKind => if (e.2 == NameKind.free && env.scope.kind == .function && env.kindOf e.1 == some .cell) = true then NameKind.cell else e.2) e)) = (relabel scope env).names:=by
  unfold relabel
  refine List.map_congr_left fun e _ => ?_
  dsimp only
  split <;> rfl
 have:=look_map (fun e:Str × NameKind => if (e.2 == NameKind.free && env.scope.kind == .function && env.kindOf e.1 == some .cell) = true then NameKind.cell else e.2) h
 rw [e] at this
 refine this.trans ?_
 have:(k == NameKind.free) = false:=beq_false_of_ne hk
 simp [this]
theorem kindF {x:Str} (h:scope.names.lookup x = some .free) (hf:env.scope.kind = .function) (hx:env.kindOf x = some .cell):(compEnvC scope cl Lc env).kindOf x = some .cell:=by
 have e:(scope.names.map fun e => (e.1,(fun e:Str × NameKind => if (e.2 == NameKind.free && env.scope.kind == .function && env.kindOf e.1 == some .cell) = true then NameKind.cell else e.2) e)) = (relabel scope env).names:=by
  unfold relabel
  refine List.map_congr_left fun e _ => ?_
  dsimp only
  split <;> rfl
 have:=look_map (fun e:Str × NameKind => if (e.2 == NameKind.free && env.scope.kind == .function && env.kindOf e.1 == some .cell) = true then NameKind.cell else e.2) h
 rw [e] at this
 refine this.trans ?_
 simp [hf,hx]
theorem closOne {x:Str} {c:Addr} {pre post:List (Str × NameKind)} (hn:scope.names = pre ++ (x,.free) :: post) (h1:pre.all (fun e => e.2 != .free) = true) (h2:post.all (fun e => e.2 != .free) = true) (hc:env.cells.lookup x = some c):closureFor scope env = pure [(x,c)]:=by
 let B:Str × NameKind → List (Str × Addr) → Sem (ForInStep (List (Str × Addr))):=fun e r => match e with
  | (name,kind) => if (kind == NameKind.free) = true then do let a ← cellOf env name; pure (ForInStep.yield ((name,a) :: r)) else pure (ForInStep.yield r)
 have key:∀ (l post:List (Str × NameKind)) (cs:List (Str × Addr)),l.all (fun e => e.2 != .free) = true → (forIn (l ++ post) cs B:Sem (List (Str × Addr))) = forIn post cs B:=by
  intro l post
  induction l with
  | nil => intro cs _; rfl
  | cons e l ih =>
   intro cs h
   rw [List.all_cons,Bool.and_eq_true] at h
   rw [List.cons_append,List.forIn_cons]
   have:(e.2 == NameKind.free) = false:=by simpa using h.1
   have eB:B e cs = pure (ForInStep.yield cs):=by
    obtain ⟨n,k⟩:=e
    have:(k == NameKind.free) = false:=this
    show (if (k == NameKind.free) = true then _ else _) = _
    rw [this]; rfl
   rw [eB]
   exact ih cs h.2
 unfold closureFor
 rw [hn]
 show (forIn (pre ++ (x,NameKind.free) :: post) [] B >>= fun cs => pure cs) = _
 rw [key _ _ _ h1,List.forIn_cons]
 have eB:B (x,NameKind.free) [] = pure (ForInStep.yield [(x,c)]):=by
  show (do let a ← cellOf env x; pure (ForInStep.yield [(x,a)]):Sem _) = _
  unfold cellOf
  rw [hc]; rfl
 rw [eB]
 have:=key post [] [(x,c)] h2
 rw [List.append_nil] at this
 show ((forIn post [(x,c)] B) >>= fun cs => pure cs) = _
 rw [this]; rfl
theorem loC {x:Str} {k:NameKind} (h:(sc.names.lookup x,x == ("__debug__":Str)) = (some k,false)) (hk:autoParam (k ≠ .free) aD):Lo (compEnvC sc cl Lc env) x k:=by
 injection h with h1 h2
 exact ⟨kindC h1 hk,h2⟩
theorem loF {x:Str} (h:sc.names.lookup x = some .free) (hf:env.scope.kind = .function) (hx:Lo env x .cell):Lo (compEnvC sc cl Lc env) x .cell:=⟨kindF h hf hx.k,hx.d⟩
noncomputable def cpS (s:Stmt):Expr:=(svS s).x
noncomputable def keysOf (ats:List ((Pfx × Bool) × T)):List T:=(ats.filter fun a => decide (a.1.1 ≠ .em)).map fun a => pfxS a.1.1
theorem keysOf_snoc {ats:List ((Pfx × Bool) × T)} {i:Nat} {e:(Pfx × Bool) × T} (h:ats[i]? = some e):keysOf (ats.take (i + 1)) = keysOf (ats.take i) ++ (if e.1.1 ≠ .em then [pfxS e.1.1] else []):=by
 unfold keysOf
 rw [List.take_add_one,h,Option.toList_some,List.filter_append,List.map_append]
 congr 1
 by_cases he:e.1.1 = .em
 · rw [if_neg (fun z => z he),List.filter_cons,if_neg (by rw [decide_eq_true_eq]; exact fun z => z he)]; rfl
 · rw [if_pos he,List.filter_cons,if_pos (decide_eq_true he)]; rfl
theorem keysOf_len (ats:List ((Pfx × Bool) × T)):(keysOf ats).length ≤ ats.length:=by unfold keysOf; rw [List.length_map]; exact List.length_filter_le _ _
theorem Txs.snoc' {v:Value} {x:T} (e:v = sv x t) {vs:List Value} {xs:List T} (h:Txs vs xs):Txs (vs ++ [v]) (xs ++ [x]):=by subst e; exact h.app (Txs.one x t)
noncomputable def keysSc:Scope:=lcSc (cpS (atB readS 4))
theorem keys_sc (env:Env):ScOk env [] keysSc:=⟨rfl,rfl,by decide +kernel,by decide +kernel⟩
section
variable {g:Addr → Option Obj} {N:Ldg} {V:RA}
theorem keysR {P:Addr} {nm:Option Value} {o:Nat → Option Value} {ns:Lvl} {ats:List ((Pfx × Bool) × T)} {vs:List Value} {r:List Stmt} (B:REn Z.env cT cL) (hal:ats.length ≤ 3) (hR:Rws g vs (rowsOf ns ats)) (i:Nat)
 (h:∀ ks out,Txs out (keysOf ats) → G Z g (rdF V at' stop nm (some (.ref P)) fun i => match i with | 4 => some (.ref ks) | i => o i) ((ks,Lst out) :: N) (seqT r K)) (hk:autoParam (At (P,Lst vs) i N) aR) :
 G Z g (rdF V at' stop nm (some (.ref P)) o) N (go Z (atB readS 4 :: r) K):=by
 refine letG ?_; intro c l N1
 refine nx ?_
 refine lcA (y:=Str.ofString "keys") (keys_sc _) ?_ (hl:=B.keys)
 refine ld 7 B.pairs ?_
 let KI:Nat → (Addr → Option Obj) → List Value → Prop:=fun j g' out => g' = g ∧ Txs out (keysOf (ats.take (j - ns.length)))
 refine coUL 12 i B.keys (keys_sc _) ["key","value"] KI ?_ ?_ ⟨rfl,?_⟩ ?_ ?_ (hj:=hk)
 · rintro j g' out ⟨_,hT⟩
   rw [hT.len]
   exact ltr (keysOf_len _) (ltr (List.length_take_le' _ _) (ltr hal (by decide)))
 · rintro j g' out ⟨rfl,_⟩; exact gLe.rfl' _
 · rw [Nat.zero_sub]; trivial
 · rintro g' acc out ⟨rfl,hT⟩
   have e:ats.take (vs.length - ns.length) = ats:=List.take_of_length_le (by rw [hR.1]; unfold rowsOf; rw [lap,List.length_map,List.length_map,Nat.add_sub_cancel_left]; exact Nat.le_refl _)
   rw [e] at hT
   exact h acc out hT
 · rintro Lc hL E j v it acc g' out m Qe Qs hv ⟨rfl,hT⟩ q
   obtain ⟨r,hr,ad,t1,t2,rfl,hg⟩:=hR.get hv
   have hrl:=row_len (List.mem_of_getElem? hr)
   refine letG ?_; intro c l N
   refine as2 0 1 (loC rfl) (loC rfl) hg ?_
   refine slX ?_
   refine ld 0 (loC rfl) ?_
   refine ci ?_; intro c l N _
   refine slTo' (b:=5) ?_; intro c l N _
   refine csM [120,109,108,110,115] ?_; intro c l N _
   rcases row_at hr with ⟨e,he,rfl⟩ | ⟨hi,e,he,rfl⟩
   · have hj:j < ns.length:=(List.getElem?_eq_some_iff.mp he).1
     have e1:j + 1 - ns.length = j - ns.length:=by rw [Nat.sub_eq_zero_of_le hj,Nat.sub_eq_zero_of_le (Nat.le_of_lt hj)]
     refine neSN ?_ (hn:=xmlns5 e.2)
     exact q.sk ⟨rfl,by rw [e1]; exact hT⟩
   · have e1:j + 1 - ns.length = j - ns.length + 1:=Nat.succ_sub hi
     refine neSY ?_ (hn:=pfx5 e.1.1 e.1.2)
     refine cs ?_; intro c l N _
     refine ld 0 (loC rfl) ?_
     refine inQ (p:=e.1.1) (b:=e.1.2) ?_ ?_ <;> intro c l N hp
     · refine ld 0 (loC rfl) ?_
       refine gsp ?_
       refine cs ?_; intro c l N _
       refine spQ (p:=e.1.1) (b:=e.1.2) ?_; intro c l N D ws hW
       refine ci ?_; intro c l N _
       obtain ⟨t0,h0⟩:=hW.at (i:=0) (x:=pfxS e.1.1) (by unfold partsQ; rw [if_neg hp]; rfl)
       refine itL (k:=0) 0 ?_ (hx:=h0)
       refine G.drop ?_
       exact q.el ⟨rfl,by rw [e1,keysOf_snoc he,if_pos hp]; exact hT.snoc' rfl⟩
     · exact q.sk ⟨rfl,by rw [e1,keysOf_snoc he,if_neg hp,List.append_nil]; exact hT⟩
noncomputable def markSc:Scope:=lcSc (evE ((evE (cpS (atB readS 5))).es.headD dkE)).a
theorem mark_sc (h:env.cells.lookup (Str.ofString "level") = some cL):ScOk env [(Str.ofString "level",cL)] markSc:=⟨closOne (pre:=markSc.names.take 2) (post:=[]) rfl rfl rfl h,rfl,by decide +kernel,by decide +kernel⟩
theorem gxt {a:Addr} {its:List Value} {l:Fr1} (i:Nat) (h:G Z g l N (rsM c (.builtin "list.extend",[.ref a]))) (hk:autoParam (At (a,Lst its) i N) aR) (hc:autoParam (HdM (.ref a) "extend" c) aR):G Z g l N c:=Hr.mk fun s S => outM hc (gmL S (At.pk (i:=i + 1) hk) PySem.F.slot_list_extend PySem.F.type_list_extend (h.run s S))
theorem exL {a b:Addr} {ys ws:List Value} {l:Fr1} (i j:Nat) (h:G Z g l (updL (a,Lst (ys ++ ws)) i N) (rsV c .none)) (hk:autoParam (At (a,Lst ys) i N) aR) (hj:autoParam (At (b,Lst ws) j N) aR) (hc:autoParam (HdV (call (.builtin "list.extend") [.ref a,.ref b]) c) aR) (hz:autoParam (ys.length + ws.length ≤ sizeLine) aD):G Z g l N c:=Hr.mk fun s S => outV hc (by
 obtain ⟨m,S1,hn,hm⟩:=S.frm
 obtain ⟨n,ho⟩:=S1.plist (At.pk (i:=i + 1) hk)
 obtain ⟨n2,ho2⟩:=S1.plist (At.pk (i:=j + 1) hj)
 refine S1.viaUpd Z.hL hk.pk ho fun r F Nw hr back => ?_
 refine extend_in (own:=[]) F Nw (by simp) hr ho2 (fun h' n' F' N' => ?_) (by simpa using hz)
 exact h.run _ (St.toFr (s:={ s with heap:=h' }) l (back _ h' (Lst (ys ++ ws)) F' N' ⟨n',rfl⟩) hn hm))
theorem marksR {ks:Addr} {pr:Option Value} {o:Nat → Option Value} {xs:List T} {kw ms:List Value} {kvs:List (Str × Value)} {p:Pfx} {b:Bool} {tn:Tok} {r:List Stmt} (B:REn Z.env cT cL) (hal:xs.length ≤ 10) (hT:Txs kw xs) (hval:∀ x ∈ xs,∃ u t,valueAt kvs (mk x) = some (sv (uriS u) t) ∧ u ≠ .no) (GD':GD Z.w g D kvs) (iC iM:Nat) (hm:ms.length ≤ 4000)
 (ho:o 4 = some (.ref ks))
 (h:∀ ms',Txs ms' (xs ++ [pfxS p]) → G Z g (rdF V at' stop (some (sv (qS p b) tn)) pr o) (updL (V.mr,Lst (ms ++ ms')) iM ((ks,Lst kw) :: N)) (seqT r K)) (hC:At (cL,Cel (some (.ref D))) iC N) (hM:At (V.mr,Lst ms) iM ((ks,Lst kw) :: N)) :
 G Z g (rdF V at' stop (some (sv (qS p b) tn)) pr o) ((ks,Lst kw) :: N) (go Z (atB readS 5 :: r) K):=by
 refine letG ?_; intro c l N1
 refine nx ?_
 refine ld 1 B.marks ?_
 refine gxt iM ?_ (hk:=hM)
 refine lcG (mark_sc B.cl) ?_
 refine ld 12 B.keys ?_ (hv:=by show (Str.ofString "keys",some (Value.ref ks)) = (Str.ofString "keys",o 4); rw [ho])
 let KI:Nat → (Addr → Option Obj) → List Value → Prop:=fun j g' out => g' = g ∧ Txs out (xs.take j)
 refine coVL 0 (mark_sc B.cl) ["key"] KI ?_ ?_ ⟨rfl,trivial⟩ ?_ ?_
 · rintro j g' out ⟨_,hT⟩
   rw [hT.len]
   exact ltr (List.length_take_le' _ _) (ltr hal (by decide))
 · rintro j g' out ⟨rfl,_⟩; exact gLe.rfl' _
 · rintro g' acc out ⟨rfl,hO⟩
   rw [hT.len,List.take_length] at hO
   refine letG ?_; intro c l N
   refine cs ?_; intro c l N _
   refine ld 6 B.name ?_
   refine inQ (p:=p) (b:=b) ?_ ?_ <;> intro c l N hp
   · refine ld 6 B.name ?_
     refine gsp ?_
     refine cs ?_; intro c l N _
     refine spQ (p:=p) (b:=b) ?_; intro c l N D2 ws hW
     refine ci ?_; intro c l N _
     obtain ⟨t0,h0⟩:=hW.at (i:=0) (x:=pfxS p) (by unfold partsQ; rw [if_neg hp]; rfl)
     refine itL (k:=0) 0 ?_ (hx:=h0)
     refine nwL ?_; intro c l N D3
     refine adL 2 0 ?_ (hz:=by rw [hO.len]; exact ltr (Nat.add_le_add_right hal 1) (by decide)); intro c l N D4
     refine exL (iM + 4) 0 ?_ (hk:=hM) (hz:=by rw [lap,hO.len]; exact ltr (Nat.add_le_add hm (Nat.add_le_add_right hal 1)) (by decide))
     refine G.dropN 4 ?_
     exact h _ (hO.snoc' rfl)
   · have ep:p = .em:=Classical.not_not.mp hp
     subst ep
     refine csM [] ?_; intro c l N t0
     refine nwL ?_; intro c l N D3
     refine adL 1 0 ?_ (hz:=by rw [hO.len]; exact ltr (Nat.add_le_add_right hal 1) (by decide)); intro c l N D4
     refine exL (iM + 3) 0 ?_ (hk:=hM) (hz:=by rw [lap,hO.len]; exact ltr (Nat.add_le_add hm (Nat.add_le_add_right hal 1)) (by decide))
     refine G.dropN 3 ?_
     exact h _ (hO.snoc' (x:=[]) rfl)
 · rintro Lc hL E j v it acc g' out m Qe Qs hv ⟨rfl,hO⟩ q
   obtain ⟨x,t,hx,rfl⟩:=hT.get hv
   obtain ⟨u,tu,hu,hun⟩:=hval x (List.mem_of_getElem? hx)
   refine letG ?_; intro c l N
   refine st 0 (loC rfl) ?_
   refine ldc (iC + 4) (loF rfl Z.kf B.level) rfl ?_ (hk:=hC)
   refine ld 0 (loC rfl) ?_
   refine gds GD' ?_ (hv:=hu)
   refine csM (uriS .no) ?_; intro c l N _
   refine neSY ?_ (hn:=fun e => hun (uriS_inj e))
   refine ld 0 (loC rfl) ?_
   exact q.el ⟨rfl,by rw [List.take_add_one,hx]; exact hO.snoc' rfl⟩
end
noncomputable def attrSc:Scope:=lcSc (cpS (atB readS 6))
section
variable {g:Addr → Option Obj} {N:Ldg} {V:RA}
theorem attr_sc (h:env.cells.lookup (Str.ofString "level") = some cL):ScOk env [(Str.ofString "level",cL)] attrSc:=⟨closOne (pre:=attrSc.names.take 4) (post:=[]) rfl rfl rfl h,rfl,by decide +kernel,by decide +kernel⟩
theorem attrsR {P:Addr} {nm:Option Value} {o:Nat → Option Value} {ns:Lvl} {ats:List ((Pfx × Bool) × T)} {vs:List Value} {kvs:List (Str × Value)} {lm:Lm} {r:List Stmt} (B:REn Z.env cT cL) (hroom:Z.d ≤ 880) (hal:ats.length ≤ 3) (hR:Rws g vs (rowsOf ns ats)) (hLm:LvR kvs lm) (hat:∀ a ∈ ats,a.1.1 ≠ .em → ∃ u,lm a.1.1 = some u ∧ u ≠ .no) (GD':GD Z.w g D kvs) (i iC:Nat)
 (h:∀ g' as out,gLe g g' → Rws g' out (ats.map (atFull lm)) → G Z g' (rdF V at' stop nm (some (.ref P)) fun i => match i with | 5 => some (.ref as) | i => o i) ((as,Lst out) :: N) (seqT r K)) (hk:At (P,Lst vs) i N) (hC:At (cL,Cel (some (.ref D))) iC N) :
 G Z g (rdF V at' stop nm (some (.ref P)) o) N (go Z (atB readS 6 :: r) K):=by
 refine letG ?_; intro c l N1
 refine nx ?_
 refine lcA (y:=Str.ofString "attrs") (attr_sc B.cl) ?_ (hl:=B.attrs)
 refine ld 7 B.pairs ?_
 let KI:Nat → (Addr → Option Obj) → List Value → Prop:=fun j g' out => gLe g g' ∧ Rws g' out ((ats.take (j - ns.length)).map (atFull lm))
 refine coUL 13 i B.attrs (attr_sc B.cl) ["key","value"] KI ?_ (fun _ _ _ h => h.1) ⟨gLe.rfl' _,?_⟩ ?_ ?_ (hj:=hk)
 · rintro j g' out ⟨_,hT⟩
   rw [hT.1,List.length_map]
   exact ltr (List.length_take_le' _ _) (ltr hal (by decide))
 · rw [Nat.zero_sub]; exact ⟨rfl,fun i hi => absurd hi (Nat.not_lt_zero i)⟩
 · rintro g' acc out ⟨le,hT⟩
   have e:ats.take (vs.length - ns.length) = ats:=List.take_of_length_le (by rw [hR.1]; unfold rowsOf; rw [lap,List.length_map,List.length_map,Nat.add_sub_cancel_left]; exact Nat.le_refl _)
   rw [e] at hT
   exact h g' acc out le hT
 · rintro Lc hL E j v it acc g' out m Qe Qs hv ⟨le,hT⟩ q
   obtain ⟨r,hr,ad,t1,t2,rfl,hg⟩:=hR.get hv
   have hrl:=row_len (List.mem_of_getElem? hr)
   refine letG ?_; intro c l N
   refine as2 0 1 (loC rfl) (loC rfl) (le _ _ hg) ?_
   refine slX ?_
   refine ld 0 (loC rfl) ?_
   refine ci ?_; intro c l N _
   refine slTo' (b:=5) ?_; intro c l N _
   refine csM [120,109,108,110,115] ?_; intro c l N _
   rcases row_at hr with ⟨e,he,rfl⟩ | ⟨hi,e,he,rfl⟩
   · have hj:j < ns.length:=(List.getElem?_eq_some_iff.mp he).1
     have e1:j + 1 - ns.length = j - ns.length:=by rw [Nat.sub_eq_zero_of_le hj,Nat.sub_eq_zero_of_le (Nat.le_of_lt hj)]
     refine neSN ?_ (hn:=xmlns5 e.2)
     exact q.sk ⟨le,by rw [e1]; exact hT⟩
   · have e1:j + 1 - ns.length = j - ns.length + 1:=Nat.succ_sub hi
     obtain ⟨tu,hu⟩:∃ tu,e.1.1 ≠ .em → valueAt kvs (mk (pfxS e.1.1)) = some (sv (uriS (atUri lm e.1.1)) tu):=by
      by_cases hp:e.1.1 = .em
      · exact ⟨0,fun q => absurd hp q⟩
      · obtain ⟨u',hu',_⟩:=hat e (List.mem_of_getElem? he) hp
        have:=hLm e.1.1
        rw [hu'] at this
        obtain ⟨tu,q⟩:=this
        exact ⟨tu,fun ι => by unfold atUri uriOf; rw [if_neg hp,hu']; exact q⟩
     refine neSY ?_ (hn:=pfx5 e.1.1 e.1.2)
     refine gl (x:=Str.ofString "_law_full") (loC rfl) (by k_is) ?_
     refine cwf ?_
     refine ld 0 (loC rfl) ?_
     refine ldc (iC + 3) (loF rfl Z.kf B.level) rfl ?_ (hk:=hC)
     refine csM (uriS .no) ?_; intro c l N _
     refine c_full (p:=e.1.1) (b:=e.1.2) (x:=atUri lm e.1.1) (bx:=.no) (ltr hroom (by decide)) (GD'.up le) hu (fun z => by unfold atUri; rw [if_pos z]) ?_; intro c l N t7
     refine ld 1 (loC rfl) ?_
     refine nwT ?_; intro c l N g8 a le8 ho
     refine q.el ⟨le.tr le8,?_⟩
     rw [e1,List.take_add_one,he,Option.toList_some,List.map_append]
     exact Rws.snoc (r:=atFull lm e) (hT.up fun b o q _ => le8 b o q) ho
end
section
variable {g:Addr → Option Obj} {N:Ldg} {V:RA}
theorem srL {a:Addr} {vs:List Value} {rs:List (T × T)} {l:Fr1} (i:Nat) (hR:Rws g vs rs) (hn:(rs.map (·.1)).Nodup) (h3:rs.length ≤ 3) (h:let c':=c; let l':=l; let N':=N; ∀ D vs' rs',Rws g vs' rs' → rs'.Perm rs → AscT rs' → G Z g l' ((D,Lst vs') :: N') (rsV c' (.ref D)))
 (hk:autoParam (At (a,Lst vs) i N) aR) (hc:autoParam (HdV (call (.builtin "sorted") [.ref a]) c) aR):G Z g l N c:=Hr.mk fun s S => outV hc (by
 obtain ⟨m,S1,hx,hm⟩:=S.frm
 exact sortedL S1 Z.hL (S1.list (At.pk (i:=i + 1) hk)) hR hn (Nat.le_succ_of_le h3) fun s' D vs' rs' q1 q2 q3 S' => (h D vs' rs' q1 q2 (q3 h3)).run s' (S'.toFr _ hx hm))
noncomputable abbrev rdL (V:RA) (cT cL:Addr) (PT:OP) (lvc:Option Value) (evs ms nms lvs:List Value) (N:Ldg):Ldg:=(cL,Cel lvc) :: (cT,PT) :: (V.ev,Lst evs) :: (V.mr,Lst ms) :: (V.nm,Lst nms) :: (V.lv,Lst lvs) :: N
theorem tailR {P:Addr} {PT:OP} {o:Nat → Option Value} {ns:Lvl} {ats:List ((Pfx × Bool) × T)} {vs evs ms nms lvs:List Value} {kvs:List (Str × Value)} {lm:Lm} {p:Pfx} {b:Bool} {tn:Tok} {e:Uri} {rows:List (T × T)} (B:REn Z.env cT cL) (hroom:Z.d ≤ 880) (hal:ats.length ≤ 3) (hR:Rws g vs (rowsOf ns ats)) (hLm:LvR kvs lm)
 (hem:lm .em = some e) (hp:p ≠ .em → ∃ u,lm p = some u) (hat:∀ a ∈ ats,a.1.1 ≠ .em → ∃ u,lm a.1.1 = some u ∧ u ≠ .no) (hnd:((ats.map (atFull lm)).map (·.1)).Nodup) (hrows:rows.Perm (ats.map (atFull lm))) (hasc:AscT rows) (hze:evs.length ≤ 1000) (hzm:ms.length ≤ 4000) (hzn:nms.length ≤ 1000) (hzl:lvs.length ≤ 1001) (hDs:(D == sysModules) = false)
 (h:∀ g' b' ms' o',gLe g g' → EvR g' (.ref b') (.start (nameS (uriOf lm p,b)) rows) → Txs ms' (keysOf ats ++ [pfxS p]) → GD Z.w g' D kvs →
  G Z g' (rdF V at' stop (some (sv (qS p b) tn)) (some (.ref P)) o') (rdL V cT cL PT (some (.ref D)) (evs ++ [.ref b']) (ms ++ ms') (nms ++ [sv (qS p b) tn]) (lvs ++ [.ref D]) N) (K .next)) :
 G Z g (rdF V at' stop (some (sv (qS p b) tn)) (some (.ref P)) o) ((D,Dct Z.w kvs) :: (P,Lst vs) :: rdL V cT cL PT (some (.ref D)) evs ms nms lvs N) (go Z (readS.drop 4) K):=by
 refine G.fz fun g1 le1 hD1 => ?_
 have GD1:GD Z.w g1 D kvs:=⟨hD1,hDs⟩
 have hR1:Rws g1 vs (rowsOf ns ats):=hR.up fun b o q _ => le1 b o q
 refine keysR (r:=readS.drop 5) B hal hR1 0 (fun ks kw hks => ?_)
 refine marksR (r:=readS.drop 6) (p:=p) (b:=b) (D:=D) (kvs:=kvs) (ms:=ms) (xs:=keysOf ats) B (ltr (keysOf_len _) (ltr hal (by decide))) hks (fun x hx => ?_) GD1 1 5 hzm rfl (fun ms' hms => ?_) rfl rfl
 · obtain ⟨a,ha,rfl⟩:=List.mem_map.mp hx
   obtain ⟨ha,hne⟩:=List.mem_filter.mp ha
   obtain ⟨u,hu,hun⟩:=hat a ha (of_decide_eq_true hne)
   have:=hLm a.1.1
   rw [hu] at this
   obtain ⟨t,q⟩:=this
   exact ⟨u,t,q,hun⟩
 refine attrsR (r:=readS.drop 7) (D:=D) (kvs:=kvs) B hroom hal hR1 hLm hat GD1 1 2 (fun g2 as out le2 hout => ?_) rfl rfl
 have hem':=hLm .em
 rw [hem] at hem'
 obtain ⟨te,hte⟩:=hem'
 obtain ⟨tu,htu⟩:∃ tu,p ≠ .em → valueAt kvs (mk (pfxS p)) = some (sv (uriS (uriOf lm p)) tu):=by
  by_cases hpe:p = .em
  · exact ⟨0,fun q => absurd hpe q⟩
  · obtain ⟨u',hu'⟩:=hp hpe
    have:=hLm p
    rw [hu'] at this
    obtain ⟨tu,q⟩:=this
    exact ⟨tu,fun ι => by unfold uriOf; rw [hu']; exact q⟩
 refine letG ?_; intro c l N1
 refine nx ?_
 refine ld 3 B.levels ?_
 refine gap 8 ?_
 refine ldc 3 B.level B.cl ?_
 refine app 8 ?_ (hz:=szl (ltr hzl (by decide)))
 refine nx ?_
 refine ld 2 B.names ?_
 refine gap 7 ?_
 refine ld 6 B.name ?_
 refine app 7 ?_ (hz:=szl (ltr hzn (by decide)))
 refine nx ?_
 refine ld 0 B.events ?_
 refine gap 5 ?_
 refine csM kStart ?_; intro c l N2 tk
 refine gl B.full (by k_is) ?_
 refine cwf ?_
 refine ld 6 B.name ?_
 refine ldc 3 B.level B.cl ?_
 refine ldc 3 B.level B.cl ?_
 refine csM (pfxS .em) ?_; intro c l N2 _
 refine gds (GD1.up le2) ?_ (hv:=hte)
 refine c_full (p:=p) (b:=b) (x:=uriOf lm p) (bx:=e) (ltr hroom (by decide)) (GD1.up le2) htu (fun q => by subst q; unfold uriOf; rw [hem]; rfl) ?_; intro c l N2 tf
 refine bl (v:=.builtin "sorted") B.sorted (by k_is) boot_sorted (by decide) ?_
 refine ld 13 B.attrs ?_
 refine srL 0 hout hnd (by rw [List.length_map]; exact hal) ?_; intro c l N2 D3 vs3 rs3 hR3 hp3 ha3
 have er:rs3 = rows:=asc_eq (hp3.trans hrows.symm) ha3 hasc
 subst er
 refine nwT ?_; intro c l N2 g3 a2 le3 ho2
 refine nwT ?_; intro c l N2 g4 a3 le4 ho3
 refine app 6 ?_ (hz:=szl (ltr hze (by decide)))
 refine G.fz fun g5 le5 hD3 => ?_
 obtain ⟨o3,hq3,hl3⟩:=hD3
 refine G.dropN 3 ?_
 exact h g5 a3 ms' _ (le1.tr (le2.tr (le3.tr (le4.tr le5)))) ⟨_,_,D3,_,_,o3,vs3,rfl,le5 _ _ ho3,le5 _ _ (le4 _ _ ho2),hq3,hl3,hR3.up fun b o q _ => le5 _ _ (le4 _ _ (le3 _ _ q))⟩ hms (GD1.up (le2.tr (le3.tr (le4.tr le5))))
end
section
variable {g:Addr → Option Obj} {l:Fr1} {N:Ldg} {t:Tg} {rs b:Bool}
theorem gig (I:TgIn g t) (i:Nat) (h:G Z g l N (rsV c (.int 0 (t.tk 18)))) (hk:autoParam (At (t.dx,Is (tObj Z.w.params t rs rd)) i N) aR) (hc:autoParam (HdV (getAttr (.ref t.x) "_ignored_depth" b) c) aR):G Z g l N c:=Hr.mk fun s S => outV hc (ga_ign Z.C.X S I (At.pk (i:=i + 1) hk) (h.run (tick s) S))
theorem gwc (I:TgIn g t) (i:Nat) (h:G Z g l N (rsV c (.bool true))) (hk:autoParam (At (t.dx,Is (tObj Z.w.params t rs rd)) i N) aR) (hc:autoParam (HdV (getAttr (.ref t.x) "_with_comments" b) c) aR):G Z g l N c:=Hr.mk fun s S => outV hc (ga_wc Z.C.X S I (At.pk (i:=i + 1) hk) (h.run (tick s) S))
theorem gsr (I:TgIn g t) (i:Nat) (h:G Z g l N (rsV c (.bool false))) (hk:autoParam (At (t.dx,Is (tObj Z.w.params t rs rd)) i N) aR) (hc:autoParam (HdV (getAttr (.ref t.x) "_strip_text" b) c) aR):G Z g l N c:=Hr.mk fun s S => outV hc (ga_strip Z.C.X S I (At.pk (i:=i + 1) hk) (h.run (tick s) S))
theorem gpe (I:TgIn g t) (i:Nat) (h:G Z g l N (rsV c .none)) (hk:autoParam (At (t.dx,Is (tObj Z.w.params t rs rd)) i N) aR) (hc:autoParam (HdV (getAttr (.ref t.x) "_pending_start" b) c) aR):G Z g l N c:=Hr.mk fun s S => outV hc (ga_pend Z.C.X S I (At.pk (i:=i + 1) hk) (h.run (tick s) S))
theorem grs (I:TgIn g t) (i:Nat) (h:G Z g l N (rsV c (.bool rs))) (hk:autoParam (At (t.dx,Is (tObj Z.w.params t rs rd)) i N) aR) (hc:autoParam (HdV (getAttr (.ref t.x) "_root_seen" b) c) aR):G Z g l N c:=Hr.mk fun s S => outV hc (ga_rs Z.C.X S I (At.pk (i:=i + 1) hk) (h.run (tick s) S))
theorem grd (I:TgIn g t) (i:Nat) (h:G Z g l N (rsV c (.bool rd))) (hk:autoParam (At (t.dx,Is (tObj Z.w.params t rs rd)) i N) aR) (hc:autoParam (HdV (getAttr (.ref t.x) "_root_done" b) c) aR):G Z g l N c:=Hr.mk fun s S => outV hc (ga_rd Z.C.X S I (At.pk (i:=i + 1) hk) (h.run (tick s) S))
theorem gdt (I:TgIn g t) (i:Nat) (h:G Z g l N (rsV c (.ref t.da))) (hk:autoParam (At (t.dx,Is (tObj Z.w.params t rs rd)) i N) aR) (hc:autoParam (HdV (getAttr (.ref t.x) "_data" b) c) aR):G Z g l N c:=Hr.mk fun s S => outV hc (ga_data Z.C.X S I (At.pk (i:=i + 1) hk) (h.run (tick s) S))
theorem gdst (I:TgIn g t) (i:Nat) (h:G Z g l N (rsV c (.ref t.ds))) (hk:autoParam (At (t.dx,Is (tObj Z.w.params t rs rd)) i N) aR) (hc:autoParam (HdV (getAttr (.ref t.x) "_declared_ns_stack" b) c) aR):G Z g l N c:=Hr.mk fun s S => outV hc (ga_ds Z.C.X S I (At.pk (i:=i + 1) hk) (h.run (tick s) S))
theorem gnst (I:TgIn g t) (i:Nat) (h:G Z g l N (rsV c (.ref t.ns))) (hk:autoParam (At (t.dx,Is (tObj Z.w.params t rs rd)) i N) aR) (hc:autoParam (HdV (getAttr (.ref t.x) "_ns_stack" b) c) aR):G Z g l N c:=Hr.mk fun s S => outV hc (ga_ns Z.C.X S I (At.pk (i:=i + 1) hk) (h.run (tick s) S))
theorem mfl (I:TgIn g t) (i:Nat) (h:G Z g l N (rsM c (.ref 99,[.ref t.x]))) (hk:autoParam (At (t.dx,Is (tObj Z.w.params t rs rd)) i N) aR) (hc:autoParam (HdM (.ref t.x) "_flush" c) aR):G Z g l N c:=Hr.mk fun s S => outM hc (gm_flush Z.C.X S I (At.pk (i:=i + 1) hk) (h.run s S))
theorem mwr (I:TgIn g t) (i:Nat) (h:G Z g l N (rsM c (.ref t.wr,[]))) (hk:autoParam (At (t.dx,Is (tObj Z.w.params t rs rd)) i N) aR) (hc:autoParam (HdM (.ref t.x) "_write" c) aR):G Z g l N c:=Hr.mk fun s S => outM hc (gm_write Z.C.X S I (At.pk (i:=i + 1) hk) (h.run (tick s) S))
theorem mqn (I:TgIn g t) (i:Nat) (h:G Z g l N (rsM c (.ref 83,[.ref t.x]))) (hk:autoParam (At (t.dx,Is (tObj Z.w.params t rs rd)) i N) aR) (hc:autoParam (HdM (.ref t.x) "_qname" c) aR):G Z g l N c:=Hr.mk fun s S => outM hc (gm_qname Z.C.X S I (At.pk (i:=i + 1) hk) (h.run s S))
theorem isN (h:G Z g l N (rsB c false)) (hc:autoParam (HdC .IsNot .none .none c) aR):G Z g l N c:=Hr.mk fun s S => outC hc (wpAny_isNot_self rfl (wpAny_truthy_bool (h.run s S)))
theorem trI {i:Int} {t:Tok} (h:G Z g l N (rsB c (i != 0))) (hc:autoParam (HdB (truthy (.int i t)) c) aR):G Z g l N c:=Hr.mk fun s S => outB hc (PyProof.Rows.truthy_int (h.run s S))
theorem trT {x:T} {t:Tok} (h:G Z g l N (rsB c (decide (x ≠ [])))) (hc:autoParam (HdB (truthy (sv x t)) c) aR) (hz:x.length ≤ 1000000):G Z g l N c:=Hr.mk fun s S => outB hc (truthyT hz (h.run (tick (tick s)) S))
theorem cwj {a:Addr} {x:Str} {t:Tok} (h:G Z g l N (rsK Z.env c (.ref a) a { cls:=.type "builtin_function_or_method",data:=.fields #[.builtin "str.join",.str x t] }))
 (hc:autoParam (HdCw (.ref a) c) aR) (hn:autoParam ((noStar (arC c),(arC c).isEmpty) = (true,false)) aR):G Z g l N c:=Hr.mk fun s S => by
 injection hn with h1 h2
 refine den_at hc.e ?_
 have h:=h.run s S
 unfold rsK at h
 generalize arC c = args at *
 cases args with
 | nil => cases h2
 | cons e rest =>
  obtain ⟨h3,h4⟩:=star_cons (env:=Z.env) h1
  exact cwJ (thn (argT_ok (ev:=evT Z.env 20) (k:=fun vs => .kp a { cls:=.type "builtin_function_or_method",data:=.fields #[.builtin "str.join",.str x t] } (.val (call (.ref a) (fvC c ++ vs)) (rsV c))) (evT_ok 20) h1 h) fun _ _ z => z) h3 (star_all h4)
theorem cjn {a:Addr} {vs:List Value} {xs:List T} {t:Tok} (i:Nat) (hg:g a = some { cls:=.type "builtin_function_or_method",data:=.fields #[.builtin "str.join",.str (Str.ofString "") t] }) (hT:Txs vs xs) (hz:xs.flatten.length ≤ 1000000) (h:let c':=c; let l':=l; let N':=N; ∀ t,G Z g l' N' (rsV c' (sv xs.flatten t)))
 (hk:autoParam (At (D,Lst vs) i N) aR) (hc:autoParam (HdV (call (.ref a) [.ref D]) c) aR):G Z g l N c:=Hr.mk fun s S => outV hc (by
 obtain ⟨ll,el,em⟩:=hT.strs
 have hl:=S.list (At.pk (i:=i + 1) hk)
 rw [el] at hl
 refine wpAny_call (codeJoin (l:=ll) hl (by rw [em]; exact joinOk hz) (S.keep _ _ hg) fun t' k => ?_)
 rw [em,join_mk]
 exact (h t').run _ S)
noncomputable def dlQ (c:Tr):Pos × Pos × Pos × Pos:=((evE (evE (cN c)).a).p,(evE (evE (cN c)).b).p,(evE (cN c)).p,cP c)
theorem dlA {vs:List Value} {p:Pos} (B:Lo Z.env "self") (I:TgIn g t) (h:G Z g l (updL (t.da,Lst []) 1 N) (rsF c .next)) (hs:autoParam (At (Str.ofString "self",some (.ref t.x)) 0 l) aR) (hk:autoParam (At (t.dx,Is (tObj Z.w.params t rs rd)) 0 N) aR) (hd:autoParam (At (t.da,Lst vs) 1 N) aR)
 (hc:autoParam (HdSm (.Delete [.Subscript (.Attribute (.Name "self" p) "_data" (dlQ c).1) (.Slice none none none (dlQ c).2.1) (dlQ c).2.2.1] (dlQ c).2.2.2) c) aR) (hz:vs.length ≤ 1000000):G Z g l N c:=Hr.mk fun s S => den_at hc.e (by
 obtain ⟨m,S1,hf⟩:=S.frm
 refine wpAny_Delete (wpAny_deleteEach_cons (wpAny_delete_Subscript (Attribute_Name_ (ldE S1 (hf.2 _ hs.mem) (ga_data Z.C.X S1 I (At.pk (i:=1) hk) ?_) rfl Z.kf B.k B.d))))
 refine wpAny_Slice (evalPart_none_step (evalPart_none_step (evalPart_none_step ?_)))
 exact delS S1 (At.pk (i:=2) hd) (szl hz) fun s3 S3 => wpAny_deleteEach_nil (h.run s3 (S3.toFr l hf.1 hf.2)))
noncomputable def fsE (Z:Zc) (k:Value → Tr) (out:Str):PP:=fun s => out.length ≤ sizeLine ∧ den Z (k (.str out s.toks)) (tick s)
noncomputable def fsC (Z:Zc) (acc:Str) (k:Str → Tr) (x:Str):PP:=fun s => (acc ++ x).length ≤ sizeLine ∧ den Z (k (acc ++ x)) (tick s)
noncomputable def fsF (Z:Zc) (acc:Str) (k:Str → Tr) (v:Value):PP:=wz Z (formatField v Str.empty) fun u s => ∃ y t,u = .str y t ∧ (acc ++ y).length ≤ sizeLine ∧ den Z (k (acc ++ y)) s
noncomputable def fsD (e:Expr):Option Str × Expr:=match e with
 | .Constant c _ _ => (match c with
  | .str x => (some x,dkE)
  | _ => (none,e))
 | .FormattedValue v _ _ _ => (none,v)
 | _ => (none,e)
noncomputable def fsT (Z:Zc) (k:Value → Tr):List (Option Str × Expr) → Str → Tr
 | [],out => .fin (fsE Z k out)
 | p :: r,acc => match p.1 with
  | some x => .fin (fsC Z acc (fsT Z k r) x)
  | none => evT Z.env 20 p.2 fun v => .fin (fsF Z acc (fsT Z k r) v)
noncomputable def fsOk (e:Expr):Bool:=match e with
 | .Constant c _ _ => (match c with
  | .str _ => true
  | _ => false)
 | .FormattedValue _ c o _ => (match o with
  | none => c == -1
  | some _ => false)
 | _ => false
noncomputable def fsL (e:Expr):List Expr:=(evE e).es
noncomputable def fsP (e:Expr):Pos:=(evE e).p
theorem fsT_ok {k:Value → Tr}:∀ {es:List Expr} {acc:Str} {s:Shared},es.all fsOk = true → den Z (fsT Z k (es.map fsD) acc) s → Joins (model PG Z.w) (ar Z.d Z.u) Z.E (evalEach es Z.env) acc (fun out s1 => out.length ≤ sizeLine ∧ den Z (k (.str out s1.toks)) { s1 with toks:=s1.toks + 1 }) s
 | [],_,_,_,h => h
 | e :: es,acc,s,hn,h => by
  rw [List.all_cons,Bool.and_eq_true] at hn
  obtain ⟨h1,h2⟩:=hn
  show wpAny _ _ (eval e Z.env) _ _ _
  cases e with
  | Constant c _ _ => cases c with
   | str x => exact Constant_str ⟨_,_,rfl,h.1,fsT_ok h2 h.2⟩
   | _ => exact absurd h1 Bool.false_ne_true
  | FormattedValue v cv o p => cases o with
   | none =>
    rw [eq_of_beq (show (cv == -1) = true from h1)]
    refine wpAny_FormattedValue_plain (thn (evT_ok 20 h) fun v s1 z => ?_)
    have z:fsF Z acc (fsT Z k (es.map fsD)) v s1:=z
    exact thn z fun u s2 ⟨y,t,e1,e2,z⟩ => ⟨y,t,e1,e2,fsT_ok h2 z⟩
   | some _ => exact absurd h1 Bool.false_ne_true
  | _ => exact absurd h1 Bool.false_ne_true
theorem fsX (h:G Z g l N (fsT Z (rsV c) ((fsL (exC c)).map fsD) Str.empty)) (hc:autoParam (HdEx () c) aR) (he:autoParam (exC c = .JoinedStr (fsL (exC c)) (fsP (exC c))) aR) (hn:autoParam (((fsL (exC c)).all fsOk,(fsL (exC c)).tail.isEmpty) = (true,false)) aR):G Z g l N c:=Hr.mk fun s S => den_at hc.e (by
 injection hn with h1 h2
 have h:=fsT_ok h1 (h.run s S)
 show wpAny _ _ (eval (exC c) Z.env) _ _ _
 rw [he]
 generalize fsL (exC c) = es at *
 cases es with
 | nil => exact absurd h2 Bool.noConfusion
 | cons a es => cases es with
  | nil => exact absurd h2 Bool.noConfusion
  | cons _ _ => exact wpAny_JoinedStr h)
theorem fse {out:T} {k:Value → Tr} (h:let k':=k; let l':=l; let N':=N; ∀ t,G Z g l' N' (k' (sv out t))) (hc:autoParam (HdFin (fsE Z k (mk out)) c) aR) (hz:out.length ≤ 1000000):G Z g l N c:=Hr.mk fun s S => den_at hc.e ⟨by rw [mk_len]; exact szl hz,(h s.toks).run (tick s) S⟩
theorem fsc {a:T} {X:Str} (x:T) {k:Str → Tr} (h:G Z g l N (k (mk (a ++ x)))) (hc:autoParam (HdFin (fsC Z (mk a) k X) c) aR) (hX:X = mk x:=by kernel_rfl) (hz:(a ++ x).length ≤ 1000000):G Z g l N c:=Hr.mk fun s S => den_at hc.e (by
 subst hX
 show _ ∧ _
 rw [mk_app]
 exact ⟨by rw [mk_len]; exact szl hz,h.run (tick s) S⟩)
theorem fsv {a x:T} {t:Tok} {k:Str → Tr} (h:G Z g l N (k (mk (a ++ x)))) (hc:autoParam (HdFin (fsF Z (mk a) k (sv x t)) c) aR) (hz:(a ++ x).length ≤ 1000000):G Z g l N c:=Hr.mk fun s S => den_at hc.e (by
 have hx:x.length ≤ 1000000:=ltr (by rw [lap]; exact Nat.le_add_left _ _) hz
 refine formatField_str (fun t' k' => ⟨mk x,t',rfl,?_⟩) (by rw [mk_len]; exact szl hx)
 rw [mk_app]
 exact ⟨by rw [mk_len]; exact szl hz,h.run _ S⟩)
theorem c_cdata {x:T} {t:Tok} (hroom:Z.d ≤ 900) (hx:x.length ≤ 2000) (h:let c':=c; let l':=l; let N':=N; ∀ t',G Z g l' N' (rsV c' (sv (escC x) t'))) (hc:autoParam (HdCal (.ref 154) [sv x t] c) aR):G Z g l N c:=cal (hc:=hc) (Hr.mk fun s S => cdataS Z.C S hroom hx fun s' t' S' => (h t').run s' S')
end
variable {X:Ldg}
section
variable {g:Addr → Option Obj} {Q:Flow → PP} {t:Tg} {σ:Ts} {a:Ab}
theorem b_data {v:Value} (B1:Lo Z.env "self") (B2:Lo Z.env "data") (I:TgIn g t) (hz:σ.data.length ≤ 100000) (h:Hr Z.H0 g (TP Z.w t { σ with data:=σ.data ++ [v] }) (Q .next)) :
 G Z g [("self",some (.ref t.x)),("data",some v)] (TP Z.w t σ) (go Z (mthB 4) (finT Q)):=by
 refine letG ?_; intro c l N
 refine nx ?_
 refine ld 0 B1 ?_
 refine gig I 0 ?_
 refine trI ?_
 refine nx ?_
 refine ld 0 B1 ?_
 refine gdt I 0 ?_
 refine gap 1 ?_
 refine ld 1 B2 ?_
 refine app 1 ?_ (hz:=ltr hz (by decide))
 exact Hr.drop h
structure FlEn (env:Env):Prop where
 self:Lo env "self"
 join:Lo env "_join_text"
 data:Lo env "data"
 esc:Lo env "_escape_cdata_c14n" .globalImplicit
theorem b_flush {xs:List T} (B:FlEn Z.env) (I:TgIn g t) (hroom:Z.d ≤ 890) (hd:Txs σ.data xs) (hz:xs.flatten.length ≤ 2000) (hzl:xs.length ≤ 100000) (hzo:σ.out.length ≤ 100000)
 (h:∀ os,Txs os (flushed σ.rs xs) → Hr Z.H0 g (TP Z.w t { σ with data:=[],out:=σ.out ++ os }) (Q .next)) :
 G Z g [("self",some (.ref t.x)),("_join_text",some (.ref 91)),("data",none)] (TP Z.w t σ) (go Z (mthB 5) (finT Q)):=by
 refine letG ?_; intro c l N
 refine nx ?_
 refine ld 1 B.join ?_
 refine cwj (x:=Str.ofString "") (t:=430) ?_
 refine ld 0 B.self ?_
 refine gdt I 0 ?_
 refine G.low fun low => ?_
 have hj:=low 91 _ (Z.C.X 91 _ (by k_is))
 refine kp hj ?_
 refine cjn 1 hj hd (ltr hz (by decide)) ?_; intro c l N tj
 refine st 2 B.data ?_
 refine nx ?_
 refine dlA B.self I ?_ (hz:=by rw [hd.len]; exact ltr hzl (by decide))
 refine nx ?_
 refine ld 0 B.self ?_
 refine gsr I 0 ?_
 refine tb ?_
 refine nx ?_
 refine ld 0 B.self ?_
 refine gpe I 0 ?_
 refine isN ?_
 refine nx ?_
 refine ld 2 B.data ?_
 refine trT ?_ (hz:=ltr hz (by decide))
 have no:flushed σ.rs xs = [] → Hr Z.H0 g (TP Z.w t { σ with data:=[] }) (Q .next):=fun e => by
  have:=h [] (by rw [e]; trivial)
  rw [List.append_nil] at this; exact this
 by_cases he:xs.flatten = []
 · rw [decide_eq_false (fun z => z he)]
   exact Hr.drop (no (by unfold flushed; rw [he]; cases σ.rs <;> rfl))
 rw [decide_eq_true he]
 refine ld 0 B.self ?_
 refine grs I 0 ?_
 refine tb ?_
 cases hr:σ.rs with
 | false => exact Hr.drop (no (by unfold flushed; rw [hr]; rfl))
 | true =>
  refine nx ?_
  refine ld 0 B.self ?_
  refine mwr I 0 ?_
  refine cwk (o:=t.out) ?_
  refine gl B.esc (by k_is) ?_
  refine cwf ?_
  refine ld 2 B.data ?_
  refine c_cdata (ltr hroom (by decide)) hz ?_; intro c l N t4
  refine kp I.2.1 ?_
  refine cwr I 6 ?_ (hz:=szl (ltr hzo (by decide)))
  refine Hr.drop (h [sv (escC xs.flatten) t4] ?_)
  have e:flushed σ.rs xs = [escC xs.flatten]:=by unfold flushed; rw [hr]; exact if_pos (by cases e:xs.flatten with | nil => exact absurd e he | cons _ _ => rfl)
  rw [e]; exact Txs.one _ _
end
theorem f_data {u:Nat} {R:Result → PP} {g:Addr → Option Obj} {t:Tg} {σ:Ts} {v:Value} (C:Cx w H0) (I:TgIn g t) (hroom:d ≤ 900) (hz:σ.data.length ≤ 100000)
 (h:Hr H0 g (TP w t { σ with data:=σ.data ++ [v] }) (R (.ok (.ret .none)))):Hr H0 g (TP w t σ) (codeAny (model PG w) (ar d u) (.call (.ref 90) ⟨[.ref t.x,v],[]⟩) R):=by
 refine' callG (binds:=[(Str.ofString "self",.ref t.x),(Str.ofString "data",v)]) (body:=mthB 4) [] C ?k6 ?k7 (Nat.lt_of_le_of_lt hroom (by decide)) ?k9 ?kB ?kN ?c5 ?c2 ?c3 ?c4 ?_
 walk_at "fn"
 exact fun L Q E hL q => b_data ⟨rfl,rfl⟩ ⟨rfl,rfl⟩ I hz (q.nxt h)
theorem f_flush {u:Nat} {R:Result → PP} {g:Addr → Option Obj} {t:Tg} {σ:Ts} {xs:List T} (C:Cx w H0) (I:TgIn g t) (hroom:d ≤ 850) (hd:Txs σ.data xs) (hz:xs.flatten.length ≤ 2000) (hzl:xs.length ≤ 100000) (hzo:σ.out.length ≤ 100000)
 (h:∀ os,Txs os (flushed σ.rs xs) → Hr H0 g (TP w t { σ with data:=[],out:=σ.out ++ os }) (R (.ok (.ret .none)))):Hr H0 g (TP w t σ) (codeAny (model PG w) (ar d u) (.call (.ref 99) ⟨[.ref t.x],[]⟩) R):=by
 refine' callG (binds:=[(Str.ofString "self",.ref t.x),(Str.ofString "_join_text",.ref 91)]) (body:=mthB 5) [Str.ofString "data"] C ?k6 ?k7 (Nat.lt_of_le_of_lt hroom (by decide)) ?k9 ?kB ?kN ?c5 ?c2 ?c3 ?c4 ?_
 walk_at "fn"
 exact fun L Q E hL q => b_flush (by constructor <;> exact ⟨rfl,rfl⟩) I (ltr (Nat.succ_le_succ hroom) (by decide)) hd hz hzl hzo fun os ho => q.nxt (h os ho)
theorem Hr.cut {g:Addr → Option Obj} {pre post:Ldg} {p:Addr × OP} (h:Hr H0 g (pre ++ post) φ):Hr H0 g (pre ++ p :: post) φ:=Hr.mk fun s S => h.run s S.cut
theorem txs_two {vs:List Value} {x:T} (h:Txs vs [x,y]):∃ a b,vs = [sv x a,sv y b]:=by
 cases vs with
 | nil => exact h.elim
 | cons v r => cases r with
  | nil => exact h.2.elim
  | cons u r => cases r with
   | nil => obtain ⟨⟨a,rfl⟩,⟨b,rfl⟩,_⟩:=h; exact ⟨a,b,rfl⟩
   | cons _ _ => exact h.2.2.elim
section
variable {g:Addr → Option Obj} {l:Fr1} {N:Ldg} {t:Tg} {rs b:Bool}
theorem grw (I:TgIn g t) (i:Nat) (h:G Z g l N (rsV c (.bool t.rw))) (hk:autoParam (At (t.dx,Is (tObj Z.w.params t rs rd)) i N) aR) (hc:autoParam (HdV (getAttr (.ref t.x) "_rewrite_prefixes" b) c) aR):G Z g l N c:=Hr.mk fun s S => outV hc (ga_rw Z.C.X S I (At.pk (i:=i + 1) hk) (h.run (tick s) S))
theorem gpm (I:TgIn g t) (i:Nat) (h:G Z g l N (rsV c (.ref t.pm))) (hk:autoParam (At (t.dx,Is (tObj Z.w.params t rs rd)) i N) aR) (hc:autoParam (HdV (getAttr (.ref t.x) "_prefix_map" b) c) aR):G Z g l N c:=Hr.mk fun s S => outV hc (ga_pm Z.C.X S I (At.pk (i:=i + 1) hk) (h.run (tick s) S))
theorem mit (I:TgIn g t) (i:Nat) (h:G Z g l N (rsM c (.ref 166,[]))) (hk:autoParam (At (t.dx,Is (tObj Z.w.params t rs rd)) i N) aR) (hc:autoParam (HdM (.ref t.x) "_iter_namespaces" c) aR):G Z g l N c:=Hr.mk fun s S => outM hc (gm_it Z.C.X S I (At.pk (i:=i + 1) hk) (h.run (tick s) S))
theorem isY (h:G Z g l N (rsB c true)) (hc:autoParam (HdC .Is .none .none c) aR):G Z g l N c:=Hr.mk fun s S => outC hc (wpAny_is_self rfl (wpAny_truthy_bool (h.run s S)))
theorem grx {x:T} {t:Tok} (h:G Z g l N (rsM c (.builtin "str.rsplit",[sv x t]))) (hc:autoParam (HdM (sv x t) "rsplit" c) aR):G Z g l N c:=Hr.mk fun s S => outM hc (PySem.GM.rsplit (h.run s S))
theorem rsQN {t u v:Tok} (hn:n.1 ≠ .no) (h:let c':=c; let l':=l; let N':=N; ∀ D a1 a2,G Z g l' ((D,Lst [sv (uriS n.1) a1,sv (locS n.2) a2]) :: N') (rsV c' (.ref D)))
 (hc:autoParam (HdV (call (.builtin "str.rsplit") [sv ((nameS n).drop 1) t,.str (Str.ofString "}") u,.int 1 v]) c) aR):G Z g l N c:=Hr.mk fun s S => outV hc (by
 refine S.viaF Z.hL fun m news F Nw k1 k2 => ?_
 refine wpAny_le (rsplitN2A F Nw (by decide +kernel) (by decide) (fun l h' tk e1 _ _ hl F' N' hle => ?_) (by rw [mk_len,List.length_drop]; exact szl (ltr (Nat.add_le_add_right (ltr (Nat.sub_le _ _) (nameS_len n)) 2) (by decide))))
 rw [split_name n hn] at e1
 obtain ⟨a1,a2,el⟩:=txs_two (txs_values (xs:=[uriS n.1,locS n.2]) e1)
 have k:=k2 h' _ (Lst (strValues l)) hle.2 F' N' ⟨0,rfl⟩
 rw [el] at k
 exact (h _ a1 a2).run _ k)
theorem as2L {x y:Str} {a:Addr} {u v:Value} (i j k:Nat) (hx:Lo Z.env x) (hy:Lo Z.env y) (h:G Z g (setF v j (setF u i l)) N (rsU c)) (hk:autoParam (At (a,Lst [u,v]) k N) aR)
 (hc:autoParam (HdAs (.ref a) c) aR) (ht:autoParam (isN2 x y (e1C c)) aR) (h1:autoParam (KeyAt x i l) aR) (h2:autoParam (KeyAt y j l) aR):G Z g l N c:=Hr.mk fun s S => den_at hc.e (by
 have ht:e1C c = _:=ht
 show wz Z (assign (e1C c) Z.env (.ref a)) _ s
 rw [ht]
 have hl:=S.list (At.pk (i:=k + 1) hk)
 obtain ⟨m,S1,hn,hm⟩:=S.frm
 exact asnT2 rfl S1 (.inr hl) (fun s2 S2 => h.run s2 (S2.toFr _ (by rw [setF_keys,setF_keys]; exact hn) (frUp (by rw [setF_keys]; exact hn) (frUp hn hm h1) (keyF h2)))) rfl Z.kf hx.k hy.k)
theorem cwS0 (h:let c':=c; let l':=l; let N':=N; ∀ a,G Z g l' ((a,Sets Z.w PG (fun ι => false) 0) :: N') (rsV c' (.ref a))) (hc:autoParam (HdCw (.type "set") c) aR) (ha:autoParam ((fvC c,arC c) = ([],[])) aR):G Z g l N c:=Hr.mk fun s S => den_at hc.e (by
 injection ha with h1 h2
 rw [h1,h2]
 exact callWith_type0 (callSet0 S fun s3 a S3 => (h a).run s3 S3))
theorem c_walk {st:Addr} {ls:List (Addr × List Value)} (hroom:Z.d ≤ 900) (i:Nat) (hlv:∀ l ∈ ls,lvP l ∈ N) (hz:(ls.map (·.2)).flatten.length ≤ 100000) (hz2:ls.length ≤ 100000) (h:let c':=c; let l':=l; let N':=N; ∀ r,G Z g l' ((r,Lst (ls.map (·.2)).flatten) :: N') (rsV c' (.ref r)))
 (hk:autoParam (At (st,Lst (rfs ls)) i N) aR) (hc:autoParam (HdCal (.ref 166) [.ref st] c) aR):G Z g l N c:=cal (hc:=hc) (Hr.mk fun s S => f_walk Z.C S hroom (S.list (At.pk (i:=i + 1) hk)) (fun l hl => S.lv (.tail _ (hlv l hl))) hz hz2 fun s4 r S4 => (h r).run s4 S4.swap)
theorem niS {a:Addr} {P:Str → Bool} {n:Nat} {x:Str} {u:Tok} (i:Nat) (hn:n < 4096) (h:G Z g l N (rsB c (!P x))) (hk:autoParam (At (a,Sets Z.w PG P n) i N) aR) (hc:autoParam (HdC .NotIn (.str x u) (.ref a) c) aR):G Z g l N c:=Hr.mk fun s S => outC hc (notInSetS S (At.pk (i:=i + 1) hk) hn (wpAny_truthy_bool (h.run (tick s) S)))
theorem gsa {a:Addr} {P:Str → Bool} {n:Nat} (i:Nat) (hn:n < 4096) (h:G Z g l N (rsM c (.builtin "set.add",[.ref a]))) (hk:autoParam (At (a,Sets Z.w PG P n) i N) aR) (hc:autoParam (HdM (.ref a) "add" c) aR):G Z g l N c:=Hr.mk fun s S => outM hc (gmSetAdd S (At.pk (i:=i + 1) hk) hn (h.run s S))
theorem sad {a:Addr} {P:Str → Bool} {n:Nat} {x:Str} {u:Tok} (i:Nat) (hn:n + 1 < 4096) (hP:P x = false) (h:G Z g l (updL (a,Sets Z.w PG (fun k' => P k' || decide (k' = x)) (n + 1)) i N) (rsV c .none)) (hk:autoParam (At (a,Sets Z.w PG P n) i N) aR) (hc:autoParam (HdV (call (.builtin "set.add") [.ref a,.str x u]) c) aR):G Z g l N c:=Hr.mk fun s S => outV hc (setAddS S (At.pk (i:=i + 1) hk) hn fun s2 S2 => by rw [hP] at S2; exact h.run s2 S2)
theorem gapK {a:Addr} {its:List Value} {f:OP → Ldg} (k:Pk a (Lst its) N f) (h:G Z g l N (rsM c (.builtin "list.append",[.ref a]))) (hc:autoParam (HdM (.ref a) "append" c) aR):G Z g l N c:=Hr.mk fun s S => outM hc <| gmApp S (.tail k) (h.run s S)
theorem appK {a:Addr} {its:List Value} {x:Value} {f:OP → Ldg} (k:Pk a (Lst its) N f) (hz:its.length ≤ sizeLine) (h:G Z g l (f (Lst (its ++ [x]))) (rsV c .none)) (hc:autoParam (HdV (call (.builtin "list.append") [.ref a,x]) c) aR):G Z g l N c:=Hr.mk fun s S => outV hc (appS S (.tail k) hz fun s2 S2 => h.run s2 S2)
theorem inM {d:Addr} {kvs:List (Str × Value)} {x:Str} {u:Tok} (i:Nat) (hd:(d == sysModules) = false) (h:G Z g l N (rsB c (valueAt kvs x).isSome)) (hk:autoParam (At (d,Dct Z.w kvs) i N) aR) (hc:autoParam (HdC .In (.str x u) (.ref d) c) aR):G Z g l N c:=Hr.mk fun s S => outC hc (inD S (At.pk (i:=i + 1) hk) hd (wpAny_truthy_bool (h.run (tick s) S)))
theorem trP {p:Pfx} {u:Tok} (h1:p ≠ .em → G Z g l N (rsB c true)) (h2:p = .em → G Z g l N (rsB c false)) (hc:autoParam (HdB (truthy (sv (pfxS p) u)) c) aR):G Z g l N c:=by
 refine trT ?_ (hc:=hc) (hz:=ltr (pfxS_len p) (by decide))
 by_cases ee:p = .em
 · rw [decide_eq_false (fun z => z (by rw [ee]; rfl))]; exact h2 ee
 · rw [decide_eq_true (show pfxS p ≠ [] from fun z => ee (pfxS_nil z))]; exact h1 ee
theorem trU {x:Uri} {u:Tok} (h1:x ≠ .no → G Z g l N (rsB c true)) (h2:x = .no → G Z g l N (rsB c false)) (hc:autoParam (HdB (truthy (sv (uriS x) u)) c) aR):G Z g l N c:=by
 refine trT ?_ (hc:=hc) (hz:=ltr (uriS_len x) (by decide))
 by_cases ee:x = .no
 · rw [decide_eq_false (fun z => z (by rw [ee]; rfl))]; exact h2 ee
 · rw [decide_eq_true (show uriS x ≠ [] from fun z => ee (uriS_inj (z.trans (show [] = uriS .no from rfl))))]; exact h1 ee
end
noncomputable def QA (w:World) (H0:Shared) (g:Addr → Option Obj) (t:Tg) (σ:Ts) (dl nl:List Lvl) (pl:Lvl) (n:Nm) (Q:Value → PP):Prop:=
 ∀ g' σ' r t1 t2 t3,gLe g g' → TR g' t σ' (qn t.rw dl nl pl n.1).decl nl (qn t.rw dl nl pl n.1).pm → σ' = { σ with decl:=σ'.decl,pm:=σ'.pm } → σ'.decl.map (·.1) = σ.decl.map (·.1) →
  g' r = some (tupO [sv (qS (qn t.rw dl nl pl n.1).p n.2) t1,sv (locS n.2) t2,sv (uriS n.1) t3]) → Hr H0 g' (TP w t σ') (Q (.ref r))
structure QE (env:Env):Prop where
 self:Lo env "self"
 qname:Lo env "qname"
 uri:Lo env "uri"
 tag:Lo env "tag"
 seen:Lo env "prefixes_seen"
 u:Lo env "u"
 pfx:Lo env "prefix"
 set:Lo env "set" .globalImplicit
 len:Lo env "len" .globalImplicit
noncomputable abbrev qF0 (t:Tg) (n:Nm) (tok:Tok) (ur tg ps u p:Option Value):Fr1:=[("self",some (.ref t.x)),("qname",some (sv (nameS n) tok)),(Str.ofString "uri",ur),(Str.ofString "tag",tg),(Str.ofString "prefixes_seen",ps),(Str.ofString "u",u),(Str.ofString "prefix",p)]
noncomputable abbrev qF (t:Tg) (n:Nm) (tok tu tt:Tok) (ps:Addr) (u p:Option Value):Fr1:=qF0 t n tok (some (sv (uriS n.1) tu)) (some (sv (locS n.2) tt)) (some (.ref ps)) u p
inductive QK (n:Nm) (g:Addr → Option Obj) (ls:Lvl) (F:Option Value → Option Value → Fr1) (M:Nat → Ldg):Nat → (Addr → Option Obj) → Fr1 → Ldg → Prop
 | mk {i u p} (hj:∀ j,j < i → ∀ e:Uri × Pfx,ls[j]? = some e → e.1 ≠ n.1):QK n g ls F M i g (F u p) (M i)
theorem qk_put {ls:Lvl} {i:Nat} {p:Uri × Pfx} (hj:∀ j,j < i → ∀ e:Uri × Pfx,ls[j]? = some e → e.1 ≠ n.1) (hp:ls[i]? = some p) (hne:p.1 ≠ n.1):∀ j,j < i + 1 → ∀ e:Uri × Pfx,ls[j]? = some e → e.1 ≠ n.1:=fun j hj' r hr => by
 rcases Nat.lt_succ_iff_lt_or_eq.mp hj' with z | z
 · exact hj j z r hr
 · rw [z,hp] at hr; cases hr; exact hne
theorem qtz (p:Pfx) (b:Bool):(pfxS p ++ [58] ++ locS b).length ≤ 1000000:=by
 rw [lap,lap]
 exact ltr (Nat.add_le_add (Nat.add_le_add_right (pfxS_len p) 1) (Nat.le_of_eq (locS_len b))) (by decide)
variable {tt:Tok}
section
variable {g:Addr → Option Obj} {N:Ldg} {Q:Flow → PP} {t:Tg} {σ:Ts} {ps:Addr} {u p:Option Value}
theorem q01 (B:QE Z.env) (h:∀ tu tt ps,G Z g (qF t n tok tu tt ps u p) ((ps,Sets Z.w PG (fun ι => false) 0) :: N) (go Z ((mthB 3).drop 2) K)) :
 G Z g (qF0 t n tok (some .none) none none u p) N (go Z (mthB 3) K):=by
 have hz:(nameS n).length ≤ 1000000:=ltr (nameS_len n) (by decide)
 have fin:∀ tu tt,G Z g (qF0 t n tok (some (sv (uriS n.1) tu)) (some (sv (locS n.2) tt)) none u p) N (go Z ((mthB 3).drop 1) K):=fun tu tt => by
  refine letG ?_; intro c l N
  refine nx ?_
  refine bl (v:=.type "set") B.set (by k_is) PyProof.Rows.boot_set (by decide) ?_
  refine cwS0 ?_; intro c l N ps
  refine st 4 B.seen ?_
  exact h tu tt ps
 refine G.low fun low => ?_
 refine letG ?_; intro c l N
 refine nx ?_
 refine ld 2 B.uri ?_
 refine isY ?_
 refine nx ?_
 refine tuA ?_
 refine slX ?_
 refine ld 1 B.qname ?_
 refine ci ?_; intro c l N _
 refine slTo' (x:=nameS n) (b:=1) ?_; intro c l N _
 refine csM [123] ?_; intro c l N _
 refine eqS ?_ ?_ <;> intro c l N hc
 · have hno:n.1 ≠ .no:=of_decide_eq_true ((head_name n).symm.trans (beq_iff_eq.mpr hc))
   refine slX ?_
   refine ld 1 B.qname ?_
   refine ci ?_; intro c l N _
   refine slFrom' (x:=nameS n) (b:=1) ?_; intro c l N _
   refine grx ?_
   refine cs ?_; intro c l N _
   refine ci ?_; intro c l N _
   refine rsQN hno ?_; intro c l N D a1 a2
   refine as2L 2 3 0 B.uri B.tag ?_
   refine G.drop ?_
   exact fin a1 a2
 · have hno:n.1 = .no:=Classical.not_not.mp fun z => hc (beq_iff_eq.mp ((head_name n).trans (decide_eq_true z)))
   have e1:uriS n.1 = []:=by rw [hno]; rfl
   have e2:locS n.2 = nameS n:=(if_pos hno).symm
   refine csM [] ?_; intro c l N t1
   refine ld 1 B.qname ?_
   refine nwT ?_; intro c l N g2 b le ho
   refine as2 2 3 B.uri B.tag ho ?_
   have fin:=fin t1 tok
   rw [e1,e2] at fin
   exact Hr.weak le low fin
theorem q2 (B:QE Z.env) (hroom:Z.d ≤ 890) (V:TR g t σ dl nl pl) (hnd:(dl.flatten.map (·.2)).Nodup) (hzd:dl.flatten.length ≤ 1000) (hzd2:dl.length ≤ 1000) (hR:QA Z.w Z.H0 g t σ dl nl pl n fun v => Q (.ret v))
 (h:dl.flatten.lookup n.1 = none → ∀ u p,G Z g (qF t n tok tu tt ps u p) ((ps,Sets Z.w PG (seenP dl.flatten) dl.flatten.length) :: TP Z.w t σ) (go Z ((mthB 3).drop 3) (finT Q))) :
 G Z g (qF t n tok tu tt ps u p) ((ps,Sets Z.w PG (fun ι => false) 0) :: TP Z.w t σ) (go Z ((mthB 3).drop 2) (finT Q)):=by
 have hDf:=V.D.flat
 have hDl:=hDf.len
 have e0:(fun ι => false) = seenP (dl.flatten.take 0):=by funext k; simp [seenP]
 rw [e0]
 refine letG ?_; intro c l N
 refine nx ?_
 refine ld 0 B.self ?_
 refine mit V.I 1 ?_
 refine cwf ?_
 refine ld 0 B.self ?_
 refine gdst V.I 1 ?_
 refine c_walk (ls:=σ.decl) (ltr hroom (by decide)) 3 (fun l hl => .tail _ (mem_decl hl)) (by rw [hDl]; exact ltr hzd (by decide)) (by rw [V.D.len]; exact ltr hzd2 (by decide)) ?_; intro c l N r
 let KF:Option Value → Option Value → Fr1:=qF t n tok tu tt ps
 let KM:Nat → Ldg:=fun i => (r,Lst (σ.decl.map (·.2)).flatten) :: (ps,Sets Z.w PG (seenP (dl.flatten.take i)) i) :: TP Z.w t σ
 let KI:Nat → (Addr → Option Obj) → Fr1 → Ldg → Prop:=QK n g dl.flatten KF KM
 refine lpL 0 KI (fun j g' l' N' hK => by cases hK; exact ⟨0,rfl⟩) (.mk fun j hj => absurd hj (Nat.not_lt_zero _)) ?_ ?_
 · intro g' l' N' hK
   cases hK with | mk hj => ?_
   rw [hDl] at hj ⊢
   show G Z g _ ((r,_) :: (ps,Sets Z.w PG (seenP (dl.flatten.take dl.flatten.length)) dl.flatten.length) :: TP Z.w t σ) _
   rw [List.take_length]
   exact G.drop (h (lookup_no hj) _ _)
 · intro j v it E Q' g' l' N' hi hv hK q
   cases hK with | mk hj => ?_
   obtain ⟨p,hp,a,b1,b2,rfl,hg⟩:=hDf.get hv
   have hnew:=pfx_new hnd hp
   have hi4:j + 1 < 4096:=Nat.lt_of_le_of_lt (Nat.succ_le_of_lt (List.getElem?_eq_some_iff.mp hp).1) (Nat.lt_of_le_of_lt hzd (by decide))
   have hns:seenP (dl.flatten.take j) (mk (pfxS p.2)) = false:=decide_eq_false hnew
   have h22:(pfxS p.2).length ≤ 10:=pfxS_len p.2
   refine letG ?_; intro c l N
   refine as2 5 6 B.u B.pfx hg ?_
   refine nx ?_
   refine ld 5 B.u ?_
   refine ld 2 B.uri ?_
   refine eqS ?_ ?_ <;> intro c l N hc
   · have hpn:=uriS_inj hc
     have eq:qn t.rw dl nl pl n.1 = ⟨p.2,dl,pl⟩:=by unfold qn; rw [lookup_first hj p hp hpn]
     unfold QA at hR
     rw [eq] at hR
     refine ld 6 B.pfx ?_
     refine ld 4 B.seen ?_
     refine niS 2 (Nat.lt_of_succ_lt hi4) ?_
     rw [hns]
     refine nx ?_
     refine ld 6 B.pfx ?_
     refine letG ?_; intro c l N
     have fin:∀ tq,G (Z.sE E) g l N (rsV (rsB c false) (sv (qS p.2 n.2) tq)):=fun tq => by
      refine letG ?_; intro c l N
      refine ld 3 B.tag ?_
      refine ld 2 B.uri ?_
      refine nwT ?_; intro c l N g2 b le ho
      exact q.ret (Hr.dropN 4 (hR g2 σ b _ _ _ le ⟨V.I.up le,V.D.up le,V.NS.up le,V.PM⟩ rfl rfl ho))
     refine trP (fun ee => ?_) fun ee => ?_
     rotate_left
     · have f:=fin tt
       rw [show qS p.2 n.2 = locS n.2 from if_pos ee] at f
       refine ld 3 B.tag ?_
       exact f
     · rw [show qS p.2 n.2 = pfxS p.2 ++ [58] ++ locS n.2 from if_neg ee] at fin
       refine fsX ?_
       refine ld 6 B.pfx ?_
       refine fsv ?_ (a:=[]) (hz:=ltr h22 (by decide))
       refine fsc [58] ?_ (hz:=by rw [lap]; exact ltr (Nat.add_le_add_right h22 1) (by decide))
       refine ld 3 B.tag ?_
       refine fsv ?_ (hz:=qtz p.2 n.2)
       refine fse ?_ (hz:=qtz p.2 n.2); intro c l N tq
       exact fin tq
   · refine nx ?_
     refine ld 4 B.seen ?_
     refine gsa 2 (Nat.lt_of_succ_lt hi4) ?_
     refine ld 6 B.pfx ?_
     refine sad 2 hi4 hns ?_
     rw [seen_snoc hp]
     exact q.go (.mk (qk_put hj hp fun z => hc (by rw [z])))
theorem prs_cons {ds:List (Addr × List Value)} (h:PrsL g ds dl) (hn:dl ≠ []):∃ top rest l0 lr,ds = top :: rest ∧ dl = l0 :: lr ∧ Prs g top.2 l0 ∧ PrsL g rest lr:=by
 cases dl with
 | nil => exact absurd rfl hn
 | cons x y => cases ds with
  | nil => exact h.elim
  | cons a b => exact ⟨a,b,x,y,rfl,rfl,h.1,h.2⟩
noncomputable def qnN:Stmt:=atB (subE ((subB (some (atB (mthB 3) 3)))[0]?)) 0
theorem pfN {l:Fr1} {rs:Bool} {kvs:List (Str × Value)} {x:Uri} (B:QE Z.env) (I:TgIn g t) (PM:PmR kvs pl) (hpl:pl.length ≤ 8) (hlk:pl.lookup x = none)
 (h:let c':=c; let l':=l; let N':=N; ∀ tp,G Z g (setF (sv (pfxS (nth pl.length)) tp) 6 l') (updL (t.pm,Dct Z.w (kvs ++ [(mk (uriS x),sv (pfxS (nth pl.length)) tp)])) 5 N') (rsF c' .next))
 (h0:autoParam (At (Str.ofString "self",some (.ref t.x)) 0 l) aR) (h2:autoParam (At (Str.ofString "uri",some (sv (uriS x) tu)) 2 l) aR) (h6:autoParam (KeyAt (Str.ofString "prefix") 6 l) aR) (hx:autoParam (At (t.dx,Is (tObj Z.w.params t rs rd)) 1 N) aR) (hk:autoParam (At (t.pm,Dct Z.w kvs) 5 N) aR)
 (hc:autoParam (HdSm qnN c) aR):G Z g l N c:=Hr.mk fun s S => den_at hc.e (by
 obtain ⟨m,S1,hn,hm⟩:=S.frm
 have m0:=hm _ h0.mem
 have m2:=hm _ h2.mem
 have hlen:=PM.len
 have etx:=nth_text hpl
 have l3:(pfxS (nth pl.length)).length ≤ 1000000:=ltr (pfxS_len _) (by decide)
 refine wpAny_Assign_two ?_
 refine wpAny_JoinedStr ?_
 show wpAny _ _ (eval (.Constant _ _ _) _) _ _ _
 refine Constant_str ⟨_,_,rfl,by decide +kernel,?_⟩
 show wpAny _ _ (eval (.FormattedValue _ _ _ _) _) _ _ _
 refine wpAny_FormattedValue_plain ?_
 refine Call_ ?_
 refine blE S1 Z.C (by k_is) boot_len (by decide) ?_ Z.gl Z.bi Z.kf B.len.k
 refine PyProof.Rows.callWith_builtin1 ?_
 refine spliced_more ?_
 refine Attribute_Name_ ?_
 refine ldE S1 m0 ?_ rfl Z.kf B.self.k B.self.d
 refine ga_pm Z.C.X S1 I (At.pk (i:=2) hx) ?_
 refine spliced_none ?_
 refine lenD S1 (At.pk (i:=6) hk) I.2.2 (by rw [hlen]; exact ltr hpl (by decide)) ?_
 rw [hlen]
 refine wpAny_formatField_int ?_ ⟨_,_,rfl,?_,?_,?_⟩
 · rw [Int.natAbs_natCast]
   exact Nat.lt_of_le_of_lt (Nat.log2_le_self _) (Nat.lt_of_le_of_lt hpl (by decide))
 · rw [etx,mk_len]; exact szl l3
 · rw [etx,mk_len]; exact szl l3
 rw [etx]
 refine asnE S1 (fun s7 S7 => ?_) rfl Z.kf B.pfx.k
 refine asnSub ?_
 refine Attribute_Name_ ?_
 refine ldE S7 ((up_ne (by decide +kernel)).trans m0) ?_ rfl Z.kf B.self.k B.self.d
 refine ga_pm Z.C.X S7 I (At.pk (i:=2) hx) ?_
 refine ldE S7 ((up_ne (by decide +kernel)).trans m2) ?_ rfl Z.kf B.uri.k B.uri.d
 refine setD S7 (At.pk (i:=6) hk) (by rw [hlen]; exact ltr hpl (by decide)) fun s8 S8 => ?_
 rw [PM.put hlk] at S8
 exact (h _).run s8 (S8.toFr _ (by rw [setF_keys]; exact hn) (frUp hn hm h6)))
theorem qNo {P0:OP} (B:QE Z.env) (V:TR g t σ dl nl pl) (hrw:t.rw = false) (hno:dl.flatten.lookup n.1 = none) (hn:n.1 = .no) (hR:QA Z.w Z.H0 g t σ dl nl pl n fun v => Q (.ret v))
 (h1:autoParam (HdLd "tag" c) aR) (h2:autoParam (HdLd "tag" (rsV c (sv (locS n.2) tt))) aR) (h3:autoParam (HdLd "uri" (rsV (rsV c (sv (locS n.2) tt)) (sv (locS n.2) tt))) aR)
 (h4:autoParam (HdV (newTuple [sv (locS n.2) tt,sv (locS n.2) tt,sv (uriS n.1) tu]) (rsV (rsV (rsV c (sv (locS n.2) tt)) (sv (locS n.2) tt)) (sv (uriS n.1) tu))) aR)
 (h5:∀ b,rsV (rsV (rsV (rsV c (sv (locS n.2) tt)) (sv (locS n.2) tt)) (sv (uriS n.1) tu)) (.ref b) = finT Q (.ret (.ref b)):=by exact fun ι => rfl):G Z g (qF t n tok tu tt ps u p) ((ps,P0) :: TP Z.w t σ) c:=by
 refine ld 3 B.tag ?_ (hc:=h1)
 refine ld 3 B.tag ?_ (hc:=h2)
 refine ld 2 B.uri ?_ (hc:=h3)
 refine nwT ?_ (hc:=h4); intro c l N g2 b le ho
 rw [h5]
 have eq:qn t.rw dl nl pl n.1 = ⟨.em,dl,pl⟩:=by rw [hrw]; unfold qn; rw [hno]; dsimp only; rw [if_neg (by decide),if_pos hn]
 unfold QA at hR
 rw [eq] at hR
 exact Hr.dropN 2 (hR g2 σ b _ _ _ le ⟨V.I.up le,V.D.up le,V.NS.up le,V.PM⟩ rfl rfl ho)
theorem q4 (B:QE Z.env) (V:TR g t σ dl nl pl) (hrw:t.rw = false) (hzd:dl.flatten.length ≤ 1000) (hno:dl.flatten.lookup n.1 = none) (hR:QA Z.w Z.H0 g t σ dl nl pl n fun v => Q (.ret v))
 (h:G Z g (qF t n tok tu tt ps u p) ((ps,Sets Z.w PG (seenP dl.flatten) dl.flatten.length) :: TP Z.w t σ) (go Z ((mthB 3).drop 5) (finT Q))) :
 G Z g (qF t n tok tu tt ps u p) ((ps,Sets Z.w PG (seenP dl.flatten) dl.flatten.length) :: TP Z.w t σ) (go Z ((mthB 3).drop 4) (finT Q)):=by
 refine letG ?_; intro c l N
 refine nx ?_
 refine ld 2 B.uri ?_
 refine trU (fun ι => h) fun hn => ?_
 refine cs ?_; intro c l N t0
 refine ld 4 B.seen ?_
 refine niS 0 (Nat.lt_of_le_of_lt hzd (by decide)) ?_
 cases hem:seenP dl.flatten (Str.ofString "") with
 | true => exact h
 | false =>
  refine letG ?_; intro c l N
  refine nx ?_
  exact qNo B V hrw hno hn hR
theorem tp_top (w:World) (t:Tg) (rs rd:Bool) (data:List Value) (top:Addr × List Value) (ls nss:List (Addr × List Value)) (pm:List (Str × Value)) (nps:Nat) (out x:List Value) :
 (t.dx,Is (tObj w.params t rs rd)) :: (t.da,Lst data) :: (t.ds,Lst (rfs (top :: ls))) :: (t.ns,Lst (rfs nss)) :: (t.pm,Dct w pm) :: (t.ps,Lst (List.replicate nps (.bool false))) :: (t.out,Lst out) :: ((top.1,Lst x) :: (ls.map lvP ++ nss.map lvP)) = TP w t ⟨rs,rd,data,(top.1,x) :: ls,nss,pm,nps,out⟩:=by
 rw [rfs_top top.1 top.2 x ls]; rfl
noncomputable abbrev da0 (c:Tr) (t:Tg):Tr:=rsV (rsV c (.ref t.x)) (.ref t.ds)
noncomputable abbrev da1 (c:Tr) (t:Tg) (ti tj:Tok):Tr:=rsV (rsV (da0 c t) (.int 1 ti)) (.int (-1) tj)
noncomputable abbrev da2 (c:Tr) (t:Tg) (ti tj:Tok) (a:Addr):Tr:=rsM (rsV (da1 c t ti tj) (.ref a)) (.builtin "list.append",[.ref a])
noncomputable abbrev da3 (c:Tr) (t:Tg) (ti tj:Tok) (a:Addr) (u v:Value):Tr:=rsV (rsV (da2 c t ti tj a) u) v
theorem dAp {l:Fr1} {c2:Tr} {u v:Tok} {pf:Pfx} {x:Uri} (Bs:Lo Z.env "self") (Bu:Lo Z.env "uri") (Bp:Lo Z.env "prefix") (V:TR g t σ dl nl pl) (hne:dl ≠ []) (hzd:dl.flatten.length ≤ 1000)
 (h:∀ g2 σ2,gLe g g2 → TR g2 t σ2 (push dl (x,pf)) nl pl → σ2 = { σ with decl:=σ2.decl } → σ2.decl.map (·.1) = σ.decl.map (·.1) → G Z g2 l (TP Z.w t σ2 ++ N1) c2)
 (h0:autoParam (At (Str.ofString "self",some (.ref t.x)) 0 l) aR) (h2:autoParam (At (Str.ofString "uri",some (sv (uriS x) u)) 2 l) aR) (h6:autoParam (At (Str.ofString "prefix",some (sv (pfxS pf) v)) 6 l) aR)
 (e1:autoParam (HdLd "self" c) aR) (e2:autoParam (HdV (getAttr (.ref t.x) "_declared_ns_stack" true) (rsV c (.ref t.x))) aR) (e3:autoParam (HdI 1 (da0 c t)) aR) (e4:∀ ti,HdV (unaryOp .USub (.int 1 ti)) (rsV (da0 c t) (.int 1 ti)):=by exact fun ι => rfl)
 (e5:∀ ti tj,HdSub (.ref t.ds) (.int (-1) tj) (da1 c t ti tj):=by exact fun ι ι => rfl) (e5':∀ ti tj,operate [(.ref t.ds),(.int (-1) tj)] (getItem (.ref t.ds) (.int (-1) tj)) = subscripted (e2C (da1 c t ti tj)) false (.ref t.ds) (.int (-1) tj):=by exact fun ι ι => rfl)
 (e6:∀ ti tj a,HdM (.ref a) "append" (rsV (da1 c t ti tj) (.ref a)):=by exact fun ι ι ι => rfl) (e7:∀ ti tj a,HdLd "uri" (da2 c t ti tj a):=by exact fun ι ι ι => rfl) (e8:∀ ti tj a w,HdLd "prefix" (rsV (da2 c t ti tj a) w):=by exact fun ι ι ι ι => rfl)
 (e9:∀ ti tj a y w,HdV (newTuple [y,w]) (da3 c t ti tj a y w):=by exact fun ι ι ι ι ι => rfl) (e10:∀ ti tj a y w b,HdV (call (.builtin "list.append") [.ref a,.ref b]) (rsV (da3 c t ti tj a y w) (.ref b)):=by exact fun ι ι ι ι ι ι => rfl)
 (e11:∀ ti tj a y w b,rsV (rsV (da3 c t ti tj a y w) (.ref b)) .none = c2:=by exact fun ι ι ι ι ι ι => rfl):G Z g l (TP Z.w t σ ++ N1) c:=by
 obtain ⟨rs2,rd2,data2,decl2,nss2,pm2,nps2,out2⟩:=σ
 obtain ⟨top,ls,l0,lr,rfl,rfl,hD1,hD2⟩:=prs_cons V.D hne
 have I:=V.I
 refine ld 0 Bs ?_ (hc:=e1) (hv:=h0)
 refine gdst I 0 ?_ (hc:=e2)
 refine ci ?_ (hc:=e3); intro c l N ti
 refine neg ?_ (hc:=e4 ti); intro c l N tj
 refine last 2 ?_ (hx:=rfs_last _ _) (hc:=e5 ti tj) (hs:=e5' ti tj)
 refine gapK (.tail (.tail (.tail (.tail (.tail (.tail (.tail .head))))))) ?_ (hc:=e6 ti tj _)
 refine ld 2 Bu ?_ (hc:=e7 ti tj _) (hv:=h2)
 refine ld 6 Bp ?_ (hc:=e8 ti tj _ _) (hv:=h6)
 refine nwT ?_ (hc:=e9 ti tj _ _ _); intro c l N g2 a le ho
 refine appK (.tail (.tail (.tail (.tail (.tail (.tail (.tail .head))))))) (by rw [hD1.len]; rw [List.flatten_cons,lap] at hzd; exact szl (ltr (Nat.le_add_right _ _) (ltr hzd (by decide)))) ?_ (hc:=e10 ti tj _ _ _ a)
 rw [e11]
 have hh:=h g2 ⟨rs2,rd2,data2,(top.1,top.2 ++ [.ref a]) :: ls,nss2,pm2,nps2,out2⟩ le ⟨I.up le,⟨(hD1.up le).app ⟨⟨_,_,_,rfl,ho⟩,trivial⟩,hD2.up le⟩,V.NS.up le,V.PM⟩ rfl rfl
 rw [← tp_top] at hh
 exact hh
theorem q3 {P0:OP} (B:QE Z.env) (V:TR g t σ dl nl pl) (hne:dl ≠ []) (hzd:dl.flatten.length ≤ 1000) (hpl:pl.length ≤ 8) (hpe:∀ e ∈ pl,e.2 ≠ .em) (hno:dl.flatten.lookup n.1 = none) (hR:QA Z.w Z.H0 g t σ dl nl pl n fun v => Q (.ret v))
 (h:t.rw = false → G Z g (qF t n tok tu tt ps u p) ((ps,P0) :: TP Z.w t σ) (go Z ((mthB 3).drop 4) (finT Q))) :
 G Z g (qF t n tok tu tt ps u p) ((ps,P0) :: TP Z.w t σ) (go Z ((mthB 3).drop 3) (finT Q)):=by
 have fin:∀ pm' pl' pf tp,t.rw = true → PmR pm' pl' → pf ≠ .em → qn t.rw dl nl pl n.1 = ⟨pf,push dl (n.1,pf),pl'⟩ → G Z g (qF t n tok tu tt ps u (some (sv (pfxS pf) tp))) ((ps,P0) :: TP Z.w t { σ with pm:=pm' }) (go Z ((subB (some (atB (mthB 3) 3))).drop 1) (nxT ((mthB 3).drop 4) (finT Q))):=by
  intro pm' pl' pf tp hrw hpm hem eq
  unfold QA at hR
  rw [eq] at hR
  have V':TR g t { σ with pm:=pm' } dl nl pl':=⟨V.I,V.D,V.NS,hpm⟩
  refine letG ?_; intro c l N
  refine nx ?_
  refine G.perm (List.perm_append_comm (l₁:=[_])) ?_
  refine dAp B.self B.uri B.pfx V' hne hzd fun g2 σ2 le V2 x1 x2 => ?_
  refine G.perm (List.perm_append_comm (l₂:=[_])) ?_
  refine letG ?_; intro c l N
  refine nx ?_
  refine fsX ?_
  refine ld 6 B.pfx ?_
  refine fsv ?_ (a:=[]) (hz:=ltr (pfxS_len pf) (by decide))
  refine fsc [58] ?_ (hz:=by rw [lap]; exact ltr (Nat.add_le_add_right (pfxS_len pf) 1) (by decide))
  refine ld 3 B.tag ?_
  refine fsv ?_ (hz:=qtz pf n.2)
  refine fse ?_ (hz:=qtz pf n.2); intro c l N tq
  refine ld 3 B.tag ?_
  refine ld 2 B.uri ?_
  refine nwT ?_; intro c l N g3 b le3 ho3
  exact Hr.dropN 2 (hR g3 σ2 b tq tt tu (le.tr le3) (V2.up le3) (by rw [x1]) x2 (by rw [show qS pf n.2 = pfxS pf ++ [58] ++ locS n.2 from if_neg hem]; exact ho3))
 refine letG ?_; intro c l N
 refine nx ?_
 refine ld 0 B.self ?_
 refine grw V.I 1 ?_
 refine tb ?_
 cases hrw:t.rw with
 | false => exact h hrw
 | true =>
  refine letG ?_; intro c l N
  refine nx ?_
  refine ld 2 B.uri ?_
  refine ld 0 B.self ?_
  refine gpm V.I 1 ?_
  refine inM 5 V.I.2.2 ?_
  have hat:=V.PM.at n.1
  cases hlk:pl.lookup n.1 with
  | some p =>
   rw [hlk] at hat
   obtain ⟨tp,hv⟩:=hat
   rw [hv]
   refine letG ?_; intro c l N
   refine nx ?_
   refine ld 0 B.self ?_
   refine gpm V.I 1 ?_
   refine ld 2 B.uri ?_
   refine dct 5 ?_ (v:=sv (pfxS p) tp) (hv:=hv)
   refine st 6 B.pfx ?_
   exact fin σ.pm pl p tp hrw V.PM (hpe (n.1,p) (lookup_mem hlk)) (by rw [hrw]; unfold qn; rw [hno]; dsimp only; rw [if_pos rfl,hlk])
  | none =>
   rw [hlk] at hat
   rw [hat]
   refine letG ?_; intro c l N
   refine nx ?_
   refine pfN B V.I V.PM hpl hlk ?_; intro c l N tp
   exact fin _ _ (nth pl.length) tp hrw V.PM.snoc (nth_ne hpl) (by rw [hrw]; unfold qn; rw [hno]; dsimp only; rw [if_pos rfl,hlk])
theorem q5 {P0:OP} (B:QE Z.env) (hroom:Z.d ≤ 890) (V:TR g t σ dl nl pl) (hne:dl ≠ []) (hrw:t.rw = false) (hzd:dl.flatten.length ≤ 1000) (hzn:nl.flatten.length ≤ 1000) (hzn2:nl.length ≤ 1000) (hno:dl.flatten.lookup n.1 = none)
 (hok:n.1 = .no ∨ ∃ p,nl.flatten.lookup n.1 = some p) (hnn:nl.flatten.lookup .no = none) (hR:QA Z.w Z.H0 g t σ dl nl pl n fun v => Q (.ret v)) :
 G Z g (qF t n tok tu tt ps u p) ((ps,P0) :: TP Z.w t σ) (go Z ((mthB 3).drop 5) (finT Q)):=by
 have hNf:=V.NS.flat
 have hNl:=hNf.len
 refine letG ?_; intro c l N
 refine nx ?_
 refine ld 0 B.self ?_
 refine mit V.I 1 ?_
 refine cwf ?_
 refine ld 0 B.self ?_
 refine gnst V.I 1 ?_
 refine c_walk (ls:=σ.nss) (ltr hroom (by decide)) 4 (fun l hl => .tail _ (mem_nss hl)) (by rw [hNl]; exact ltr hzn (by decide)) (by rw [V.NS.len]; exact ltr hzn2 (by decide)) ?_; intro c l N r
 let KF:Option Value → Option Value → Fr1:=qF t n tok tu tt ps
 let KM:Nat → Ldg:=fun i => (r,Lst (σ.nss.map (·.2)).flatten) :: (ps,P0) :: TP Z.w t σ
 let KI:Nat → (Addr → Option Obj) → Fr1 → Ldg → Prop:=QK n g nl.flatten KF KM
 refine lpL 0 KI (fun j g' l' N' hK => by cases hK; exact ⟨0,rfl⟩) (.mk fun j hj => absurd hj (Nat.not_lt_zero _)) ?_ ?_
 · intro g' l' N' hK
   cases hK with | mk hj => ?_
   rw [hNl] at hj
   have hl:=lookup_no hj
   have hn:n.1 = .no:=hok.elim id fun ⟨p,z⟩ => by rw [hl] at z; cases z
   refine G.drop ?_
   refine letG ?_; intro c l N
   refine nx ?_
   refine ld 2 B.uri ?_
   refine trU (fun z => absurd hn z) fun ι => ?_
   refine nx ?_
   exact qNo B V hrw hno hn hR
 · intro j v it E Q' g' l' N' hi hv hK q
   cases hK with | mk hj => ?_
   obtain ⟨p,hp,a,b1,b2,rfl,hg⟩:=hNf.get hv
   refine letG ?_; intro c l N
   refine as2 5 6 B.u B.pfx hg ?_
   refine nx ?_
   refine ld 5 B.u ?_
   refine ld 2 B.uri ?_
   refine eqS ?_ ?_ <;> intro c l N hc
   · have hpn:=uriS_inj hc
     have hl:=lookup_first hj p hp hpn
     have hn:n.1 ≠ .no:=fun z => by rw [z,hnn] at hl; cases hl
     have eq:qn t.rw dl nl pl n.1 = ⟨p.2,push dl (n.1,p.2),pl⟩:=by rw [hrw]; unfold qn; rw [hno]; dsimp only; rw [if_neg (by decide),if_neg hn,hl]
     unfold QA at hR
     rw [eq] at hR
     refine letG ?_; intro c l N
     refine nx ?_
     refine G.perm (List.perm_append_comm (l₁:=[_,_,_])) ?_
     refine dAp B.self B.uri B.pfx V hne hzd fun g2 σ2 le V2 x1 x2 => ?_
     refine G.perm (List.perm_append_comm (l₂:=[_,_,_])) ?_
     refine letG ?_; intro c l N
     refine nx ?_
     refine ld 6 B.pfx ?_
     refine letG ?_; intro c l N
     have fin:∀ tq,G (Z.sE E) g2 l N (rsV (rsB c false) (sv (qS p.2 n.2) tq)):=fun tq => by
      refine letG ?_; intro c l N
      refine ld 3 B.tag ?_
      refine ld 2 B.uri ?_
      refine nwT ?_; intro c l N g3 b le3 ho3
      exact q.ret (Hr.dropN 4 (hR g3 σ2 b tq tt tu (le.tr le3) (V2.up le3) (by rw [x1]) x2 ho3))
     refine trP (fun ee => ?_) fun ee => ?_
     rotate_left
     · have f:=fin tt
       rw [show qS p.2 n.2 = locS n.2 from if_pos ee] at f
       refine ld 3 B.tag ?_
       exact f
     · rw [show qS p.2 n.2 = pfxS p.2 ++ [58] ++ locS n.2 from if_neg ee] at fin
       refine fsX ?_
       refine ld 6 B.pfx ?_
       refine fsv ?_ (a:=[]) (hz:=ltr (pfxS_len p.2) (by decide))
       refine fsc [58] ?_ (hz:=by rw [lap]; exact ltr (Nat.add_le_add_right (pfxS_len p.2) 1) (by decide))
       refine ld 3 B.tag ?_
       refine fsv ?_ (hz:=qtz p.2 n.2)
       refine fse ?_ (hz:=qtz p.2 n.2); intro c l N tq
       exact fin tq
   · exact q.go (.mk (qk_put hj hp fun z => hc (by rw [z])))
theorem qAll (B:QE Z.env) (hroom:Z.d ≤ 890) (V:TR g t σ dl nl pl) (hnd:(dl.flatten.map (·.2)).Nodup) (hne:dl ≠ []) (hzd:dl.flatten.length ≤ 1000) (hzd2:dl.length ≤ 1000) (hzn:nl.flatten.length ≤ 1000) (hzn2:nl.length ≤ 1000)
 (hok:t.rw = false → n.1 = .no ∨ ∃ p,nl.flatten.lookup n.1 = some p) (hno:t.rw = false → nl.flatten.lookup .no = none) (hpl:pl.length ≤ 8) (hpe:∀ e ∈ pl,e.2 ≠ .em) (hR:QA Z.w Z.H0 g t σ dl nl pl n fun v => Q (.ret v)) :
 G Z g (qF0 t n tok (some .none) none none u p) (TP Z.w t σ) (go Z (mthB 3) (finT Q)):=
 q01 B fun ι ι ι => q2 B hroom V hnd hzd hzd2 hR fun hl _ _ => q3 B V hne hzd hpl hpe hl hR fun hrw => q4 B V hrw hzd hl hR (q5 B hroom V hne hrw hzd hzn hzn2 hl (hok hrw) (hno hrw) hR)
end
theorem f_qname {u:Nat} {R:Result → PP} {g:Addr → Option Obj} {t:Tg} {σ:Ts} (C:Cx w H0) (V:TR g t σ dl nl pl) (hroom:d ≤ 850)
 (hnd:(dl.flatten.map (·.2)).Nodup) (hne:dl ≠ []) (hzd:dl.flatten.length ≤ 1000) (hzd2:dl.length ≤ 1000) (hzn:nl.flatten.length ≤ 1000) (hzn2:nl.length ≤ 1000)
 (hok:t.rw = false → n.1 = .no ∨ ∃ p,nl.flatten.lookup n.1 = some p) (hno:t.rw = false → nl.flatten.lookup .no = none) (hpl:pl.length ≤ 8) (hpe:∀ e ∈ pl,e.2 ≠ .em)
 (h:QA w H0 g t σ dl nl pl n fun v => R (.ok (.ret v))):Hr H0 g (TP w t σ) (codeAny (model PG w) (ar d u) (.call (.ref 83) ⟨[.ref t.x,sv (nameS n) tok],[]⟩) R):=by
 refine' callG (binds:=[(Str.ofString "self",.ref t.x),(Str.ofString "qname",sv (nameS n) tok),(Str.ofString "uri",.none)]) (body:=mthB 3) [Str.ofString "tag",Str.ofString "prefixes_seen",Str.ofString "u",Str.ofString "prefix"] C ?k6 ?k7 (Nat.lt_of_le_of_lt hroom (by decide)) ?k9 ?kB ?kN ?c5 ?c2 ?c3 ?c4 ?_
 walk_at "fn"
 exact fun L Q E hL q => qAll (by constructor <;> exact ⟨rfl,rfl⟩) (ltr (Nat.succ_le_succ hroom) (by decide)) V hnd hne hzd hzd2 hzn hzn2 hok hno hpl hpe fun g' σ' r t1 t2 t3 a b c e f => q.ret (h g' σ' r t1 t2 t3 a b c e f)
theorem fl_nil {a:Ab} (h:a.data = []):a.fl = a:=by unfold Ab.fl flushed; rw [h]; simp; rw [← h]
section
variable {g:Addr → Option Obj} {l:Fr1} {Q:Flow → PP} {t:Tg} {σ:Ts} {a:Ab}
theorem c_flush (V:TT g t σ a) (hroom:Z.d ≤ 850) (nt:∀ p ∈ X,NT p.2) (hz:a.data.flatten.length ≤ 2000) (hzl:a.data.length ≤ 100000) (hzo:a.out.length ≤ 100000)
 (h:∀ g' σ',gLe g g' → TT g' t σ' a.fl → G Z g' l (TP Z.w t σ' ++ X) (rsV c .none)) (hc:autoParam (HdCal (.ref 99) [.ref t.x] c) aR):G Z g l (TP Z.w t σ ++ X) c:=
 calS (hc:=hc) (N1:=TP Z.w t σ) (N2:=X) .rfl nt fun g1 R le1 back => f_flush (xs:=a.data) Z.C (V.R.I.up le1) hroom V.dat hz hzl (by rw [V.out.len]; exact hzo) fun os ho =>
  back g1 _ .none (gLe.rfl' _) fun g3 le3 tl => h g3 _ le3 (((V.up le1).fl ho).tp tl (V.R.I.up le3))
noncomputable abbrev fd1 (c:Tr) (t:Tg):Tr:=rsV (rsV c (.ref t.x)) (.ref t.da)
noncomputable abbrev fd2 (Z:Zc) (c:Tr) (t:Tg):Tr:=rsQ Z.env (rsB (fd1 c t) true)
noncomputable abbrev fd3 (Z:Zc) (c:Tr) (t:Tg):Tr:=rsM (rsV (fd2 Z c t) (.ref t.x)) (.ref 99,[.ref t.x])
theorem ifFl {c2:Tr} (B:Lo Z.env "self") (V:TT g t σ a) (hroom:Z.d ≤ 850) (nt:∀ p ∈ X,NT p.2) (hz:a.data.flatten.length ≤ 2000) (hzl:a.data.length ≤ 100000) (hzo:a.out.length ≤ 100000)
 (h:∀ g' σ',gLe g g' → TT g' t σ' a.fl → G Z g' l (TP Z.w t σ' ++ X) c2)
 (hs:autoParam (At (Str.ofString "self",some (.ref t.x)) 0 l) aR) (h1:autoParam (HdLd "self" c) aR) (h2:autoParam (HdV (getAttr (.ref t.x) "_data" true) (rsV c (.ref t.x))) aR) (h3:autoParam (HdB (truthy (.ref t.da)) (fd1 c t)) aR) (h4:autoParam (rsB (fd1 c t) false = c2) aR)
 (h5:HdQ (rsB (fd1 c t) true):=by exact trivial) (h6:autoParam (HdLd "self" (fd2 Z c t)) aR) (h7:autoParam (HdM (.ref t.x) "_flush" (rsV (fd2 Z c t) (.ref t.x))) aR) (h8:autoParam (HdCw (.ref 99) (fd3 Z c t)) aR) (h9:autoParam (arC (fd3 Z c t) = []) aR) (h10:autoParam (HdCal (.ref 99) [.ref t.x] (rsC Z.env (fd3 Z c t) (.ref 99))) aR) (h11:autoParam (rsV (rsC Z.env (fd3 Z c t) (.ref 99)) .none = c2) aR):G Z g l (TP Z.w t σ ++ X) c:=by
 refine ld 0 B ?_ (hc:=h1) (hv:=hs)
 refine gdt V.R.I 0 ?_ (hc:=h2)
 have hl:=V.dat.len
 refine trL 1 ?_ (hz:=by rw [hl]; exact ltr hzl (by decide)) (hc:=h3)
 cases e:σ.data with
 | nil =>
  have h:=h g σ (gLe.rfl' _) (by rw [fl_nil (List.length_eq_zero_iff.mp (by rw [← hl,e]; rfl))]; exact V)
  rw [← h4] at h
  exact h
 | cons v vs =>
  show G Z g l _ (rsB (fd1 c t) true)
  refine nx ?_ (hc:=h5)
  refine ld 0 B ?_ (hc:=h6) (hv:=hs)
  refine mfl V.R.I 0 ?_ (hc:=h7)
  refine cwf ?_ (hc:=h8) (hn:=by rw [h9]; rfl)
  refine c_flush V hroom nt hz hzl hzo ?_ (hc:=h10)
  rw [h11]; exact h
structure SnEn (env:Env):Prop where
 self:Lo env "self"
 pfx:Lo env "prefix"
 uri:Lo env "uri"
theorem b_start_ns {x:Uri} {p:Pfx} (B:SnEn Z.env) (V:TT g t σ a) (hroom:Z.d ≤ 850) (hz:a.data.flatten.length ≤ 2000) (hzl:a.data.length ≤ 100000) (hzo:a.out.length ≤ 100000) (hn:a.nl ≠ []) (hzn:a.nl.flatten.length ≤ 100000)
 (h:∀ g' σ',gLe g g' → TT g' t σ' (a.sns x p) → Hr Z.H0 g' (TP Z.w t σ') (Q .next)) :
 G Z g [("self",some (.ref t.x)),("prefix",some (sv (pfxS p) t1)),("uri",some (sv (uriS x) t2))] (TP Z.w t σ) (go Z (mthB 6) (finT Q)):=by
 refine letG ?_; intro c l N
 refine nx ?_
 refine ld 0 B.self ?_
 refine gig V.R.I 0 ?_
 refine trI ?_
 refine nx ?_
 refine G.eqN (N1:=TP Z.w t σ ++ []) ?_ (List.append_nil _)
 refine ifFl B.self V hroom (fun p hp => nomatch hp) hz hzl hzo fun g2 σ2 le2 V2 => ?_
 rw [List.append_nil]
 obtain ⟨rs2,rd2,data2,decl2,nss2,pm2,nps2,out2⟩:=σ2
 have NS:=V2.R.NS
 rw [show a.fl.nl = a.nl from rfl] at NS
 cases hl:a.nl with
 | nil => exact absurd hl hn
 | cons lv lr => cases nss2 with
  | nil => rw [hl] at NS; exact NS.elim
  | cons top rest =>
   rw [hl] at NS
   obtain ⟨q1,q2⟩:=NS
   have zq:top.2.length ≤ sizeLine:=by
    rw [q1.len]
    rw [hl,List.flatten_cons,lap] at hzn
    exact szl (ltr (Nat.le_add_right _ _) (ltr hzn (by decide)))
   refine letG ?_; intro c l N
   refine nx ?_
   refine ld 0 B.self ?_
   refine gnst V2.R.I 0 ?_
   refine ci ?_; intro c l N ti
   refine neg ?_; intro c l N ti
   refine last 3 ?_ (hx:=rfs_last _ _)
   refine gapK (.tail (.tail (.tail (.tail (.tail (.tail (.tail (.app .head)))))))) ?_
   refine ld 2 B.uri ?_
   refine ld 1 B.pfx ?_
   refine nwT ?_; intro c l N g3 b le3 ho
   refine appK (.tail (.tail (.tail (.tail (.tail (.tail (.tail (.app .head)))))))) zq ?_
   have h:=h g3 ⟨rs2,rd2,data2,decl2,(top.1,top.2 ++ [.ref b]) :: rest,pm2,nps2,out2⟩ (le2.tr le3) ⟨⟨V2.R.I.up le3,V2.R.D.up le3,?_,V2.R.PM⟩,V2.dat,V2.out,V2.rs,V2.rd,V2.nps⟩
   · rw [show TP Z.w t ⟨rs2,rd2,data2,decl2,(top.1,top.2 ++ [.ref b]) :: rest,pm2,nps2,out2⟩ = (t.dx,Is (tObj Z.w.params t rs2 rd2)) :: (t.da,Lst data2) :: (t.ds,Lst (rfs decl2)) :: (t.ns,Lst (rfs (top :: rest))) :: (t.pm,Dct Z.w pm2) :: (t.ps,Lst (List.replicate nps2 (.bool false))) :: (t.out,Lst out2) :: (decl2.map lvP ++ (lvP (top.1,top.2 ++ [.ref b]) :: rest.map lvP)) from by rw [← rfs_top top.1 _ top.2 rest]; rfl] at h
     exact Hr.drop h
   · show PrsL g3 _ (push a.nl (x,p))
     rw [hl]
     exact ⟨(Prs.up le3 q1).app ⟨⟨_,_,_,rfl,ho⟩,trivial⟩,PrsL.up le3 q2⟩
end
theorem f_start_ns {u:Nat} {R:Result → PP} {g:Addr → Option Obj} {t:Tg} {σ:Ts} {a:Ab} {x:Uri} {p:Pfx} (C:Cx w H0) (V:TT g t σ a) (hroom:d ≤ 840) (hz:a.data.flatten.length ≤ 2000) (hzl:a.data.length ≤ 100000) (hzo:a.out.length ≤ 100000) (hn:a.nl ≠ []) (hzn:a.nl.flatten.length ≤ 100000)
 (h:∀ g' σ',gLe g g' → TT g' t σ' (a.sns x p) → Hr H0 g' (TP w t σ') (R (.ok (.ret .none)))):Hr H0 g (TP w t σ) (codeAny (model PG w) (ar d u) (.call (.ref 106) ⟨[.ref t.x,sv (pfxS p) t1,sv (uriS x) t2],[]⟩) R):=by
 refine' callG (binds:=[(Str.ofString "self",.ref t.x),(Str.ofString "prefix",sv (pfxS p) t1),(Str.ofString "uri",sv (uriS x) t2)]) (body:=mthB 6) [] C ?k6 ?k7 (Nat.lt_of_le_of_lt hroom (by decide)) ?k9 ?kB ?kN ?c5 ?c2 ?c3 ?c4 ?_
 walk_at "fn"
 intro L Q E hL q
 exact b_start_ns (by constructor <;> exact ⟨rfl,rfl⟩) V (ltr (Nat.succ_le_succ hroom) (by decide)) hz hzl hzo hn hzn fun g' σ' le V' => q.nxt (h g' σ' le V')
theorem prs_tl {g:Addr → Option Obj} {ds:List (Addr × List Value)} (h:PrsL g ds dl) (hn:dl ≠ []):∃ top rest,ds = top :: rest ∧ PrsL g rest dl.tail:=by
 cases dl with
 | nil => exact absurd rfl hn
 | cons x y => cases ds with
  | nil => exact h.elim
  | cons a b => exact ⟨a,b,rfl,h.2⟩
section
variable {g:Addr → Option Obj} {l:Fr1} {N:Ldg} {Q:Flow → PP} {t:Tg} {σ:Ts} {a:Ab} {rs:Bool}
theorem gpo {a:Addr} {its:List Value} (i:Nat) (h:G Z g l N (rsM c (.builtin "list.pop",[.ref a]))) (hk:autoParam (At (a,Lst its) i N) aR) (hc:autoParam (HdM (.ref a) "pop" c) aR):G Z g l N c:=Hr.mk fun s S => outM hc (gmL S (At.pk (i:=i + 1) hk) PySem.F.slot_list_pop PySem.F.type_list_pop (h.run s S))
theorem poL {a:Addr} {p:List Value} {y:Value} (i:Nat) (h:G Z g l (updL (a,Lst p) i N) (rsV c y)) (hk:autoParam (At (a,Lst (p ++ [y])) i N) aR) (hc:autoParam (HdV (call (.builtin "list.pop") [.ref a]) c) aR) (hz:autoParam (p.length + 1 ≤ sizeLine) aD):G Z g l N c:=Hr.mk fun s S => outV hc (popS S (At.pk (i:=i + 1) hk) hz fun s2 S2 => h.run s2 S2)
theorem lnL {a:Addr} {its:List Value} (i:Nat) (h:let c':=c; let l':=l; let N':=N; ∀ t,G Z g l' N' (rsV c' (.int (its.length:Nat) t)))
 (hk:autoParam (At (a,Lst its) i N) aR) (hc:autoParam (HdV (call (.builtin "len") [.ref a]) c) aR) (hz:its.length ≤ 1000000:=by exact Nat.le_of_ble_eq_true rfl):G Z g l N c:=Hr.mk fun s S => outV hc (lenS S (At.pk (i:=i + 1) hk) (Nat.lt_of_le_of_lt hz (by decide)) ((h (s.toks + 1)).run (tick (tick s)) S))
theorem eqV {a b:Int} {t u:Tok} (h:G Z g l N (rsV c (.bool (decide (a = b))))) (hc:autoParam (HdV (compareOp .Eq (.int a t) (.int b u)) c) aR):G Z g l N c:=Hr.mk fun s S => outV hc (eq_int (by
 have e:(a == b) = decide (a = b):=rfl
 exact h.run _ S))
theorem poE {a:Addr} {its p:List Value} {y:Value} (i:Nat) (he:its = p ++ [y]) (h:G Z g l (updL (a,Lst p) i N) (rsV c y)) (hz:p.length + 1 ≤ sizeLine) (hk:autoParam (At (a,Lst its) i N) aR) (hc:autoParam (HdV (call (.builtin "list.pop") [.ref a]) c) aR):G Z g l N c:=by
 subst he; exact poL i h (hk:=hk) (hc:=hc) (hz:=hz)
theorem srd {b:Bool} (I:TgIn g t) (i:Nat) (h:G Z g l (updL (t.dx,Is (tObj Z.w.params t rs b)) i N) (rsU c)) (hk:autoParam (At (t.dx,Is (tObj Z.w.params t rs rd)) i N) aR) (hc:autoParam (HdU (setAttr (.ref t.x) "_root_done" (.bool b)) c) aR):G Z g l N c:=Hr.mk fun s S => outU hc (by
 obtain ⟨m,S1,hf⟩:=S.frm
 exact set_rd Z.C.X S1 Z.hL I (At.pk hk) fun s2 S2 => h.run s2 (S2.toFr _ hf.1 hf.2))
theorem c_qname (V:TR g t σ dl nl pl) (hroom:Z.d ≤ 850) (nt:∀ p ∈ X,NT p.2)
 (hnd:(dl.flatten.map (·.2)).Nodup) (hne:dl ≠ []) (hzd:dl.flatten.length ≤ 1000) (hzd2:dl.length ≤ 1000) (hzn:nl.flatten.length ≤ 1000) (hzn2:nl.length ≤ 1000)
 (hok:t.rw = false → n.1 = .no ∨ ∃ p,nl.flatten.lookup n.1 = some p) (hno:t.rw = false → nl.flatten.lookup .no = none) (hpl:pl.length ≤ 8) (hpe:∀ e ∈ pl,e.2 ≠ .em)
 (h:∀ g' σ' r t1 t2 t3,gLe g g' → TR g' t σ' (qn t.rw dl nl pl n.1).decl nl (qn t.rw dl nl pl n.1).pm → σ' = { σ with decl:=σ'.decl,pm:=σ'.pm } → g' r = some (tupO [sv (qS (qn t.rw dl nl pl n.1).p n.2) t1,sv (locS n.2) t2,sv (uriS n.1) t3]) → G Z g' l (TP Z.w t σ' ++ X) (rsV c (.ref r)))
 (hc:autoParam (HdCal (.ref 83) [.ref t.x,sv (nameS n) tok] c) aR):G Z g l (TP Z.w t σ ++ X) c:=
 calS (hc:=hc) (N1:=TP Z.w t σ) (N2:=X) .rfl nt fun g1 R le1 back =>
  f_qname Z.C (V.up le1) hroom hnd hne hzd hzd2 hzn hzn2 hok hno hpl hpe fun g' σ' r t1 t2 t3 le V' e1 _ hr => back g' _ _ le fun g3 le3 tl => h g3 σ' r t1 t2 t3 le3 (V'.tp tl (V.I.up le3)) e1 (tl _ _ hr (isTp_tup _))
structure EdEn (env:Env):Prop where
 self:Lo env "self"
 tag:Lo env "tag"
 len:Lo env "len" .globalImplicit
theorem b_end {k:Nat} (B:EdEn Z.env) (V:TT g t σ a) (hroom:Z.d ≤ 850) (Ft:Fit a t.rw) (hk:a.nps = k + 1) (hok:t.rw = false → n.1 = .no ∨ ∃ p,a.nl.flatten.lookup n.1 = some p)
 (h:∀ g' σ',gLe g g' → TT g' t σ' (a.en t.rw n) → Hr Z.H0 g' (TP Z.w t σ') (Q .next)) :
 G Z g [("self",some (.ref t.x)),("tag",some (sv (nameS n) t1))] (TP Z.w t σ) (go Z (mthB 9) (finT Q)):=by
 have zo:=fl_out a
 refine letG ?_; intro c l N
 refine nx ?_
 refine ld 0 B.self ?_
 refine gig V.R.I 0 ?_
 refine trI ?_
 refine nx ?_
 refine G.eqN (N1:=TP Z.w t σ ++ []) ?_ (List.append_nil _)
 refine ifFl B.self V hroom (fun p hp => nomatch hp) Ft.zt (ltr Ft.zl (by decide)) (ltr Ft.zo (by decide)) fun g2 σ2 le2 V2 => ?_
 refine letG ?_; intro c l N
 refine nx ?_
 refine ld 0 B.self ?_
 refine mwr V2.R.I 0 ?_
 refine cwk (o:=t.out) ?_
 refine fsX ?_
 refine fsc [60,47] ?_ (a:=[]) (hz:=by decide)
 refine ld 0 B.self ?_
 refine mqn V2.R.I 0 ?_
 refine cwf ?_
 refine ld 1 B.tag ?_
 refine c_qname V2.R hroom (fun p hp => nomatch hp) Ft.nd Ft.dne (ltr Ft.zd (by decide)) (ltr Ft.zd2 (by decide)) (ltr Ft.zn (by decide)) (ltr Ft.zn2 (by decide)) hok Ft.no Ft.zp Ft.em fun g4 σ4 r x1 x2 x3 le4 V4 e4 hr => ?_
 rw [show qn t.rw a.fl.dl a.fl.nl a.fl.pl n.1 = qn t.rw a.dl a.nl a.pl n.1 from rfl] at V4 hr
 have hne:(qn t.rw a.dl a.nl a.pl n.1).decl ≠ []:=qn_ne Ft.dne
 have hlen:=qn_len (rw:=t.rw) (dl:=a.dl) (nl:=a.nl) (pl:=a.pl) (x:=n.1)
 have en:a.en t.rw n = { a.fl with dl:=(qn t.rw a.dl a.nl a.pl n.1).decl.tail,nl:=a.nl.tail,pl:=(qn t.rw a.dl a.nl a.pl n.1).pm,nps:=a.nps - 1,rd:=a.nps - 1 == 1,out:=a.fl.out ++ [[60,47] ++ qS (qn t.rw a.dl a.nl a.pl n.1).p n.2 ++ [62]] }:=rfl
 rw [en] at h
 generalize qn t.rw a.dl a.nl a.pl n.1 = q1 at *
 rw [List.append_nil]
 obtain ⟨d1,d2,hd,nd2⟩:=prs_tl V4.D hne
 obtain ⟨n1,n2,hn,nn2⟩:=prs_tl V4.NS Ft.nne
 have I4:=V4.I
 have o4:Txs σ4.out a.fl.out:=(show σ4.out = σ2.out by rw [e4]) ▸ V2.out
 have r4:σ4.rs = a.rs:=(show σ4.rs = σ2.rs by rw [e4]).trans V2.rs
 have dt4:Txs σ4.data []:=(show σ4.data = σ2.data by rw [e4]) ▸ V2.dat
 have np4:σ4.nps = k + 1:=((show σ4.nps = σ2.nps by rw [e4]).trans V2.nps).trans hk
 have zk:k + 1 ≤ 10000:=hk ▸ Ft.zs
 have lq:=qS_len q1.p n.2
 have zq:([] ++ [60,47] ++ qS q1.p n.2).length ≤ 22:=by rw [lap]; exact Nat.add_le_add_left lq 2
 refine letG ?_; intro c l N
 refine ci ?_; intro c l N ti
 refine tup (i:=0) hr ?_
 refine fsv ?_ (hz:=ltr zq (by decide))
 refine fsc [62] ?_ (hz:=by rw [lap]; exact ltr (Nat.add_le_add_right zq 1) (by decide))
 refine fse ?_ (hz:=by rw [lap]; exact ltr (Nat.add_le_add_right zq 1) (by decide)); intro c l N tw
 refine kp I4.2.1 ?_
 refine cwr I4 6 ?_ (hz:=by rw [o4.len]; exact szl (ltr zo (ltr (Nat.succ_le_succ Ft.zo) (by decide))))
 refine nx ?_
 refine ld 0 B.self ?_
 refine gps I4 0 ?_
 refine gpo 5 ?_
 refine poE 5 (its:=List.replicate σ4.nps (.bool false)) (p:=List.replicate k (.bool false)) (y:=.bool false) (by rw [np4,List.replicate_succ']) ?_ (by rw [List.length_replicate]; exact szl (ltr zk (by decide)))
 refine nx ?_
 refine bl (v:=.builtin "len") B.len (by k_is) boot_len (by decide) ?_
 refine ld 0 B.self ?_
 refine gps I4 0 ?_
 refine lnL 5 ?_ (hz:=by rw [List.length_replicate]; exact ltr (Nat.le_of_succ_le zk) (by decide)); intro c l N tl
 refine ci ?_; intro c l N ti
 refine eqV ?_
 refine ld 0 B.self ?_
 refine srd I4 0 ?_
 refine nx ?_
 refine ld 0 B.self ?_
 refine gdst I4 0 ?_
 refine gpo 2 ?_
 refine poE 2 (its:=rfs σ4.decl) (p:=rfs d2) (y:=.ref d1.1) (by rw [hd]; exact rfs_cons d1 d2) ?_ (by rw [List.length_map,List.length_reverse]; exact szl (ltr (Nat.le_of_eq ((show d2.length + 1 = σ4.decl.length by rw [hd]; rfl).trans (V4.D.len.trans hlen))) (ltr Ft.zd2 (by decide))))
 refine nx ?_
 refine ld 0 B.self ?_
 refine gnst I4 0 ?_
 refine gpo 3 ?_
 refine poE 3 (its:=rfs σ4.nss) (p:=rfs n2) (y:=.ref n1.1) (by rw [hn]; exact rfs_cons n1 n2) ?_ (by rw [List.length_map,List.length_reverse]; exact szl (ltr (Nat.le_of_eq ((show n2.length + 1 = σ4.nss.length by rw [hn]; rfl).trans V4.NS.len)) (ltr Ft.zn2 (by decide))))
 refine Hr.drop ?_
 have hl:∀ A B C D E F G:Addr × OP,A :: B :: C :: D :: E :: F :: G :: (σ4.decl.map lvP ++ σ4.nss.map lvP) = A :: B :: C :: D :: E :: F :: G :: (lvP d1 :: d2.map lvP ++ (lvP n1 :: n2.map lvP)):=fun ι ι ι ι ι ι ι => by rw [hd,hn]; rfl
 refine Hr.perm (List.Perm.of_eq (hl _ _ _ _ _ _ _)) (Hr.cut (pre:=[_,_,_,_,_,_,_]) (p:=lvP d1) (Hr.cut (pre:=_ :: _ :: _ :: _ :: _ :: _ :: _ :: d2.map lvP) (p:=lvP n1) ?_))
 have e1:k = a.nps - 1:=by rw [hk]; rfl
 refine h g4 ⟨σ4.rs,decide (((List.replicate k (Value.bool false)).length:Int) = 1),σ4.data,d2,n2,σ4.pm,k,_⟩ (le2.tr le4) ⟨⟨I4,nd2,nn2,V4.PM⟩,dt4,o4.app (Txs.one _ _),r4,?_,e1⟩
 show decide (((List.replicate k (Value.bool false)).length:Int) = 1) = (a.nps - 1 == 1)
 rw [List.length_replicate,← e1,Bool.eq_iff_iff,decide_eq_true_eq,beq_iff_eq]
 exact Int.ofNat_inj (n:=1)
end
theorem f_end {u:Nat} {R:Result → PP} {g:Addr → Option Obj} {t:Tg} {σ:Ts} {a:Ab} {k:Nat} (C:Cx w H0) (V:TT g t σ a) (hroom:d ≤ 840) (Ft:Fit a t.rw) (hk:a.nps = k + 1) (hok:t.rw = false → n.1 = .no ∨ ∃ p,a.nl.flatten.lookup n.1 = some p)
 (h:∀ g' σ',gLe g g' → TT g' t σ' (a.en t.rw n) → Hr H0 g' (TP w t σ') (R (.ok (.ret .none)))):Hr H0 g (TP w t σ) (codeAny (model PG w) (ar d u) (.call (.ref 126) ⟨[.ref t.x,sv (nameS n) t1],[]⟩) R):=by
 refine' callG (binds:=[(Str.ofString "self",.ref t.x),(Str.ofString "tag",sv (nameS n) t1)]) (body:=mthB 9) [] C ?k6 ?k7 (Nat.lt_of_le_of_lt hroom (by decide)) ?k9 ?kB ?kN ?c5 ?c2 ?c3 ?c4 ?_
 walk_at "fn"
 exact fun L Q E hL q => b_end (by constructor <;> exact ⟨rfl,rfl⟩) V (ltr (Nat.succ_le_succ hroom) (by decide)) Ft hk hok fun g' σ' le V' => q.nxt (h g' σ' le V')
noncomputable def isTx:Itm → Bool
 | .text _ => true
 | _ => false
noncomputable def okSeq:List Itm → Prop
 | [] => True
 | it :: r => (isTx it = true → ∃ i r',r = i :: r' ∧ isTx i = false) ∧ okSeq r
inductive RSteps:Rd → List Itm → Rd → Prop
 | nil {r}:RSteps r [] r
 | cons {r r' r'' it its}:RStep r it r' → RSteps r' its r'' → RSteps r (it :: its) r''
noncomputable def textOf (its:List Itm):T:=(its.map itemS).flatten
theorem item_ne (it:Itm) (h:∀ x,it = .text x → x ≠ []):itemS it ≠ []:=by
 cases it with
 | text x => exact escC_ne (h x rfl)
 | com x => simp [itemS,comS]
 | pi x => show piS x ≠ []; unfold piS; split <;> simp
 | stop p b => simp [itemS]
 | start p b ns ats => simp [itemS]
theorem item_lt {it:Itm} (h:isTx it = false):∃ r,itemS it = 60 :: r:=by
 cases it with
 | text x => cases h
 | com x => exact ⟨_,rfl⟩
 | pi x => show ∃ r,piS x = 60 :: r; unfold piS; split <;> exact ⟨_,rfl⟩
 | stop p b => exact ⟨_,rfl⟩
 | start p b ns ats => exact ⟨_,rfl⟩
theorem tx_head {it:Itm} {c0:Nat} {r0:T} (h:itemS it = c0 :: r0):(c0 = 60) ↔ isTx it = false:=by
 cases it with
 | text x =>
  constructor
  · intro e
    subst e
    have h:escC x = 60 :: r0:=h
    exact absurd (by rw [h]; exact List.mem_cons_self ..) (escC_lt x)
  · intro e; cases e
 | com x => obtain ⟨r,hr⟩:=item_lt (it:=.com x) rfl; rw [hr] at h; injection h with h _; exact ⟨fun ι => rfl,fun ι => h.symm⟩
 | pi x => obtain ⟨r,hr⟩:=item_lt (it:=.pi x) rfl; rw [hr] at h; injection h with h _; exact ⟨fun ι => rfl,fun ι => h.symm⟩
 | stop p b => obtain ⟨r,hr⟩:=item_lt (it:=.stop p b) rfl; rw [hr] at h; injection h with h _; exact ⟨fun ι => rfl,fun ι => h.symm⟩
 | start p b ns ats => obtain ⟨r,hr⟩:=item_lt (it:=.start p b ns ats) rfl; rw [hr] at h; injection h with h _; exact ⟨fun ι => rfl,fun ι => h.symm⟩
noncomputable def rE1:List Stmt:=subE readW[1]?
noncomputable def rE2:List Stmt:=subE rE1[0]?
noncomputable def rE3:List Stmt:=subE rE2[0]?
noncomputable def textB:List Stmt:=subB readW[1]?
noncomputable def comB:List Stmt:=subB rE1[0]?
noncomputable def piB:List Stmt:=subB rE2[0]?
noncomputable def stopB:List Stmt:=subB rE3[0]?
variable {tY:Tok}
section
variable {g:Addr → Option Obj} {N:Ldg} {V:RA} {a j:Nat} {ta tj:Tok} {nm pr lvc:Option Value} {o:Nat → Option Value} {X:T} {evs ms nms lvs:List Value}
theorem rdCom (B:REn Z.env cT cL) (hroom:Z.d ≤ 880) (hY:Y.length ≤ 1000000) (hz:evs.length ≤ 1000) (hs:(Y.drop a).take (j + 1 - a) = X)
 (h:∀ g' b,gLe g g' → Row g' (.ref b) (kCom,plain X) → G Z g' (rdF V (.int (a:Nat) ta) (some (.int (j:Nat) tj)) nm pr o) (rdL V cT cL (Cel (some (sv Y tY))) lvc (evs ++ [.ref b]) ms nms lvs N) (K .next)) :
 G Z g (rdF V (.int (a:Nat) ta) (some (.int (j:Nat) tj)) nm pr o) (rdL V cT cL (Cel (some (sv Y tY))) lvc evs ms nms lvs N) (go Z comB K):=by
 have hX:X.length ≤ 1000000:=by rw [← hs,List.length_take,List.length_drop]; exact ltr (Nat.min_le_right _ _) (ltr (Nat.sub_le _ _) hY)
 refine letG ?_; intro c l N1
 refine nx ?_
 refine ld 0 B.events ?_
 refine gap 2 ?_
 refine csM kCom ?_; intro c l N1 t1
 refine gl B.pl (by k_is) ?_
 refine cwf ?_
 refine slX ?_
 refine ldc 1 B.text B.ct ?_
 refine ld 4 B.at' ?_
 refine ld 5 B.stop ?_
 refine ci ?_; intro c l N1 _
 refine adN 1 ?_; intro c l N1 _
 refine sl2 ?_; intro c l N1 _
 rw [hs]
 refine c_plain (ltr hroom (by decide)) ?_; intro c l N1 t2
 refine nwT ?_; intro c l N1 g' b le ho
 refine app 2 ?_ (hz:=szl (ltr hz (by decide)))
 exact h g' b le ⟨_,_,_,rfl,ho⟩
theorem rdPi (B:REn Z.env cT cL) (hroom:Z.d ≤ 880) (hY:Y.length ≤ 1000000) (hz:evs.length ≤ 1000) (hs:(Y.drop a).take (j + 1 - a) = X)
 (h:∀ g' b,gLe g g' → Row g' (.ref b) (kPi,plain X) → G Z g' (rdF V (.int (a:Nat) ta) (some (.int (j:Nat) tj)) nm pr o) (rdL V cT cL (Cel (some (sv Y tY))) lvc (evs ++ [.ref b]) ms nms lvs N) (K .next)) :
 G Z g (rdF V (.int (a:Nat) ta) (some (.int (j:Nat) tj)) nm pr o) (rdL V cT cL (Cel (some (sv Y tY))) lvc evs ms nms lvs N) (go Z piB K):=by
 have hX:X.length ≤ 1000000:=by rw [← hs,List.length_take,List.length_drop]; exact ltr (Nat.min_le_right _ _) (ltr (Nat.sub_le _ _) hY)
 refine letG ?_; intro c l N1
 refine nx ?_
 refine ld 0 B.events ?_
 refine gap 2 ?_
 refine csM kPi ?_; intro c l N1 t1
 refine gl B.pl (by k_is) ?_
 refine cwf ?_
 refine slX ?_
 refine ldc 1 B.text B.ct ?_
 refine ld 4 B.at' ?_
 refine ld 5 B.stop ?_
 refine ci ?_; intro c l N1 _
 refine adN 1 ?_; intro c l N1 _
 refine sl2 ?_; intro c l N1 _
 rw [hs]
 refine c_plain (ltr hroom (by decide)) ?_; intro c l N1 t2
 refine nwT ?_; intro c l N1 g' b le ho
 refine app 2 ?_ (hz:=szl (ltr hz (by decide)))
 exact h g' b le ⟨_,_,_,rfl,ho⟩
theorem agS {x:Str} {n m:Int} {l:Fr1} {p:Pos} {k:Nat} (i:Nat) (hl:Lo Z.env x) (h:let c':=c; let l':=l; let N':=N; ∀ t,G Z g (setF (.int (n - m) t) i l') N' (rsF c' .next))
 (hc:autoParam (HdSm (.AugAssign (.Name x p) .Sub (.Constant (.int m) k p1) p2) c) aR) (hv:autoParam (At (x,some (.int n t)) i l) aR) (hk:autoParam (KeyAt x i l) aR):G Z g l N c:=Hr.mk fun s S => den_at hc.e (by
 obtain ⟨m',S1,hn,hm⟩:=S.frm
 refine wpAny_AugAssign_Name (wpAny_loadName_local Z.kf hl.k (S1.ns .head) (hm _ hv.mem) (wpAny_Constant_int (PyProof.Rows.isub_int ?_)))
 exact stE S1 (fun s2 S2 => (h _).run s2 (S2.toFr _ (by rw [setF_keys]; exact hn) (frUp hn hm hk))) rfl Z.kf hl.k)
theorem rdText (B:REn Z.env cT cL) (hroom:Z.d ≤ 880) (hY:Y.length ≤ 1000000) (hz:evs.length ≤ 1000) (hs:(Y.drop a).take (j + 1 - a) = X)
 (h:∀ g' b tj,gLe g g' → Row g' (.ref b) (kText,plain X) → G Z g' (rdF V (.int (a:Nat) ta) (some (.int (j:Nat) tj)) nm pr o) (rdL V cT cL (Cel (some (sv Y tY))) lvc (evs ++ [.ref b]) ms nms lvs N) (K .next)) :
 G Z g (rdF V (.int (a:Nat) ta) (some (.int ((j + 1:Nat):Int) tj)) nm pr o) (rdL V cT cL (Cel (some (sv Y tY))) lvc evs ms nms lvs N) (go Z textB K):=by
 have hX:X.length ≤ 1000000:=by rw [← hs,List.length_take,List.length_drop]; exact ltr (Nat.min_le_right _ _) (ltr (Nat.sub_le _ _) hY)
 refine letG ?_; intro c l N1
 refine nx ?_
 refine ld 0 B.events ?_
 refine gap 2 ?_
 refine csM kText ?_; intro c l N1 t1
 refine gl B.pl (by k_is) ?_
 refine cwf ?_
 refine slX ?_
 refine ldc 1 B.text B.ct ?_
 refine ld 4 B.at' ?_
 refine ld 5 B.stop ?_
 refine sl2 ?_; intro c l N1 _
 rw [hs]
 refine c_plain (ltr hroom (by decide)) ?_; intro c l N1 t2
 refine nwT ?_; intro c l N1 g' b le ho
 refine app 2 ?_ (hz:=szl (ltr hz (by decide)))
 refine nx ?_
 refine agS (n:=((j + 1:Nat):Int)) (m:=1) 5 B.stop ?_; intro c l N1 t3
 have e:((j + 1:Nat):Int) - 1 = (j:Nat):=Int.add_sub_cancel (j:Int) 1
 rw [e]
 exact h g' b t3 le ⟨_,_,_,rfl,ho⟩
theorem rdStop {dl:Addr} {lvs' nms':List Value} {kvs:List (Str × Value)} {lm:Lm} {p:Pfx} {b:Bool} {tn:Tok} {e:Uri} (B:REn Z.env cT cL) (hroom:Z.d ≤ 880) (hY:Y.length ≤ 1000000) (hz:evs.length ≤ 1000) (hzn:nms'.length + 1 ≤ 1000) (hzl:lvs'.length + 1 ≤ 1001) (hs:(Y.drop (a + 2)).take (j - (a + 2)) = qS p b)
 (D:GD Z.w g dl kvs) (hLm:LvR kvs lm) (hem:lm .em = some e) (hp:p ≠ .em → ∃ u,lm p = some u)
 (h:∀ g' b',gLe g g' → Row g' (.ref b') (kEnd,nameS (uriOf lm p,b)) → G Z g' (rdF V (.int (a:Nat) ta) (some (.int (j:Nat) tj)) nm pr o) (rdL V cT cL (Cel (some (sv Y tY))) (some (.ref dl)) (evs ++ [.ref b']) ms nms' lvs' N) (K .next)) :
 G Z g (rdF V (.int (a:Nat) ta) (some (.int (j:Nat) tj)) nm pr o) (rdL V cT cL (Cel (some (sv Y tY))) lvc evs ms (nms' ++ [sv (qS p b) tn]) (lvs' ++ [.ref dl]) N) (go Z stopB K):=by
 have hem':=hLm .em
 rw [hem] at hem'
 obtain ⟨te,hte⟩:=hem'
 obtain ⟨tu,htu⟩:∃ tu,p ≠ .em → valueAt kvs (mk (pfxS p)) = some (sv (uriS (uriOf lm p)) tu):=by
  by_cases hpe:p = .em
  · exact ⟨0,fun q => absurd hpe q⟩
  · obtain ⟨u',hu'⟩:=hp hpe
    have:=hLm p
    rw [hu'] at this
    obtain ⟨tu,q⟩:=this
    exact ⟨tu,fun ι => by unfold uriOf; rw [hu']; exact q⟩
 refine letG ?_; intro c l N1
 refine nx ?_
 refine ld 3 B.levels ?_
 refine gpo 5 ?_
 refine poL 5 ?_ (hz:=szl (ltr hzl (by decide)))
 refine stc 0 B.level B.cl ?_
 refine nx ?_
 refine ld 0 B.events ?_
 refine gap 2 ?_
 refine csM kEnd ?_; intro c l N1 t1
 refine gl B.full (by k_is) ?_
 refine cwf ?_
 refine slX ?_
 refine ldc 1 B.text B.ct ?_
 refine ld 4 B.at' ?_
 refine ci ?_; intro c l N1 _
 refine adN 2 ?_; intro c l N1 _
 refine ld 5 B.stop ?_
 refine sl2 ?_; intro c l N1 _
 rw [hs]
 refine ldc 0 B.level B.cl ?_
 refine ldc 0 B.level B.cl ?_
 refine csM (pfxS .em) ?_; intro c l N1 _
 refine gds D ?_ (hv:=hte)
 refine c_full (p:=p) (b:=b) (x:=uriOf lm p) (bx:=e) (ltr hroom (by decide)) D htu (fun q => by subst q; unfold uriOf; rw [hem]; rfl) ?_; intro c l N1 tf
 refine nwT ?_; intro c l N1 g' b' le ho
 refine app 2 ?_ (hz:=szl (ltr hz (by decide)))
 refine nx ?_
 refine ld 2 B.names ?_
 refine gpo 4 ?_
 refine poL 4 ?_ (hz:=szl (ltr hzn (by decide)))
 refine slX ?_
 refine ldc 1 B.text B.ct ?_
 refine ld 4 B.at' ?_
 refine ci ?_; intro c l N1 _
 refine adN 2 ?_; intro c l N1 _
 refine ld 5 B.stop ?_
 refine sl2 ?_; intro c l N1 _
 rw [hs]
 refine neSN ?_
 exact h g' b' le ⟨_,_,_,rfl,ho⟩
end
noncomputable def nsL:Lvl:=[(.xml,.xml),(.html,.html),(.rdf,.rdf),(.wsdl,.wsdl),(.xs,.xs),(.xsi,.xsi),(.dc,.dc)]
theorem keysOf_lit {es:Array DictEntry} (hk:KeysLit w.params es.toList):KeysOf (PySem.strKind PG w) es:=fun e he => by
 obtain ⟨x,t,e1,e2⟩:=hk.all e (Array.mem_toList_iff.mpr he)
 exact ⟨x,by rw [e1]; exact strKind_is PG w x t,e2⟩
theorem nsMapK (X:(hd.heap_1 w.params).In H0.heap):PySem.Challenge.rw_dn0278_11 = PySem.Challenge.rw_dn0278_11 → ∃ kvs,(∃ od,H0.heap.get? 37 = some od ∧ Dct w kvs od) ∧ KV kvs (nsL.map fun e => (uriS e.1,pfxS e.2)):=by
 revert X; k_fill; intro X _
 have h:=X 37 _ (by k_is)
 refine ⟨[(Str.ofString "http://www.w3.org/XML/1998/namespace",.str (Str.ofString "xml") 323),(Str.ofString "http://www.w3.org/1999/xhtml",.str (Str.ofString "html") 325),(Str.ofString "http://www.w3.org/1999/02/22-rdf-syntax-ns#",.str (Str.ofString "rdf") 327),(Str.ofString "http://schemas.xmlsoap.org/wsdl/",.str (Str.ofString "wsdl") 329),(Str.ofString "http://www.w3.org/2001/XMLSchema",.str (Str.ofString "xs") 331),(Str.ofString "http://www.w3.org/2001/XMLSchema-instance",.str (Str.ofString "xsi") 333),(Str.ofString "http://purl.org/dc/elements/1.1/",.str (Str.ofString "dc") 335)],⟨_,h,_,_,⟨rfl,rfl,rfl⟩,rfl,?_,?_,?_⟩,?_⟩
 · exact keysOf_lit (by show KeysLit _ [_,_,_,_,_,_,_]; k_keys)
 · exact .cons (strKind_is PG w _ _) rfl (.cons (strKind_is PG w _ _) rfl (.cons (strKind_is PG w _ _) rfl (.cons (strKind_is PG w _ _) rfl (.cons (strKind_is PG w _ _) rfl (.cons (strKind_is PG w _ _) rfl (.cons (strKind_is PG w _ _) rfl .nil))))))
 · decide +kernel
 · exact ⟨⟨(mk_sT _).symm,_,congrArg (Value.str · _) (show Str.ofString "xml" = mk (pfxS .xml) by decide +kernel)⟩,⟨(mk_sT _).symm,_,congrArg (Value.str · _) (show Str.ofString "html" = mk (pfxS .html) by decide +kernel)⟩,⟨(mk_sT _).symm,_,congrArg (Value.str · _) (show Str.ofString "rdf" = mk (pfxS .rdf) by decide +kernel)⟩,⟨(mk_sT _).symm,_,congrArg (Value.str · _) (show Str.ofString "wsdl" = mk (pfxS .wsdl) by decide +kernel)⟩,⟨(mk_sT _).symm,_,congrArg (Value.str · _) (show Str.ofString "xs" = mk (pfxS .xs) by decide +kernel)⟩,⟨(mk_sT _).symm,_,congrArg (Value.str · _) (show Str.ofString "xsi" = mk (pfxS .xsi) by decide +kernel)⟩,⟨(mk_sT _).symm,_,congrArg (Value.str · _) (show Str.ofString "dc" = mk (pfxS .dc) by decide +kernel)⟩,trivial⟩
open Builtin Builtin.Str in
theorem in_gap (c:Nat):(!(Builtin.Str.occurrences (mk [32,62]) (mk [c]) 0 (mk [32,62]).length 1).isEmpty) = decide (c = 32 ∨ c = 62):=by
 by_cases h1:c = 32
 · subst h1; decide +kernel
 by_cases h2:c = 62
 · subst h2; decide +kernel
 · rw [decide_eq_false (fun q => q.elim h1 h2),StrLaws.occ_eq,occ_skip]
   · rfl
   · intro i hi q
     have:=q.2
     rw [occ_sub] at this
     have ho:Occ [32,62] [c] i:=of_decide_eq_true this
     have hl:=ho.len (List.cons_ne_nil _ _)
     match i,hl with
     | 0,_ => exact h1 (List.cons.inj ho).1.symm
     | 1,_ => exact h2 (List.cons.inj ho).1.symm
     | i + 2,hl => exact absurd hl (Nat.not_le.mpr (Nat.lt_add_of_pos_left (Nat.succ_pos i)))
noncomputable def minSc:Scope:=lcSc ((evE (cpS (atB readS 0))).es.headD dkE)
section
variable {g:Addr → Option Obj} {N:Ldg} {V:RA} {a:Nat} {ta:Tok} {sp nm pr lvc:Option Value} {o:Nat → Option Value} {X:T} {evs ms nms lvs:List Value}
theorem min_sc (h:env.cells.lookup (Str.ofString "text") = some cT):ScOk env [(Str.ofString "text",cT)] minSc:=⟨closOne (pre:=minSc.names.take 2) (post:=[]) rfl rfl rfl h,rfl,by decide +kernel,by decide +kernel⟩
theorem inG {x:Nat} {u:Tok} {l:Fr1} (h1:let c':=c; let l':=l; let N':=N; (x = 32 ∨ x = 62) → G Z g l' N' (rsB c' true)) (h2:let c':=c; let l':=l; let N':=N; ¬ (x = 32 ∨ x = 62) → G Z g l' N' (rsB c' false))
 (hc:autoParam (HdC .In (sv [x] t) (sv [32,62] u) c) aR):G Z g l N c:=two (hc:=hc) (fun S q => in_str (by rw [in_gap]; exact q _ S)) h1 h2
theorem ints_snoc {n:Int} {vs:List Value} {ns:List Int} (h:IntsAre vs ns):IntsAre (vs ++ [.int n t]) (ns ++ [n]):=by
 induction h with
 | nil => exact .cons _ _ .nil
 | cons k u h ih => exact .cons _ _ ih
theorem minR {k0 x0:Nat} {r:List Stmt} (B:REn Z.env cT cL) (hY:Y.length ≤ 1000000) (hg:Y[a + k0]? = some x0) (hx0:x0 = 32 ∨ x0 = 62) (hno:∀ i,i < k0 → ∀ x,Y[a + i]? = some x → ¬ (x = 32 ∨ x = 62))
 (h:∀ g' tj,gLe g g' → G Z g' (rdF V (.int (a:Nat) ta) (some (.int ((a + k0:Nat):Int) tj)) nm pr o) (rdL V cT cL (Cel (some (sv Y tY))) lvc evs ms nms lvs N) (seqT r K)) :
 G Z g (rdF V (.int (a:Nat) ta) sp nm pr o) (rdL V cT cL (Cel (some (sv Y tY))) lvc evs ms nms lvs N) (go Z (atB readS 0 :: r) K):=by
 have hlt:=(List.getElem?_eq_some_iff.mp hg).1
 obtain ⟨n,hn⟩:∃ n,Y.length = a + n:=⟨Y.length - a,(Nat.add_sub_cancel' (ltr (Nat.le_add_right a k0) (Nat.le_of_lt hlt))).symm⟩
 have hk0:k0 < n:=Nat.lt_of_add_lt_add_left (hn ▸ hlt)
 refine letG ?_; intro c l N1
 refine nx ?_
 refine bl (v:=.builtin "min") B.min (by k_is) boot_min (by decide) ?_
 refine lcG (min_sc B.ct) ?_
 refine bl (v:=.type "range") B.range (by k_is) boot_range (by decide) ?_
 refine ld 4 B.at' ?_
 refine bl (v:=.builtin "len") B.len (by k_is) boot_len (by decide) ?_
 refine ldc 1 B.text B.ct ?_
 refine lnT ?_; intro c l N1 _
 refine rg2 ?_; intro c l N1 g1 rr t1 t2 t3 le1 hr
 rw [hn] at hr
 let KI:Nat → (Addr → Option Obj) → List Value → Prop:=fun j g' out => g' = g1 ∧ j ≤ n ∧ out.length ≤ j ∧ ∃ ks,IntsAre out ks ∧ (∀ i ∈ ks,((a + k0:Nat):Int) ≤ i) ∧ (k0 < j → ((a + k0:Nat):Int) ∈ ks)
 refine coV (n:=n) (P:=Rg a n) (ok:=fun s => s.heap.get? rr = some (rgO ((a:Nat):Int) ((a + n:Nat):Int) t1 t2 t3)) (srcR (ltr (hn ▸ hY) (by decide))) (min_sc B.ct) ["k"]
  KI ?_ ?_ ?_ ?_ ?_ ?_
 · rintro j g' out ⟨_,h1,h2,_⟩
   exact ltr h2 (ltr h1 (ltr (Nat.le_add_left n a) (hn ▸ hY)))
 · intro N2 s g' le S
   exact S.keep _ _ (le _ _ hr)
 · rintro j g' out ⟨rfl,_⟩; exact gLe.rfl' _
 · exact ⟨rfl,Nat.zero_le _,Nat.le_refl _,[],.nil,fun _ h => absurd h List.not_mem_nil,fun h => absurd h (Nat.not_lt_zero _)⟩
 · rintro g' acc out ⟨rfl,_,_,ks,h1,h2,h3⟩
   have hm:=h3 hk0
   refine letG ?_; intro c l N1
   refine mnL 0 h1 (List.length_pos_of_mem hm) ?_; intro c l N1 M tM q1 q2
   have e:M = ((a + k0:Nat):Int):=Int.le_antisymm (q2 _ hm) (h2 _ q1)
   subst e
   refine st 5 B.stop ?_
   refine G.drop ?_
   exact h g' tM le1
 · rintro Lc hL E j v it acc g' out m Qe Qs hj ⟨t,rfl⟩ ⟨rfl,h0,hz,ks,h1,h2,h3⟩ q
   have hjl:a + j < Y.length:=by rw [hn]; exact Nat.add_lt_add_left hj a
   have hx:Y[a + j]? = some Y[a + j]:=List.getElem?_eq_getElem hjl
   generalize Y[a + j] = x at hx
   refine letG ?_; intro c l N1
   refine Mine.st 0 (loC rfl) ?_
   refine ldc 4 (loF rfl Z.kf B.text) rfl ?_
   refine ld 0 (loC rfl) ?_
   refine chT ?_; intro c l N1 _
   refine csM [32,62] ?_; intro c l N1 _
   refine inG ?_ ?_ <;> intro c l N1 hgap
   · refine ld 0 (loC rfl) ?_
     refine q.el ⟨rfl,hj,by rw [lap]; exact Nat.succ_le_succ hz,ks ++ [((a + j:Nat):Int)],ints_snoc h1,fun i hi => ?_,fun hk => ?_⟩
     · rcases List.mem_append.mp hi with hi | hi
       · exact h2 i hi
       · rw [List.mem_singleton.mp hi]
         refine Int.ofNat_le.mpr (Nat.add_le_add_left (Nat.le_of_not_lt fun hlt => hno j hlt x hx hgap) a)
     · rcases Nat.eq_or_lt_of_le (Nat.le_of_lt_succ hk) with e | e
       · exact List.mem_append_right _ (List.mem_singleton.mpr (by rw [e]))
       · exact List.mem_append_left _ (h3 e)
   · refine q.sk ⟨rfl,hj,Nat.le_succ_of_le hz,ks,h1,h2,fun hk => ?_⟩
     rcases Nat.eq_or_lt_of_le (Nat.le_of_lt_succ hk) with e | e
     · subst e
       rw [hg] at hx
       exact absurd (Option.some.inj hx ▸ hx0) hgap
     · exact h3 e
theorem swp3 {a b:Expr} {z:Str} {p tp vp:Pos} {vs:List Expr} (hz:env.kindOf z = some .cell):swappedStores [.Tuple [a,b,.Name z p] k1 tp] (.Tuple vs k2 vp) env = pure none:=by
 have hlen:∀ f:Expr → Option Str,f (.Name z p) = none → ((List.filterMap f [a,b,.Name z p]).length != 3) = true:=by
  intro f hf
  cases ha:f a <;> cases hb:f b <;> simp [List.filterMap_cons,ha,hb,hf]
 unfold swappedStores
 dsimp only
 split
 · rfl
 split
 · rfl
 refine (if_pos ?_).trans rfl
 rw [Bool.or_eq_true]
 exact .inl (hlen _ (by dsimp only; rw [hz]; rfl))
theorem notSys (C:Cx w H0) (h:H0.heap.objs.size ≤ D):(D == sysModules) = false:=by
 obtain ⟨_,⟨od,ho,_⟩,_⟩:=nsMapK C.X rfl
 have:sysModules < 37:=by decide
 exact beq_false_of_ne (Nat.ne_of_gt (Nat.lt_of_lt_of_le (Nat.lt_trans this (Heap.lt_size ho)) h))
theorem rdStart {dl:Addr} {lvs0:List Value} {kvs:List (Str × Value)} {lm:Lm} {p:Pfx} {b:Bool} {ns:Lvl} {ats:List ((Pfx × Bool) × T)} {e:Uri} {rows:List (T × T)} {R:T} (B:REn Z.env cT cL) (hroom:Z.d ≤ 880) (hY:Y.length ≤ 1000000)
 (hd:Y.drop a = [60] ++ qS p b ++ ((rowsOf ns ats).map rowS).flatten ++ [62] ++ R) (D0:GD Z.w g dl kvs) (hkl:kvs.length ≤ 50000) (hLm:LvR kvs lm) (hns:ns.length ≤ 4) (hal:ats.length ≤ 3)
 (hem:upd lm ns .em = some e) (hp:p ≠ .em → ∃ u,upd lm ns p = some u) (hat:∀ a ∈ ats,a.1.1 ≠ .em → ∃ u,upd lm ns a.1.1 = some u ∧ u ≠ .no) (hnd:((ats.map (atFull (upd lm ns))).map (·.1)).Nodup) (hrows:rows.Perm (ats.map (atFull (upd lm ns)))) (hasc:AscT rows)
 (hze:evs.length ≤ 1000) (hzm:ms.length ≤ 4000) (hzn:nms.length ≤ 1000) (hzl:lvs0.length + 1 ≤ 1001)
 (h:∀ g' D kvs' nm' pr' b' ms' o' tj tn,gLe g g' → EvR g' (.ref b') (.start (nameS (uriOf (upd lm ns) p,b)) rows) → Txs ms' (keysOf ats ++ [pfxS p]) → GD Z.w g' D kvs' → LvR kvs' (upd lm ns) → kvs'.length ≤ kvs.length + 4 →
  G Z g' (rdF V (.int (a:Nat) ta) (some (.int ((a + (([60] ++ qS p b).length + ((rowsOf ns ats).map rowS).flatten.length):Nat):Int) tj)) nm' pr' o') (rdL V cT cL (Cel (some (sv Y tY))) (some (.ref D)) (evs ++ [.ref b']) (ms ++ ms') (nms ++ [sv (qS p b) tn]) (lvs0 ++ [.ref dl] ++ [.ref D]) N) (K .next)) :
 G Z g (rdF V (.int (a:Nat) ta) sp nm pr o) (rdL V cT cL (Cel (some (sv Y tY))) lvc evs ms nms (lvs0 ++ [.ref dl]) N) (go Z readS K):=by
 have hd2:Y.drop (a + ([60] ++ qS p b).length) = ((rowsOf ns ats).map rowS).flatten ++ [62] ++ R:=by
  rw [← List.drop_drop,hd,List.append_assoc ([60] ++ qS p b),List.append_assoc ([60] ++ qS p b),List.drop_left]
 have hrl:(rowsOf ns ats).length ≤ 10:=by unfold rowsOf; rw [lap,List.length_map,List.length_map]; exact ltr (Nat.add_le_add hns hal) (by decide)
 obtain ⟨x0,hx,hx0⟩:∃ x0,Y[a + ([60] ++ qS p b).length]? = some x0 ∧ (x0 = 32 ∨ x0 = 62):=by
  cases e:rowsOf ns ats with
  | nil => exact ⟨62,get_at (b:=R) (by rw [hd2,e]; rfl),.inr rfl⟩
  | cons r rs =>
   refine ⟨32,get_at (b:=_) (by rw [hd2,e,List.map_cons,List.flatten_cons,List.append_assoc,List.append_assoc]; rfl),.inl rfl⟩
 have hno:∀ i,i < ([60] ++ qS p b).length → ∀ x,Y[a + i]? = some x → ¬ (x = 32 ∨ x = 62):=by
  intro i hi x hx
  have hmem:x ∈ [60] ++ qS p b:=by
   have:(Y.drop a)[i]? = some x:=by rw [List.getElem?_drop]; exact hx
   rw [hd,List.append_assoc,List.append_assoc,List.getElem?_append_left hi] at this
   exact List.mem_of_getElem? this
  rcases List.mem_append.mp hmem with q | q
  · rw [List.mem_singleton.mp q]; decide
  · have:=qS_chars p b x q
    exact fun z => z.elim this.2.2.1 this.2.1
 refine minR (r:=readS.drop 1) B hY hx hx0 hno fun g1 tj le1 => ?_
 have hs1:(Y.drop (a + 1)).take (a + ([60] ++ qS p b).length - (a + 1)) = qS p b:=slice_at (b:=((rowsOf ns ats).map rowS).flatten ++ [62] ++ R) (by rw [← List.drop_drop,hd]; simp only [List.append_assoc]; rfl) (by rw [Nat.add_sub_add_left]; rfl)
 refine letG ?_; intro c l N1
 refine nx ?_
 refine tuA ?_ (hw:=swp3 B.level.k)
 refine slX ?_
 refine ldc 1 B.text B.ct ?_
 refine ld 4 B.at' ?_
 refine ci ?_; intro c l N1 _
 refine adN 1 ?_; intro c l N1 _
 refine ld 5 B.stop ?_
 refine sl2 ?_; intro c l N1 tn
 rw [hs1]
 refine nwL ?_; intro c l N1 P
 refine bl (v:=.type "dict") B.dict (by k_is) boot_dict (by decide) ?_
 refine ld 3 B.levels ?_
 refine ci ?_; intro c l N1 _
 refine neg ?_; intro c l N1 _
 refine last 6 ?_ (hx:=List.getLast?_concat)
 refine dcp (D0.up le1) (ltr hkl (by decide)) ?_; intro c l N1 D hD
 refine nwT ?_; intro c l N1 g2 tp le2 ho
 refine asU ho ?_
 refine st 6 B.name ?_
 refine st 7 B.pairs ?_
 refine stc 2 B.level B.cl ?_
 refine rowsW (r:=readS.drop 3) (o:=o) B hroom (fun r hr => ?_) hrl hY hd2 fun g3 vs tj3 o3 le3 hR => ?_
 · rcases List.mem_append.mp hr with q | q
   · obtain ⟨e,_,rfl⟩:=List.mem_map.mp q
     exact fun z => (xmlns_chars e.2 61 z).2.2.2.1 rfl
   · obtain ⟨e,_,rfl⟩:=List.mem_map.mp q
     exact fun z => (qS_chars e.1.1 e.1.2 61 z).2.2.2.1 rfl
 refine levelF (r:=readS.drop 4) (ns:=ns) (ats:=ats) B hkl hns hLm hR fun kvs' o4 hLv hz => ?_
 refine tailR (e:=e) (rows:=rows) B hroom hal hR hLv hem hp hat hnd hrows hasc hze hzm hzn (by rw [lap]; exact hzl) (notSys Z.C hD) fun g5 b' ms' o5 le5 hE hM hG => ?_
 rw [Nat.add_assoc]
 exact h g5 D kvs' _ _ b' ms' o5 tj3 tn (le1.tr (le2.tr (le3.tr le5))) hE hM hG hLv hz
end
section
variable {g:Addr → Option Obj} {N:Ldg}
theorem rdInit {r:List Stmt} (B:REn Z.env cT cL)
 (h:∀ g' V D t1 t2 t5,gLe g g' → GD Z.w g' D [(mk [],sv [] t1),(mk [120,109,108],sv (uriS .xml) t2)] → G Z g' (rdF V (.int (0:Nat) t5) none none none fun ι => none) (rdL V cT cL (Cel (some (sv Y tY))) none [] [] [] [.ref D] N) (seqT r K)) :
 G Z g (rdN.map fun x => (x,none)) ((cL,Cel none) :: (cT,Cel (some (sv Y tY))) :: N) (go Z (atB readB 0 :: r) K):=by
 refine letG ?_; intro c l N1
 refine nx ?_
 refine tuA ?_
 refine nwL ?_; intro c l N1 ev
 refine nwL ?_; intro c l N1 mr
 refine nwL ?_; intro c l N1 nm
 refine dc2 [] [120,109,108] [] (uriS .xml) ?_; intro c l N1 D t1 t2 hD
 refine nwL ?_; intro c l N1 lv
 refine ci ?_; intro c l N1 t5
 refine nwT ?_; intro c l N1 g1 tp le1 ho
 refine asU ho ?_
 refine st 0 B.events ?_
 refine st 1 B.marks ?_
 refine st 2 B.names ?_
 refine st 3 B.levels ?_
 refine st 4 B.at' ?_
 refine G.perm (.swap _ _ _) ?_
 refine G.fz fun g2 le2 hG => ?_
 refine G.perm (N1:=rdL ⟨ev,mr,nm,lv⟩ cT cL (Cel (some (sv Y tY))) none [] [] [] [.ref D] N) ?_ (h g2 ⟨ev,mr,nm,lv⟩ D t1 t2 t5 (le1.tr le2) ⟨hG,notSys Z.C hD⟩)
 have h1:[(lv,Lst [Value.ref D]),(nm,Lst []),(mr,Lst []),(ev,Lst [])].Perm [(ev,Lst []),(mr,Lst []),(nm,Lst []),(lv,Lst [Value.ref D])]:=(List.reverse_perm _).symm
 exact ((h1.append_right [(cL,Cel none),(cT,Cel (some (sv Y tY)))]).trans List.perm_append_comm).append_right N
variable {V:RA} {a:Nat} {ta tj:Tok} {sp nm pr lvc:Option Value} {o:Nat → Option Value} {evs ms nms lvs:List Value}
noncomputable def rdEnd (x:Nat):T:=if x = 60 then [62] else [60]
theorem rdIdx {x:Nat} {r:List Stmt} (B:REn Z.env cT cL) (hY:Y.length ≤ 1000000) (hx:Y[a]? = some x) (hex:∃ j,a ≤ j ∧ Occ Y (rdEnd x) j)
 (h:∀ j tj,a ≤ j → Occ Y (rdEnd x) j → (∀ i,a ≤ i → i < j → ¬ Occ Y (rdEnd x) i) → G Z g (rdF V (.int (a:Nat) ta) (some (.int (j:Nat) tj)) nm pr o) (rdL V cT cL (Cel (some (sv Y tY))) lvc evs ms nms lvs N) (seqT r K)) :
 G Z g (rdF V (.int (a:Nat) ta) sp nm pr o) (rdL V cT cL (Cel (some (sv Y tY))) lvc evs ms nms lvs N) (go Z (atB readW 0 :: r) K):=by
 have ha:a ≤ Y.length:=Nat.le_of_lt (List.getElem?_eq_some_iff.mp hx).1
 refine letG ?_; intro c l N1
 refine nx ?_
 refine ldc 1 B.text B.ct ?_
 refine gix ?_
 refine ldc 1 B.text B.ct ?_
 refine ld 4 B.at' ?_
 refine chT ?_; intro c l N1 _
 refine csM [60] ?_; intro c l N1 _
 refine neS ?_ ?_ <;> intro c l N1 hc
 · have e:rdEnd x = [60]:=if_neg fun e => hc (by rw [e])
   rw [e] at hex h
   refine csM [60] ?_; intro c l N1 _
   refine ld 4 B.at' ?_
   refine ixT ?_; intro c l N1 j tj p1 p2 p3
   refine st 5 B.stop ?_
   exact h j tj p1 p2 p3
 · have e:rdEnd x = [62]:=if_pos (List.cons.inj (Classical.not_not.mp hc)).1
   rw [e] at hex h
   refine csM [62] ?_; intro c l N1 _
   refine ld 4 B.at' ?_
   refine ixT ?_; intro c l N1 j tj p1 p2 p3
   refine st 5 B.stop ?_
   exact h j tj p1 p2 p3
theorem rdIf0 {x:Nat} {r:List Stmt} (B:REn Z.env cT cL) (hY:Y.length ≤ 1000000) (hx:Y[a]? = some x)
 (h1:x ≠ 60 → G Z g (rdF V (.int (a:Nat) ta) sp nm pr o) (rdL V cT cL (Cel (some (sv Y tY))) lvc evs ms nms lvs N) (go Z textB (nxT r K)))
 (h2:x = 60 → G Z g (rdF V (.int (a:Nat) ta) sp nm pr o) (rdL V cT cL (Cel (some (sv Y tY))) lvc evs ms nms lvs N) (go Z rE1 (nxT r K))) :
 G Z g (rdF V (.int (a:Nat) ta) sp nm pr o) (rdL V cT cL (Cel (some (sv Y tY))) lvc evs ms nms lvs N) (go Z (atB readW 1 :: r) K):=by
 refine letG ?_; intro c l N1
 refine nx ?_
 refine ldc 1 B.text B.ct ?_
 refine ld 4 B.at' ?_
 refine chT ?_; intro c l N1 _
 refine csM [60] ?_; intro c l N1 _
 refine neS ?_ ?_ <;> intro c l N1 hc
 · exact h1 fun e => hc (by rw [e])
 · exact h2 (List.cons.inj (Classical.not_not.mp hc)).1
theorem rdNext {j:Nat} (B:REn Z.env cT cL) (h:∀ t,G Z g (rdF V (.int ((j + 1:Nat):Int) t) (some (.int (j:Nat) tj)) nm pr o) (rdL V cT cL (Cel (some (sv Y tY))) lvc evs ms nms lvs N) (K .next)) :
 G Z g (rdF V (.int (a:Nat) ta) (some (.int (j:Nat) tj)) nm pr o) (rdL V cT cL (Cel (some (sv Y tY))) lvc evs ms nms lvs N) (go Z [atB readW 2] K):=by
 refine letG ?_; intro c l N1
 refine nx ?_
 refine ld 5 B.stop ?_
 refine ci ?_; intro c l N1 _
 refine adN 1 ?_; intro c l N1 t
 refine st 4 B.at' ?_
 exact h t
theorem rdIf1 {x:Nat} (B:REn Z.env cT cL) (hY:Y.length ≤ 1000000) (hx:Y[a + 1]? = some x)
 (h1:x = 33 → G Z g (rdF V (.int (a:Nat) ta) sp nm pr o) (rdL V cT cL (Cel (some (sv Y tY))) lvc evs ms nms lvs N) (go Z comB (nxT [] K)))
 (h2:x ≠ 33 → G Z g (rdF V (.int (a:Nat) ta) sp nm pr o) (rdL V cT cL (Cel (some (sv Y tY))) lvc evs ms nms lvs N) (go Z rE2 (nxT [] K))) :
 G Z g (rdF V (.int (a:Nat) ta) sp nm pr o) (rdL V cT cL (Cel (some (sv Y tY))) lvc evs ms nms lvs N) (go Z rE1 K):=by
 refine letG ?_; intro c l N1
 refine nx ?_
 refine ldc 1 B.text B.ct ?_
 refine ld 4 B.at' ?_
 refine ci ?_; intro c l N1 _
 refine adN 1 ?_; intro c l N1 _
 refine chT ?_; intro c l N1 _
 refine csM [33] ?_; intro c l N1 _
 refine eqS ?_ ?_ <;> intro c l N1 hc
 · exact h1 (List.cons.inj hc).1
 · exact h2 fun e => hc (by rw [e])
theorem rdIf2 {x:Nat} (B:REn Z.env cT cL) (hY:Y.length ≤ 1000000) (hx:Y[a + 1]? = some x)
 (h1:x = 63 → G Z g (rdF V (.int (a:Nat) ta) sp nm pr o) (rdL V cT cL (Cel (some (sv Y tY))) lvc evs ms nms lvs N) (go Z piB (nxT [] K)))
 (h2:x ≠ 63 → G Z g (rdF V (.int (a:Nat) ta) sp nm pr o) (rdL V cT cL (Cel (some (sv Y tY))) lvc evs ms nms lvs N) (go Z rE3 (nxT [] K))) :
 G Z g (rdF V (.int (a:Nat) ta) sp nm pr o) (rdL V cT cL (Cel (some (sv Y tY))) lvc evs ms nms lvs N) (go Z rE2 K):=by
 refine letG ?_; intro c l N1
 refine nx ?_
 refine ldc 1 B.text B.ct ?_
 refine ld 4 B.at' ?_
 refine ci ?_; intro c l N1 _
 refine adN 1 ?_; intro c l N1 _
 refine chT ?_; intro c l N1 _
 refine csM [63] ?_; intro c l N1 _
 refine eqS ?_ ?_ <;> intro c l N1 hc
 · exact h1 (List.cons.inj hc).1
 · exact h2 fun e => hc (by rw [e])
theorem rdIf3 {x:Nat} (B:REn Z.env cT cL) (hY:Y.length ≤ 1000000) (hx:Y[a + 1]? = some x)
 (h1:x = 47 → G Z g (rdF V (.int (a:Nat) ta) sp nm pr o) (rdL V cT cL (Cel (some (sv Y tY))) lvc evs ms nms lvs N) (go Z stopB (nxT [] K)))
 (h2:x ≠ 47 → G Z g (rdF V (.int (a:Nat) ta) sp nm pr o) (rdL V cT cL (Cel (some (sv Y tY))) lvc evs ms nms lvs N) (go Z readS (nxT [] K))) :
 G Z g (rdF V (.int (a:Nat) ta) sp nm pr o) (rdL V cT cL (Cel (some (sv Y tY))) lvc evs ms nms lvs N) (go Z rE3 K):=by
 refine letG ?_; intro c l N1
 refine nx ?_
 refine ldc 1 B.text B.ct ?_
 refine ld 4 B.at' ?_
 refine ci ?_; intro c l N1 _
 refine adN 1 ?_; intro c l N1 _
 refine chT ?_; intro c l N1 _
 refine csM [47] ?_; intro c l N1 _
 refine eqS ?_ ?_ <;> intro c l N1 hc
 · exact h1 (List.cons.inj hc).1
 · exact h2 fun e => hc (by rw [e])
end
structure RdS (w:World) (g':Addr → Option Obj) (rdc:Rd) (n:Nat) (evs ms nms lvs:List Value):Prop where
 e:EvsR g' evs rdc.evs
 m:Txs ms rdc.marks
 k:Txs nms (rdc.names.reverse.map fun q => qS q.1 q.2)
 l:LvsR w g' lvs.reverse rdc.levels
 z1:evs.length + n ≤ 1000
 z2:ms.length ≤ 4 * evs.length
 z3:nms.length ≤ evs.length
 z4:lvs.length ≤ evs.length + 1
inductive RdK (w:World) (g:Addr → Option Obj) (V:RA) (cT cL:Addr) (Y:T) (tY:Tok) (N:Ldg) (rd:Rd):Nat → (Addr → Option Obj) → Fr1 → Ldg → Prop
 | mk {g' rest rdc a ta sp nm pr o lvc nms lvs evs ms} (le:gLe g g') (hdr:Y.drop a = textOf rest) (hok:okSeq rest) (hst:RSteps rdc rest rd) (S:RdS w g' rdc rest.length evs ms nms lvs) :
  RdK w g V cT cL Y tY N rd rest.length g' (rdF V (.int (a:Nat) ta) sp nm pr o) (rdL V cT cL (Cel (some (sv Y tY))) lvc evs ms nms lvs N)
section
variable {g:Addr → Option Obj} {N:Ldg} {V:RA}
theorem lvs_top {lvs:List Value} {lm:Lm} {ls:List Lm} (h:LvsR w g lvs.reverse (lm :: ls)) :
 ∃ lvs' dl kvs,lvs = lvs' ++ [.ref dl] ∧ GD w g dl kvs ∧ LvR kvs lm ∧ kvs.length ≤ 4 * (ls.length + 1) ∧ LvsR w g lvs'.reverse ls:=by
 cases e1:lvs.reverse with
 | nil => rw [e1] at h; exact h.elim
 | cons v vs =>
  rw [e1] at h
  obtain ⟨⟨dl,kvs,rfl,G,q1,q2⟩,hr⟩:=h
  exact ⟨vs.reverse,dl,kvs,by rw [← List.reverse_cons,← e1,List.reverse_reverse],G,q1,q2,by rw [List.reverse_reverse]; exact hr⟩
theorem txs_top {x:T} {xs:List T} {vs:List Value} (h:Txs vs (xs ++ [x])):∃ vs' tn,vs = vs' ++ [sv x tn] ∧ Txs vs' xs:=by
 obtain ⟨vs',v,e,h1,tn,rfl⟩:=F2.last h
 exact ⟨vs',tn,e,h1⟩
theorem rdFin {g2:Addr → Option Obj} {it:Itm} {its:List Itm} {rd2 rd:Rd} {a j:Nat} {tj:Tok} {nm pr lvc:Option Value} {o:Nat → Option Value} {evs ms nms lvs:List Value} (le:gLe g g2) (hdr:Y.drop a = textOf (it :: its)) (hj:j + 1 = a + (itemS it).length) (hok:okSeq its) (hst:RSteps rd2 its rd) (S:RdS w g2 rd2 its.length evs ms nms lvs) :
 RdK w g V cT cL Y tY N rd its.length g2 (rdF V (.int ((j + 1:Nat):Int) t) (some (.int (j:Nat) tj)) nm pr o) (rdL V cT cL (Cel (some (sv Y tY))) lvc evs ms nms lvs N):=by
 refine .mk le ?_ hok hst S
 have e:textOf (it :: its) = itemS it ++ textOf its:=rfl
 rw [hj,← List.drop_drop,hdr,e,List.drop_left]
theorem RdS.ev {g2:Addr → Option Obj} {rdc:Rd} {n:Nat} {evs ms nms lvs:List Value} {v:Value} {e:Ev} (S:RdS w g rdc (n + 1) evs ms nms lvs) (le:gLe g g2) (h:EvR g2 v e):RdS w g2 { rdc with evs:=rdc.evs ++ [e] } n (evs ++ [v]) ms nms lvs:=
 ⟨EvsR.snoc h (S.e.up le),S.m,S.k,S.l.up le,by rw [lap]; show evs.length + 1 + n ≤ 1000; rw [Nat.add_assoc,Nat.add_comm 1]; exact S.z1,by rw [lap]; exact ltr S.z2 (Nat.mul_le_mul_left _ (Nat.le_add_right _ _)),by rw [lap]; exact Nat.le_succ_of_le S.z3,by rw [lap]; exact Nat.le_succ_of_le S.z4⟩
theorem rdWhile {its:List Itm} {rd:Rd} {t5:Tok} {r:List Stmt} (B:REn Z.env cT cL) (hroom:Z.d ≤ 880) (hY:Y.length ≤ 1000000) (hzi:its.length ≤ 1000) (hd:Y = textOf its) (hok:okSeq its) (hR:RSteps ⟨[],[],[],[lm0]⟩ its rd) (hG:GD Z.w g D [(mk [],sv [] t1),(mk [120,109,108],sv (uriS .xml) t2)])
 (h:∀ g' lvc a sp nm pr o nms lvs evs ms,gLe g g' → EvsR g' evs rd.evs → Txs ms rd.marks → G Z g' (rdF V a sp nm pr o) (rdL V cT cL (Cel (some (sv Y tY))) lvc evs ms nms lvs N) (seqT r K)) :
 G Z g (rdF V (.int (0:Nat) t5) none none none fun ι => none) (rdL V cT cL (Cel (some (sv Y tY))) none [] [] [] [.ref D] N) (go Z (atB readB 1 :: r) K):=by
 refine nx ?_
 let KI:Nat → (Addr → Option Obj) → Fr1 → Ldg → Prop:=RdK Z.w g V cT cL Y tY N rd
 refine whG its.length KI (.mk (gLe.rfl' g) (by rw [List.drop_zero]; exact hd) hok hR ⟨trivial,trivial,trivial,⟨⟨D,_,rfl,hG,lvR0 t1 t2,by show 2 ≤ 4 * (0 + 1); decide⟩,trivial⟩,by rw [List.length_nil,Nat.zero_add]; exact hzi,Nat.le_refl _,Nat.le_refl _,Nat.le_refl _⟩) ?_
 intro n g' l N' E Q Qf I q
 cases I with | mk le hdr hok hst S => ?_
 rename_i rest rdc a ta sp nm pr o lvc nms lvs evs ms
 refine letG ?_; intro c l N1
 refine ld 4 B.at' ?_
 refine bl (v:=.builtin "len") B.len (by k_is) boot_len (by decide) ?_
 refine ldc 1 B.text B.ct ?_
 refine lnT ?_; intro c l N1 _
 cases hst with
 | nil =>
  have hn:¬ ((a:Nat):Int) < (Y.length:Nat):=fun hlt => by
   have h1:=congrArg List.length hdr
   rw [List.length_drop] at h1
   exact absurd (Int.ofNat_lt.mp hlt) (Nat.not_lt.mpr (Nat.le_of_sub_eq_zero h1))
  refine ltI (fun hlt => absurd hlt hn) ?_; intro c l N1 _
  exact q.off (h g' lvc _ sp nm pr o nms lvs evs ms le S.e S.m)
 | cons st1 hst2 =>
  rename_i rd2 it its'
  have e0:Y.drop a = itemS it ++ textOf its':=hdr
  have hitm:itemS it ≠ []:=item_ne it (fun x e => by subst e; cases st1; assumption)
  have hlt:a < Y.length:=by
   have h1:=len_at e0 (fun e => hitm (List.append_eq_nil_iff.mp e).1)
   rw [← h1]; exact Nat.lt_add_of_pos_right (by rw [lap]; exact Nat.lt_of_lt_of_le (List.length_pos_iff.mpr hitm) (Nat.le_add_right _ _))
  have z1:evs.length + 1 + its'.length ≤ 1000:=by rw [Nat.add_assoc,Nat.add_comm 1]; exact S.z1
  have ze:evs.length ≤ 1000:=ltr (Nat.le_add_right _ _) S.z1
  refine ltI ?_ (fun hn => absurd (Int.ofNat_lt.mpr hlt) hn); intro c l N1 _
  cases st1 with
  | com hx1 =>
   rename_i x
   have hg0:Y[a]? = some 60:=get_at (b:=[33,45,45] ++ escC x ++ [45,45,62] ++ textOf its') (by rw [e0]; rfl)
   have hg1:Y[a + 1]? = some 33:=get_at (b:=[45,45] ++ escC x ++ [45,45,62] ++ textOf its') (by rw [← List.drop_drop,e0]; rfl)
   have e1:Y.drop a = [60,33,45,45] ++ escC x ++ [45,45] ++ [62] ++ textOf its':=by rw [e0]; show comS x ++ _ = _; unfold comS; simp only [List.append_assoc]; rfl
   refine rdIdx (Z:=Z.sE E) (r:=readW.drop 1) (x:=60) B hY hg0 ⟨_,Nat.le_add_right _ _,occ_at e1⟩ fun j tj p1 p2 p3 => ?_
   have ej:j = a + ([60,33,45,45] ++ escC x ++ [45,45]).length:=least_at (c:=62) (y:=[]) e1 (by have:=escC_gt x; simp [this]) p1 p2 p3
   have ej1:j + 1 = a + (comS x).length:=by
    rw [ej]; show _ = a + (comS x).length
    unfold comS; simp only [lap,List.length_cons,List.length_nil,Nat.add_assoc]
   refine rdIf0 (Z:=Z.sE E) (r:=readW.drop 2) (x:=60) B hY hg0 (fun h => absurd rfl h) fun ι => ?_
   refine rdIf1 (Z:=Z.sE E) (x:=33) B hY hg1 (fun ι => ?_) (fun h => absurd rfl h)
   refine rdCom (Z:=Z.sE E) (X:=comS x) B hroom hY ze (slice_at e0 (by rw [ej1]; exact Nat.add_sub_cancel_left ..)) fun g2 b le2 hrow => ?_
   refine rdNext (Z:=Z.sE E) B fun t => ?_
   rw [plain_com] at hrow
   exact q.go (rdFin (rd2:={ rdc with evs:=rdc.evs ++ [comE x] }) (le.tr le2) hdr ej1 hok.2 hst2 (S.ev le2 hrow)) (Nat.lt_succ_self _)
  | pi hx1 =>
   rename_i x
   obtain ⟨pr,hpr,hpn⟩:∃ pr:T,piS x = [60,63] ++ pr ++ [62] ∧ 62 ∉ [60,63] ++ pr:=by
    unfold piS
    split
    · exact ⟨[116,63],rfl,by decide⟩
    · exact ⟨[116,32] ++ escC x ++ [63],by simp,by have:=escC_gt x; simp [this]⟩
   have e1:Y.drop a = [60,63] ++ pr ++ [62] ++ textOf its':=by rw [e0,← hpr]; rfl
   have hg0:Y[a]? = some 60:=get_at (b:=[63] ++ pr ++ [62] ++ textOf its') (by rw [e1]; rfl)
   have hg1:Y[a + 1]? = some 63:=get_at (b:=pr ++ [62] ++ textOf its') (by rw [← List.drop_drop,e1]; rfl)
   refine rdIdx (Z:=Z.sE E) (r:=readW.drop 1) (x:=60) B hY hg0 ⟨_,Nat.le_add_right _ _,occ_at e1⟩ fun j tj p1 p2 p3 => ?_
   have ej:j = a + ([60,63] ++ pr).length:=least_at (c:=62) (y:=[]) e1 hpn p1 p2 p3
   have ej1:j + 1 = a + (piS x).length:=by rw [ej,hpr,lap (bs:=[62])]; rfl
   refine rdIf0 (Z:=Z.sE E) (r:=readW.drop 2) (x:=60) B hY hg0 (fun h => absurd rfl h) fun ι => ?_
   refine rdIf1 (Z:=Z.sE E) (x:=63) B hY hg1 (fun h => absurd h (by decide)) fun ι => ?_
   refine rdIf2 (Z:=Z.sE E) (x:=63) B hY hg1 (fun ι => ?_) (fun h => absurd rfl h)
   refine rdPi (Z:=Z.sE E) (X:=piS x) B hroom hY ze (slice_at e0 (by rw [ej1]; exact Nat.add_sub_cancel_left ..)) fun g2 b le2 hrow => ?_
   refine rdNext (Z:=Z.sE E) B fun t => ?_
   rw [plain_pi] at hrow
   exact q.go (rdFin (rd2:={ rdc with evs:=rdc.evs ++ [piE x] }) (le.tr le2) hdr ej1 hok.2 hst2 (S.ev le2 hrow)) (Nat.lt_succ_self _)
  | text hx1 hx2 =>
   rename_i x
   obtain ⟨i2,its2,e2,hi2⟩:=hok.1 rfl
   obtain ⟨q2,hq2⟩:=item_lt hi2
   obtain ⟨c0,r0,hc0⟩:∃ c0 r0,itemS (.text x) = c0 :: r0:=by
    cases e:itemS (.text x) with
    | nil => exact absurd e hitm
    | cons c r => exact ⟨c,r,rfl⟩
   have hg0:Y[a]? = some c0:=get_at (b:=r0 ++ textOf its') (by rw [e0,hc0]; rfl)
   have hne:c0 ≠ 60:=fun h => nomatch (tx_head hc0).mp h
   have hE:rdEnd c0 = [60]:=if_neg hne
   have e1:Y.drop a = escC x ++ [60] ++ (q2 ++ textOf its2):=by
    rw [e0,e2]
    show escC x ++ (itemS i2 ++ textOf its2) = _
    rw [hq2]; simp only [List.append_assoc]; rfl
   obtain ⟨m,hm⟩:∃ m,(escC x).length = m + 1:=⟨(escC x).length - 1,(Nat.sub_add_cancel (List.length_pos_iff.mpr (escC_ne hx1))).symm⟩
   refine rdIdx (Z:=Z.sE E) (r:=readW.drop 1) (x:=c0) B hY hg0 (by rw [hE]; exact ⟨_,Nat.le_add_right _ _,occ_at e1⟩) fun j tj p1 p2 p3 => ?_
   rw [hE] at p2 p3
   have ej:j = a + m + 1:=(least_at (c:=60) (y:=[]) e1 (by have:=escC_lt x; simp [this]) p1 p2 p3).trans (by rw [hm]; rfl)
   subst ej
   have ej1:a + m + 1 = a + (itemS (.text x)).length:=by show _ = a + (escC x).length; rw [hm]; rfl
   refine rdIf0 (Z:=Z.sE E) (r:=readW.drop 2) (x:=c0) B hY hg0 (fun ι => ?_) (fun h => absurd h hne)
   refine rdText (Z:=Z.sE E) (X:=escC x) B hroom hY ze (slice_at e0 (by rw [ej1]; exact Nat.add_sub_cancel_left ..)) fun g2 b tj2 le2 hrow => ?_
   refine rdNext (Z:=Z.sE E) B fun t => ?_
   rw [plain_text] at hrow
   exact q.go (rdFin (rd2:={ rdc with evs:=rdc.evs ++ [.two kText x] }) (le.tr le2) hdr ej1 hok.2 hst2 (S.ev le2 hrow)) (Nat.lt_succ_self _)
  | stop hl hn hem hp =>
   rename_i p b lm ls ns e
   obtain ⟨lvs',dl,kvs,rfl,G0,hLm,hkl,hLv'⟩:=lvs_top (hl ▸ S.l)
   obtain ⟨nms',tn,rfl,hNm'⟩:=txs_top (xs:=ns.reverse.map fun q => qS q.1 q.2) (x:=qS p b) (by have:=S.k; rw [hn,List.reverse_cons,List.map_append] at this; exact this)
   have e1:Y.drop a = [60,47] ++ qS p b ++ [62] ++ textOf its':=e0
   have hg0:Y[a]? = some 60:=get_at (b:=[47] ++ qS p b ++ [62] ++ textOf its') (by rw [e1]; rfl)
   have hg1:Y[a + 1]? = some 47:=get_at (b:=qS p b ++ [62] ++ textOf its') (by rw [← List.drop_drop,e1]; rfl)
   have hz3:nms'.length + 1 ≤ evs.length:=by have:=S.z3; rw [lap] at this; exact this
   have hz4:lvs'.length ≤ evs.length:=by have:=S.z4; rw [lap] at this; exact Nat.le_of_succ_le_succ this
   refine rdIdx (Z:=Z.sE E) (r:=readW.drop 1) (x:=60) B hY hg0 ⟨_,Nat.le_add_right _ _,occ_at e1⟩ fun j tj p1 p2 p3 => ?_
   have ej:j = a + ([60,47] ++ qS p b).length:=least_at (c:=62) (y:=[]) e1 (fun hm => by
    rcases List.mem_append.mp hm with q | q
    · revert q; decide
    · exact (qS_chars p b 62 q).2.1 rfl) p1 p2 p3
   have ej1:j + 1 = a + (itemS (.stop p b)).length:=by rw [ej]; exact congrArg (a + ·) (lap (as:=[60,47] ++ qS p b) (bs:=[62])).symm
   have hsl:(Y.drop (a + 2)).take (j - (a + 2)) = qS p b:=slice_at (b:=[62] ++ textOf its') (by rw [← List.drop_drop,e1]; exact List.append_assoc (qS p b) _ _) (by rw [ej,Nat.add_sub_add_left]; rfl)
   refine rdIf0 (Z:=Z.sE E) (r:=readW.drop 2) (x:=60) B hY hg0 (fun h => absurd rfl h) fun ι => ?_
   refine rdIf1 (Z:=Z.sE E) (x:=47) B hY hg1 (fun h => absurd h (by decide)) fun ι => ?_
   refine rdIf2 (Z:=Z.sE E) (x:=47) B hY hg1 (fun h => absurd h (by decide)) fun ι => ?_
   refine rdIf3 (Z:=Z.sE E) (x:=47) B hY hg1 (fun ι => ?_) (fun h => absurd rfl h)
   refine rdStop (Z:=Z.sE E) (e:=e) B hroom hY ze (ltr hz3 ze) (Nat.succ_le_succ (ltr hz4 ze)) hsl G0 hLm hem hp fun g2 b' le2 hrow => ?_
   refine rdNext (Z:=Z.sE E) B fun t => ?_
   exact q.go (rdFin (rd2:={ rdc with evs:=rdc.evs ++ [.two kEnd (nameS (uriOf lm p,b))],names:=ns,levels:=ls }) (le.tr le2) hdr ej1 hok.2 hst2 ⟨EvsR.snoc (show EvR g2 (.ref b') (.two kEnd (nameS (uriOf lm p,b))) from hrow) (S.e.up le2),S.m,hNm',hLv'.up le2,by rw [lap]; exact z1,by rw [lap]; exact ltr S.z2 (Nat.mul_le_mul_left _ (Nat.le_add_right _ _)),by rw [lap]; exact Nat.le_succ_of_le (Nat.le_of_succ_le hz3),by rw [lap]; exact ltr hz4 (Nat.le_add_right _ 2)⟩) (Nat.lt_succ_self _)
  | start hl hem hp hat h3 h4 h5 h6 h7 h8 =>
   rename_i p b ns ats lm ls e rows
   obtain ⟨lvs0,dl,kvs,rfl,G0,hLm,hkl,_⟩:=lvs_top (hl ▸ S.l)
   have e1:Y.drop a = [60] ++ qS p b ++ ((rowsOf ns ats).map rowS).flatten ++ [62] ++ textOf its':=e0
   obtain ⟨c1,r1,hc1⟩:∃ c1 r1,qS p b = c1 :: r1:=by
    cases hq:qS p b with
    | nil => exact absurd hq (qS_ne p b)
    | cons c r => exact ⟨c,r,rfl⟩
   have hqc:=qS_chars p b c1 (hc1 ▸ List.mem_cons_self ..)
   have hg0:Y[a]? = some 60:=get_at (b:=qS p b ++ ((rowsOf ns ats).map rowS).flatten ++ [62] ++ textOf its') (by rw [e1]; rfl)
   have hg1:Y[a + 1]? = some c1:=get_at (b:=r1 ++ ((rowsOf ns ats).map rowS).flatten ++ [62] ++ textOf its') (by rw [← List.drop_drop,e1,hc1]; rfl)
   have hz4:lvs0.length ≤ evs.length:=by have:=S.z4; rw [lap] at this; exact Nat.le_of_succ_le_succ this
   have hll:ls.length + 1 ≤ 1001:=by
    have h1:=S.l.len
    rw [hl,List.length_reverse,List.length_cons] at h1
    exact h1 ▸ ltr S.z4 (Nat.succ_le_succ ze)
   refine rdIdx (Z:=Z.sE E) (r:=readW.drop 1) (x:=60) B hY hg0 ⟨_,Nat.le_add_right _ _,occ_at e1⟩ fun j tj _ _ _ => ?_
   refine rdIf0 (Z:=Z.sE E) (r:=readW.drop 2) (x:=60) B hY hg0 (fun h => absurd rfl h) fun ι => ?_
   refine rdIf1 (Z:=Z.sE E) (x:=c1) B hY hg1 (fun h => absurd h hqc.2.2.2.2.2.1) fun ι => ?_
   refine rdIf2 (Z:=Z.sE E) (x:=c1) B hY hg1 (fun h => absurd h hqc.2.2.2.2.2.2.1) fun ι => ?_
   refine rdIf3 (Z:=Z.sE E) (x:=c1) B hY hg1 (fun h => absurd h hqc.2.2.2.2.2.2.2.1) fun ι => ?_
   refine rdStart (Z:=Z.sE E) (e:=e) (rows:=rows) B hroom hY e1 G0 (ltr hkl (ltr (Nat.mul_le_mul_left 4 hll) (by decide))) hLm h4 h3 hem hp hat h6 h7 h8 ze (ltr S.z2 (Nat.mul_le_mul_left 4 ze)) (ltr S.z3 ze) (Nat.succ_le_succ (ltr hz4 ze)) fun g2 D kvs' nm' pr' b' ms' o' tj2 tn le2 hE hM hG2 hLv2 hk2 => ?_
   refine rdNext (Z:=Z.sE E) B fun t => ?_
   have hmz:ms'.length ≤ 4:=by
    rw [hM.len,lap]
    refine Nat.succ_le_succ (ltr ?_ h3)
    unfold keysOf; rw [List.length_map]; exact List.length_filter_le _ _
   refine q.go (rdFin (rd2:={ evs:=rdc.evs ++ [.start (nameS (uriOf (upd lm ns) p,b)) rows],marks:=rdc.marks ++ (keysOf ats ++ [pfxS p]),names:=(p,b) :: rdc.names,levels:=upd lm ns :: rdc.levels }) (le.tr le2) hdr ?_ hok.2 hst2 ⟨EvsR.snoc hE (S.e.up le2),S.m.app hM,?_,?_,by rw [lap]; exact z1,?_,by rw [lap,lap]; exact Nat.succ_le_succ S.z3,by rw [lap,lap (as:=evs)]; exact Nat.succ_le_succ S.z4⟩) (Nat.lt_succ_self _)
   · rw [Nat.add_assoc,← lap]; exact congrArg (a + ·) (lap (as:=[60] ++ qS p b ++ ((rowsOf ns ats).map rowS).flatten) (bs:=[62])).symm
   · show Txs _ (((p,b) :: rdc.names).reverse.map fun q => qS q.1 q.2)
     rw [List.reverse_cons,List.map_append]
     exact S.k.app (Txs.one _ _)
   · rw [List.reverse_append]
     refine ⟨⟨D,kvs',rfl,hG2,hLv2,?_⟩,S.l.up le2⟩
     rw [hl]; exact ltr hk2 (Nat.add_le_add_right hkl 4)
   · rw [lap,lap]; exact Nat.add_le_add S.z2 hmz
end
noncomputable def tlL (bare:Bool):Lvl:=[(.u,.p),(.u,.q),(.v,.b),(.v,.c),(.w,if bare then .e else .em),(.w,.d)]
noncomputable def okD (bare:Bool):Lvl:=(.xml,.xml) :: (.xs,.xs) :: tlL bare
noncomputable def tagU (bare:Bool):List Uri:=[.xml,.xs,.u,.v,.w,if bare then .no else .u]
noncomputable def keyU (bare:Bool):List Uri:=[.no,.xml,.xs,.u,.v,if bare then .w else .no]
noncomputable def nmU:List Uri:=[.no,.xml,.xs,.u,.v,.w]
noncomputable def plU:List Uri:=[.no,.xs,.u,.v,.w]
noncomputable def fitP (rw bare:Bool):List Pfx:=if rw then [.xml,.n 0,.n 1,.n 2,.n 3,.n 4,.n 5,.n 6,.n 7,.n 8] else [.em,.xml,.xs,.p,.q,.b,.c,if bare then .e else .em,.d]
theorem sub_len {α:Type} [DecidableEq α]:∀ {l r:List α},l.Nodup → (∀ x ∈ l,x ∈ r) → l.length ≤ r.length
 | [],_,_,_ => Nat.zero_le _
 | a :: l,r,hn,hs => by
  have h1:=List.nodup_cons.mp hn
  have ha:a ∈ r:=hs a (List.mem_cons_self ..)
  have:=sub_len (r:=r.erase a) h1.2 fun x hx => (List.mem_erase_of_ne (fun e:x = a => h1.1 (by rw [← e]; exact hx))).mpr (hs x (List.mem_cons_of_mem _ hx))
  rw [List.length_erase_of_mem ha] at this
  have:0 < r.length:=List.length_pos_of_mem ha
  rw [List.length_cons]; lia
theorem lk_mem {x:Uri} {p:Pfx}:∀ {l:Lvl},(l.map (·.1)).Nodup → ((x,p) ∈ l ↔ l.lookup x = some p)
 | [],_ => by simp
 | (y,q) :: l,h => by
  have h1:=List.nodup_cons.mp (show (y :: l.map (·.1)).Nodup from h)
  rw [List.lookup_cons]
  by_cases e:x = y
  · subst e
    simp only [beq_self_eq_true]
    constructor
    · intro hm
      rcases List.mem_cons.mp hm with q' | q'
      · injection q' with _ q'; rw [q']
      · exact absurd (List.mem_map_of_mem (f:=(·.1)) q') h1.1
    · intro hq; injection hq with hq; rw [hq]; exact List.mem_cons_self ..
  · have:(x == y) = false:=beq_false_of_ne e
    rw [this]
    simp only [List.mem_cons,Prod.mk.injEq,e,false_and,false_or]
    exact lk_mem h1.2
theorem lk_none {x:Uri}:∀ {l:Lvl},l.lookup x = none ↔ ∀ p,(x,p) ∉ l
 | [] => by simp
 | (y,q) :: l => by
  rw [List.lookup_cons]
  by_cases e:x = y
  · subst e
    simp only [beq_self_eq_true]
    exact ⟨fun h => (by cases h),fun h => absurd (List.mem_cons_self ..) (h q)⟩
  · have:(x == y) = false:=beq_false_of_ne e
    rw [this]
    simp only [List.mem_cons,Prod.mk.injEq,e,false_and,false_or]
    exact lk_none
theorem lk_some {x:Uri} {l:Lvl} (h:∃ p,(x,p) ∈ l):∃ p,l.lookup x = some p:=by
 cases e:l.lookup x with
 | none => obtain ⟨p,hp⟩:=h; exact absurd hp (lk_none.mp e p)
 | some p => exact ⟨p,rfl⟩
theorem nth_lt {i:Nat} (h:i < 9):nth i = .n ⟨i,h⟩:=by unfold nth; rw [dif_pos h]
theorem nth_inj {i j:Nat} (hi:i < 9) (hj:j < 9) (h:nth i = nth j):i = j:=by
 rw [nth_lt hi,nth_lt hj] at h
 injection h with h
 exact congrArg (·.val) h
structure DOk (rw bare:Bool) (dl:List Lvl) (pl:Lvl):Prop where
 un:(dl.flatten.map (·.1)).Nodup
 ok:∀ e ∈ dl.flatten,if rw = true then e = (.xml,.xml) ∨ e ∈ pl else e ∈ okD bare
 base:dl.getLast? = some [(.xml,.xml)]
 pu:(pl.map (·.1)).Nodup
 pn:∀ i e,pl[i]? = some e → e.2 = nth i
 pk:∀ e ∈ pl,e.1 ∈ plU
 pf:rw = false → pl = []
variable {bare:Bool}
theorem DOk.plen (h:DOk rw bare dl pl):pl.length ≤ 5:=by
 have:=sub_len (r:=plU) h.pu (fun x hx => by obtain ⟨e,he,rfl⟩:=List.mem_map.mp hx; exact h.pk e he)
 rw [List.length_map] at this
 exact this
theorem DOk.pat (h:DOk rw bare dl pl) {e:Uri × Pfx} (he:e ∈ pl):∃ i,i < 5 ∧ pl[i]? = some e ∧ e.2 = nth i:=by
 obtain ⟨i,hi,e1⟩:=List.getElem_of_mem he
 have hq:pl[i]? = some e:=by rw [List.getElem?_eq_getElem hi,e1]
 have:=h.plen
 exact ⟨i,by lia,hq,h.pn i e hq⟩
theorem DOk.pem (h:DOk rw bare dl pl):∀ e ∈ pl,e.2 ≠ .em:=by
 intro e he
 obtain ⟨i,hi,_,e2⟩:=h.pat he
 rw [e2,nth_lt (by lia)]; exact fun z => by cases z
theorem okD_inj:∀ bare:Bool,∀ e ∈ okD bare,∀ e' ∈ okD bare,e.2 = e'.2 → e = e':=by decide
theorem DOk.inj (h:DOk rw bare dl pl) {e e':Uri × Pfx} (he:e ∈ dl.flatten) (he':e' ∈ dl.flatten) (q:e.2 = e'.2):e = e':=by
 have h1:=h.ok e he
 have h2:=h.ok e' he'
 cases rw with
 | false =>
  rw [if_neg (by decide)] at h1 h2
  exact okD_inj bare e h1 e' h2 q
 | true =>
  rw [if_pos rfl] at h1 h2
  rcases h1 with rfl | h1 <;> rcases h2 with rfl | h2
  · rfl
  · obtain ⟨i,hi,_,e2⟩:=h.pat h2
    rw [e2,nth_lt (by lia)] at q; cases q
  · obtain ⟨i,hi,_,e2⟩:=h.pat h1
    rw [e2,nth_lt (by lia)] at q; cases q
  · obtain ⟨i,hi,a1,e1⟩:=h.pat h1
    obtain ⟨j,hj,a2,e2⟩:=h.pat h2
    rw [e1,e2] at q
    have:=nth_inj (by lia) (by lia) q
    subst this
    rw [a1] at a2; exact Option.some.inj a2
theorem nodup_snd:∀ {l:Lvl},(l.map (·.1)).Nodup → (∀ e ∈ l,∀ e' ∈ l,e.2 = e'.2 → e = e') → (l.map (·.2)).Nodup
 | [],_,_ => .nil
 | a :: l,h,hi => by
  have h1:=List.nodup_cons.mp (show (a.1 :: l.map (·.1)).Nodup from h)
  refine List.nodup_cons.mpr ⟨fun hm => ?_,nodup_snd h1.2 fun e he e' he' => hi e (List.mem_cons_of_mem _ he) e' (List.mem_cons_of_mem _ he')⟩
  obtain ⟨e,he,q⟩:=List.mem_map.mp hm
  have:=hi e (List.mem_cons_of_mem _ he) a (List.mem_cons_self ..) q
  subst this
  exact h1.1 (List.mem_map_of_mem he)
theorem DOk.nd (h:DOk rw bare dl pl):(dl.flatten.map (·.2)).Nodup:=nodup_snd h.un fun _ he _ he' => h.inj he he'
theorem DOk.dlen (h:DOk rw bare dl pl):dl.flatten.length ≤ 11:=by
 have:=sub_len (r:=uris) h.un (fun x _ => by cases x <;> decide)
 rw [List.length_map] at this
 exact this
theorem DOk.xml (h:DOk rw bare dl pl):(.xml,.xml) ∈ dl.flatten:=by
 have:=List.mem_of_getLast? h.base
 exact List.mem_flatten.mpr ⟨_,this,List.mem_singleton.mpr rfl⟩
noncomputable def PfOk (rw:Bool) (u:Uri) (dl:List Lvl) (p:Pfx):Prop:=(rw = false ∧ u = .no ∧ p = .em) ∨ (u,p) ∈ dl.flatten
noncomputable def NOk (rw bare:Bool) (nl:List Lvl):Prop:=rw = false → ∀ e ∈ nl.flatten,e ∈ tlL bare ∨ e ∈ nsL
noncomputable def Hok (rw:Bool) (u:Uri) (nl:List Lvl):Prop:=rw = false → u = .no ∨ ∃ p,nl.flatten.lookup u = some p
theorem NOk.no (h:NOk rw bare nl):rw = false → nl.flatten.lookup .no = none:=fun hr => lk_none.mpr fun p hp => by
 have:∀ bare:Bool,∀ e ∈ tlL bare ++ nsL,e.1 ≠ .no:=by decide
 exact this bare _ (List.mem_append.mpr (h hr _ hp)) rfl
theorem nok_okD:∀ bare:Bool,∀ e ∈ tlL bare ++ nsL,e.1 ∈ nmU → e ∈ okD bare:=by decide
theorem push_flat (h:dl ≠ []) (e:Uri × Pfx):(push dl e).flatten.Perm (e :: dl.flatten):=by
 cases dl with
 | nil => exact absurd rfl h
 | cons t r =>
  show ((t ++ [e]) ++ r.flatten).Perm (e :: (t ++ r.flatten))
  rw [List.append_assoc]
  exact List.perm_middle
theorem push_last (h:2 ≤ dl.length) (e:Uri × Pfx):(push dl e).getLast? = dl.getLast?:=by
 match dl,h with
 | t :: r :: s,_ => show ((t ++ [e]) :: r :: s).getLast? = _; rw [List.getLast?_cons_cons,List.getLast?_cons_cons]
theorem DOk.push1 {e:Uri × Pfx} (h:DOk rw bare dl pl) (h2:2 ≤ dl.length) (hn:∀ p,(e.1,p) ∉ dl.flatten) (ho:if rw = true then e ∈ pl else e ∈ okD bare):DOk rw bare (push dl e) pl:=by
 have hp:=push_flat (dl:=dl) (fun z => by subst z; simp at h2) e
 refine ⟨?_,fun x hx => ?_,by rw [push_last h2]; exact h.base,h.pu,h.pn,h.pk,h.pf⟩
 · refine (hp.map (·.1)).nodup_iff.mpr ?_
   refine List.nodup_cons.mpr ⟨fun hm => ?_,h.un⟩
   obtain ⟨y,hy,q⟩:=List.mem_map.mp hm
   have q:y.1 = e.1:=q
   exact hn y.2 (by rw [← q]; exact hy)
 · rcases List.mem_cons.mp (hp.mem_iff.mp hx) with rfl | hx
   · cases rw with
     | true => rw [if_pos rfl] at ho ⊢; exact .inr ho
     | false => rw [if_neg (by decide)] at ho ⊢; exact ho
   · exact h.ok x hx
theorem DOk.snoc {u:Uri} (h:DOk true bare dl pl) (hn:pl.lookup u = none) (hu:u ∈ plU):DOk true bare dl (pl ++ [(u,nth pl.length)]):=by
 refine ⟨h.un,fun e he => ?_,h.base,?_,fun i e hi => ?_,fun e he => ?_,fun z => by cases z⟩
 · have:=h.ok e he
   rw [if_pos rfl] at this ⊢
   exact this.imp id (List.mem_append_left _)
 · rw [List.map_append]
   refine List.nodup_append.mpr ⟨h.pu,by simp,fun a ha b hb => ?_⟩
   have hb:b = u:=by simpa using hb
   obtain ⟨y,hy,rfl⟩:=List.mem_map.mp ha
   intro z
   exact lk_none.mp hn y.2 (by rw [← hb,← z]; exact hy)
 · by_cases hl:i < pl.length
   · rw [List.getElem?_append_left hl] at hi; exact h.pn i e hi
   · rw [List.getElem?_append_right (by lia)] at hi
     cases hk:i - pl.length with
     | zero =>
      rw [hk] at hi; have:(u,nth pl.length) = e:=by simpa using hi
      rw [← this,show i = pl.length by lia]
     | succ k => rw [hk] at hi; simp at hi
 · rcases List.mem_append.mp he with q | q
   · exact h.pk e q
   · rw [List.mem_singleton] at q; rw [q]; exact hu
theorem qn_ok {u:Uri} (h:DOk rw bare dl pl) (h2:2 ≤ dl.length) (hN:NOk rw bare nl) (hu:u ∈ nmU) (hk:Hok rw u nl) :
 DOk rw bare (qn rw dl nl pl u).decl (qn rw dl nl pl u).pm ∧ PfOk rw u (qn rw dl nl pl u).decl (qn rw dl nl pl u).p ∧ (∀ e ∈ dl.flatten,e ∈ (qn rw dl nl pl u).decl.flatten) ∧ (qn rw dl nl pl u).decl.length = dl.length:=by
 refine ⟨?_,?_,?_,qn_len⟩ <;> (
  have hne:dl ≠ []:=fun z => by subst z; simp at h2
  unfold qn
  cases e:dl.flatten.lookup u with
  | some p => first | exact h | exact .inr ((lk_mem h.un).mpr e) | exact fun _ x => x
  | none =>
   have en:=lk_none.mp e
   dsimp only
   cases rw with
   | true =>
    simp only [if_true]
    cases e2:pl.lookup u with
    | some p =>
     have hm:(u,p) ∈ pl:=(lk_mem h.pu).mpr e2
     first
      | exact h.push1 h2 en (by rw [if_pos rfl]; exact hm)
      | exact .inr ((push_flat hne _).mem_iff.mpr (List.mem_cons_self ..))
      | exact fun x hx => (push_flat hne _).mem_iff.mpr (List.mem_cons_of_mem _ hx)
    | none =>
     have hux:u ∈ plU:=by
      have:u ≠ .xml:=fun z => by subst z; exact en _ h.xml
      revert this hu; cases u <;> decide
     first
      | exact (h.snoc e2 hux).push1 h2 en (by rw [if_pos rfl]; exact List.mem_append_right _ (List.mem_singleton.mpr rfl))
      | exact .inr ((push_flat hne _).mem_iff.mpr (List.mem_cons_self ..))
      | exact fun x hx => (push_flat hne _).mem_iff.mpr (List.mem_cons_of_mem _ hx)
   | false =>
    rw [if_neg (by decide)]
    by_cases hno:u = .no
    · rw [if_pos hno]
      first | exact h | exact .inl ⟨rfl,hno,rfl⟩ | exact fun _ x => x
    · rw [if_neg hno]
      obtain ⟨p,hp⟩:=(hk rfl).resolve_left hno
      rw [hp]
      have hm:(u,p) ∈ nl.flatten:=lookup_mem hp
      first
       | exact h.push1 h2 en (by rw [if_neg (by decide)]; exact nok_okD bare _ (List.mem_append.mpr (hN rfl _ hm)) hu)
       | exact .inr ((push_flat hne _).mem_iff.mpr (List.mem_cons_self ..))
       | exact fun x hx => (push_flat hne _).mem_iff.mpr (List.mem_cons_of_mem _ hx))
theorem PfOk.mono {u:Uri} {dl':List Lvl} {p:Pfx} (h:PfOk rw u dl p) (hs:∀ e ∈ dl.flatten,e ∈ dl'.flatten):PfOk rw u dl' p:=h.imp id (hs _)
theorem qn_again {u:Uri} {p:Pfx} (h:DOk rw bare dl pl) (hp:PfOk rw u dl p):qn rw dl nl pl u = ⟨p,dl,pl⟩:=by
 unfold qn
 rcases hp with ⟨rfl,rfl,rfl⟩ | hp
 · have:dl.flatten.lookup .no = none:=lk_none.mpr fun p hp => by
    have h1:=h.ok _ hp
    rw [if_neg (by decide)] at h1
    have:∀ bare:Bool,∀ e ∈ okD bare,e.1 ≠ .no:=by decide
    exact this bare _ h1 rfl
   rw [this]
   simp
 · rw [(lk_mem h.un).mp hp]
theorem qfold_ok {rw bare:Bool} {nl:List Lvl} (hN:NOk rw bare nl):∀ (ls:List Nm) (q:QF),DOk rw bare q.dl q.pl → 2 ≤ q.dl.length → (∀ n ∈ ls,n.1 ∈ nmU ∧ Hok rw n.1 nl) → (∀ e ∈ q.ps,PfOk rw e.1.1 q.dl e.2) →
 DOk rw bare (ls.foldl (qstep rw nl) q).dl (ls.foldl (qstep rw nl) q).pl ∧ (∀ e ∈ (ls.foldl (qstep rw nl) q).ps,PfOk rw e.1.1 (ls.foldl (qstep rw nl) q).dl e.2)
 | [],q,h,_,_,hp => ⟨h,hp⟩
 | n :: ls,q,h,h2,hn,hp => by
  rw [List.foldl_cons]
  obtain ⟨a1,a2,a3,a4⟩:=qn_ok h h2 hN (hn n (List.mem_cons_self ..)).1 (hn n (List.mem_cons_self ..)).2
  refine qfold_ok hN ls (qstep rw nl q n) a1 (by show 2 ≤ (qn rw q.dl nl q.pl n.1).decl.length; rw [a4]; exact h2) (fun m hm => hn m (List.mem_cons_of_mem _ hm)) fun e he => ?_
  rcases List.mem_append.mp (show e ∈ q.ps ++ [(n,(qn rw q.dl nl q.pl n.1).p)] from he) with x | x
  · exact (hp e x).mono a3
  · rw [List.mem_singleton] at x; subst x; exact a2
structure LmFits (lm:Lm) (dl:List Lvl):Prop where
 at':∀ e ∈ dl.flatten,lm e.2 = some e.1
 em:(∀ e ∈ dl.flatten,e.2 ≠ .em) → lm .em = some .no
theorem LmFits.some {lm:Lm} (h:LmFits lm dl):∃ e,lm .em = some e:=by
 by_cases q:∃ e ∈ dl.flatten,e.2 = .em
 · obtain ⟨e,he,q⟩:=q
   exact ⟨e.1,by rw [← q]; exact h.at' e he⟩
 · exact ⟨.no,h.em fun e he z => q ⟨e,he,z⟩⟩
theorem upd_off (p:Pfx):∀ (ns:Lvl) (lm:Lm),(∀ e ∈ ns,e.2 ≠ p) → upd lm ns p = lm p
 | [],_,_ => rfl
 | e :: ns,lm,h => by
  show upd (upd1 lm e) ns p = lm p
  rw [upd_off p ns (upd1 lm e) fun x hx => h x (List.mem_cons_of_mem _ hx)]
  unfold upd1
  rw [if_neg fun z => h e (List.mem_cons_self ..) z.symm]
theorem upd_on (e:Uri × Pfx):∀ (ns:Lvl) (lm:Lm),(ns.map (·.2)).Nodup → e ∈ ns → upd lm ns e.2 = some e.1
 | [],_,_,h => by cases h
 | x :: ns,lm,hn,h => by
  have h1:=List.nodup_cons.mp (show (x.2 :: ns.map (·.2)).Nodup from hn)
  show upd (upd1 lm x) ns e.2 = some e.1
  by_cases hm:e ∈ ns
  · exact upd_on e ns _ h1.2 hm
  · have:e = x:=(List.mem_cons.mp h).resolve_right hm
    subst this
    rw [upd_off e.2 ns _ fun y hy z => h1.1 (by show e.2 ∈ _; rw [← z]; exact List.mem_map_of_mem hy)]
    unfold upd1
    rw [if_pos rfl]
theorem LmFits.start {lm:Lm} {D ns:Lvl} (h:LmFits lm dl) (hp:ns.Perm D) (hn:((D :: dl).flatten.map (·.2)).Nodup):LmFits (upd lm ns) (D :: dl):=by
 have hn:(D.map (·.2) ++ dl.flatten.map (·.2)).Nodup:=by
  have:(D :: dl).flatten = D ++ dl.flatten:=rfl
  rw [this,List.map_append] at hn; exact hn
 have hn':=List.nodup_append.mp hn
 refine ⟨fun e he => ?_,fun q => ?_⟩
 · rcases List.mem_append.mp (show e ∈ D ++ dl.flatten from he) with x | x
   · exact upd_on e ns lm ((hp.map (·.2)).nodup_iff.mpr hn'.1) (hp.mem_iff.mpr x)
   · rw [upd_off e.2 ns lm fun y hy z => hn'.2.2 y.2 (List.mem_map_of_mem (hp.mem_iff.mp hy)) e.2 (List.mem_map_of_mem x) z]
     exact h.at' e x
 · rw [upd_off .em ns lm fun y hy z => q y (List.mem_append_left _ (hp.mem_iff.mp hy)) z]
   exact h.em fun e he => q e (List.mem_append_right _ he)
theorem fits0:LmFits lm0 [[(.xml,.xml)]]:=⟨by decide,fun ι => rfl⟩
theorem read_uri {lm:Lm} {u:Uri} {p:Pfx} (h:DOk rw bare dl pl) (hl:LmFits lm dl) (hp:PfOk rw u dl p) (hu:u ∈ tagU bare):uriOf lm p = u ∧ (p ≠ .em → ∃ x,lm p = some x):=by
 rcases hp with ⟨hr,rfl,rfl⟩ | hp
 · refine ⟨?_,fun z => absurd rfl z⟩
   have hb:bare = true:=by revert hu; cases bare <;> decide
   subst hb hr
   have:lm .em = some .no:=hl.em fun e he => by
    have h1:=h.ok e he
    rw [if_neg (by decide)] at h1
    have:∀ e ∈ okD true,e.2 ≠ .em:=by decide
    exact this e h1
   unfold uriOf; rw [this]; rfl
 · have:=hl.at' _ hp
   exact ⟨by unfold uriOf; rw [this]; rfl,fun ι => ⟨_,this⟩⟩
noncomputable def atP (ps:List (Nm × Pfx)) (n:Nm):Pfx:=if n.1 = .no then .em else (ps.lookup n).getD .em
theorem read_at {lm:Lm} {u:Uri} {p:Pfx} (h:DOk rw bare dl pl) (hl:LmFits lm dl) (hp:PfOk rw u dl p) (hu:u ∈ keyU bare) (hn:u ≠ .no):p ≠ .em ∧ atUri lm p = u ∧ lm p = some u:=by
 rcases hp with ⟨_,q,_⟩ | hp
 · exact absurd q hn
 have h1:=h.ok _ hp
 have hne:p ≠ .em:=by
  cases rw with
  | false =>
   rw [if_neg (by decide)] at h1
   have:∀ bare:Bool,∀ e ∈ okD bare,e.1 ∈ keyU bare → e.2 ≠ .em:=by decide
   exact this bare _ h1 hu
  | true =>
   rw [if_pos rfl] at h1
   rcases h1 with q | q
   · injection q with _ q; rw [q]; exact fun z => by cases z
   · exact h.pem _ q
 have:=hl.at' _ hp
 exact ⟨hne,by unfold atUri uriOf; rw [if_neg hne,this]; rfl,this⟩
theorem fit_ok {u:Uri} {p:Pfx} (h:DOk rw bare dl pl) (hp:PfOk rw u dl p):p ∈ fitP rw bare:=by
 rcases hp with ⟨rfl,_,rfl⟩ | hp
 · cases bare <;> decide
 have h1:=h.ok _ hp
 cases rw with
 | false =>
  rw [if_neg (by decide)] at h1
  have:∀ bare:Bool,∀ e ∈ okD bare,e.2 ∈ fitP false bare:=by decide
  exact this bare _ h1
 | true =>
  rw [if_pos rfl] at h1
  rcases h1 with q | q
  · injection q with _ q; rw [q]; cases bare <;> decide
  · obtain ⟨i,hi,_,e2⟩:=h.pat q
    have:∀ bare:Bool,∀ i,i < 5 → nth i ∈ fitP true bare:=by decide
    have:=this bare i hi
    rw [← e2] at this; exact this
noncomputable def Stk (rw bare:Bool):List (Nm × Lvl) → List Lvl → List Lvl → List Lm → List (Pfx × Bool) → Prop
 | [],dl,nl,lms,nms => dl = [[(.xml,.xml)]] ∧ (∃ T,nl = T :: (if rw = true then [] else [nsL])) ∧ lms = [lm0] ∧ nms = []
 | (n,told) :: path,D :: dl,_ :: nl,lm :: lms,(p,b) :: nms =>
  (b = n.2 ∧ n.1 ∈ tagU bare ∧ PfOk rw n.1 (D :: dl) p ∧ LmFits lm (D :: dl) ∧ (∃ T r,nl = T :: r ∧ (∀ e ∈ told,e ∈ T) ∧ (path = [] → T = told)) ∧ Hok rw n.1 nl) ∧ Stk rw bare path dl nl lms nms
 | _,_,_,_,_ => False
theorem Stk.told {rw bare:Bool} {e:Uri × Pfx}:∀ {path:List (Nm × Lvl)} {dl nl:List Lvl} {lms:List Lm} {nms:List (Pfx × Bool)},Stk rw bare path dl nl lms nms → ∀ x ∈ path,e ∈ x.2 → e ∈ nl.flatten
 | [],_,_,_,_,_ => fun x hx => by cases hx
 | (n,told) :: path,D :: dl,N :: nl,lm :: lms,(p,b) :: nms,h => fun x hx he => by
  obtain ⟨⟨_,_,_,_,⟨T,r,rfl,ht,_⟩,_⟩,h2⟩:=h
  rcases List.mem_cons.mp hx with rfl | hx
  · exact List.mem_append_right _ (List.mem_append_left _ (ht e he))
  · exact List.mem_append_right _ (h2.told x hx he)
 | _ :: _,[],_,_,_,h => h.elim
 | _ :: _,_ :: _,[],_,_,h => h.elim
 | _ :: _,_ :: _,_ :: _,[],_,h => h.elim
 | _ :: _,_ :: _,_ :: _,_ :: _,[],h => h.elim
theorem Stk.ex {rw bare:Bool}:∀ {path:List (Nm × Lvl)} {dl nl:List Lvl} {lms:List Lm} {nms:List (Pfx × Bool)},Stk rw bare path dl nl lms nms → ∃ lm ls,lms = lm :: ls ∧ LmFits lm dl
 | [],_,_,_,_,h => by
  obtain ⟨rfl,_,rfl,_⟩:=h
  exact ⟨lm0,[],rfl,fits0⟩
 | (n,told) :: path,D :: dl,N :: nl,lm :: lms,(p,b) :: nms,h => ⟨lm,lms,rfl,h.1.2.2.2.1⟩
 | _ :: _,[],_,_,_,h => h.elim
 | _ :: _,_ :: _,[],_,_,h => h.elim
 | _ :: _,_ :: _,_ :: _,[],_,h => h.elim
 | _ :: _,_ :: _,_ :: _,_ :: _,[],h => h.elim
theorem Stk.len {rw bare:Bool}:∀ {path:List (Nm × Lvl)} {dl nl:List Lvl} {lms:List Lm} {nms:List (Pfx × Bool)},Stk rw bare path dl nl lms nms → dl.length = path.length + 1 ∧ nl.length ≤ path.length + 2 ∧ nl ≠ []
 | [],_,_,_,_,h => by
  obtain ⟨rfl,⟨T,rfl⟩,rfl,_⟩:=h
  refine ⟨rfl,?_,fun z => by cases z⟩
  cases rw <;> simp
 | (n,told) :: path,D :: dl,N :: nl,lm :: lms,(p,b) :: nms,h => by
  have:=h.2.len
  refine ⟨by simp [this.1],by simp; lia,fun z => by cases z⟩
 | _ :: _,[],_,_,_,h => h.elim
 | _ :: _,_ :: _,[],_,_,h => h.elim
 | _ :: _,_ :: _,_ :: _,[],_,h => h.elim
 | _ :: _,_ :: _,_ :: _,_ :: _,[],h => h.elim
noncomputable def pushN (nl:List Lvl) (told:Lvl):List Lvl:=told.foldl push nl
theorem pushN_cons (T:Lvl) (r:List Lvl):∀ told:Lvl,pushN (T :: r) told = (T ++ told) :: r:=by
 intro told
 induction told generalizing T with
 | nil => simp [pushN]
 | cons e told ih =>
  show pushN ((T ++ [e]) :: r) told = _
  rw [ih]; simp
theorem Stk.top {rw bare:Bool} {T T':Lvl} {r:List Lvl}:∀ {path:List (Nm × Lvl)} {dl:List Lvl} {lms:List Lm} {nms:List (Pfx × Bool)},Stk rw bare path dl (T :: r) lms nms → Stk rw bare path dl (T' :: r) lms nms
 | [],_,_,_,h => by
  obtain ⟨h1,⟨T2,h2⟩,h3⟩:=h
  injection h2 with _ h2
  exact ⟨h1,⟨T',by rw [h2]⟩,h3⟩
 | (n,told) :: path,D :: dl,lm :: lms,(p,b) :: nms,h => h
 | _ :: _,[],_,_,h => h.elim
 | _ :: _,_ :: _,[],_,h => h.elim
 | _ :: _,_ :: _,_ :: _,[],h => h.elim
noncomputable def txOf:Ev → Option T
 | .two k x => if k = kText then some x else none
 | .start _ _ => none
noncomputable def joinStep (J:List Ev) (e:Ev):List Ev:=match txOf e with
 | none => J ++ [e]
 | some x => match J.getLast?.bind txOf with
  | some y => J.dropLast ++ [.two kText (y ++ x)]
  | none => if x = [] then J else J ++ [e]
noncomputable def joinL (due:List Ev):List Ev:=due.foldl joinStep []
noncomputable def pend (data:List T):List Ev:=if data.flatten = [] then [] else [.two kText data.flatten]
theorem joinL_snoc (due:List Ev) (e:Ev):joinL (due ++ [e]) = joinStep (joinL due) e:=by simp [joinL]
theorem join_text {evs:List Ev} {data:List T} {x:T} (h:evs.getLast?.bind txOf = none):joinStep (evs ++ pend data) (.two kText x) = evs ++ pend (data ++ [x]):=by
 have h1:txOf (.two kText x) = some x:=by show (if kText = kText then some x else none) = _; rw [if_pos rfl]
 unfold joinStep
 rw [h1]
 dsimp only
 unfold pend
 by_cases hd:data.flatten = []
 · rw [if_pos hd,List.append_nil,h]
   have:(data ++ [x]).flatten = x:=by simp [hd]
   rw [this]
   by_cases hx:x = []
   · simp [hx]
   · simp [hx]
 · rw [if_neg hd]
   have:(evs ++ [Ev.two kText data.flatten]).getLast?.bind txOf = some data.flatten:=by simp [txOf]
   rw [this]
   have hne:¬ (data ++ [x]).flatten = []:=by simp; intro z; exact absurd (by simpa using z) hd
   rw [if_neg hne]
   simp
theorem join_other {J:List Ev} {e:Ev} (h:txOf e = none):joinStep J e = J ++ [e]:=by unfold joinStep; rw [h]
structure Sc where
 a:Ab
 due:List Ev
 path:List (Nm × Lvl)
 root:Lvl
noncomputable def r0:Rd:=⟨[],[],[],[lm0]⟩
noncomputable def DueOk (k:Nat) (path:List (Nm × Lvl)) (due:List Ev):Prop:=due.head?.bind txOf = none ∧ (path ≠ [] → due ≠ []) ∧ (k ≠ 0 → due ≠ [])
variable {due:List Ev}
theorem DueOk.app {k k':Nat} {p p':List (Nm × Lvl)} (h:DueOk k p due) (hp:p ≠ []) (e:Ev):DueOk k' p' (due ++ [e]):=by
 cases due with
 | nil => exact absurd rfl (h.2.1 hp)
 | cons a b => exact ⟨h.1,(fun _ z => by cases z),fun _ z => by cases z⟩
theorem DueOk.add {k k':Nat} {p p':List (Nm × Lvl)} {e:Ev} (h:DueOk k p due) (he:txOf e = none):DueOk k' p' (due ++ [e]):=by
 cases due with
 | nil => exact ⟨he,(fun _ z => by cases z),fun _ z => by cases z⟩
 | cons a b => exact ⟨h.1,(fun _ z => by cases z),fun _ z => by cases z⟩
noncomputable def MkOk (rw bare:Bool) (ms:List T):Prop:=∀ x ∈ ms,∃ p ∈ fitP rw bare,x = pfxS p
structure Inv (rw bare:Bool) (k:Nat) (c:Sc):Prop where
 D:DOk rw bare c.a.dl c.a.pl
 N:NOk rw bare c.a.nl
 rd:∃ its r,okSeq its ∧ its.length ≤ 2 * k ∧ RSteps r0 its r ∧ c.a.out.flatten = textOf its ∧ joinL c.due = r.evs ++ pend c.a.data ∧ r.evs.getLast?.bind txOf = none ∧ MkOk rw bare r.marks ∧ Stk rw bare c.path c.a.dl c.a.nl r.levels r.names
 rs:c.a.rs = true ∨ c.a.data = []
 rs2:c.path ≠ [] → c.a.rs = true
 nod:c.path = [] → c.a.data = []
 rdf:c.path ≠ [] ∨ c.a.rs = false → c.a.rd = false
 nps:c.a.nps = c.path.length + 1
 zn:c.a.nl.flatten.length ≤ 7 + 3 * k
 zp:c.path.length ≤ k
 zd:c.a.data.length ≤ k
 zt:c.a.data.flatten.length ≤ 4 * k
 zo:c.a.out.length ≤ 5 * k
 zf:c.a.out.flatten.length + 5 * c.a.data.flatten.length ≤ 5500 * k
 r1:c.path = [] → c.a.nl.head? = some c.root
 r2:∀ n,c.path.getLast? = some n → n.2 = c.root
 zu:c.due.length ≤ k
 z3:∀ e ∈ c.path,e.2.length ≤ 3
 h0:DueOk k c.path c.due
theorem RSteps.snoc:∀ {its:List Itm} {r r' r'':Rd} {it:Itm},RSteps r its r' → RStep r' it r'' → RSteps r (its ++ [it]) r''
 | _,_,_,_,_,.nil,h => .cons h .nil
 | _,_,_,_,_,.cons a b,h => .cons a (b.snoc h)
theorem textOf_snoc (its:List Itm) (it:Itm):textOf (its ++ [it]) = textOf its ++ itemS it:=by simp [textOf]
theorem okSeq_app:∀ {a b:List Itm},okSeq a → okSeq b → okSeq (a ++ b)
 | [],_,_,h => h
 | it :: a,b,h,hb => ⟨fun ht => by obtain ⟨i,r',e,q⟩:=h.1 ht; exact ⟨i,r' ++ b,by rw [e]; rfl,q⟩,okSeq_app h.2 hb⟩
theorem okSeq_one {it:Itm} (h:isTx it = false):okSeq [it]:=⟨fun z => (by rw [h] at z; cases z),trivial⟩
theorem okSeq_two {x:T} {it:Itm} (h:isTx it = false):okSeq [.text x,it]:=⟨fun ι => ⟨it,[],rfl,h⟩,okSeq_one h⟩
theorem Inv.flush {k:Nat} {c:Sc} (I:Inv rw bare k c) (hk:k ≤ 130):∃ its r,(∀ it,isTx it = false → okSeq (its ++ [it])) ∧ its.length ≤ 2 * k + 1 ∧ RSteps r0 its r ∧ c.a.fl.out.flatten = textOf its ∧ joinL c.due = r.evs ∧ MkOk rw bare r.marks ∧ Stk rw bare c.path c.a.dl c.a.nl r.levels r.names:=by
 obtain ⟨its,r,h1,h2,h3,h4,h5,h6,h7,h8⟩:=I.rd
 have ho:c.a.fl.out.flatten = c.a.out.flatten ++ (flushed c.a.rs c.a.data).flatten:=by show (c.a.out ++ flushed c.a.rs c.a.data).flatten = _; rw [List.flatten_append]
 by_cases hd:c.a.data.flatten = []
 · refine ⟨its,r,fun it hi => okSeq_app h1 (okSeq_one hi),by lia,h3,?_,?_,h7,h8⟩
   · rw [ho,h4]; unfold flushed; simp [hd]
   · rw [h5]; unfold pend; rw [if_pos hd,List.append_nil]
 · have hrs:c.a.rs = true:=I.rs.resolve_right fun z => hd (by rw [z]; rfl)
   have:=I.zt
   refine ⟨its ++ [.text c.a.data.flatten],{ r with evs:=r.evs ++ [.two kText c.a.data.flatten] },fun it hi => ?_,?_,h3.snoc (.text hd (by lia)),?_,?_,h7,h8⟩
   · rw [List.append_assoc]; exact okSeq_app h1 (okSeq_two hi)
   · simp; lia
   · rw [ho,h4,textOf_snoc]
     congr 1
     unfold flushed
     rw [hrs]
     have:c.a.data.flatten.isEmpty = false:=by simpa using hd
     rw [this]
     show [escC c.a.data.flatten].flatten = escC c.a.data.flatten
     simp
   · rw [h5]; unfold pend; rw [if_neg hd]
theorem fl_len {a:Ab}:a.fl.out.length ≤ a.out.length + 1 ∧ a.fl.out.flatten.length ≤ a.out.flatten.length + 5 * a.data.flatten.length:=by
 have ho:a.fl.out = a.out ++ flushed a.rs a.data:=rfl
 rw [ho]
 have h1:=flushed_len a.rs a.data
 refine ⟨by rw [lap]; lia,?_⟩
 rw [List.flatten_append,lap]
 have:=escC_len a.data.flatten
 unfold flushed
 split
 · simp at this ⊢; lia
 · simp
theorem Inv.fit {k:Nat} {c:Sc} (I:Inv rw bare k c) (hk:k ≤ 130):Fit c.a rw:=by
 obtain ⟨its,r,h1,h2,h3,h4,h5,h6,h7,h8⟩:=I.rd
 have hl:=h8.len
 have z1:=I.zn
 have z2:=I.zp
 have z3:=I.zt
 have z4:=I.zd
 have z5:=I.zo
 have z6:=I.nps
 have z7:=I.D.dlen
 have z8:=I.D.plen
 exact ⟨I.D.nd,fun z => by rw [z] at hl; simp at hl,hl.2.2,by lia,by lia,by lia,by lia,I.N.no,by lia,I.D.pem,by lia,by lia,by lia,by lia⟩
theorem Inv.text {k:Nat} {c:Sc} {x:T} (I:Inv rw bare k c) (hp:c.path ≠ []) (hx:x.length ≤ 4):Inv rw bare (k + 1) ⟨{ c.a with data:=c.a.data ++ [x] },c.due ++ [.two kText x],c.path,c.root⟩:=by
 obtain ⟨its,r,h1,h2,h3,h4,h5,h6,h7,h8⟩:=I.rd
 have z1:=I.zn
 have z2:=I.zp
 have z3:=I.zt
 have z4:=I.zd
 have z5:=I.zo
 have z6:=I.zf
 have z7:=I.zu
 have hf:(c.a.data ++ [x]).flatten.length = c.a.data.flatten.length + x.length:=by simp
 refine ⟨I.D,I.N,⟨its,r,h1,by lia,h3,h4,?_,h6,h7,h8⟩,.inl (I.rs2 hp),fun ι => I.rs2 hp,fun z => absurd z hp,fun ι => I.rdf (.inl hp),I.nps,?_,?_,?_,?_,?_,?_,I.r1,I.r2,?_,I.z3,I.h0.app hp _⟩
 · rw [joinL_snoc,h5]; exact join_text h6
 all_goals dsimp only
 · lia
 · lia
 · rw [lap]; simp; lia
 · rw [hf]; lia
 · lia
 · rw [hf]; lia
 · rw [lap]; simp; lia
theorem Inv.item {k:Nat} {c:Sc} {it:Itm} {e:Ev} (I:Inv rw bare k c) (hk:k ≤ 130) (hp:c.path ≠ []) (ht:isTx it = false) (he:txOf e = none) (hl:(itemS it).length ≤ 5000) (hs:∀ r,RStep r it { r with evs:=r.evs ++ [e] }) :
 Inv rw bare (k + 1) ⟨c.a.fl.wr (itemS it),c.due ++ [e],c.path,c.root⟩:=by
 obtain ⟨its,r,h1,h2,h3,h4,h5,h7,h8⟩:=I.flush hk
 have z1:=I.zn
 have z2:=I.zp
 have z3:=I.zt
 have z4:=I.zd
 have z5:=I.zo
 have z6:=I.zf
 have z7:=I.zu
 have z8:=fl_len (a:=c.a)
 have ho:(c.a.fl.wr (itemS it)).out = c.a.fl.out ++ [itemS it]:=rfl
 refine ⟨I.D,I.N,⟨its ++ [it],_,h1 it ht,by simp; lia,h3.snoc (hs r),?_,?_,?_,h7,h8⟩,.inr rfl,fun ι => I.rs2 hp,fun z => absurd z hp,fun ι => I.rdf (.inl hp),I.nps,?_,?_,?_,?_,?_,?_,I.r1,I.r2,?_,I.z3,I.h0.add he⟩
 · show (c.a.fl.wr (itemS it)).out.flatten = _
   rw [ho,List.flatten_append,h4,textOf_snoc]; simp
 · rw [joinL_snoc,join_other he,h5]
   show _ = (r.evs ++ [e]) ++ []
   rw [List.append_nil]
 · show (r.evs ++ [e]).getLast?.bind txOf = none
   simp [he]
 all_goals dsimp only
 · show c.a.nl.flatten.length ≤ _; lia
 · lia
 · show 0 ≤ _; lia
 · show 0 ≤ _; lia
 · rw [ho]; simp; lia
 · rw [ho]
   show _ + 5 * 0 ≤ _
   rw [List.flatten_append,lap,show [itemS it].flatten = itemS it by simp]; lia
 · rw [lap]; simp; lia
theorem Inv.com {k:Nat} {c:Sc} {x:T} (I:Inv rw bare k c) (hk:k ≤ 130) (hp:c.path ≠ []) (hx:x.length ≤ 4):Inv rw bare (k + 1) ⟨c.a.fl.wr (comS x),c.due ++ [comE x],c.path,c.root⟩:=by
 have:=escC_len x
 exact I.item (it:=.com x) hk hp rfl rfl (by show (comS x).length ≤ _; unfold comS; simp; lia) fun r => .com (by lia)
theorem Inv.pi {k:Nat} {c:Sc} {x:T} (I:Inv rw bare k c) (hk:k ≤ 130) (hp:c.path ≠ []) (hx:x.length ≤ 4):Inv rw bare (k + 1) ⟨c.a.fl.wr (piS x),c.due ++ [piE x],c.path,c.root⟩:=by
 have:=escC_len x
 exact I.item (it:=.pi x) hk hp rfl rfl (by show (piS x).length ≤ _; unfold piS; split <;> simp <;> lia) fun r => .pi (by lia)
variable {path:List (Nm × Lvl)}
theorem Inv.hok {k:Nat} {c:Sc} {told:Lvl} (I:Inv rw bare k c) (hp:c.path = (n,told) :: path):Hok rw n.1 c.a.nl:=by
 obtain ⟨its,r,h1,h2,h3,h4,h5,h6,h7,h8⟩:=I.rd
 rw [hp] at h8
 generalize c.a.dl = dl at h8
 generalize c.a.nl = nl at h8
 generalize r.levels = lms at h8
 generalize r.names = nms at h8
 match dl,nl,lms,nms,h8 with
 | D :: dl,T :: nl,lm :: lms,(p,b) :: nms,h8 =>
  intro hr
  rcases h8.1.2.2.2.2.2 hr with q | ⟨x,q⟩
  · exact .inl q
  · exact .inr (lk_some ⟨x,List.mem_append_right _ (lookup_mem q)⟩)
theorem Inv.endd {k:Nat} {c:Sc} {told:Lvl} (I:Inv rw bare k c) (hk:k ≤ 130) (hp:c.path = (n,told) :: path):Inv rw bare (k + 1) ⟨c.a.en rw n,c.due ++ [.two kEnd (nameS n)],path,c.root⟩:=by
 obtain ⟨its,r,h1,h2,h3,h4,h5,h7,h8⟩:=I.flush hk
 have hpn:c.path ≠ []:=by rw [hp]; exact fun z => by cases z
 have z1:=I.zn
 have z2:=I.zp
 have z3:=I.zt
 have z4:=I.zd
 have z5:=I.zo
 have z6:=I.zf
 have z7:=I.zu
 have z8:=fl_len (a:=c.a)
 have z9:=I.nps
 have hd:=I.D
 have hr1:=I.r1
 have hr2:=I.r2
 have hN:=I.N
 have hen:c.a.en rw n = { c.a.fl with dl:=(qn rw c.a.dl c.a.nl c.a.pl n.1).decl.tail,nl:=c.a.nl.tail,pl:=(qn rw c.a.dl c.a.nl c.a.pl n.1).pm,nps:=c.a.nps - 1,rd:=c.a.nps - 1 == 1,out:=c.a.fl.out ++ [[60,47] ++ qS (qn rw c.a.dl c.a.nl c.a.pl n.1).p n.2 ++ [62]] }:=rfl
 rw [hen]
 clear hen
 rw [hp] at h8 z2 z9 hr2
 generalize c.a.dl = dl at h8 hd ⊢
 generalize hnl:c.a.nl = nl at h8 z1 hN ⊢
 generalize hlv:r.levels = lms at h8
 generalize hnm:r.names = nms at h8
 match dl,nl,lms,nms,h8 with
 | D :: dl,T :: nl,lm :: lms,(p,b) :: nms,h8 =>
  obtain ⟨⟨rfl,htg,hpf,hfit,⟨T1,r1,rfl,ht1,ht2⟩,hok⟩,hst⟩:=h8
  rw [qn_again hd hpf]
  dsimp only
  have hdl:dl ≠ []:=fun z => by have:=hst.len.1; rw [z] at this; simp at this
  have hru:=read_uri hd hfit hpf htg
  obtain ⟨em,hem⟩:=hfit.some
  have hsub:∀ e ∈ dl.flatten,e ∈ (D :: dl).flatten:=fun e he => List.mem_append_right _ he
  refine ⟨⟨?_,fun e he => hd.ok e (hsub e he),?_,hd.pu,hd.pn,hd.pk,hd.pf⟩,fun hr e he => hN hr e (List.mem_append_right _ he),⟨its ++ [.stop p n.2],{ r with evs:=r.evs ++ [.two kEnd (nameS (uriOf lm p,n.2))],names:=nms,levels:=lms },h1 _ rfl,by simp; lia,h3.snoc (.stop hlv hnm hem hru.2),?_,?_,?_,h7,hst⟩,.inr rfl,fun ι => I.rs2 hpn,fun ι => rfl,fun z => ?_,?_,?_,?_,?_,?_,?_,?_,?_,?_,?_,fun e he => I.z3 e (by rw [hp]; exact List.mem_cons_of_mem _ he),I.h0.add rfl⟩
  · have:((D :: dl).flatten.map (·.1)) = D.map (·.1) ++ dl.flatten.map (·.1):=by rw [← List.map_append]; rfl
    have hu:=hd.un
    rw [this] at hu
    exact (List.nodup_append.mp hu).2.1
  · have:=hd.base
    cases dl with
    | nil => exact absurd rfl hdl
    | cons x y => rw [List.getLast?_cons_cons] at this; exact this
  · show (c.a.fl.out ++ [[60,47] ++ qS p n.2 ++ [62]]).flatten = _
    rw [List.flatten_append,h4,textOf_snoc,show [[60,47] ++ qS p n.2 ++ [62]].flatten = [60,47] ++ qS p n.2 ++ [62] by rw [List.flatten_cons,List.flatten_nil,List.append_nil]]
    rfl
  · rw [joinL_snoc,join_other rfl,h5,hru.1]
    show _ = (r.evs ++ [_]) ++ []
    rw [List.append_nil]
  · show (r.evs ++ [_]).getLast?.bind txOf = none
    rw [List.getLast?_concat]; rfl
  · show (c.a.nps - 1 == 1) = false
    rw [z9]
    rcases z with z | z
    · have:0 < path.length:=List.length_pos_iff.mpr z
      rw [List.length_cons]
      exact beq_false_of_ne (by lia)
    · have:=I.rs2 hpn
      rw [show c.a.rs = false from z] at this; cases this
  · show c.a.nps - 1 = _; rw [z9,List.length_cons]; rfl
  all_goals dsimp only
  · show (T1 :: r1).flatten.length ≤ _
    have:(T :: T1 :: r1).flatten.length = T.length + (T1 :: r1).flatten.length:=lap
    lia
  · rw [List.length_cons] at z2; lia
  · show 0 ≤ _; lia
  · show 0 ≤ _; lia
  · rw [lap]; show _ + 1 ≤ _; lia
  · have:=qS_len p n.2
    show _ + 5 * 0 ≤ _
    rw [List.flatten_append,lap,show [[60,47] ++ qS p n.2 ++ [62]].flatten = [60,47] ++ qS p n.2 ++ [62] by rw [List.flatten_cons,List.flatten_nil,List.append_nil],lap,lap]
    show _ + (2 + _ + 1) + _ ≤ _
    lia
  · intro z
    show some T1 = _
    rw [ht2 z,← hr2 (n,told) (by rw [z]; rfl)]
  · intro x hx
    exact hr2 x (by cases path with | nil => cases hx | cons a b => rw [List.getLast?_cons_cons]; exact hx)
  · rw [lap]; show _ + 1 ≤ _; lia
structure CmEn (env:Env):Prop where
 self:Lo env "self"
 text:Lo env "text"
 esc:Lo env "_escape_cdata_c14n" .globalImplicit
structure PiEn (env:Env):Prop where
 self:Lo env "self"
 target:Lo env "target"
 data:Lo env "data"
 esc:Lo env "_escape_cdata_c14n" .globalImplicit
section
variable {g:Addr → Option Obj} {l:Fr1} {N:Ldg} {Q:Flow → PP} {t:Tg} {σ:Ts} {a:Ab} {x:T}
theorem esc_z (hx:x.length ≤ 100) (y z:T) (hy:y.length ≤ 10) (hz:z.length ≤ 10):(y ++ escC x ++ z).length ≤ 1000000:=by
 rw [lap,lap]
 exact ltr (Nat.add_le_add (Nat.add_le_add hy (ltr (escC_len x) (Nat.mul_le_mul_left 5 hx))) hz) (by decide)
theorem wr_end (B:Lo Z.env "self") (V:TT g t σ a) (hrs:a.rs = true) (zo:a.out.length ≤ 10001) (h:∀ σ',TT g t σ' (a.wr y) → G Z g l (TP Z.w t σ') (seqT [] (finT Q)))
 (hs:autoParam (At (Str.ofString "self",some (.ref t.x)) 0 l) aR) (h1:autoParam (HdKp t.wr (wrO t.out) c) aR) (h2:autoParam (HdV (call (.ref t.wr) [sv y tk]) (rsU c)) aR) (h3:HdQ (rsV (rsU c) .none):=by exact trivial)
 (h4:autoParam (HdLd "self" (rsQ Z.env (rsV (rsU c) .none))) aR) (h5:autoParam (HdV (getAttr (.ref t.x) "_root_seen" true) (rsV (rsQ Z.env (rsV (rsU c) .none)) (.ref t.x))) aR)
 (h6:autoParam (HdB (truthy (.bool true)) (rsV (rsV (rsQ Z.env (rsV (rsU c) .none)) (.ref t.x)) (.bool true))) aR) (h7:autoParam (rsB (rsV (rsV (rsQ Z.env (rsV (rsU c) .none)) (.ref t.x)) (.bool true)) true = seqT [] (finT Q)) aR):G Z g l (TP Z.w t σ) c:=by
 refine kp V.R.I.2.1 ?_ (hc:=h1)
 refine cwr V.R.I 6 ?_ (hc:=h2) (hz:=by rw [V.out.len]; exact szl (ltr zo (by decide)))
 refine nx ?_ (hc:=h3)
 refine ld 0 B ?_ (hc:=h4) (hv:=hs)
 refine grs V.R.I 0 ?_ (hc:=h5)
 rw [show σ.rs = true from V.rs.trans hrs]
 refine tb ?_ (hc:=h6)
 rw [h7]
 exact h _ (V.wr y tk)
theorem b_comment (B:CmEn Z.env) (V:TT g t σ a) (hroom:Z.d ≤ 850) (Ft:Fit a t.rw) (hrs:a.rs = true) (hrd:a.rd = false) (hx:x.length ≤ 100)
 (h:∀ g' σ',gLe g g' → TT g' t σ' (a.fl.wr (comS x)) → Hr Z.H0 g' (TP Z.w t σ') (Q .next)) :
 G Z g [("self",some (.ref t.x)),("text",some (sv x t1))] (TP Z.w t σ) (go Z (mthB 10) (finT Q)):=by
 refine letG ?_; intro c l N
 refine nx ?_
 refine ld 0 B.self ?_
 refine gwc V.R.I 0 ?_
 refine tb ?_
 refine nx ?_
 refine ld 0 B.self ?_
 refine gig V.R.I 0 ?_
 refine trI ?_
 refine nx ?_
 refine ld 0 B.self ?_
 refine grd V.R.I 0 ?_
 rw [show σ.rd = false from V.rd.trans hrd]
 refine tb ?_
 refine nx ?_
 refine ld 0 B.self ?_
 refine grs V.R.I 0 ?_ (rs:=σ.rs) (rd:=σ.rd)
 rw [show σ.rs = true from V.rs.trans hrs]
 refine tb ?_
 refine G.eqN (N1:=TP Z.w t σ ++ []) ?_ (List.append_nil _)
 refine ifFl B.self V hroom (fun p hp => nomatch hp) Ft.zt (ltr Ft.zl (by decide)) (ltr Ft.zo (by decide)) fun g2 σ2 le2 V2 => ?_
 rw [List.append_nil]
 refine letG ?_; intro c l N
 refine nx ?_
 refine ld 0 B.self ?_
 refine mwr V2.R.I 0 ?_
 refine cwk (o:=t.out) ?_
 refine fsX ?_
 refine fsc [60,33,45,45] ?_ (a:=[]) (hz:=by decide)
 refine gl B.esc (by k_is) ?_
 refine cwf ?_
 refine ld 1 B.text ?_
 refine c_cdata (ltr hroom (by decide)) (ltr hx (by decide)) ?_; intro c l N t4
 refine fsv ?_ (hz:=by have:=esc_z hx [60,33,45,45] [] (by decide) (by decide); rw [List.append_nil] at this; exact this)
 refine fsc [45,45,62] ?_ (hz:=esc_z hx [60,33,45,45] [45,45,62] (by decide) (by decide))
 refine fse ?_ (hz:=esc_z hx [60,33,45,45] [45,45,62] (by decide) (by decide)); intro c l N tw
 exact wr_end B.self V2 hrs (ltr (fl_out a) (Nat.succ_le_succ Ft.zo)) fun σ' V' => Hr.drop (h g2 σ' le2 V')
theorem b_pi {t0:Tok} (B:PiEn Z.env) (V:TT g t σ a) (hroom:Z.d ≤ 850) (Ft:Fit a t.rw) (hrs:a.rs = true) (hrd:a.rd = false) (hx:x.length ≤ 100)
 (h:∀ g' σ',gLe g g' → TT g' t σ' (a.fl.wr (piS x)) → Hr Z.H0 g' (TP Z.w t σ') (Q .next)) :
 G Z g [("self",some (.ref t.x)),("target",some (sv [116] t0)),("data",some (sv x t1))] (TP Z.w t σ) (go Z (mthB 11) (finT Q)):=by
 refine letG ?_; intro c l N
 refine nx ?_
 refine ld 0 B.self ?_
 refine gig V.R.I 0 ?_
 refine trI ?_
 refine nx ?_
 refine ld 0 B.self ?_
 refine grd V.R.I 0 ?_
 rw [show σ.rd = false from V.rd.trans hrd]
 refine tb ?_
 refine nx ?_
 refine ld 0 B.self ?_
 refine grs V.R.I 0 ?_ (rs:=σ.rs) (rd:=σ.rd)
 rw [show σ.rs = true from V.rs.trans hrs]
 refine tb ?_
 refine G.eqN (N1:=TP Z.w t σ ++ []) ?_ (List.append_nil _)
 refine ifFl B.self V hroom (fun p hp => nomatch hp) Ft.zt (ltr Ft.zl (by decide)) (ltr Ft.zo (by decide)) fun g2 σ2 le2 V2 => ?_
 rw [List.append_nil]
 have zo:=ltr (fl_out a) (Nat.succ_le_succ Ft.zo)
 refine letG ?_; intro c l N
 refine nx ?_
 refine ld 0 B.self ?_
 refine mwr V2.R.I 0 ?_
 refine cwk (o:=t.out) ?_
 refine ld 2 B.data ?_
 refine trT ?_ (hz:=ltr hx (by decide))
 by_cases he:x = []
 · subst he
   refine fsX ?_
   refine fsc [60,63] ?_ (a:=[]) (hz:=by decide)
   refine ld 1 B.target ?_
   refine fsv ?_ (hz:=by decide)
   refine fsc [63,62] ?_ (hz:=by decide)
   refine fse ?_ (hz:=by decide); intro c l N tw
   exact wr_end B.self V2 hrs zo fun σ' V' => Hr.drop (h g2 σ' le2 V')
 · rw [decide_eq_true he]
   have e:piS x = [60,63,116,32] ++ escC x ++ [63,62]:=if_neg he
   rw [e] at h
   refine fsX ?_
   refine fsc [60,63] ?_ (a:=[]) (hz:=by decide)
   refine ld 1 B.target ?_
   refine fsv ?_ (hz:=by decide)
   refine fsc [32] ?_ (hz:=by decide)
   refine gl B.esc (by k_is) ?_
   refine cwf ?_
   refine ld 2 B.data ?_
   refine c_cdata (ltr hroom (by decide)) (ltr hx (by decide)) ?_; intro c l N t4
   refine fsv ?_ (hz:=by have:=esc_z hx [60,63,116,32] [] (by decide) (by decide); rw [List.append_nil] at this; exact this)
   refine fsc [63,62] ?_ (hz:=esc_z hx [60,63,116,32] [63,62] (by decide) (by decide))
   refine fse ?_ (hz:=esc_z hx [60,63,116,32] [63,62] (by decide) (by decide)); intro c l N tw
   exact wr_end B.self V2 hrs zo fun σ' V' => Hr.drop (h g2 σ' le2 V')
end
theorem f_comment {u:Nat} {R:Result → PP} {g:Addr → Option Obj} {t:Tg} {σ:Ts} {a:Ab} {x:T} (C:Cx w H0) (V:TT g t σ a) (hroom:d ≤ 840) (Ft:Fit a t.rw) (hrs:a.rs = true) (hrd:a.rd = false) (hx:x.length ≤ 100)
 (h:∀ g' σ',gLe g g' → TT g' t σ' (a.fl.wr (comS x)) → Hr H0 g' (TP w t σ') (R (.ok (.ret .none)))):Hr H0 g (TP w t σ) (codeAny (model PG w) (ar d u) (.call (.ref 133) ⟨[.ref t.x,sv x t1],[]⟩) R):=by
 refine' callG (binds:=[(Str.ofString "self",.ref t.x),(Str.ofString "text",sv x t1)]) (body:=mthB 10) [] C ?k6 ?k7 (Nat.lt_of_le_of_lt hroom (by decide)) ?k9 ?kB ?kN ?c5 ?c2 ?c3 ?c4 ?_
 walk_at "fn"
 exact fun L Q E hL q => b_comment (by constructor <;> exact ⟨rfl,rfl⟩) V (ltr (Nat.succ_le_succ hroom) (by decide)) Ft hrs hrd hx fun g' σ' le V' => q.nxt (h g' σ' le V')
theorem f_pi {u:Nat} {R:Result → PP} {g:Addr → Option Obj} {t:Tg} {σ:Ts} {a:Ab} {x:T} {t0:Tok} (C:Cx w H0) (V:TT g t σ a) (hroom:d ≤ 840) (Ft:Fit a t.rw) (hrs:a.rs = true) (hrd:a.rd = false) (hx:x.length ≤ 100)
 (h:∀ g' σ',gLe g g' → TT g' t σ' (a.fl.wr (piS x)) → Hr H0 g' (TP w t σ') (R (.ok (.ret .none)))):Hr H0 g (TP w t σ) (codeAny (model PG w) (ar d u) (.call (.ref 140) ⟨[.ref t.x,sv [116] t0,sv x t1],[]⟩) R):=by
 refine' callG (binds:=[(Str.ofString "self",.ref t.x),(Str.ofString "target",sv [116] t0),(Str.ofString "data",sv x t1)]) (body:=mthB 11) [] C ?k6 ?k7 (Nat.lt_of_le_of_lt hroom (by decide)) ?k9 ?kB ?kN ?c5 ?c2 ?c3 ?c4 ?_
 walk_at "fn"
 exact fun L Q E hL q => b_pi (by constructor <;> exact ⟨rfl,rfl⟩) V (ltr (Nat.succ_le_succ hroom) (by decide)) Ft hrs hrd hx fun g' σ' le V' => q.nxt (h g' σ' le V')
noncomputable def stB (i:Nat):Stmt:=atB (mthB 8) i
noncomputable def clo6 (env:Env):Sem (List (Str × Addr)):=closureFor (evE (svS (stB 6)).x).sc env
structure SEn (env:Env) (L cs cq:Addr):Prop where
 E:env.locals = L
 k:env.scope.kind = .function
 g:env.globals = mainGlobals
 b:env.builtins = builtinsNs
 c:env.code = .ref 118
 q:env.qual ++ "<lambda>" = lamQ
 cc:env.cells.lookup (Str.ofString "self") = some cs
 ks:env.kindOf "self" = some .cell
 ccq:env.cells.lookup (Str.ofString "parse_qname") = some cq
 kq:env.kindOf "parse_qname" = some .cell
 clo:clo6 env = pure [(Str.ofString "parse_qname",cq)]
 tag:env.kindOf "tag" = some .local
 attrs:env.kindOf "attrs" = some .local
 qt:env.kindOf "qname_text" = some .local
 qn:env.kindOf "qnames" = some .local
 rn:env.kindOf "resolved_names" = some .local
 qa:env.kindOf "qattrs" = some .local
 pq:env.kindOf "parsed_qnames" = some .local
 so:env.kindOf "sorted" = some .globalImplicit
structure StM (n:Nm) (da:Addr) (m:Str → Option Value):Prop where
 tag:∃ k,m "tag" = some (sv (nameS n) k)
 attrs:m "attrs" = some (.ref da)
 qt:m "qname_text" = some .none
variable {da:Addr}
theorem StM.up {x:Str} {v:Value} (h:StM n da m) (hx:x ∉ (["tag","attrs","qname_text"]:List Str)):StM n da (up m x v):=by
 have key:∀ y ∈ (["tag","attrs","qname_text"]:List Str),Mine.up m x v y = m y:=fun y hy => up_ne fun e => hx (e ▸ hy)
 refine ⟨?_,?_,?_⟩
 · rw [key _ (by simp)]; exact h.tag
 · rw [key _ (by simp)]; exact h.attrs
 · rw [key _ (by simp)]; exact h.qt
variable {cq:Addr}
section
variable {rest:List Stmt} {u:Nat} {s:Shared} {g:Addr → Option Obj} {N:Ldg} {cs:Addr} {Q:Flow → Shared → Prop} {t:Tg} {σ:Ts} {rs:Bool} {f:OP → Ldg} {kvs:List (Str × Value)} {ats:List (Nm × T)}
theorem st05 (B:SEn env L cs cq) (C:Cy w H0) (hL:H0.heap.objs.size ≤ L) (I:TgIn g t) (M:StM n da m) {top:Addr} (hn:m "new_namespaces" = some (.ref top)) (G:GD w g da kvs) (hK:KV kvs (ats.map fun e => (nameS e.1,e.2))) (hat3:ats.length ≤ 3)
 (k:Pk t.dx (Is (tObj w.params t rs rd)) N f) (S:St H0 g ((L,Nsp m) :: (cq,Cel none) :: (cs,Cel (some (.ref t.x))) :: N) s)
 (h:∀ s' g' m' sa bq,gLe g g' → StM n da m' → m' "new_namespaces" = some (.ref top) → m' "qnames" = some (.ref sa) → m' "qattrs" = some .none → g' bq = some (bndO 83 t.x) →
  St H0 g' ((L,Nsp m') :: (sa,Sx w ((namesOf n ats).map nmS)) :: (cq,Cel (some (.ref bq))) :: (cs,Cel (some (.ref t.x))) :: N) s' → wpAny (model PG w) (ar d u) (execs rest env) Q E s') :
 wpAny (model PG w) (ar d u) (execs (stB 0 :: stB 1 :: stB 2 :: stB 3 :: stB 4 :: stB 5 :: rest) env) Q E s:=by
 have hkl:=hK.len
 rw [List.length_map] at hkl
 have hset:(kvs.map (·.1)).foldl addX [mk (nameS n)] = (namesOf n ats).map nmS:=by rw [keys_nm hK]; exact foldX_N _ [n]
 obtain ⟨tok,ht⟩:=M.tag
 obtain ⟨oc,vs,_,_,_,_,_,_,_,hc1,_,hc3,_⟩:=C.hd
 refine execsS ?_
 refine wpAny_If ?_
 refine isTrue_and ?_
 refine wpAny_isTrue_Compare1 ?_
 refine Attribute_Name_ ?_
 refine ldC S (.tail (.tail .head)) ?_ B.cc B.k B.ks
 refine ga_exa C.C.X S I (.tail (.tail (.tail k))) ?_
 refine wpAny_Constant_none ?_
 refine wpAny_isNot_self rfl ?_
 refine wpAny_truthy_bool ?_
 refine ifN (by decide) ?_
 refine ifN (by decide) ?_
 refine wpAny_execs_nil ?_
 refine execsS ?_
 refine wpAny_Assign_Name ?_
 refine dispX rfl S B.c (S.low _ _ hc1) hc3 ht M.attrs G.1 G.2 (by rw [hset,List.length_map]; exact names_len n ats hat3) (hkl ▸ hat3) (fun s2 sa S2 => ?_) B.E B.k B.tag B.attrs
 rw [hset] at S2
 refine stE S2 (fun s3 S3 => ?_) B.E B.k B.qn
 refine execsS ?_
 refine wpAny_Assign_Name ?_
 refine wpAny_Dict_empty ?_
 refine stE (S3.newIn (P:=fun ι => True) rfl trivial) (fun s4 S4 => ?_) B.E B.k B.rn
 have S4:=S4.swap.drop
 have M4:=(M.up (x:="qnames") (v:=.ref sa) (by decide +kernel)).up (x:="resolved_names") (v:=.ref s3.heap.objs.size) (by decide +kernel)
 refine execsS ?_
 refine wpAny_If ?_
 refine wpAny_isTrue_Compare1 ?_
 refine ldE S4 M4.qt ?_ B.E B.k B.qt
 refine wpAny_Constant_none ?_
 refine wpAny_isNot_self rfl ?_
 refine wpAny_truthy_bool ?_
 refine ifN (by decide) ?_
 refine wpAny_execs_nil ?_
 refine execsS ?_
 refine wpAny_If ?_
 refine isTrue_and ?_
 refine wpAny_isTrue_Compare1 ?_
 refine Attribute_Name_ ?_
 refine ldC S4 (.tail (.tail (.tail .head))) ?_ B.cc B.k B.ks
 refine ga_fqa C.C.X S4 I (.tail (.tail (.tail (.tail k)))) ?_
 refine wpAny_Constant_none ?_
 refine wpAny_isNot_self rfl ?_
 refine wpAny_truthy_bool ?_
 refine ifN (by decide) ?_
 refine ifN (by decide) ?_
 refine execsS ?_
 refine wpAny_Assign_Name ?_
 refine wpAny_Constant_none ?_
 refine stE (s:=tick s4) S4 (fun s5 S5 => ?_) B.E B.k B.qa
 refine wpAny_execs_nil ?_
 refine execsS ?_
 refine wpAny_Assign_Name ?_
 refine Attribute_Name_ ?_
 refine ldC S5 (.tail (.tail (.tail .head))) ?_ B.cc B.k B.ks
 refine ga_qname C.C.X S5 hL I (.tail (.tail (.tail k))) fun g6 s6 bq le6 hbq S6 => ?_
 refine stC S6 (.tail (.tail .head)) (fun s7 S7 => ?_) B.ccq B.k B.kq
 refine h _ g6 _ sa bq le6 (M4.up (by decide +kernel)) ?_ ?_ (up_eq _ _ _) hbq S7
 · exact ((up_ne (by decide +kernel)).trans ((up_ne (by decide +kernel)).trans (up_ne (by decide +kernel)))).trans hn
 · exact ((up_ne (by decide +kernel)).trans (up_ne (by decide +kernel))).trans (up_eq _ _ _)
end
theorem iv_fold {nm ls:List Nm} {Iv:List Lvl → Lvl → Prop} (I0:Iv dl pl) (I1:∀ dl pl m,m ∈ nm → Iv dl pl → Iv (qn rw dl nl pl m.1).decl (qn rw dl nl pl m.1).pm) (hls:ls.Perm nm) (i:Nat):Iv (qfold rw nl dl pl (ls.take i)).dl (qfold rw nl dl pl (ls.take i)).pl:=by
 induction i with
 | zero => exact I0
 | succ i ih =>
  rw [List.take_add_one]
  cases e:ls[i]? with
  | none => simpa using ih
  | some k => exact (qfold_snoc rw nl dl pl (ls.take i) k) ▸ I1 _ _ k (hls.mem_iff.mp (List.mem_of_getElem? e)) ih
theorem swaps_in {kx vx:Expr} {gs:List Comprehension} {y:Str} {l:Nat} (hk:env.scope.kind = .function) (hy:env.kindOf y = some .local) (hl:(py.line == pos.line) = true) (hn:(scope.names.any fun (n,k) => n == y && (k == .local || k == .cell)) = false) :
 swapsWith (.DictComp kx vx gs scope pos) (some (.Name y py)) l env = pure true:=by
 show (pure (env.blockKind == .function && env.kindOf y == some .local && py.line == pos.line && !(scope.names.any fun (n,k) => n == y && (k == .local || k == .cell))):Sem Bool) = pure true
 unfold Env.blockKind
 rw [hk,hy,hl,hn]; rfl
theorem look_re {env:Env} {x:Str} (hk:env.scope.kind = .function) (hc:env.kindOf x = some .cell):∀ {names:List (Str × NameKind)},names.lookup x = some .free →
 (names.map fun (n,k) => if (k == NameKind.free && env.scope.kind == .function && env.kindOf n == some .cell) then (n,NameKind.cell) else (n,k)).lookup x = some .cell
 | [],h => by simp at h
 | (n,k) :: r,h => by
  show List.lookup x ((if (k == NameKind.free && env.scope.kind == .function && env.kindOf n == some .cell) = true then (n,NameKind.cell) else (n,k)) :: _) = _
  rw [List.lookup_cons] at h
  by_cases e:(x == n) = true
  · have:=eq_of_beq e
    subst this
    rw [e] at h
    cases h
    rw [hk,hc,if_pos (by decide),List.lookup_cons,e]
  · simp only [e] at h
    have ih:=look_re hk hc h
    split <;> (rw [List.lookup_cons]; simp only [e]; exact ih)
theorem kind_re {x:Str} (hk:env.scope.kind = .function) (hc:env.kindOf x = some .cell) (hs:scope.kind = .function) (hn:scope.names.lookup x = some .free):(compEnvC scope cl Lc env).kindOf x = some .cell:=look_re hk hc hn
structure K6 (t:Tg) (nl dl:List Lvl) (pl:Lvl) (σ:Ts) (g:Addr → Option Obj) (ls:List Nm) (g':Addr → Option Obj) (kq:List (Str × Value)) (σ':Ts):Prop where
 le:gLe g g'
 pq:PQ g' kq (qfold t.rw nl dl pl ls).ps
 R:TR g' t σ' (qfold t.rw nl dl pl ls).dl nl (qfold t.rw nl dl pl ls).pl
 e:σ' = { σ with decl:=σ'.decl,pm:=σ'.pm }
 e':σ'.decl.map (·.1) = σ.decl.map (·.1)
variable {kq:List (Str × Value)}
theorem K6.fresh {t:Tg} {σ σ':Ts} {g g':Addr → Option Obj} {ls:List Nm} {i:Nat} {k:Nm} (h:K6 t nl dl pl σ g (ls.take i) g' kq σ') (hnd:ls.Nodup) (hk:ls[i]? = some k):nmS k ∉ kq.map (·.1):=by
 rw [h.pq.keys,qfold_keys]
 intro hm'
 have hm':=mem_nmS.mp hm'
 have hi:i < ls.length:=(List.getElem?_eq_some_iff.mp hk).1
 have hs:ls = ls.take i ++ k :: ls.drop (i + 1):=by
  have:=(List.getElem?_eq_some_iff.mp hk).2
  rw [← this,← List.drop_eq_getElem_cons hi,List.take_append_drop]
 rw [hs,List.nodup_append] at hnd
 exact hnd.2.2 k hm' k (List.mem_cons_self ..) rfl
theorem K6.len {t:Tg} {σ σ':Ts} {g g':Addr → Option Obj} {ls:List Nm} (h:K6 t nl dl pl σ g ls g' kq σ'):kq.length = ls.length:=by
 rw [h.pq.len,← List.length_map (f:=(·.1)),qfold_keys]
section
variable {rest:List Stmt} {u:Nat} {s:Shared} {g:Addr → Option Obj} {cs bq:Addr} {Q:Flow → Shared → Prop} {t:Tg} {σ:Ts} {nm:List Nm} {lam:Option Addr} {top:Value}
theorem st6 (B:SEn env L cs cq) (C:Cy w H0) (hroom:d ≤ 850) (hu:u ≤ 9500) (V:TR g t σ dl nl pl) (hnd:nm.Nodup) (hne:nm ≠ []) (hlen:nm.length ≤ 4)
 (Iv:List Lvl → Lvl → Prop) (I0:Iv dl pl) (I1:∀ dl pl m,m ∈ nm → Iv dl pl → Iv (qn t.rw dl nl pl m.1).decl (qn t.rw dl nl pl m.1).pm) (I2:∀ dl pl m,m ∈ nm → Iv dl pl → QOk t.rw nl dl pl m)
 (M:StM n da m) (hn:m "new_namespaces" = some top) (hq:m "qnames" = some (.ref sa)) (ha:m "qattrs" = some .none) (hbq:g bq = some (bndO 83 t.x))
 (S:St H0 g ((L,Nsp m) :: (sa,Sx w (nm.map nmS)) :: (cq,Cel (some (.ref bq))) :: (cs,Cel (some (.ref t.x))) :: (LamL lamP lamQ lam ++ TP w t σ)) s)
 (h:∀ s' g' σ' c ls pq kq m',ls.Perm nm → Iv (qfold t.rw nl dl pl ls).dl (qfold t.rw nl dl pl ls).pl → K6 t nl dl pl σ g ls g' kq σ' → StM n da m' → m' "new_namespaces" = some top → m' "qattrs" = some .none → m' "parsed_qnames" = some (.ref pq) →
  St H0 g' ((L,Nsp m') :: (pq,Dct w kq) :: (cs,Cel (some (.ref t.x))) :: (LamL lamP lamQ (some c) ++ TP w t σ')) s' → wpAny (model PG w) (ar d u) (execs rest env) Q E s') :
 wpAny (model PG w) (ar d u) (execs (stB 6 :: rest) env) Q E s:=by
 refine execsS ?_
 refine' dcU (H0:=H0) (L:=L) (cl:=[(Str.ofString "parse_qname",cq)]) ?c1 rfl ?c3 ?c4 ?_ ?c5 B.E B.k B.pq ?c6
 case c1 => exact B.clo
 case c3 => decide
 case c4 => decide
 case c5 => exact fun ι => rfl
 case c6 => exact swaps_in B.k B.pq rfl rfl
 have S7:St H0 g ((L,Nsp m) :: (sa,Sx w (nm.map nmS)) :: (LamL lamP lamQ lam ++ ((cq,Cel (some (.ref bq))) :: (cs,Cel (some (.ref t.x))) :: TP w t σ))) s:=
  S.perm (.cons _ (.cons _ ((List.Perm.cons _ List.perm_middle.symm).trans List.perm_middle.symm)))
 refine sortedX (pos:=lamP) (q:=lamQ) C rfl ?z1 ?z2 S7 ?z3 ?z4 hq (fun s8 g8 D out c le8 ho hp S8 => ?_) rfl rfl B.g B.b B.c B.q B.E B.k B.qn B.so (fun ι ι ι ι ι => rfl) (by decide) rfl rfl rfl rfl (fun ι ι ι => rfl) rfl
 case z1 => exact Nat.lt_of_le_of_lt hroom (by decide)
 case z2 => exact Nat.lt_of_le_of_lt (Nat.add_le_add_right hu 2) (by decide)
 case z3 => exact fun e => hne (List.map_eq_nil_iff.mp e)
 case z4 =>
  intro x hx
  obtain ⟨k,_,rfl⟩:=List.mem_map.mp hx
  rw [mk_len]; exact ltr (nameS_len k) (by decide)
 obtain ⟨ls,hls,hout⟩:=names_of ho hp
 have hol:=hout.len
 rw [List.length_map] at hol
 have hnod:ls.Nodup:=hls.nodup_iff.mpr hnd
 refine ⟨D,out,g8,_,rfl,S8.list (.tail .head),S8,fun it acc Lc s9 R' S9 hl9 fin => ?_⟩
 let KI:Nat → (Addr → Option Obj) → Ldg → List (Str × Value) → Prop:=fun i g' N' kq => ∃ σ',K6 t nl dl pl σ g8 (ls.take i) g' kq σ' ∧ N' = (L,Nsp m) :: (D,Lst out) :: (sa,Sx w (nm.map nmS)) :: (LamL lamP lamQ (some c) ++ ((cq,Cel (some (.ref bq))) :: (cs,Cel (some (.ref t.x))) :: TP w t σ'))
 refine compD (iteL (vs:=out) rfl) KI ?_ ?_ ?_ ?_ S9
 · rintro i g' m' N' kq s' ⟨σ',_,rfl⟩ S'
   exact S'.list (.tail (.tail (.tail (.tail .head))))
 · rintro i v g' m' N' kq s' E' hi hv ⟨σ',q,rfl⟩ S'
   obtain ⟨x,tx,hx,rfl⟩:=hout.get hv
   rw [List.getElem?_map] at hx
   obtain ⟨k,hk,rfl⟩:=Option.map_eq_some_iff.mp hx
   have hok:=I2 _ _ k (hls.mem_iff.mp (List.mem_of_getElem? hk)) (iv_fold I0 I1 hls i)
   have hb':g' bq = some (bndO 83 t.x):=q.le _ _ (le8 _ _ hbq)
   refine asnE S' fun s5 S5 => ?_
   refine ldE S5 rfl ?_
   refine Call_ ?_
   refine ldC S5 (.tail (.tail (.tail (.tail (.tail (.tail (.app .head))))))) ?_ rfl rfl (kind_re B.k B.kq (by decide) rfl)
   refine cwB (fa:=83) (x:=t.x) ?_
   refine spliced_more ?_
   refine ldE S5 rfl ?_
   refine spliced_none ?_
   refine ⟨⟨S5.keep _ _ hb',_,_,C.C.at S5 83 _ (by k_is),rfl⟩,callBd S5 hb' ?_⟩
   refine St.sub (N1:=TP w t σ') (N2:=(Lc,Nsp (up m' "n" (sv (nameS k) tx))) :: (it,Itr D (i + 1)) :: (acc,Dct w kq) :: (L,Nsp m) :: (D,Lst out) :: (sa,Sx w (nm.map nmS)) :: (LamL lamP lamQ (some c) ++ [(cq,Cel (some (.ref bq))),(cs,Cel (some (.ref t.x)))]))
    (S5.perm (List.Perm.of_eq (by simp))) List.perm_append_comm ?n1 fun g1 le1 S6 back => ?_
   case n1 =>
    refine nt_cons (nt_nsp _) (nt_cons (nt_itr _ _) (nt_cons (nt_dct _ _) (nt_cons (nt_nsp _) (nt_cons (nt_lst _) (nt_cons nt_sx fun p hp => ?_)))))
    rcases List.mem_append.mp hp with hp | hp
    · exact nt_lam _ _ _ _ hp
    · exact nt_cons (nt_cel _) (nt_cons (nt_cel _) fun _ z => absurd z List.not_mem_nil) p hp
   refine (f_qname (d:=d) (u:=u) C.C (q.R.up le1) hroom hok.nd hok.ne hok.zd hok.zd2 hok.zn hok.zn2 hok.ok hok.no hok.zp hok.em fun g7 σ7 r x1 x2 x3 le7 V7 e7 e7' hr => Hr.mk fun s7 S7' => ?_).run _ S6
   refine back g7 _ _ le7 S7' fun g9 b1 S9' b3 => ?_
   have etake:ls.take (i + 1) = ls.take i ++ [k]:=by rw [List.take_add_one,hk]; rfl
   have hk':=q.fresh hnod hk
   refine ⟨_,_,g9,up m' "n" (sv (nameS k) tx),_,rfl,?_,⟨σ7,?_,rfl⟩,?_⟩
   · rw [q.len]; exact ltr (List.length_take_le' _ _) (ltr (hls.length_eq ▸ hlen:ls.length ≤ 4) (by decide))
   · rw [etake,stored_new hk']
     refine ⟨q.le.tr b1,?_,?_,?_,?_⟩
     · rw [qfold_snoc]; exact PQ.snoc (b3 _ _ hr (isTp_tup _)) (q.pq.up b1)
     · rw [qfold_snoc]; exact V7.tp b3 (q.R.I.up b1)
     · rw [e7,q.e]
     · rw [e7',q.e']
   · exact (S9'.perm List.perm_append_comm).perm (List.Perm.of_eq (by simp))
 · rintro g' m' N' kq s' ⟨σ',q,rfl⟩ S'
   rw [hol,List.take_length] at q
   refine fin m' m g' _ s' (S'.perm (.cons _ (.swap _ _ _))) fun s10 S10 => ?_
   have S11:=St.cut (pre:=[_,_]) (p:=(D,Lst out)) S10
   have S12:=St.cut (pre:=[_,_]) (p:=(sa,Sx w _)) S11
   have S13:=St.cut (pre:=_ :: _ :: LamL lamP lamQ (some c)) (p:=(cq,Cel (some (.ref bq)))) S12
   have S14:St H0 g' ((L,Nsp (up m "parsed_qnames" (.ref acc))) :: (acc,Dct w kq) :: (cs,Cel (some (.ref t.x))) :: (LamL lamP lamQ (some c) ++ TP w t σ')) s10:=S13.perm (.cons _ (.cons _ List.perm_middle))
   have hf:=iv_fold I0 I1 hls ls.length
   rw [List.take_length] at hf
   refine h s10 g' σ' c ls acc kq _ hls hf ⟨le8.tr q.le,q.pq,q.R,q.e,q.e'⟩ (M.up (by decide +kernel)) ((up_ne (by decide +kernel)).trans hn) ((up_ne (by decide +kernel)).trans ha) (up_eq _ _ _) S14
 · exact ⟨σ,⟨gLe.rfl' _,trivial,V.up le8,rfl,rfl⟩,rfl⟩
end
section
variable {g:Addr → Option Obj} {l:Fr1} {N:Ldg} {t:Tg} {rs b:Bool}
theorem trD {d:Addr} {kvs:List (Str × Value)} (D:GD Z.w g d kvs) (hz:kvs.length ≤ 100000) (h:G Z g l N (rsB c (!kvs.isEmpty))) (hc:autoParam (HdB (truthy (.ref d)) c) aR):G Z g l N c:=Hr.mk fun s S => outB hc (gdTruthy S D hz (h.run (tick (tick s)) S))
theorem gso {a:Addr} {its:List Value} (i:Nat) (h:G Z g l N (rsM c (.builtin "list.sort",[.ref a]))) (hk:autoParam (At (a,Lst its) i N) aR) (hc:autoParam (HdM (.ref a) "sort" c) aR):G Z g l N c:=Hr.mk fun s S => outM hc (gmL S (At.pk (i:=i + 1) hk) slot_list_sort PySem.F.type_list_sort (h.run s S))
theorem soR {a:Addr} {its:List Value} {rs:List (T × T)} (i:Nat) (hR:Rws g its rs) (hn:(rs.map (·.1)).Nodup) (h4:rs.length ≤ 4) (h:let c':=c; let l':=l; let N':=N; ∀ vs rs',Rws g vs rs' → rs'.Perm rs → G Z g l' (updL (a,Lst vs) i N') (rsV c' .none))
 (hk:autoParam (At (a,Lst its) i N) aR) (hc:autoParam (HdV (call (.builtin "list.sort") [.ref a]) c) aR):G Z g l N c:=Hr.mk fun s S => outV hc (by
 obtain ⟨m,S1,hx,hm⟩:=S.frm
 exact lsortA S1 Z.hL (At.pk (i:=i) hk) hR hn h4 fun s' vs rs' q1 q2 _ S' => (h vs rs' q1 q2).run s' (S'.toFr _ hx hm))
theorem gdso {d:Addr} {kvs:List (Str × Value)} {rs:List (T × T)} (D:GD Z.w g d kvs) (hK:KV kvs rs) (hn:(rs.map (·.1)).Nodup) (h3:rs.length ≤ 3)
 (h:let c':=c; let l':=l; let N':=N; ∀ g' a vs rs',gLe g g' → Rws g' vs rs' → rs'.Perm rs → AscT rs' → G Z g' l' ((a,Lst vs) :: N') (rsV (rsV c' (.ref 0)) (.ref a)))
 (hc:autoParam (HdV (call (.builtin "dict.items") [.ref d]) c) aR) (hc2:∀ v,HdV (call (.builtin "sorted") [.ref v]) (rsV c (.ref v)):=by exact fun ι => rfl) (hc3:∀ v,rsV (rsV c (.ref v)) = rsV (rsV c (.ref 0)):=by exact fun ι => rfl):G Z g l N c:=Hr.mk fun s S => outV hc (gdItems S D fun s1 v S1 hv => outV (hc2 v) (by
 rw [hc3 v]
 obtain ⟨m,S2,hx,hm⟩:=S1.frm
 exact sortedV rfl S2 Z.hL hv (D.of S1) hK hn (Nat.le_succ_of_le h3) fun s' g' a vs' rs' le q1 q2 q3 S' => (h g' a vs' rs' le q1 q2 (q3 h3)).run s' (S'.toFr _ hx hm)))
theorem c_attr {x:T} {u:Tok} (hroom:Z.d ≤ 900) (hx:x.length ≤ 2000) (h:let c':=c; let l':=l; let N':=N; ∀ t',G Z g l' N' (rsV c' (sv (escA x) t'))) (hc:autoParam (HdCal (.ref 161) [sv x u] c) aR):G Z g l N c:=cal (hc:=hc) (Hr.mk fun s S => attribS Z.C S hroom hx fun s' t' S' => (h t').run s' S')
theorem gjn {x:Str} {u:Tok} (h:G Z g l N (rsM c (.builtin "str.join",[.str x u]))) (hc:autoParam (HdM (.str x u) "join" c) aR):G Z g l N c:=Hr.mk fun s S => outM hc (PySem.GM.join (h.run s S))
theorem jnL {a:Addr} {its:List Value} {xs:List T} {u:Tok} (i:Nat) (hT:Txs its xs) (hz:xs.flatten.length ≤ 1000000) (h:let c':=c; let l':=l; let N':=N; ∀ t',G Z g l' N' (rsV c' (sv xs.flatten t')))
 (hk:autoParam (At (a,Lst its) i N) aR) (hc:autoParam (HdV (call (.builtin "str.join") [.str (Str.ofString "") u,.ref a]) c) aR):G Z g l N c:=Hr.mk fun s S => outV hc (by
 obtain ⟨ll,el,em⟩:=hT.strs
 refine SC.join (l:=ll) (texts:=xs.map mk) (by have:=S.list (At.pk (i:=i + 1) hk); rw [el] at this; exact this) em (joinOk hz) fun t' k => ?_
 rw [join_mk]
 exact (h t').run _ S)
theorem srs (I:TgIn g t) (i:Nat) (h:G Z g l (updL (t.dx,Is (tObj Z.w.params t b rd)) i N) (rsU c)) (hk:autoParam (At (t.dx,Is (tObj Z.w.params t rs rd)) i N) aR) (hc:autoParam (HdU (setAttr (.ref t.x) "_root_seen" (.bool b)) c) aR):G Z g l N c:=Hr.mk fun s S => outU hc (by
 obtain ⟨m,S1,hf⟩:=S.frm
 exact set_rs Z.C.X S1 Z.hL I (At.pk hk) fun s2 S2 => h.run s2 (S2.toFr _ hf.1 hf.2))
end
structure S4 (env:Env) (cs:Addr):Prop where
 tag:Lo env "tag"
 attrs:Lo env "attrs"
 qt:Lo env "qname_text"
 nn:Lo env "new_namespaces"
 qa:Lo env "qattrs"
 pq:Lo env "parsed_qnames"
 al:Lo env "attr_list"
 kk:Lo env "k"
 v:Lo env "v"
 aq:Lo env "attr_qname"
 an:Lo env "attr_name"
 uri:Lo env "uri"
 sb:Lo env "space_behaviour"
 wr:Lo env "write"
 self:Lo env "self" .cell
 cc:env.cells.lookup (Str.ofString "self") = some cs
 so:Lo env "sorted" .globalImplicit
noncomputable abbrev sF (n:Nm) (tok:Tok) (da:Addr) (nn qa pq al k v aq an ur sb wr:Option Value):Fr1:=
 [("tag",some (sv (nameS n) tok)),("attrs",some (.ref da)),("qname_text",some .none),(Str.ofString "new_namespaces",nn),(Str.ofString "qattrs",qa),(Str.ofString "parsed_qnames",pq),(Str.ofString "attr_list",al),(Str.ofString "k",k),(Str.ofString "v",v),(Str.ofString "attr_qname",aq),(Str.ofString "attr_name",an),(Str.ofString "uri",ur),(Str.ofString "space_behaviour",sb),(Str.ofString "write",wr)]
noncomputable def nsSc:Scope:=lcSc (cpS (atB (subB (some (atB (mthB 8) 7))) 0))
theorem ns_sc (env:Env):ScOk env [] nsSc:=⟨rfl,rfl,by decide +kernel,by decide +kernel⟩
variable {al sb:Option Value} {pq:Addr}
section
variable {g:Addr → Option Obj} {N:Ldg} {Q:Flow → PP} {t:Tg} {σ:Ts} {cs top:Addr} {k v aq an ur wr:Option Value} {kvs:List (Str × Value)} {ats:List (Nm × T)}
theorem s7 {tv:List Value} {l0:Lvl} (B:S4 Z.env cs) (hD:Prs g tv l0) (hnx:(l0.map (·.2)).Nodup) (h4:l0.length ≤ 4) (i:Nat) (hk:At (top,Lst tv) i N)
 (h:∀ g' a rows xr,gLe g g' → xr.Perm (l0.map nsRow) → Rws g' rows xr → G Z g' (sF n tok da (some (.ref top)) (some .none) (some (.ref pq)) (some (.ref a)) k v aq an ur sb wr) ((a,Lst rows) :: N) (go Z ((mthB 8).drop 8) K)) :
 G Z g (sF n tok da (some (.ref top)) (some .none) (some (.ref pq)) al k v aq an ur sb wr) N (go Z ((mthB 8).drop 7) K):=by
 have htl:=hD.len
 refine letG ?_; intro c l N
 refine nx ?_
 refine ld 3 B.nn ?_
 refine trL i ?_ (hk:=hk) (hz:=htl ▸ ltr h4 (by decide))
 cases tv with
 | nil =>
  have el:l0 = []:=List.length_eq_zero_iff.mp htl.symm
  refine letG ?_; intro c l N
  refine nx ?_
  refine nwL ?_; intro c l N a
  refine st 6 B.al ?_
  exact h g a [] [] (gLe.rfl' _) (by rw [el]; exact .refl _) (Rws.nil _)
 | cons v0 tv =>
  refine letG ?_; intro c l N
  refine nx ?_
  refine lcA (y:=Str.ofString "attr_list") (ns_sc _) ?_ (hl:=B.al)
  refine ld 3 B.nn ?_
  let KI:Nat → (Addr → Option Obj) → List Value → Prop:=fun j g' out => gLe g g' ∧ Rws g' out ((l0.take j).map nsRow)
  refine coUL 6 i B.al (ns_sc _) ["uri","prefix"] KI ?_ ?_ ⟨gLe.rfl' _,Rws.nil _⟩ ?_ ?_ (hj:=hk)
  · rintro j g' out ⟨_,hR⟩
    rw [hR.1,List.length_map]; exact ltr (List.length_take_le' _ _) (ltr h4 (by decide))
  · rintro j g' out ⟨le,_⟩; exact le
  · rintro g' a out ⟨le,hR⟩
    rw [show (v0 :: tv).length = l0.length from htl,List.take_length] at hR
    refine letG ?_; intro c l N
    refine nx ?_
    refine ld 6 B.al ?_
    refine gso 0 ?_
    refine soR 0 hR ?_ (by rw [List.length_map]; exact h4) ?_
    · rw [List.map_map]
      rw [List.Nodup,List.pairwise_map] at hnx ⊢
      exact hnx.imp fun hne q => hne (xmlnsS_inj q)
    intro c l N vs rs' hR' hp
    exact h g' a vs rs' le hp hR'
  · rintro Lc hL E j v it acc g' out m Qe Qs hv ⟨le,hR⟩ q
    obtain ⟨e,he,b,t1,t2,rfl,hg⟩:=hD.get hv
    have fin:∀ {g2 a tx},gLe g' g2 → g2 a = some (tupO [sv (xmlnsS e.2) tx,sv (uriS e.1) t1]) → gLe g g2 ∧ Rws g2 (out ++ [.ref a]) ((l0.take (j + 1)).map nsRow):=fun le2 ho => ⟨le.tr le2,by
     rw [List.take_add_one,he,Option.toList_some,List.map_append]
     exact Rws.snoc (r:=nsRow e) (hR.up fun b o q _ => le2 b o q) ho⟩
    refine letG ?_; intro c l N
    refine as2 0 1 (loC rfl) (loC rfl) (le _ _ hg) ?_
    refine ld 1 (loC rfl) ?_
    refine trP (fun ee => ?_) fun ee => ?_
    · refine letG ?_; intro c l N
      refine csM [120,109,108,110,115,58] ?_; intro c l N _
      refine ld 1 (loC rfl) ?_
      refine adT ?_ (hz:=ltr (Nat.add_le_add_left (pfxS_len e.2) 6) (by decide)); intro c l N tx
      refine ld 0 (loC rfl) ?_
      refine nwT ?_; intro c l N g2 a le2 ho
      exact q.el (fin le2 (by rw [show xmlnsS e.2 = [120,109,108,110,115,58] ++ pfxS e.2 from if_neg ee]; exact ho))
    · refine letG ?_; intro c l N
      refine csM [120,109,108,110,115] ?_; intro c l N tx
      refine ld 0 (loC rfl) ?_
      refine nwT ?_; intro c l N g2 a le2 ho
      exact q.el (fin le2 (by rw [show xmlnsS e.2 = [120,109,108,110,115] from if_pos ee]; exact ho))
inductive AK (g0:Addr → Option Obj) (xr:List (T × T)) (as':List (Nm × T)) (ps:List (Nm × Pfx)) (F:Option Value → Option Value → Option Value → Option Value → Option Value → Fr1) (M:List Value → Ldg):Nat → (Addr → Option Obj) → Fr1 → Ldg → Prop
 | mk {i g' rows k v aq an ur} (le:gLe g0 g') (hR:Rws g' rows (xr ++ (as'.take i).map (atRow ps))):AK g0 xr as' ps F M i g' (F k v aq an ur) (M rows)
theorem s8 {a:Addr} {xr:List (T × T)} {rows:List Value} (B:S4 Z.env cs) (D:GD Z.w g da kvs) (hK:KV kvs (ats.map fun e => (nameS e.1,e.2))) (hnd:(ats.map (·.1)).Nodup) (hat3:ats.length ≤ 3)
 (hpq:PQ g kq ps) (hps:∀ e ∈ ats,∃ p,ps.lookup e.1 = some p) (hR:Rws g rows xr) (hxl:xr.length ≤ 4)
 (h:∀ g' rows' as' k v aq an ur,gLe g g' → List.Perm as' ats → AscT (as'.map fun e => (nameS e.1,e.2)) → Rws g' rows' (xr ++ as'.map (atRow ps)) → G Z g' (sF n tok da (some (.ref top)) (some .none) (some (.ref pq)) (some (.ref a)) k v aq an ur sb wr) ((a,Lst rows') :: (pq,Dct Z.w kq) :: N) (go Z ((mthB 8).drop 9) K)) :
 G Z g (sF n tok da (some (.ref top)) (some .none) (some (.ref pq)) (some (.ref a)) k v aq an ur sb wr) ((a,Lst rows) :: (pq,Dct Z.w kq) :: N) (go Z ((mthB 8).drop 8) K):=by
 have hkl:=hK.len
 rw [List.length_map] at hkl
 refine letG ?_; intro c l N1
 refine nx ?_
 refine ld 1 B.attrs ?_
 refine trD D (hkl ▸ ltr hat3 (by decide)) ?_
 cases hke:kvs.isEmpty with
 | true =>
  have ea:ats = []:=List.length_eq_zero_iff.mp (by rw [← hkl,List.isEmpty_iff.mp hke]; rfl)
  exact h g rows [] k v aq an ur (gLe.rfl' _) (by rw [ea]) (fun i hi => absurd hi (Nat.not_lt_zero _)) (by rw [List.map_nil,List.append_nil]; exact hR)
 | false =>
  refine letG ?_; intro c l N1
  refine nx ?_
  refine bl (v:=.builtin "sorted") B.so (by k_is) boot_sorted (by decide) ?_
  refine ld 1 B.attrs ?_
  refine gdm D PySem.F.slot_dict_items PySem.F.type_dict_items ?_
  refine gdso D hK ?_ (by rw [List.length_map]; exact hat3) ?_
  · rw [List.map_map]
    rw [List.Nodup,List.pairwise_map] at hnd ⊢
    exact hnd.imp fun hne q => hne (nameS_inj q)
  intro c l N1 g11 L vs' rs' le11 hR11 hp11 hA11
  obtain ⟨as',hpa,rfl⟩:=perm_map_inv _ hp11
  let KF:Option Value → Option Value → Option Value → Option Value → Option Value → Fr1:=fun k v aq an ur => sF n tok da (some (.ref top)) (some .none) (some (.ref pq)) (some (.ref a)) k v aq an ur sb wr
  let KM:List Value → Ldg:=fun rows => (L,Lst vs') :: (a,Lst rows) :: (pq,Dct Z.w kq) :: N
  let KI:Nat → (Addr → Option Obj) → Fr1 → Ldg → Prop:=AK g11 xr as' ps KF KM
  refine lpL 0 KI (fun j g' l' N' hK => by cases hK; exact ⟨0,rfl⟩) (.mk (gLe.rfl' _) (by rw [List.take_zero,List.map_nil,List.append_nil]; exact hR.up fun b o q _ => le11 b o q)) ?_ ?_
  · intro g' l' N' hK
    cases hK with | mk le hR' => ?_
    rw [show vs'.length = as'.length from by rw [hR11.1,List.length_map],List.take_length] at hR'
    exact G.drop (h g' _ as' _ _ _ _ _ (le11.tr le) hpa hA11 hR')
  · intro j v0 it E Q' g' l' N' hi hv' hK q
    cases hK with | mk le hRr => ?_
    obtain ⟨r,hr,b,t1,t2,rfl,hg⟩:=hR11.get hv'
    rw [List.getElem?_map] at hr
    obtain ⟨e,he,rfl⟩:=Option.map_eq_some_iff.mp hr
    obtain ⟨pk,hpk⟩:=hps e (hpa.mem_iff.mp (List.mem_of_getElem? he))
    obtain ⟨r1,u1,u2,u3,hva,hg1⟩:=((hpq.up le11).up le).at hpk
    refine letG ?_; intro c l N1
    refine as2 7 8 B.kk B.v (le _ _ hg) ?_
    refine nx ?_
    refine ld 4 B.qa ?_
    refine isN ?_
    refine nx ?_
    refine tuA ?_
    refine ld 5 B.pq ?_
    refine ld 7 B.kk ?_
    refine dct 3 ?_ (hv:=hva)
    refine asU hg1 ?_
    refine st 9 B.aq ?_
    refine st 10 B.an ?_
    refine st 11 B.uri ?_
    refine letG ?_; intro c l N1
    refine nx ?_
    refine ld 6 B.al ?_
    refine gap 2 ?_
    refine ld 11 B.uri ?_
    refine letG ?_; intro c l N1
    have fin:∀ tx,G (Z.sE E) g' l N1 (rsV (rsB c true) (sv (atKey ps e.1) tx)):=fun tx => by
     refine letG ?_; intro c l N1
     refine ld 8 B.v ?_
     refine nwT ?_; intro c l N1 g2 b2 le2 ho
     refine app 2 ?_ (hz:=by
      rw [hRr.1,lap,List.length_map]
      exact szl (ltr (Nat.add_le_add hxl (ltr (List.length_take_le' _ _) (hpa.length_eq ▸ hat3))) (by decide)))
     refine q.go (.mk (le.tr le2) ?_)
     rw [List.take_add_one,he,Option.toList_some,List.map_append,← List.append_assoc]
     exact Rws.snoc (r:=atRow ps e) (hRr.up fun b o q _ => le2 b o q) ho
    refine trU (fun ee => ?_) fun ee => ?_
    · have f:=fin u1
      rw [show atKey ps e.1 = qS pk e.1.2 from by rw [atKey,if_neg ee,hpk]; rfl] at f
      refine ld 9 B.aq ?_
      exact f
    · have f:=fin u2
      rw [show atKey ps e.1 = locS e.1.2 from if_pos ee] at f
      refine ld 10 B.an ?_
      exact f
noncomputable abbrev LZ (w:World) (a:Addr) (rows:List Value) (pq:Addr) (kq:List (Str × Value)) (cs:Addr) (t:Tg) (σ:Ts) (X:Ldg):Ldg:=(a,Lst rows) :: (pq,Dct w kq) :: (cs,Cel (some (.ref t.x))) :: (TP w t σ ++ X)
theorem s9 {a:Addr} {rows:List Value} (B:S4 Z.env cs) (I:TgIn g t) (D:GD Z.w g da kvs) (hK:KV kvs (ats.map fun e => (nameS e.1,e.2))) (hpq:PQ g kq ps) {p:Pfx} (hn:ps.lookup n = some p) (hnp:1 ≤ σ.nps) (hnp2:σ.nps ≤ 10000) (hzo:σ.out.length ≤ 10000)
 (h:∀ tx,G Z g (sF n tok da (some (.ref top)) (some .none) (some (.ref pq)) al k v aq an ur (some .none) (some (.ref t.wr))) (LZ Z.w a rows pq kq cs t { σ with nps:=σ.nps + 1,out:=σ.out ++ [sv ([60] ++ qS p n.2) tx] } X) (go Z ((mthB 8).drop 13) K)) :
 G Z g (sF n tok da (some (.ref top)) (some .none) (some (.ref pq)) al k v aq an ur sb wr) (LZ Z.w a rows pq kq cs t σ X) (go Z ((mthB 8).drop 9) K):=by
 obtain ⟨r1,u1,u2,u3,hva,hg1⟩:=hpq.at hn
 refine letG ?_; intro c l N
 refine nx ?_
 refine ld 1 B.attrs ?_
 refine gdm D PySem.F.slot_dict_get PySem.F.type_dict_get ?_
 refine Mine.cs ?_; intro c l N _
 refine gdg1 D ?_ (v:=.none) (hv:=by rw [no_val hK]; rfl)
 refine st 12 B.sb ?_
 refine nx ?_
 refine ldc 2 B.self B.cc ?_
 refine gps I 3 ?_
 refine gap 8 ?_
 refine ld 12 B.sb ?_
 refine tn ?_
 refine ldc 2 B.self B.cc ?_
 refine gps I 3 ?_
 refine ci ?_; intro c l N _
 refine neg ?_; intro c l N _
 refine last 8 ?_ (x:=.bool false) (hx:=by
  obtain ⟨k,e⟩:∃ k,σ.nps = k + 1:=⟨σ.nps - 1,(Nat.sub_add_cancel hnp).symm⟩
  rw [e,List.replicate_succ']; exact List.getLast?_concat)
 refine app 8 ?_ (its':=List.replicate (σ.nps + 1) (.bool false)) (he:=List.replicate_succ') (hz:=by rw [List.length_replicate]; exact szl (ltr hnp2 (by decide)))
 refine letG ?_; intro c l N
 refine nx ?_
 refine ldc 2 B.self B.cc ?_
 refine gwr I 3 ?_
 refine st 13 B.wr ?_
 refine nx ?_
 refine ld 13 B.wr ?_
 refine cwk (o:=t.out) ?_
 refine csM [60] ?_; intro c l N _
 refine ld 5 B.pq ?_
 refine ld 0 B.tag ?_
 refine dct 1 ?_ (hv:=hva)
 refine ci ?_; intro c l N _
 refine tup (i:=0) hg1 ?_
 refine adT ?_ (hz:=ltr (Nat.add_le_add_left (qS_len p n.2) 1) (by decide)); intro c l N tx
 refine kp I.2.1 ?_
 refine cwr I 9 ?_ (hz:=szl (ltr hzo (by decide)))
 exact h tx
theorem rowS_len {r:T × T} (h:r.1.length ≤ 40 ∧ r.2.length ≤ 100):(rowS r).length ≤ 700:=by
 have h1:=rows_len [r] fun q hq => by rw [List.mem_singleton.mp hq]; exact h
 rw [List.map_cons,List.map_nil,List.flatten_cons,List.flatten_nil,List.append_nil] at h1
 exact h1
theorem rowS_z {r:T × T} (h:r.1.length ≤ 40 ∧ r.2.length ≤ 100) (y z:T) (e:rowS r = z ++ y):z.length ≤ 1000000:=by
 have h1:=rowS_len h
 rw [e,lap] at h1
 exact ltr (Nat.le_add_right _ _) (ltr h1 (by decide))
noncomputable def atrSc:Scope:=lcSc ((evE ((evE (svO (subB (some (atB (mthB 8) 13)))[0]?).x).es.headD dkE)).es.headD dkE)
theorem atr_sc (env:Env):ScOk env [] atrSc:=⟨rfl,rfl,by decide +kernel,by decide +kernel⟩
theorem s13 {a:Addr} {rows:List Value} {rws:List (T × T)} (B:S4 Z.env cs) (hroom:Z.d ≤ 850) (I:TgIn g t) (hR:Rws g rows rws) (hrw:∀ r ∈ rws,r.1.length ≤ 40 ∧ r.2.length ≤ 100) (h7:rws.length ≤ 7) (hzo:σ.out.length ≤ 10001)
 (h:∀ os,Txs os (if rws = [] then [] else [(rws.map rowS).flatten]) → G Z g (sF n tok da (some (.ref top)) (some .none) (some (.ref pq)) (some (.ref a)) k v aq an ur sb (some (.ref t.wr))) (LZ Z.w a rows pq kq cs t { σ with out:=σ.out ++ os } X) (go Z ((mthB 8).drop 14) K)) :
 G Z g (sF n tok da (some (.ref top)) (some .none) (some (.ref pq)) (some (.ref a)) k v aq an ur sb (some (.ref t.wr))) (LZ Z.w a rows pq kq cs t σ X) (go Z ((mthB 8).drop 13) K):=by
 have hrl:=hR.1
 refine letG ?_; intro c l N
 refine nx ?_
 refine ld 6 B.al ?_
 refine trL 0 ?_ (hz:=hrl ▸ ltr h7 (by decide))
 cases rows with
 | nil =>
  have h:=h [] (by rw [if_pos (List.length_eq_zero_iff.mp hrl.symm)]; trivial)
  rw [List.append_nil] at h
  exact h
 | cons v0 rows =>
  have er:rws ≠ []:=fun z => by rw [z] at hrl; cases hrl
  rw [if_neg er] at h
  refine letG ?_; intro c l N
  refine nx ?_
  refine ld 13 B.wr ?_
  refine cwk (o:=t.out) ?_
  refine Mine.cs ?_; intro c l N _
  refine gjn ?_
  refine lcG (atr_sc _) ?_
  refine ld 6 B.al ?_
  let KI:Nat → (Addr → Option Obj) → List Value → Prop:=fun j g' out => g' = g ∧ Txs out ((rws.take j).map rowS)
  refine coVL 0 (atr_sc _) ["k","v"] KI ?_ ?_ ⟨rfl,trivial⟩ ?_ ?_
  · rintro j g' out ⟨_,hT⟩
    rw [hT.len,List.length_map]; exact ltr (List.length_take_le' _ _) (ltr h7 (by decide))
  · rintro j g' out ⟨rfl,_⟩; exact gLe.rfl' _
  · rintro g' acc out ⟨rfl,hT⟩
    rw [show (v0 :: rows).length = rws.length from hrl,List.take_length] at hT
    refine letG ?_; intro c l N
    refine jnL 0 hT (ltr (rows_len rws hrw) (ltr (Nat.mul_le_mul_right 700 h7) (by decide))) ?_; intro c l N tx
    refine kp I.2.1 ?_
    refine cwr I 10 ?_ (hz:=szl (ltr hzo (by decide)))
    exact G.drop (h _ (Txs.one _ _))
  · rintro Lc hL E j v it acc g' out m Qe Qs hv ⟨rfl,hT⟩ q
    obtain ⟨r,hr,b,t1,t2,rfl,hg⟩:=hR.get hv
    have hz:=rowS_z (hrw r (List.mem_of_getElem? hr))
    refine letG ?_; intro c l N
    refine as2 0 1 (loC rfl) (loC rfl) hg ?_
    refine fsX ?_
    refine fsc [32] ?_ (a:=[]) (hz:=by decide)
    refine ld 0 (loC rfl) ?_
    refine fsv ?_ (hz:=hz ([61,34] ++ (escA r.2 ++ [34])) _ (by show [32] ++ r.1 ++ [61,34] ++ escA r.2 ++ [34] = _; simp))
    refine fsc [61,34] ?_ (hz:=hz (escA r.2 ++ [34]) _ (by show [32] ++ r.1 ++ [61,34] ++ escA r.2 ++ [34] = _; simp))
    refine gl (x:=Str.ofString "_escape_attrib_c14n") (loC rfl) (by k_is) ?_
    refine cwf ?_
    refine ld 1 (loC rfl) ?_
    refine c_attr (ltr hroom (by decide)) (ltr (hrw r (List.mem_of_getElem? hr)).2 (by decide)) ?_; intro c l N t4
    refine fsv ?_ (hz:=hz [34] _ rfl)
    refine fsc [34] ?_ (hz:=hz [] _ (List.append_nil _).symm)
    refine fse ?_ (hz:=hz [] _ (List.append_nil _).symm); intro c l N tx
    exact q.el ⟨rfl,by rw [List.take_add_one,hr,Option.toList_some,List.map_append]; exact hT.app (Txs.one (rowS r) tx)⟩
theorem tp_nss (w:World) (t:Tg) (rs rd:Bool) (data:List Value) (decl nss:List (Addr × List Value)) (pm:List (Str × Value)) (nps:Nat) (out:List Value) (b:Addr) (X:Ldg) :
 ((b,Lst []) :: ((t.dx,Is (tObj w.params t rs rd)) :: (t.da,Lst data) :: (t.ds,Lst (rfs decl)) :: (t.ns,Lst (rfs nss ++ [.ref b])) :: (t.pm,Dct w pm) :: (t.ps,Lst (List.replicate nps (.bool false))) :: (t.out,Lst out) :: ((decl.map lvP ++ nss.map lvP) ++ X))).Perm (TP w t ⟨rs,rd,data,decl,(b,[]) :: nss,pm,nps,out⟩ ++ X):=by
 rw [show rfs nss ++ [Value.ref b] = rfs ((b,[]) :: nss) from (rfs_cons (b,[]) nss).symm]
 exact ((List.perm_middle (a:=((b,Lst []):Addr × OP)) (l₁:=[(t.dx,Is (tObj w.params t rs rd)),(t.da,Lst data),(t.ds,Lst (rfs decl)),(t.ns,Lst (rfs ((b,[]) :: nss))),(t.pm,Dct w pm),(t.ps,Lst (List.replicate nps (.bool false))),(t.out,Lst out)] ++ decl.map lvP) (l₂:=nss.map lvP)).symm.append_right X)
theorem s14 {a:Addr} {rows:List Value} (B:S4 Z.env cs) (I:TgIn g t) (hzo:σ.out.length ≤ 20000) (hzn:σ.nss.length ≤ 10000)
 (h:∀ b tx,Hr Z.H0 g (TP Z.w t { σ with rs:=true,nss:=(b,[]) :: σ.nss,out:=σ.out ++ [sv [62] tx] } ++ X) (Q .next)) :
 G Z g (sF n tok da (some (.ref top)) (some .none) (some (.ref pq)) al k v aq an ur sb (some (.ref t.wr))) (LZ Z.w a rows pq kq cs t σ X) (go Z ((mthB 8).drop 14) (finT Q)):=by
 refine letG ?_; intro c l N
 refine nx ?_
 refine ld 13 B.wr ?_
 refine cwk (o:=t.out) ?_
 refine csM [62] ?_; intro c l N tx
 refine kp I.2.1 ?_
 refine cwr I 9 ?_ (hz:=szl (ltr hzo (by decide)))
 refine nx ?_
 refine ld 2 B.qt ?_
 refine isN ?_
 refine nx ?_
 refine ldc 2 B.self B.cc ?_
 refine srs I 3 ?_
 refine nx ?_
 refine ldc 2 B.self B.cc ?_
 refine gnst I 3 ?_
 refine gap 6 ?_
 refine nwL ?_; intro c l N b
 refine app 7 ?_ (hz:=by rw [rfs,List.length_map,List.length_reverse]; exact szl (ltr hzn (by decide)))
 exact Hr.drop (Hr.cut (pre:=[_]) (Hr.cut (pre:=[_]) (Hr.cut (pre:=[_]) (Hr.perm (tp_nss _ _ _ _ _ _ _ _ _ _ _ _) (h b tx)))))
end
theorem names_nodup (n:Nm) (ats:List (Nm × T)):(namesOf n ats).Nodup:=foldN_nodup _ _ (List.nodup_cons.mpr ⟨List.not_mem_nil,List.nodup_nil⟩)
noncomputable def Ab.sta (a:Ab) (q:QF) (n:Nm) (xr:List (T × T)) (as':List (Nm × T)):Ab:=
 { a with dl:=q.dl,pl:=q.pl,nl:=[] :: a.nl,rs:=true,nps:=a.nps + 1,out:=a.out ++ tagOut (qS ((q.ps.lookup n).getD .em) n.2) (xr ++ as'.map (atRow q.ps)) }
noncomputable def StartA (w:World) (H0:Shared) (g:Addr → Option Obj) (t:Tg) (a:Ab) (n:Nm) (ats:List (Nm × T)) (q:QF) (φ:PP):Prop:=
 ∀ g' σ' c (xr:List (T × T)) (as':List (Nm × T)),gLe g g' → xr.Perm (q.dl.head!.map nsRow) → as'.Perm ats → AscT (as'.map fun e => (nameS e.1,e.2)) →
  TT g' t σ' (a.sta q n xr as') → Hr H0 g' (LamL lamP lamQ (some c) ++ TP w t σ') φ
theorem stB_eq:mthB 8 = stB 0 :: stB 1 :: stB 2 :: stB 3 :: stB 4 :: stB 5 :: stB 6 :: (mthB 8).drop 7:=by rfl
theorem fa {P:α → Prop} {a:α} {l:List α} (h:P a) (t:∀ x ∈ l,P x):∀ x ∈ a :: l,P x:=List.forall_mem_cons.mpr ⟨h,t⟩
noncomputable def sXs:List Str:=["tag","attrs","qname_text","new_namespaces","qattrs","parsed_qnames","attr_list","k","v","attr_qname","attr_name","uri","space_behaviour","write"]
variable {dr:List Lvl}
section
variable {g:Addr → Option Obj} {cs top:Addr} {Q:Flow → PP} {t:Tg} {σ:Ts} {a:Ab} {kvs:List (Str × Value)} {ats:List (Nm × T)} {lam:Option Addr}
theorem s7on {g3:Addr → Option Obj} {σ3:Ts} {c:Addr} {ls:List Nm} {k v aq an ur wr:Option Value} (B:S4 Z.env cs) (V:TT g t σ a) (hroom:Z.d ≤ 850)
 (D:GD Z.w g da kvs) (hK:KV kvs (ats.map fun e => (nameS e.1,e.2))) (hnd:(ats.map (·.1)).Nodup) (hat3:ats.length ≤ 3) (hv:∀ e ∈ ats,e.2.length ≤ 100)
 (htop:(σ.decl.map (·.1)).head? = some top) (hdl:a.dl = [] :: dr) (hnps:1 ≤ a.nps) (hnps2:a.nps ≤ 10000) (hzo:a.out.length ≤ 10000) (hls:ls.Perm (namesOf n ats))
 (hok:QOk t.rw a.nl (qfold t.rw a.nl a.dl a.pl ls).dl (qfold t.rw a.nl a.dl a.pl ls).pl n) (le3:gLe g g3) (K3q:PQ g3 kq (qfold t.rw a.nl a.dl a.pl ls).ps) (K3R:TR g3 t σ3 (qfold t.rw a.nl a.dl a.pl ls).dl a.nl (qfold t.rw a.nl a.dl a.pl ls).pl)
 (e3:σ3 = { σ with decl:=σ3.decl,pm:=σ3.pm }) (e3':σ3.decl.map (·.1) = σ.decl.map (·.1))
 (h:StartA Z.w Z.H0 g t a n ats (qfold t.rw a.nl a.dl a.pl ls) (Q .next)) :
 G Z g3 (sF n tok da (some (.ref top)) (some .none) (some (.ref pq)) al k v aq an ur sb wr) ((pq,Dct Z.w kq) :: (cs,Cel (some (.ref t.x))) :: (TP Z.w t σ3 ++ LamL lamP lamQ (some c))) (go Z ((mthB 8).drop 7) (finT Q)):=by
 obtain ⟨l0,hl0,hq0⟩:=qfold_top t.rw a.nl dr ls [] a.pl []
 rw [List.nil_append,← hdl] at hq0
 have hq0:(qfold t.rw a.nl a.dl a.pl ls).dl = l0 :: dr:=hq0
 have hps:∀ k ∈ namesOf n ats,∃ p,(qfold t.rw a.nl a.dl a.pl ls).ps.lookup k = some p:=fun k hk => look_key (by rw [qfold_keys]; exact hls.mem_iff.mpr hk)
 have h4:l0.length ≤ 4:=ltr hl0 (hls.length_eq ▸ names_len n ats hat3)
 generalize qfold t.rw a.nl a.dl a.pl ls = Q0 at K3R K3q hq0 hok hps h
 obtain ⟨qdl,qpl,qps⟩:=Q0
 have hq0:qdl = l0 :: dr:=hq0
 subst hq0
 have hDt:=K3R.D
 obtain ⟨tv,rest,hdc⟩:∃ tv rest,σ3.decl = (top,tv) :: rest:=by
  rw [← e3'] at htop
  cases hh:σ3.decl with
  | nil => rw [hh] at htop; cases htop
  | cons x y => rw [hh] at htop; exact ⟨x.2,y,by rw [← show x.1 = top from Option.some.inj htop]⟩
 rw [hdc] at hDt
 have hnx:(l0.map (·.2)).Nodup:=by
  have:=hok.nd
  rw [List.flatten_cons,List.map_append,List.nodup_append] at this
  exact this.1
 have en:σ3.nps = a.nps:=(show σ3.nps = σ.nps by rw [e3]).trans V.nps
 have eo:σ3.out = σ.out:=by rw [e3]
 have zo:σ3.out.length ≤ 10000:=by rw [eo,V.out.len]; exact hzo
 refine s7 B hDt.1 hnx h4 9 (by show At _ 0 ((σ3.decl.map lvP ++ σ3.nss.map lvP) ++ _); rw [hdc]; rfl) fun g7 al rows xr le7 hx7 hR7 => ?_
 refine s8 B ((D.up le3).up le7) hK hnd hat3 (K3q.up le7) (fun e he => hps _ ((foldN_mem _ _).mpr (.inr (List.mem_map_of_mem he)))) hR7 (by rw [hx7.length_eq,List.length_map]; exact h4) fun g8 rows' as' k v aq an ur le8 hpa hAs hR8 => ?_
 have V8:=(K3R.up le7).up le8
 have I8:=V8.I
 obtain ⟨pn,hpn⟩:=hps n (names_self n ats)
 refine s9 B I8 (((D.up le3).up le7).up le8) hK ((K3q.up le7).up le8) hpn (en ▸ hnps) (en ▸ hnps2) zo fun tx => ?_
 have h7:(xr ++ as'.map (atRow qps)).length ≤ 7:=by
  rw [lap,List.length_map,hpa.length_eq,hx7.length_eq,List.length_map]; exact Nat.add_le_add h4 hat3
 have z9:(σ3.out ++ [sv ([60] ++ qS pn n.2) tx]).length ≤ 10001:=by rw [lap]; exact Nat.add_le_add zo (Nat.le_refl 1)
 refine s13 B hroom I8 hR8 (rows_ok hx7 fun e he => hv e (hpa.mem_iff.mp he)) h7 z9 fun os hos => ?_
 have hol:os.length ≤ 1:=by rw [hos.len]; split <;> simp
 refine s14 B I8 (by rw [lap]; exact ltr (Nat.add_le_add z9 hol) (by decide)) (by rw [V8.NS.len]; exact ltr hok.zn2 (by decide)) fun b tx2 => Hr.perm List.perm_append_comm ?_
 refine h g8 _ c xr as' ((le3.tr le7).tr le8) hx7 hpa hAs ⟨⟨I8,V8.D,⟨trivial,V8.NS⟩,V8.PM⟩,(show σ3.data = σ.data by rw [e3]) ▸ V.dat,?_,rfl,(show σ3.rd = σ.rd by rw [e3]).trans V.rd,congrArg (· + 1) en⟩
 show Txs ((σ3.out ++ [sv ([60] ++ qS pn n.2) tx]) ++ os ++ [sv [62] tx2]) (a.out ++ tagOut (qS ((qps.lookup n).getD .em) n.2) (xr ++ as'.map (atRow qps)))
 rw [eo,hpn,List.append_assoc,List.append_assoc,tagOut,List.append_assoc]
 exact V.out.app ((Txs.one _ _).app (hos.app (Txs.one _ _)))
theorem stAll (B:SEn Z.env Z.env.locals cs cq) (B4:S4 Z.env cs) (C:Cy Z.w Z.H0) (V:TT g t σ a) (hroom:Z.d ≤ 850) (hu:Z.u ≤ 9500)
 (D:GD Z.w g da kvs) (hK:KV kvs (ats.map fun e => (nameS e.1,e.2))) (hnd:(ats.map (·.1)).Nodup) (hat3:ats.length ≤ 3) (hv:∀ e ∈ ats,e.2.length ≤ 100)
 (htop:(σ.decl.map (·.1)).head? = some top) (hdl:a.dl = [] :: dr) (hnps:1 ≤ a.nps) (hnps2:a.nps ≤ 10000) (hzo:a.out.length ≤ 10000)
 (Iv:List Lvl → Lvl → Prop) (I0:Iv a.dl a.pl) (I1:∀ dl pl m,m ∈ namesOf n ats → Iv dl pl → Iv (qn t.rw dl a.nl pl m.1).decl (qn t.rw dl a.nl pl m.1).pm) (I2:∀ dl pl m,m ∈ namesOf n ats → Iv dl pl → QOk t.rw a.nl dl pl m)
 (h:∀ ls,ls.Perm (namesOf n ats) → StartA Z.w Z.H0 g t a n ats (qfold t.rw a.nl a.dl a.pl ls) (Q .next)) :
 G Z g (sF n tok da (some (.ref top)) none none none none none none none none none none) ((cq,Cel none) :: (cs,Cel (some (.ref t.x))) :: (LamL lamP lamQ lam ++ TP Z.w t σ)) (go Z (mthB 8) (finT Q)):=Hr.mk fun s S => by
 obtain ⟨m,S1,hn,hm⟩:=S.frm
 show wpAny (model PG Z.w) (ar Z.d Z.u) (execs (mthB 8) Z.env) (fun f => den Z (finT Q f)) Z.E s
 rw [stB_eq]
 with_reducible refine st05 B C Z.hL V.R.I ⟨⟨tok,hm _ (List.Mem.head _)⟩,hm _ (List.Mem.tail _ (List.Mem.head _)),hm _ (List.Mem.tail _ (List.Mem.tail _ (List.Mem.head _)))⟩ (hm _ (List.Mem.tail _ (List.Mem.tail _ (List.Mem.tail _ (List.Mem.head _))))) D hK hat3 (.app .head) S1 fun s2 g2 m2 sa bq le2 M2 n2 q2 a2 b2 S2 => ?_
 with_reducible refine st6 B C hroom hu (V.R.up le2) (names_nodup n ats) (List.ne_nil_of_mem (names_self n ats)) (names_len n ats hat3) Iv I0 I1 I2 M2 n2 q2 a2 b2 S2 fun s3 g3 σ3 c ls pq kq m3 hls hIf K3 M3 n3 a3 p3 S3 => ?_
 obtain ⟨tok3,t3⟩:=M3.tag
 exact (s7on (tok:=tok3) (al:=m3 "attr_list") (k:=m3 "k") (v:=m3 "v") (aq:=m3 "attr_qname") (an:=m3 "attr_name") (ur:=m3 "uri") (sb:=m3 "space_behaviour") (wr:=m3 "write") B4 V hroom D hK hnd hat3 hv htop hdl hnps hnps2 hzo hls (I2 _ _ n (names_self n ats) hIf) (le2.tr K3.le) K3.pq K3.R K3.e K3.e' (h ls hls)).run s3
  (St.toFr (m:=m3) _ (S3.perm (.cons _ (.cons _ (.cons _ List.perm_append_comm)))) (by show (List.Nodup sXs); decide +kernel) (fa t3 (fa M3.attrs (fa M3.qt (fa n3 (fa a3 (fa p3 (fa rfl (fa rfl (fa rfl (fa rfl (fa rfl (fa rfl (fa rfl (fa rfl fun _ z => nomatch z)))))))))))))))
end
theorem f_start_ {u:Nat} {R:Result → PP} {g:Addr → Option Obj} {t:Tg} {σ:Ts} {a:Ab} {lam:Option Addr} {top:Addr} {kvs:List (Str × Value)} {ats:List (Nm × T)}
 (C:Cy w H0) (V:TT g t σ a) (hroom:d ≤ 830) (hu:u ≤ 9000)
 (D:GD w g da kvs) (hK:KV kvs (ats.map fun e => (nameS e.1,e.2))) (hnd:(ats.map (·.1)).Nodup) (hat3:ats.length ≤ 3) (hv:∀ e ∈ ats,e.2.length ≤ 100)
 (htop:(σ.decl.map (·.1)).head? = some top) (hdl:a.dl = [] :: dr) (hnps:1 ≤ a.nps) (hnps2:a.nps ≤ 10000) (hzo:a.out.length ≤ 10000)
 (Iv:List Lvl → Lvl → Prop) (I0:Iv a.dl a.pl) (I1:∀ dl pl m,m ∈ namesOf n ats → Iv dl pl → Iv (qn t.rw dl a.nl pl m.1).decl (qn t.rw dl a.nl pl m.1).pm) (I2:∀ dl pl m,m ∈ namesOf n ats → Iv dl pl → QOk t.rw a.nl dl pl m)
 (h:∀ ls,ls.Perm (namesOf n ats) → StartA w H0 g t a n ats (qfold t.rw a.nl a.dl a.pl ls) (R (.ok (.ret .none)))) :
 Hr H0 g (LamL lamP lamQ lam ++ TP w t σ) (codeAny (model PG w) (ar d u) (.call (.ref 119) ⟨[.ref t.x,sv (nameS n) tok,.ref da,.ref top],[]⟩) R):=by
 refine' callGC (binds:=[(Str.ofString "self",.ref t.x),(Str.ofString "tag",sv (nameS n) tok),(Str.ofString "attrs",.ref da),(Str.ofString "new_namespaces",.ref top),(Str.ofString "qname_text",.none)]) (body:=mthB 8) sXs C.C ?k6 ?k7 (Nat.lt_of_le_of_lt hroom (by decide)) ?k9 ?kB ?kC ?kN ?c2 ?c3 ?c4 ?_
 walk_at "fn"
 case kB =>
  intro n x hx
  simp only [List.mem_cons,List.not_mem_nil,or_false] at hx
  rcases hx with rfl | rfl | rfl | rfl | rfl <;> first | exact .inl rfl | exact .inr ⟨rfl,rfl⟩
 case kC =>
  intro n
  show (List.Nodup [Str.ofString "parse_qname",Str.ofString "self"])
  decide +kernel
 intro L Q E hL q
 exact stAll (cs:=L + 1) (cq:=L + 2) (tok:=tok) (by constructor <;> rfl) (by constructor <;> first | rfl | exact ⟨rfl,rfl⟩) C V (ltr (Nat.succ_le_succ hroom) (by decide)) (ltr (Nat.add_le_add_right hu 3) (by decide)) D hK hnd hat3 hv htop hdl hnps hnps2 hzo Iv I0 I1 I2 fun ls hls g' σ' c xr as' a1 a2 a3 a4 a5 => q.nxt (h ls hls g' σ' c xr as' a1 a2 a3 a4 a5)
noncomputable def Ab.st (a:Ab) (rw:Bool) (n:Nm) (ls:List Nm) (xr:List (T × T)) (as':List (Nm × T)):Ab:=
 { a.fl with dl:=(qfold rw a.nl ([] :: a.dl) a.pl ls).dl,pl:=(qfold rw a.nl ([] :: a.dl) a.pl ls).pl,nl:=[] :: a.nl,rs:=true,nps:=a.nps + 1,out:=a.fl.out ++ tagOut (qS (((qfold rw a.nl ([] :: a.dl) a.pl ls).ps.lookup n).getD .em) n.2) (xr ++ as'.map (atRow (qfold rw a.nl ([] :: a.dl) a.pl ls).ps)) }
section
variable {g:Addr → Option Obj} {l:Fr1} {N:Ldg} {t:Tg} {rs b:Bool}
theorem gex (I:TgIn g t) (i:Nat) (h:G Z g l N (rsV c .none)) (hk:autoParam (At (t.dx,Is (tObj Z.w.params t rs rd)) i N) aR) (hc:autoParam (HdV (getAttr (.ref t.x) "_exclude_tags" b) c) aR):G Z g l N c:=Hr.mk fun s S => outV hc (ga_ext Z.C.X S I (At.pk (i:=i + 1) hk) (h.run (tick s) S))
theorem gqa (I:TgIn g t) (i:Nat) (h:G Z g l N (rsV c .none)) (hk:autoParam (At (t.dx,Is (tObj Z.w.params t rs rd)) i N) aR) (hc:autoParam (HdV (getAttr (.ref t.x) "_qname_aware_tags" b) c) aR):G Z g l N c:=Hr.mk fun s S => outV hc (ga_qat Z.C.X S I (At.pk (i:=i + 1) hk) (h.run (tick s) S))
theorem mst (I:TgIn g t) (i:Nat) (h:G Z g l N (rsM c (.ref 119,[.ref t.x]))) (hk:autoParam (At (t.dx,Is (tObj Z.w.params t rs rd)) i N) aR) (hc:autoParam (HdM (.ref t.x) "_start" c) aR):G Z g l N c:=Hr.mk fun s S => outM hc (gm_start_ Z.C.X S I (At.pk (i:=i + 1) hk) (h.run s S))
end
structure SbEn (env:Env):Prop where
 self:Lo env "self"
 tag:Lo env "tag"
 attrs:Lo env "attrs"
 nn:Lo env "new_namespaces"
noncomputable abbrev sbF (t:Tg) (n:Nm) (tok:Tok) (da:Addr):Fr1:=[("self",some (.ref t.x)),("tag",some (sv (nameS n) tok)),("attrs",some (.ref da)),("new_namespaces",none)]
section
variable {g:Addr → Option Obj} {Q:Flow → PP} {t:Tg} {σ:Ts} {a:Ab}
theorem sb_perm {b:Addr} {lam:Option Addr}:((b,Lst []) :: (t.dx,Is (tObj w.params t σ.rs σ.rd)) :: (t.da,Lst σ.data) :: (t.ds,Lst (rfs σ.decl ++ [.ref b])) :: (t.ns,Lst (rfs σ.nss)) :: (t.pm,Dct w σ.pm) :: (t.ps,Lst (List.replicate σ.nps (.bool false))) :: (t.out,Lst σ.out) :: (σ.decl.map lvP ++ σ.nss.map lvP ++ LamL lamP lamQ lam)).Perm
 (LamL lamP lamQ lam ++ TP w t { σ with decl:=(b,[]) :: σ.decl }):=by
 rw [show rfs σ.decl ++ [Value.ref b] = rfs ((b,[]) :: σ.decl) from (rfs_cons (b,[]) σ.decl).symm]
 refine List.Perm.trans ?_ List.perm_append_comm
 exact (List.perm_middle (a:=((b,Lst []):Addr × OP)) (l₁:=[(t.dx,Is (tObj w.params t σ.rs σ.rd)),(t.da,Lst σ.data),(t.ds,Lst (rfs ((b,[]) :: σ.decl))),(t.ns,Lst (rfs σ.nss)),(t.pm,Dct w σ.pm),(t.ps,Lst (List.replicate σ.nps (.bool false))),(t.out,Lst σ.out)]) (l₂:=σ.decl.map lvP ++ σ.nss.map lvP ++ LamL lamP lamQ lam)).symm
theorem sb2 {lam:Option Addr} {kvs:List (Str × Value)} {ats:List (Nm × T)} (B:SbEn Z.env) (C:Cy Z.w Z.H0) (V:TT g t σ a) (hroom:Z.d ≤ 825) (hu:Z.u ≤ 8990)
 (D:GD Z.w g da kvs) (hK:KV kvs (ats.map fun e => (nameS e.1,e.2))) (hnd:(ats.map (·.1)).Nodup) (hat3:ats.length ≤ 3) (hv:∀ e ∈ ats,e.2.length ≤ 100)
 (hnps:1 ≤ a.nps) (hnps2:a.nps ≤ 10000) (hzo:a.out.length ≤ 10000) (hzd:a.dl.length ≤ 900)
 (Iv:List Lvl → Lvl → Prop) (I0:Iv ([] :: a.dl) a.pl) (I1:∀ dl pl m,m ∈ namesOf n ats → Iv dl pl → Iv (qn t.rw dl a.nl pl m.1).decl (qn t.rw dl a.nl pl m.1).pm) (I2:∀ dl pl m,m ∈ namesOf n ats → Iv dl pl → QOk t.rw a.nl dl pl m)
 (h:∀ g' σ' c (ls:List Nm) (xr:List (T × T)) (as':List (Nm × T)),gLe g g' → ls.Perm (namesOf n ats) → xr.Perm ((qfold t.rw a.nl ([] :: a.dl) a.pl ls).dl.head!.map nsRow) → as'.Perm ats → AscT (as'.map fun e => (nameS e.1,e.2)) →
  TT g' t σ' ({ a with dl:=[] :: a.dl }.sta (qfold t.rw a.nl ([] :: a.dl) a.pl ls) n xr as') → Hr Z.H0 g' (LamL lamP lamQ (some c) ++ TP Z.w t σ') (Q .next)) :
 G Z g (sbF t n tok da) (TP Z.w t σ ++ LamL lamP lamQ lam) (go Z ((mthB 7).drop 2) (finT Q)):=by
 refine letG ?_; intro c l N
 refine nx ?_
 refine nwL ?_; intro c l N b
 refine st 3 B.nn ?_
 refine nx ?_
 refine ld 0 B.self ?_
 refine gdst V.R.I 1 ?_
 refine gap 3 ?_
 refine ld 3 B.nn ?_
 refine app 3 ?_ (hz:=by rw [rfs,List.length_map,List.length_reverse,V.R.D.len]; exact szl (ltr hzd (by decide)))
 refine nx ?_
 refine ld 0 B.self ?_
 refine gqa V.R.I 1 ?_
 refine isN ?_
 refine nx ?_
 refine ld 0 B.self ?_
 refine mst V.R.I 1 ?_
 refine cwf ?_
 refine ld 1 B.tag ?_
 refine ld 2 B.attrs ?_
 refine ld 3 B.nn ?_
 refine G.perm sb_perm ?_
 refine calS (N1:=LamL lamP lamQ lam ++ TP Z.w t { σ with decl:=(b,[]) :: σ.decl }) (N2:=[]) (by rw [List.append_nil]) (fun p hp => nomatch hp) fun g1 R le1 back => ?_
 have V5:TT g t { σ with decl:=(b,[]) :: σ.decl } { a with dl:=[] :: a.dl }:=⟨⟨V.R.I,⟨trivial,V.R.D⟩,V.R.NS,V.R.PM⟩,V.dat,V.out,V.rs,V.rd,V.nps⟩
 refine f_start_ C (V5.up le1) (ltr hroom (by decide)) (ltr hu (by decide)) (D.up le1) hK hnd hat3 hv rfl rfl hnps hnps2 hzo Iv I0 I1 I2 fun ls hls g' σ' c xr as' le hx ha hA V' => ?_
 refine back g' _ .none le fun g3 le3 tl => ?_
 rw [List.append_nil]
 exact Hr.drop (h g3 σ' c ls xr as' le3 hls hx ha hA (V'.tp tl (V.R.I.up le3)))
theorem sb0 (B:SbEn Z.env) (V:TT g t σ a) (hroom:Z.d ≤ 850) (nt:∀ p ∈ X,NT p.2) (hz:a.data.flatten.length ≤ 2000) (hzl:a.data.length ≤ 10000) (hzo:a.out.length ≤ 9000)
 (h:∀ g' σ',gLe g g' → TT g' t σ' a.fl → G Z g' (sbF t n tok da) (TP Z.w t σ' ++ X) (go Z ((mthB 7).drop 2) (finT Q))) :
 G Z g (sbF t n tok da) (TP Z.w t σ ++ X) (go Z (mthB 7) (finT Q)):=by
 refine letG ?_; intro c l N
 refine nx ?_
 refine ld 0 B.self ?_
 refine gex V.R.I 0 ?_
 refine isN ?_
 refine nx ?_
 exact ifFl B.self V hroom nt hz (ltr hzl (by decide)) (ltr hzo (by decide)) h
end
theorem f_start {u:Nat} {R:Result → PP} {g:Addr → Option Obj} {t:Tg} {σ:Ts} {a:Ab} {lam:Option Addr} {kvs:List (Str × Value)} {ats:List (Nm × T)}
 (C:Cy w H0) (V:TT g t σ a) (hroom:d ≤ 820) (hu:u ≤ 8900)
 (D:GD w g da kvs) (hK:KV kvs (ats.map fun e => (nameS e.1,e.2))) (hnd:(ats.map (·.1)).Nodup) (hat3:ats.length ≤ 3) (hv:∀ e ∈ ats,e.2.length ≤ 100)
 (hnps:1 ≤ a.nps) (hnps2:a.nps ≤ 10000) (hzo:a.out.length ≤ 9000) (hzt:a.data.flatten.length ≤ 2000) (hzl:a.data.length ≤ 10000) (hzd:a.dl.length ≤ 900)
 (Iv:List Lvl → Lvl → Prop) (I0:Iv ([] :: a.dl) a.pl) (I1:∀ dl pl m,m ∈ namesOf n ats → Iv dl pl → Iv (qn t.rw dl a.nl pl m.1).decl (qn t.rw dl a.nl pl m.1).pm) (I2:∀ dl pl m,m ∈ namesOf n ats → Iv dl pl → QOk t.rw a.nl dl pl m)
 (h:∀ g' σ' c (ls:List Nm) (xr:List (T × T)) (as':List (Nm × T)),gLe g g' → ls.Perm (namesOf n ats) → xr.Perm ((qfold t.rw a.nl ([] :: a.dl) a.pl ls).dl.head!.map nsRow) → as'.Perm ats → AscT (as'.map fun e => (nameS e.1,e.2)) →
  TT g' t σ' (a.st t.rw n ls xr as') → Hr H0 g' (LamL lamP lamQ (some c) ++ TP w t σ') (R (.ok (.ret .none)))) :
 Hr H0 g (LamL lamP lamQ lam ++ TP w t σ) (codeAny (model PG w) (ar d u) (.call (.ref 113) ⟨[.ref t.x,sv (nameS n) tok,.ref da],[]⟩) R):=by
 refine' callG (binds:=[(Str.ofString "self",.ref t.x),(Str.ofString "tag",sv (nameS n) tok),(Str.ofString "attrs",.ref da)]) (body:=mthB 7) [Str.ofString "new_namespaces"] C.C ?k6 ?k7 (Nat.lt_of_le_of_lt hroom (by decide)) ?k9 ?kB ?kN ?c5 ?c2 ?c3 ?c4 ?_
 walk_at "fn"
 intro L Q E hL q
 refine G.perm List.perm_append_comm ?_
 refine sb0 (by constructor <;> exact ⟨rfl,rfl⟩) V (ltr (Nat.succ_le_succ hroom) (by decide)) (nt_lam _ _ _) hzt hzl hzo fun g1 σ1 le1 V1 => ?_
 refine sb2 (by constructor <;> exact ⟨rfl,rfl⟩) C V1 (ltr (Nat.succ_le_succ hroom) (by decide)) (ltr (Nat.add_le_add_right hu 3) (by decide)) (D.up le1) hK hnd hat3 hv hnps hnps2 (ltr (fl_out a) (ltr (Nat.succ_le_succ hzo) (by decide))) hzd Iv I0 I1 I2 fun g' σ' c ls xr as' le a1 a2 a3 a4 a5 => q.nxt (h g' σ' c ls xr as' (le1.tr le) a1 a2 a3 a4 a5)
noncomputable def snsAll (a:Ab) (told:Lvl):Ab:=told.foldl (fun a e => a.sns e.1 e.2) a
theorem sns_fl (a:Ab) (e:Uri × Pfx):(a.sns e.1 e.2).fl = { a.fl with nl:=push a.nl e }:=by
 show Ab.mk _ _ _ _ _ _ _ ((a.out ++ flushed a.rs a.data) ++ flushed a.rs []) = Ab.mk _ _ _ _ _ _ _ _
 have:flushed a.rs [] = []:=by unfold flushed; simp
 rw [this,List.append_nil]; rfl
theorem snsAll_fl:∀ (told:Lvl) (a:Ab),(snsAll a told).fl = { a.fl with nl:=pushN a.nl told }
 | [],_ => rfl
 | e :: told,a => by
  show (snsAll (a.sns e.1 e.2) told).fl = _
  rw [snsAll_fl told,sns_fl]; rfl
theorem snsAll_nl (told:Lvl) (a:Ab):(snsAll a told).nl = pushN a.nl told:=congrArg Ab.nl (snsAll_fl told a)
theorem snsAll_dl (told:Lvl) (a:Ab):(snsAll a told).dl = a.dl:=by have:=congrArg Ab.dl (snsAll_fl told a); exact this
theorem snsAll_pl (told:Lvl) (a:Ab):(snsAll a told).pl = a.pl:=by have:=congrArg Ab.pl (snsAll_fl told a); exact this
theorem snsAll_nps (told:Lvl) (a:Ab):(snsAll a told).nps = a.nps:=by have:=congrArg Ab.nps (snsAll_fl told a); exact this
theorem snsAll_z:∀ (told:Lvl) (a:Ab),(snsAll a told).data.flatten.length ≤ a.data.flatten.length ∧ (snsAll a told).data.length ≤ a.data.length ∧ (snsAll a told).out.length ≤ a.out.length + told.length
 | [],a => ⟨Nat.le_refl _,Nat.le_refl _,Nat.le_refl _⟩
 | e :: told,a => by
  have h:=snsAll_z told (a.sns e.1 e.2)
  have h1:(a.sns e.1 e.2).data = []:=rfl
  have h2:(a.sns e.1 e.2).out.length ≤ a.out.length + 1:=fl_len.1
  rw [h1] at h
  show (snsAll (a.sns e.1 e.2) told).data.flatten.length ≤ _ ∧ (snsAll (a.sns e.1 e.2) told).data.length ≤ _ ∧ (snsAll (a.sns e.1 e.2) told).out.length ≤ _
  refine ⟨ltr h.1 (Nat.zero_le _),ltr h.2.1 (Nat.zero_le _),?_⟩
  rw [List.length_cons]; lia
theorem snsAll_snoc (a:Ab) (told:Lvl) (e:Uri × Pfx):snsAll a (told ++ [e]) = (snsAll a told).sns e.1 e.2:=by unfold snsAll; rw [List.foldl_append]; rfl
theorem pushN_ne (h:nl ≠ []) (told:Lvl):pushN nl told ≠ []:=by
 cases nl with
 | nil => exact absurd rfl h
 | cons T r => rw [pushN_cons]; exact fun z => by cases z
theorem pushN_mem (h:nl ≠ []) (told:Lvl) (e:Uri × Pfx):e ∈ (pushN nl told).flatten ↔ e ∈ nl.flatten ∨ e ∈ told:=by
 cases nl with
 | nil => exact absurd rfl h
 | cons T r =>
  rw [pushN_cons,List.flatten_cons,List.flatten_cons]
  simp only [List.mem_append]
  constructor
  · rintro ((x | x) | x)
    · exact .inl (.inl x)
    · exact .inr x
    · exact .inl (.inr x)
  · rintro ((x | x) | x)
    · exact .inl (.inl x)
    · exact .inr x
    · exact .inl (.inr x)
theorem pushN_len (h:nl ≠ []) (told:Lvl):(pushN nl told).flatten.length = nl.flatten.length + told.length ∧ (pushN nl told).length = nl.length:=by
 cases nl with
 | nil => exact absurd rfl h
 | cons T r =>
  rw [pushN_cons,List.flatten_cons,List.flatten_cons]
  refine ⟨by simp only [lap]; lia,rfl⟩
theorem Stk.nsl {bare:Bool} {e:Uri × Pfx} (he:e ∈ nsL):∀ {path:List (Nm × Lvl)} {dl nl:List Lvl} {lms:List Lm} {nms:List (Pfx × Bool)},Stk false bare path dl nl lms nms → e ∈ nl.flatten
 | [],_,_,_,_,h => by
  obtain ⟨_,⟨T,rfl⟩,_⟩:=h
  exact List.mem_append_right _ (List.mem_append_left _ he)
 | (n,told) :: path,D :: dl,N :: nl,lm :: lms,(p,b) :: nms,h => List.mem_append_right _ (h.2.nsl he)
 | _ :: _,[],_,_,_,h => h.elim
 | _ :: _,_ :: _,[],_,_,h => h.elim
 | _ :: _,_ :: _,_ :: _,[],_,h => h.elim
 | _ :: _,_ :: _,_ :: _,_ :: _,[],h => h.elim
theorem namesOf_mem {m:Nm} {ats:List (Nm × T)}:m ∈ namesOf n ats ↔ m = n ∨ ∃ e ∈ ats,e.1 = m:=by
 unfold namesOf
 rw [foldN_mem,List.mem_singleton,List.mem_map]
theorem look_ex {α β:Type} [BEq α] [LawfulBEq α] {a:α}:∀ {l:List (α × β)},a ∈ l.map (·.1) → ∃ b,l.lookup a = some b ∧ (a,b) ∈ l
 | [],h => by cases h
 | (x,y) :: l,h => by
  rw [List.lookup_cons]
  by_cases e:a = x
  · subst e; simp
  · have:(a == x) = false:=by rw [Bool.eq_false_iff]; exact fun z => e (eq_of_beq z)
    rw [this]
    obtain ⟨b,h1,h2⟩:=look_ex ((List.mem_cons.mp (show a ∈ x :: l.map (·.1) from h)).resolve_left e)
    exact ⟨b,h1,List.mem_cons_of_mem _ h2⟩
structure StartOk (bare:Bool) (path:List (Nm × Lvl)) (n:Nm) (told:Lvl) (ats:List (Nm × T)):Prop where
 hn:n.1 ∈ tagU bare
 hat:∀ e ∈ ats,e.1.1 ∈ keyU bare
 nd:(ats.map (·.1)).Nodup
 z3:ats.length ≤ 3
 hv:∀ e ∈ ats,e.2.length ≤ 4
 ht:∀ e ∈ told,e ∈ tlL bare
 t3:told.length ≤ 3
 sc:∀ u,u = .u ∨ u = .v ∨ u = .w → (u = n.1 ∨ ∃ e ∈ ats,u = e.1.1) → (∃ p,(u,p) ∈ told) ∨ ∃ x ∈ path,∃ p,(u,p) ∈ x.2
section
variable {k:Nat} {c:Sc} {told:Lvl} {ats:List (Nm × T)}
theorem Inv.nok (I:Inv rw bare k c) (O:StartOk bare c.path n told ats):NOk rw bare (pushN c.a.nl told):=by
 obtain ⟨its,r,h1,h2,h3,h4,h5,h6,h7,h8⟩:=I.rd
 intro hr e he
 rcases (pushN_mem h8.len.2.2 told e).mp he with x | x
 · exact I.N hr e x
 · exact .inl (O.ht e x)
theorem Inv.names (I:Inv rw bare k c) (O:StartOk bare c.path n told ats):∀ m ∈ namesOf n ats,m.1 ∈ nmU ∧ Hok rw m.1 (pushN c.a.nl told):=by
 intro m hm
 have hm:=namesOf_mem.mp hm
 have hu:m.1 ∈ nmU:=by
  rcases hm with rfl | ⟨e,he,rfl⟩
  · have:∀ bare:Bool,∀ u ∈ tagU bare,u ∈ nmU:=by decide
    exact this bare _ O.hn
  · have:∀ bare:Bool,∀ u ∈ keyU bare,u ∈ nmU:=by decide
    exact this bare _ (O.hat e he)
 refine ⟨hu,fun hr => ?_⟩
 subst hr
 obtain ⟨its,r,h1,h2,h3,h4,h5,h6,h7,h8⟩:=I.rd
 have hne:=h8.len.2.2
 have hs:=O.sc m.1
 have hq:m.1 = n.1 ∨ ∃ e ∈ ats,m.1 = e.1.1:=hm.imp (fun e => by rw [e]) fun ⟨e,he,q⟩ => ⟨e,he,by rw [q]⟩
 have hsc:m.1 = .u ∨ m.1 = .v ∨ m.1 = .w → m.1 = .no ∨ ∃ p,(pushN c.a.nl told).flatten.lookup m.1 = some p:=fun z => .inr (lk_some (by
  rcases hs z hq with ⟨p,hp⟩ | ⟨x,hx,p,hp⟩
  · exact ⟨p,(pushN_mem hne told _).mpr (.inr hp)⟩
  · exact ⟨p,(pushN_mem hne told _).mpr (.inl (h8.told x hx hp))⟩))
 have hns:∀ p,(m.1,p) ∈ nsL → m.1 = .no ∨ ∃ p,(pushN c.a.nl told).flatten.lookup m.1 = some p:=fun p hp => .inr (lk_some ⟨p,(pushN_mem hne told _).mpr (.inl (h8.nsl hp))⟩)
 revert hu hsc hns
 generalize m.1 = u
 intro hu hsc hns
 cases u with
 | no => exact .inl rfl
 | xml => exact hns .xml (by decide)
 | xs => exact hns .xs (by decide)
 | u => exact hsc (.inl rfl)
 | v => exact hsc (.inr (.inl rfl))
 | w => exact hsc (.inr (.inr rfl))
 | _ => exact absurd hu (by decide)
theorem DOk.nil (h:DOk rw bare dl pl):DOk rw bare ([] :: dl) pl:=by
 refine ⟨h.un,h.ok,?_,h.pu,h.pn,h.pk,h.pf⟩
 have:=h.base
 cases dl with
 | nil => cases this
 | cons x y => rw [List.getLast?_cons_cons]; exact this
noncomputable def IvP (rw bare:Bool) (c:Sc) (dl:List Lvl) (pl:Lvl):Prop:=DOk rw bare dl pl ∧ dl.length = c.a.dl.length + 1
theorem Inv.iv0 (I:Inv rw bare k c):IvP rw bare c ([] :: c.a.dl) c.a.pl:=⟨I.D.nil,rfl⟩
theorem Inv.dl1 (I:Inv rw bare k c):1 ≤ c.a.dl.length:=by
 obtain ⟨its,r,h1,h2,h3,h4,h5,h6,h7,h8⟩:=I.rd
 have:=h8.len.1; lia
theorem Inv.iv1 (I:Inv rw bare k c) (O:StartOk bare c.path n told ats) {dl:List Lvl} {pl:Lvl} {m:Nm} (hm:m ∈ namesOf n ats) (h:IvP rw bare c dl pl):IvP rw bare c (qn rw dl (pushN c.a.nl told) pl m.1).decl (qn rw dl (pushN c.a.nl told) pl m.1).pm:=by
 have h1:=I.dl1
 have hN:=I.names O m hm
 obtain ⟨a1,a2,a3,a4⟩:=qn_ok h.1 (by rw [h.2]; lia) (I.nok O) hN.1 hN.2
 exact ⟨a1,by rw [a4]; exact h.2⟩
theorem Inv.iv2 (I:Inv rw bare k c) (hk:k ≤ 130) (O:StartOk bare c.path n told ats) {dl:List Lvl} {pl:Lvl} {m:Nm} (hm:m ∈ namesOf n ats) (h:IvP rw bare c dl pl):QOk rw (pushN c.a.nl told) dl pl m:=by
 have F:=I.fit hk
 have hN:=I.names O m hm
 have z1:=h.1.dlen
 have z2:=h.1.plen
 have z3:=pushN_len F.nne told
 have z4:=I.zn
 have z5:=O.t3
 have z6:=F.zd2
 have z7:=F.zn2
 have z8:=h.2
 exact ⟨h.1.nd,(fun z => by rw [z] at z8; cases z8),by lia,by lia,by lia,by lia,hN.2,(I.nok O).no,by lia,h.1.pem⟩
theorem qS_atP (ps:List (Nm × Pfx)) (m:Nm):qS (atP ps m) m.2 = atKey ps m:=by
 unfold atP atKey
 by_cases h:m.1 = .no
 · rw [if_pos h,if_pos h]; rfl
 · rw [if_neg h,if_neg h]
theorem rows_at (ps:List (Nm × Pfx)) (ns:Lvl) (as':List (Nm × T)):rowsOf ns (as'.map fun e => ((atP ps e.1,e.1.2),e.2)) = ns.map nsRow ++ as'.map (atRow ps):=by
 unfold rowsOf
 rw [List.map_map]
 congr 1
 refine List.map_congr_left fun e he => ?_
 show (qS (atP ps e.1) e.1.2,e.2) = (atKey ps e.1,e.2)
 rw [qS_atP]
theorem rows_nm {as':List (Nm × T)} {lv:Lm} (hat:∀ e ∈ as',atUri lv (atP ps e.1) = e.1.1):((as'.map fun e => ((atP ps e.1,e.1.2),e.2)).map (atFull lv)) = as'.map fun e => (nameS e.1,e.2):=by
 rw [List.map_map]
 refine List.map_congr_left fun e he => ?_
 show (nameS (atUri lv (atP ps e.1),e.1.2),e.2) = _
 rw [hat e he]
theorem rows49 {ns:Lvl} {as':List (Nm × T)} (hv:∀ e ∈ ats,e.2.length ≤ 100) (has:as'.Perm ats) (h4:ns.length ≤ 4) (h3:ats.length ≤ 3):((ns.map nsRow ++ as'.map (atRow ps)).map rowS).flatten.length ≤ 4900:=by
 have:=rows_len (ns.map nsRow ++ as'.map (atRow ps)) (fun e he => by
  rcases List.mem_append.mp he with y | y
  · obtain ⟨z,_,rfl⟩:=List.mem_map.mp y
    exact ⟨ltr (xmlnsS_len z.2) (by decide),ltr (uriS_len z.1) (by decide)⟩
  · obtain ⟨z,hz,rfl⟩:=List.mem_map.mp y
    exact ⟨atKey_len ps z.1,hv z (has.mem_iff.mp hz)⟩)
 rw [lap,List.length_map,List.length_map,has.length_eq] at this
 exact ltr this (Nat.mul_le_mul_right 700 (Nat.add_le_add h4 h3))
theorem tagOut_flat (q:T) (rows:List (T × T)):(tagOut q rows).flatten = [60] ++ q ++ (rows.map rowS).flatten ++ [62]:=by
 unfold tagOut
 by_cases h:rows = []
 · subst h; simp
 · rw [if_neg h]; simp
theorem tagOut_len (q:T) (rows:List (T × T)):(tagOut q rows).length ≤ 3:=by
 unfold tagOut
 split <;> simp
theorem Inv.start (I:Inv rw bare k c) (hk:k ≤ 130) (O:StartOk bare c.path n told ats) (hroot:c.path = [] → c.root = [] ∧ c.a.rs = false) {ls:List Nm} {xr:List (T × T)} {as':List (Nm × T)}
 (hls:ls.Perm (namesOf n ats)) (hxr:xr.Perm ((qfold rw (pushN c.a.nl told) ([] :: c.a.dl) c.a.pl ls).dl.head!.map nsRow)) (has:as'.Perm ats) (hasc:AscT (as'.map fun e => (nameS e.1,e.2))) :
 Inv rw bare (k + 1) ⟨(snsAll c.a told).st rw n ls xr as',c.due ++ [.start (nameS n) (as'.map fun e => (nameS e.1,e.2))],(n,told) :: c.path,if c.path = [] then told else c.root⟩:=by
 obtain ⟨its,r,h1,h2,h3,h4,h5,h7,h8⟩:=I.flush hk
 have z1:=I.zn
 have z2:=I.zp
 have z5:=I.zo
 have z6:=I.zf
 have z7:=I.zu
 have z8:=fl_len (a:=c.a)
 have z9:=I.nps
 have hne:=h8.len.2.2
 have hst:(snsAll c.a told).st rw n ls xr as' = { c.a.fl with dl:=(qfold rw (pushN c.a.nl told) ([] :: c.a.dl) c.a.pl ls).dl,pl:=(qfold rw (pushN c.a.nl told) ([] :: c.a.dl) c.a.pl ls).pl,nl:=[] :: pushN c.a.nl told,rs:=true,nps:=c.a.nps + 1,out:=c.a.fl.out ++ tagOut (qS (((qfold rw (pushN c.a.nl told) ([] :: c.a.dl) c.a.pl ls).ps.lookup n).getD .em) n.2) (xr ++ as'.map (atRow (qfold rw (pushN c.a.nl told) ([] :: c.a.dl) c.a.pl ls).ps)) }:=by
  unfold Ab.st
  rw [snsAll_fl,snsAll_nl,snsAll_dl,snsAll_pl,snsAll_nps]
 have hnm:∀ m ∈ ls,m.1 ∈ nmU ∧ Hok rw m.1 (pushN c.a.nl told):=fun m hm => I.names O m (hls.mem_iff.mp hm)
 have hd1:=I.dl1
 obtain ⟨hD,hP⟩:=qfold_ok (I.nok O) ls ⟨[] :: c.a.dl,c.a.pl,[]⟩ I.D.nil (by show 2 ≤ c.a.dl.length + 1; lia) hnm (fun e he => by cases he)
 obtain ⟨x,hxl,hx⟩:=qfold_top rw (pushN c.a.nl told) c.a.dl ls [] c.a.pl []
 have hkeys:=qfold_keys rw (pushN c.a.nl told) ([] :: c.a.dl) c.a.pl ls
 rw [hst]
 clear hst
 have hx:(qfold rw (pushN c.a.nl told) ([] :: c.a.dl) c.a.pl ls).dl = x :: c.a.dl:=hx
 have hD:DOk rw bare (qfold rw (pushN c.a.nl told) ([] :: c.a.dl) c.a.pl ls).dl (qfold rw (pushN c.a.nl told) ([] :: c.a.dl) c.a.pl ls).pl:=hD
 have hP:∀ e ∈ (qfold rw (pushN c.a.nl told) ([] :: c.a.dl) c.a.pl ls).ps,PfOk rw e.1.1 (qfold rw (pushN c.a.nl told) ([] :: c.a.dl) c.a.pl ls).dl e.2:=hP
 generalize qfold rw (pushN c.a.nl told) ([] :: c.a.dl) c.a.pl ls = q at hxr hD hP hx hkeys ⊢
 rw [hx] at hxr hD hP ⊢
 obtain ⟨ns,hns,rfl⟩:=perm_map_inv nsRow (show xr.Perm (x.map nsRow) from hxr)
 have hlook:∀ m ∈ namesOf n ats,∃ p,q.ps.lookup m = some p ∧ PfOk rw m.1 (x :: c.a.dl) p:=fun m hm => by
  obtain ⟨p,e1,e2⟩:=look_ex (l:=q.ps) (a:=m) (by rw [hkeys]; exact hls.mem_iff.mpr hm)
  exact ⟨p,e1,hP _ e2⟩
 have hall:n ∈ namesOf n ats ∧ ∀ e ∈ ats,e.1 ∈ namesOf n ats:=⟨namesOf_mem.mpr (.inl rfl),fun e he => namesOf_mem.mpr (.inr ⟨e,he,rfl⟩)⟩
 have hlen4:x.length ≤ 4:=by
  have:=foldN_len (ats.map fun e => e.1) [n]
  have h':ls.length = (namesOf n ats).length:=hls.length_eq
  have h'':(namesOf n ats).length ≤ 1 + ats.length:=by
   have:(namesOf n ats).length ≤ [n].length + (ats.map fun e => e.1).length:=this
   simpa using this
  have:=O.z3
  lia
 obtain ⟨p,hp1,hp2⟩:=hlook n hall.1
 rw [hp1]
 dsimp only [Option.getD_some]
 obtain ⟨lm,lms,hlv,hfit⟩:=h8.ex
 have hfit2:=hfit.start hns hD.nd
 have hru:=read_uri hD hfit2 hp2 O.hn
 have hat:∀ e ∈ as',(atP q.ps e.1 ≠ .em → atP q.ps e.1 ∈ fitP rw bare ∧ ∃ u,upd lm ns (atP q.ps e.1) = some u ∧ u ≠ .no) ∧ atUri (upd lm ns) (atP q.ps e.1) = e.1.1:=fun e he => by
  have hea:=has.mem_iff.mp he
  by_cases hno:e.1.1 = .no
  · have:atP q.ps e.1 = .em:=by unfold atP; rw [if_pos hno]
    rw [this]
    exact ⟨fun z => absurd rfl z,by unfold atUri; rw [if_pos rfl,hno]⟩
  · obtain ⟨y,hy1,hy2⟩:=hlook e.1 (hall.2 e hea)
    have:atP q.ps e.1 = y:=by unfold atP; rw [if_neg hno,hy1]; rfl
    rw [this]
    obtain ⟨k1,k2,k3⟩:=read_at hD hfit2 hy2 (O.hat e hea) hno
    exact ⟨fun ι => ⟨fit_ok hD hy2,_,k3,hno⟩,k2⟩
 have hrows:=rows_nm fun e he => (hat e he).2
 have hitem:=rows_at q.ps ns as'
 have hal:as'.length = ats.length:=has.length_eq
 have hz3:=O.z3
 have hnl:ns.length = x.length:=hns.length_eq
 have hrl:=rows49 (ps:=q.ps) (fun e he => ltr (O.hv e he) (by decide)) has (ltr (Nat.le_of_eq hnl) hlen4) hz3
 have hql:=qS_len p n.2
 have htf:=tagOut_flat (qS p n.2) (ns.map nsRow ++ as'.map (atRow q.ps))
 have htl:=tagOut_len (qS p n.2) (ns.map nsRow ++ as'.map (atRow q.ps))
 obtain ⟨T0,rT,hT0⟩:∃ T r,c.a.nl = T :: r:=by
  cases e:c.a.nl with
  | nil => exact absurd e hne
  | cons T r => exact ⟨T,r,rfl⟩
 have hpn:pushN c.a.nl told = (T0 ++ told) :: rT:=by rw [hT0,pushN_cons]
 have hlenp:=(pushN_len hne told).1
 have ht3:=O.t3
 refine ⟨hD,fun hr e he => I.nok O hr e he,⟨its ++ [.start p n.2 ns (as'.map fun e => ((atP q.ps e.1,e.1.2),e.2))],{ evs:=r.evs ++ [.start (nameS (uriOf (upd lm ns) p,n.2)) (as'.map fun e => (nameS e.1,e.2))],marks:=r.marks ++ (((as'.map fun e => ((atP q.ps e.1,e.1.2),e.2)).filter fun a => decide (a.1.1 ≠ .em)).map (fun a => pfxS a.1.1) ++ [pfxS p]),names:=(p,n.2) :: r.names,levels:=upd lm ns :: r.levels },h1 _ rfl,by simp; lia,h3.snoc ?_,?_,?_,?_,?_,?_⟩,.inl rfl,fun ι => rfl,(fun z => by cases z),fun ι => ?_,?_,?_,?_,?_,?_,?_,?_,(fun z => by cases z),?_,?_,fun e he => ?_,I.h0.add rfl⟩
 · obtain ⟨em,hem⟩:=hfit2.some
   refine .start hlv hem hru.2 (fun a ha hn => ?_) (by rw [List.length_map]; lia) (by lia) (fun a ha => ?_) ?_ (by rw [hrows]) hasc
   · obtain ⟨e,he,rfl⟩:=List.mem_map.mp ha
     exact ((hat e he).1 hn).2
   · obtain ⟨e,he,rfl⟩:=List.mem_map.mp ha
     have:=O.hv e (has.mem_iff.mp he)
     show e.2.length ≤ 100
     lia
   · rw [hrows]
     exact List.pairwise_map.mpr ((asc_pair hasc).imp fun h e => by rw [e] at h; exact List.lt_irrefl _ h)
 · show (c.a.fl.out ++ _).flatten = _
   rw [List.flatten_append,h4,htf,textOf_snoc]
   show _ = textOf its ++ ([60] ++ qS p n.2 ++ ((rowsOf ns _).map rowS).flatten ++ [62])
   rw [hitem]
 · rw [joinL_snoc,join_other rfl,h5,hru.1]
   show _ = (r.evs ++ [_]) ++ []
   rw [List.append_nil]
 · show (r.evs ++ [_]).getLast?.bind txOf = none
   rw [List.getLast?_concat]; rfl
 · intro y hy
   rcases List.mem_append.mp hy with y1 | y1
   · exact h7 y y1
   rcases List.mem_append.mp y1 with y2 | y2
   · obtain ⟨a,ha,rfl⟩:=List.mem_map.mp y2
     obtain ⟨ha1,ha2⟩:=List.mem_filter.mp ha
     obtain ⟨e,he,rfl⟩:=List.mem_map.mp ha1
     exact ⟨_,((hat e he).1 (of_decide_eq_true ha2)).1,rfl⟩
   · rw [List.mem_singleton] at y2
     exact ⟨p,fit_ok hD hp2,y2⟩
 · refine ⟨⟨rfl,O.hn,hp2,hfit2,⟨T0 ++ told,rT,hpn,fun e he => List.mem_append_right _ he,fun z => ?_⟩,(I.names O n hall.1).2⟩,?_⟩
   · have:=I.r1 z
     rw [hT0,(hroot z).1] at this
     have:T0 = []:=Option.some.inj this
     rw [this]; rfl
   · rw [hpn]
     rw [hT0] at h8
     exact h8.top
 · show c.a.rd = false
   by_cases z:c.path = []
   · exact I.rdf (.inr (hroot z).2)
   · exact I.rdf (.inl z)
 · show c.a.nps + 1 = _; rw [z9]; rfl
 all_goals try dsimp only
 · show (pushN c.a.nl told).flatten.length ≤ _
   lia
 · rw [List.length_cons]; lia
 · show 0 ≤ _; lia
 · show 0 ≤ _; lia
 · rw [lap]; lia
 · show _ + 5 * 0 ≤ _
   rw [List.flatten_append,lap,htf,lap,lap,lap]
   show _ + (1 + _ + _ + 1) + _ ≤ _
   lia
 · intro y hy
   by_cases z:c.path = []
   · rw [if_pos z]
     rw [z] at hy
     cases hy; rfl
   · rw [if_neg z]
     refine I.r2 y ?_
     cases hc:c.path with
     | nil => exact absurd hc z
     | cons a b => rw [hc,List.getLast?_cons_cons] at hy; exact hy
 · rw [lap]; show _ + 1 ≤ _; lia
 · rcases List.mem_cons.mp he with rfl | he
   · exact O.t3
   · exact I.z3 e he
end
noncomputable def EnL (P:Params) (l:List (Str × Tok × Value)):List DictEntry:=l.map fun e => ⟨PyData.keyHash P e.1,.str e.1 e.2.1,e.2.2⟩
noncomputable def DOb (P:Params) (l:List (Str × Tok × Value)):Obj:=dictOf (EnL P l) l.length
theorem isStr_str (x y:Str) (t:Tok):(Value.str y t).isStr x = decide (y = x):=by
 rw [isStr_of]
 show (y == x) = _
 rw [Bool.eq_iff_iff]; simp
theorem putL_new {P:Params} {name:Str} {hsh:Int} {key v:Value}:∀ {l:List (Str × Tok × Value)},name ∉ l.map (·.1) → putL name hsh key v (EnL P l) = EnL P l ++ [⟨hsh,key,v⟩]
 | [],_ => rfl
 | e :: l,h => by
  rw [List.map_cons,List.mem_cons,not_or] at h
  show (if (Value.str e.1 e.2.1).isStr name then _ else _ :: putL name hsh key v (EnL P l)) = _
  rw [isStr_str,decide_eq_false (fun z => h.1 z.symm),putL_new h.2]; rfl
theorem any_new {P:Params} {l:List (Str × Tok × Value)} (h:name ∉ l.map (·.1)):(EnL P l).any (·.key.isStr name) = false:=by
 rw [List.any_eq_false]
 intro e he
 obtain ⟨q,hq,rfl⟩:=List.mem_map.mp he
 rw [isStr_str]
 simp only [decide_eq_true_eq]
 exact fun z => h (z ▸ List.mem_map_of_mem hq)
theorem noRef {P:Params} (l:List (Str × Tok × Value)):(EnL P l).any (·.refKey) = false:=by
 rw [List.any_eq_false]
 intro e he
 obtain ⟨q,hq,rfl⟩:=List.mem_map.mp he
 show ¬ (DictEntry.refKey _ = true)
 unfold DictEntry.refKey; simp
section
variable {s:Shared} {g:Addr → Option Obj} {N:Ldg} {f:OP → Ldg} {x:Addr} {l:List (Str × Tok × Value)}
theorem setNew {v:Value} {names:List Str} {Q:Unit → Shared → Prop} (X:(hd.heap_1 w.params).In H0.heap) (S:St H0 g ((L,Nsp m) :: N) s) (hL:H0.heap.objs.size ≤ L) (I:g x = some (instObj 143 dx)) (k:Pk dx (Is (DOb w.params l)) N f)
 (ht:takerIn (hd.heap_1 w.params) 143 name = some none)
 (h:∀ h' tk,St H0 g ((L,Nsp m) :: f (Is (DOb w.params (l ++ [(name,tk,v)])))) h' → Q () h')
 (hn:autoParam (l.map (·.1) = names) aQ) (hne:name ∉ names:=by decide +kernel) (hz:autoParam (names.length ≤ 100) aD):wpAny (model PG w) A (setAttr (.ref x) name v) Q E s:=by
 subst hn
 have hgl:getL name (EnL w.params l) = some none:=by
  unfold getL
  have:(EnL w.params l).find? (·.key.isStr name) = none:=by
   rw [List.find?_eq_none]
   exact List.any_eq_false.mp (any_new hne)
  rw [this]
  show (if (EnL w.params l).any (·.refKey) then none else some none) = _
  rw [noRef]; rfl
 refine setA (es:=EnL w.params l) (n:=l.length) (es':=EnL w.params (l ++ [(name,s.toks + 1,v)])) (n':=(l ++ [(name,s.toks + 1,v)]).length) X S hL I k ht (by rw [hgl]; rfl) ?_ ?_ fun h' S' => h _ (s.toks + 1) S'
 · rw [putL_new hne]
   have e1:putN name (EnL w.params l) l.length = l.length + 1:=by unfold putN; rw [any_new hne]; rfl
   rw [e1,lap]
   unfold EnL
   rw [List.map_append]; rfl
 · simp [EnL] at hz ⊢; omega
theorem gaI {v:Value} {attr:Option Value} (X:(hd.heap_1 w.params).In H0.heap) (S:St H0 g N s) (I:g x = some (instObj 143 dx)) (k:Pk dx (Is (DOb w.params l)) N f)
 (hg:plainGet (hd.heap_1 w.params) 143 name = true) (hh:hasDictIn (hd.heap_1 w.params) 143 = true) (ha:findIn (hd.heap_1 w.params) (.ref 143) name = some attr) (hn:noGet (hd.heap_1 w.params) attr = true) (hl:getL name (EnL w.params l) = some (some v)) (hv:handedIn v = true)
 (h:Q v (tick s)):wpAny (model PG w) A (getAttr (.ref x) name expr) Q E s:=by
 obtain ⟨o,ho,e⟩:=S.get k
 have e:o = DOb w.params l:=e
 subst e
 have I':W.InstAt s.heap x (instObj 143 dx) 143 (some (dictOf (EnL w.params l) l.length)):=⟨S.keep _ _ I,rfl,rfl,ho⟩
 exact get_value (X.keeps S.kp) I' (plainGet_of hg).1 (findObj_own hh ha hn hl) hv h
theorem listItems {F:Addr × OP} {d v:Addr} {kvs:List (Str × Value)} {rs:Lvl} (hh:A.handled = none) (S:St H0 g (F :: N) s) (hv:s.heap.IsItemsView v d) (hd:s.heap.DictOf (PySem.strKind PG w) d kvs) (hK:KV kvs (rs.map fun e => (uriS e.1,pfxS e.2))) (hz:kvs.length ≤ 1000)
 (h:∀ s' g' D vs',gLe g g' → Prs g' vs' rs → St H0 g' (F :: (D,Lst vs') :: N) s' → Q (.ref D) s'):wpAny (model PG w) A (call (.type "list") [.ref v]) Q E s:=by
 obtain ⟨ep,hat⟩:=hd.dictAt
 have hl:=hK.len
 rw [List.length_map] at hl
 refine wpAny_le (kdx_call (knd:=PySem.strKind PG w) (kvs:=kvs) (ep:=ep) hh hv hat (szl (by omega)) fun h' tk acc c as hk hD hal hG hacc hle => ?_)
 have S1:St H0 g (F :: N) { s with heap:=h',toks:=tk }:=S.grow hk hle.2
 have S2:St H0 g ((s.heap.objs.size,Lst acc.toList) :: F :: N) { s with heap:=h',toks:=tk }:=by
  have hr:s.heap.get? s.heap.objs.size = none:=by
   cases e:s.heap.get? s.heap.objs.size with
   | none => rfl
   | some o => exact absurd (Heap.lt_size e) (Nat.lt_irrefl _)
  refine ⟨S1.keep,S1.low,fun p hp => ?_,?_,S1.size,S1.gens,S1.os⟩
  · rcases List.mem_cons.mp hp with rfl | hp
    · refine ⟨⟨_,hD,c,by simp⟩,?_⟩
      cases e:g s.heap.objs.size with
      | none => rfl
      | some o => have:=S.keep _ _ e; rw [hr] at this; cases this
    · exact S1.has p hp
  · rw [List.map_cons,List.nodup_cons]
    refine ⟨fun q => ?_,S1.nd⟩
    obtain ⟨p,hp,e⟩:=List.mem_map.mp q
    obtain ⟨⟨o',h1,_⟩,_⟩:=S.has p hp
    rw [e,hr] at h1; cases h1
 refine S2.swap.addG as ?hn fun g1 le1 S3 ha => ?_
 case hn =>
  intro a ha p hp e
  have hab:=hG.above a ha
  rcases List.mem_cons.mp hp with rfl | hp
  · obtain ⟨⟨o,q,_⟩,_⟩:=S.has p (List.mem_cons_self ..)
    have:=Heap.lt_size q
    rw [e] at this; exact absurd this (Nat.not_lt.mpr (Nat.le_of_lt hab))
  · rcases List.mem_cons.mp hp with rfl | hp
    · rw [← e] at hab; exact absurd hab (Nat.lt_irrefl _)
    · obtain ⟨⟨o,q,_⟩,_⟩:=S.has p (List.mem_cons_of_mem _ hp)
      have:=Heap.lt_size q
      rw [e] at this; exact absurd this (Nat.not_lt.mpr (Nat.le_of_lt hab))
 have key:∀ (i:Nat),i ≤ as.length → Prs g1 ((as.drop i).map Value.ref) (rs.drop i):=by
  intro i hi
  obtain ⟨k,hk⟩:∃ k,as.length - i = k:=⟨_,rfl⟩
  induction k generalizing i with
  | zero =>
   have e1:as.drop i = []:=List.drop_eq_nil_of_le (by omega)
   have e2:rs.drop i = []:=List.drop_eq_nil_of_le (by omega)
   rw [e1,e2]; trivial
  | succ k ih =>
   have hia:i < as.length:=by omega
   have hir:i < rs.length:=by omega
   rw [List.drop_eq_getElem_cons hia,List.drop_eq_getElem_cons hir]
   refine ⟨?_,ih (i + 1) (by omega) (by omega)⟩
   obtain ⟨key,kk,y,e1,e2,e3⟩:=hG.pairs i as[i] (by simp [hia])
   obtain ⟨tk1,rfl⟩:=Value.isStrOf_shape e2
   obtain ⟨e4,tk2,e5⟩:=hK.get (i:=i) (by rw [List.length_map]; exact hir) e1
   simp only [List.getElem_map] at e4 e5
   refine ⟨as[i],tk1,tk2,rfl,?_⟩
   have:=ha as[i] (List.getElem_mem hia) _ e3
   rw [e4,e5] at this
   exact this
 have k0:=key 0 (Nat.zero_le _)
 rw [List.drop_zero,List.drop_zero,← hacc] at k0
 exact h _ g1 _ acc.toList le1 k0 S3
end
noncomputable def nss0 (rw:Bool):List Lvl:=if rw then [[]] else [[],nsL]
noncomputable def iNs:List Str:=["_write","_data","_with_comments","_strip_text","_exclude_attrs","_exclude_tags","_rewrite_prefixes","_qname_aware_tags","_find_qname_aware_attrs","_declared_ns_stack","_ns_stack","_prefix_map","_preserve_space","_pending_start","_root_seen","_root_done","_ignored_depth"]
section
variable {g:Addr → Option Obj} {l:Fr1} {N:Ldg} {x:Addr}
theorem sat {es:List (Str × Tok × Value)} {v:Value} (I:g x = some (instObj 143 dx)) (i j:Nat)
 (h:let c':=c; let l':=l; let N':=N; ∀ tk,G Z g l' (updL (dx,Is (DOb Z.w.params (es ++ [(name,tk,v)]))) i N') (rsU c'))
 (hk:autoParam (At (dx,Is (DOb Z.w.params es)) i N) aR) (hc:autoParam (HdU (setAttr (.ref x) name v) c) aR) (ht:takerIn (hd.heap_1 Z.w.params) 143 name = some none:=by k_is) (hn:autoParam (es.map (·.1) = iNs.take j) aR) (hne:name ∉ iNs.take j:=by decide +kernel):G Z g l N c:=Hr.mk fun s S => outU hc (by
 obtain ⟨m,S1,hf⟩:=S.frm
 exact setNew Z.C.X S1 Z.hL I (At.pk (i:=i) hk) ht (fun s2 tk S2 => (h tk).run s2 (S2.toFr _ hf.1 hf.2)) hn hne (ltr (List.length_take_le' _ _) (by decide)))
theorem gat {es:List (Str × Tok × Value)} {v:Value} {b:Bool} {attr:Option Value} (I:g x = some (instObj 143 dx)) (i:Nat) (h:G Z g l N (rsV c v))
 (hk:autoParam (At (dx,Is (DOb Z.w.params es)) i N) aR) (hc:autoParam (HdV (getAttr (.ref x) name b) c) aR) (hg:plainGet (hd.heap_1 Z.w.params) 143 name = true:=by k_is) (hh:hasDictIn (hd.heap_1 Z.w.params) 143 = true:=by k_is) (ha:findIn (hd.heap_1 Z.w.params) (.ref 143) name = some attr:=by k_is) (hn:noGet (hd.heap_1 Z.w.params) attr = true:=by k_is)
 (hl:autoParam (getL name (EnL Z.w.params es) = some (some v)) aR) (hv:autoParam (handedIn v = true) aR):G Z g l N c:=Hr.mk fun s S => outV hc (gaI Z.C.X S I (At.pk (i:=i + 1) hk) hg hh ha hn hl hv (h.run (tick s) S))
theorem dic0 (h:let c':=c; let l':=l; let N':=N; ∀ a,Z.H0.heap.objs.size ≤ a → G Z g l' ((a,Dct Z.w []) :: N') (rsV c' (.ref a)))
 (hc:autoParam (HdEx () c) aR) (hd:autoParam (exC c = .Dict [] [] (dP (exC c))) aR):G Z g l N c:=Hr.mk fun s S => den_at (hc.e.trans (congrArg (Tr.ex · (rsV c)) hd)) (wpAny_Dict_empty ((h _ S.size).run { s with heap:=s.heap.push { cls:=.type "dict",data:=.dict #[] } } (S.newIn (P:=Dct Z.w []) (o:={ cls:=.type "dict",data:=.dict #[] }) rfl dct_nil)))
theorem gdit {d:Addr} {kvs:List (Str × Value)} {rs:Lvl} (D:GD Z.w g d kvs) (hK:KV kvs (rs.map fun e => (uriS e.1,pfxS e.2)))
 (h:let c':=c; let l':=l; let N':=N; ∀ g' a vs,gLe g g' → Prs g' vs rs → G Z g' l' ((a,Lst vs) :: N') (rsV (rsV c' (.ref 0)) (.ref a)))
 (hc:autoParam (HdV (call (.builtin "dict.items") [.ref d]) c) aR) (hc2:∀ v,HdV (call (.type "list") [.ref v]) (rsV c (.ref v)):=by exact fun ι => rfl) (hc3:∀ v,rsV (rsV c (.ref v)) = rsV (rsV c (.ref 0)):=by exact fun ι => rfl) (hz:autoParam (kvs.length ≤ 1000) aD):G Z g l N c:=Hr.mk fun s S => outV hc (gdItems S D fun s1 v S1 hv => outV (hc2 v) (by rw [hc3 v]; exact listItems rfl S1 hv (D.of S1) hK hz fun s2 g2 a vs le hP S2 => (h g2 a vs le hP).run s2 S2))
end
structure InEn (env:Env):Prop where
 self:Lo env "self"
 write:Lo env "write"
 wc:Lo env "with_comments"
 st:Lo env "strip_text"
 rw:Lo env "rewrite_prefixes"
 qt:Lo env "qname_aware_tags"
 qa:Lo env "qname_aware_attrs"
 xa:Lo env "exclude_attrs"
 xt:Lo env "exclude_tags"
 li:Lo env "list" .globalImplicit
 nm:Lo env "_namespace_map" .globalImplicit
noncomputable abbrev inB (x wr:Addr) (rw:Bool):List (Str × Value):=[(Str.ofString "self",.ref x),(Str.ofString "write",.ref wr),(Str.ofString "with_comments",.bool true),(Str.ofString "strip_text",.bool false),(Str.ofString "rewrite_prefixes",.bool rw),(Str.ofString "qname_aware_tags",.none),(Str.ofString "qname_aware_attrs",.none),(Str.ofString "exclude_attrs",.none),(Str.ofString "exclude_tags",.none)]
noncomputable def inF (x wr:Addr) (rw:Bool):Fr1:=[("self",some (.ref x)),("write",some (.ref wr)),("with_comments",some (.bool true)),("strip_text",some (.bool false)),("rewrite_prefixes",some (.bool rw)),("qname_aware_tags",some .none),("qname_aware_attrs",some .none),("exclude_attrs",some .none),("exclude_tags",some .none)]
noncomputable abbrev es9 (k0 k1 k2 k3 k4 k5 k6 k7 k8:Tok) (da wr:Addr) (rw:Bool):List (Str × Tok × Value):=[("_write",k0,.ref wr),("_data",k1,.ref da),("_with_comments",k2,.bool true),("_strip_text",k3,.bool false),("_exclude_attrs",k4,.none),("_exclude_tags",k5,.none),("_rewrite_prefixes",k6,.bool rw),("_qname_aware_tags",k7,.none),("_find_qname_aware_attrs",k8,.none)]
noncomputable abbrev es11 (k0 k1 k2 k3 k4 k5 k6 k7 k8 k9 k10:Tok) (da wr ds ns:Addr) (rw:Bool):List (Str × Tok × Value):=[("_write",k0,.ref wr),("_data",k1,.ref da),("_with_comments",k2,.bool true),("_strip_text",k3,.bool false),("_exclude_attrs",k4,.none),("_exclude_tags",k5,.none),("_rewrite_prefixes",k6,.bool rw),("_qname_aware_tags",k7,.none),("_find_qname_aware_attrs",k8,.none),("_declared_ns_stack",k9,.ref ds),("_ns_stack",k10,.ref ns)]
variable {out:Addr}
section
variable {g:Addr → Option Obj} {N:Ldg} {x wr:Addr} {Q:Flow → PP} {k0 k1 k2 k3 k4 k5 k6 k7 k8 k9 k10:Tok}
theorem in13 {ds ns:Addr} {PN PD:OP} (B:InEn Z.env) (I:g x = some (instObj 143 dx))
 (h:∀ pm ps (tk:Nat → Tok),Z.H0.heap.objs.size ≤ pm → Hr Z.H0 g ((ps,Lst [.bool false]) :: (pm,Dct Z.w []) :: (ns,PN) :: (ds,PD) :: (dx,Is (dictOf ((tEs Z.w.params ⟨x,dx,wr,da,ds,ns,pm,ps,out,rw,tk⟩ false false).take 17) 17)) :: N) (Q .next)) :
 G Z g (inF x wr rw) ((ns,PN) :: (ds,PD) :: (dx,Is (DOb Z.w.params (es11 k0 k1 k2 k3 k4 k5 k6 k7 k8 k9 k10 da wr ds ns rw))) :: N) (go Z ((mthB 0).drop 13) (finT Q)):=by
 refine letG ?_; intro c l N
 refine nx ?_
 refine dic0 ?_; intro c l N pm hpm
 refine ld 0 B.self ?_
 refine sat I 3 11 ?_; intro c l N k11
 refine nx ?_
 refine nwL ?_; intro c l N ps
 refine ld 0 B.self ?_
 refine sat I 4 12 ?_; intro c l N k12
 refine nx ?_
 refine ld 0 B.self ?_
 refine sat I 4 13 ?_; intro c l N k13
 refine nx ?_
 refine ld 0 B.self ?_
 refine sat I 4 14 ?_; intro c l N k14
 refine nx ?_
 refine ld 0 B.self ?_
 refine sat I 4 15 ?_; intro c l N k15
 refine nx ?_
 refine ci ?_; intro c l N ki
 refine ld 0 B.self ?_
 refine sat I 4 16 ?_; intro c l N k16
 exact (h pm ps (fun i => match i with | 0 => k0 | 1 => k1 | 2 => k2 | 3 => k3 | 4 => k4 | 5 => k5 | 6 => k6 | 7 => k7 | 8 => k8 | 9 => k9 | 10 => k10 | 11 => k11 | 12 => k12 | 13 => k13 | 14 => k14 | 15 => k15 | 16 => k16 | _ => ki) hpm).dropN 1
theorem perm5 (a b c d e:α) (r:List α):(a :: b :: c :: d :: e :: r).Perm (b :: c :: e :: d :: a :: r):=by
 have h1:[a,b,c,d,e].Perm [b,c,d,e,a]:=List.perm_append_comm (l₁:=[a]) (l₂:=[b,c,d,e])
 have h2:[b,c,d,e,a].Perm [b,c,e,d,a]:=.cons _ (.cons _ (.swap _ _ _))
 exact (h1.trans h2).append_right r
theorem in12 {ds ns l0:Addr} {vs:List Value} {nss:List (Addr × List Value)} (B:InEn Z.env) (I:g x = some (instObj 143 dx)) (hz:nss.length ≤ 5)
 (h:∀ b pm ps (tk:Nat → Tok),Z.H0.heap.objs.size ≤ pm → Hr Z.H0 g ((ps,Lst [.bool false]) :: (pm,Dct Z.w []) :: (ns,Lst (rfs ((b,[]) :: nss))) :: (ds,Lst [.ref l0]) :: (dx,Is (dictOf ((tEs Z.w.params ⟨x,dx,wr,da,ds,ns,pm,ps,out,rw,tk⟩ false false).take 17) 17)) :: (l0,Lst vs) :: (b,Lst []) :: (nss.map lvP ++ N)) (Q .next)) :
 G Z g (inF x wr rw) ((ns,Lst (rfs nss)) :: (ds,Lst [.ref l0]) :: (l0,Lst vs) :: (dx,Is (DOb Z.w.params (es11 k0 k1 k2 k3 k4 k5 k6 k7 k8 k9 k10 da wr ds ns rw))) :: (nss.map lvP ++ N)) (go Z ((mthB 0).drop 12) (finT Q)):=by
 refine letG ?_; intro c l N
 refine nx ?_
 refine ld 0 B.self ?_
 refine gat (v:=.ref ns) I 3 ?_
 refine gap 0 ?_
 refine nwL ?_; intro c l N b
 refine app 1 ?_ (hz:=by rw [rfs,List.length_map,List.length_reverse]; exact ltr hz (by decide)) (he:=rfs_cons (b,[]) nss)
 refine G.perm (perm5 _ _ _ _ _ _) ?_
 exact in13 B I fun pm ps tk hpm => h b pm ps tk hpm
theorem in9 (B:InEn Z.env) (I:g x = some (instObj 143 dx))
 (h:∀ g' ds ns pm ps (tk:Nat → Tok) (decl nss:List (Addr × List Value)),gLe g g' → Z.H0.heap.objs.size ≤ pm → PrsL g' decl [[(.xml,.xml)]] → PrsL g' nss (nss0 rw) →
  Hr Z.H0 g' ((ps,Lst [.bool false]) :: (pm,Dct Z.w []) :: (ns,Lst (rfs nss)) :: (ds,Lst (rfs decl)) :: (dx,Is (dictOf ((tEs Z.w.params ⟨x,dx,wr,da,ds,ns,pm,ps,out,rw,tk⟩ false false).take 17) 17)) :: (decl.map lvP ++ (nss.map lvP ++ N))) (Q .next)) :
 G Z g (inF x wr rw) ((dx,Is (DOb Z.w.params (es9 k0 k1 k2 k3 k4 k5 k6 k7 k8 da wr rw))) :: N) (go Z ((mthB 0).drop 9) (finT Q)):=by
 refine letG ?_; intro c l N
 refine nx ?_
 refine csM (uriS .xml) ?_; intro c l N t1
 refine csM (pfxS .xml) ?_; intro c l N t2
 refine nwT ?_; intro c l N g1 pr le1 ho
 refine nwL ?_; intro c l N l0
 refine nwL ?_; intro c l N ds
 refine ld 0 B.self ?_
 refine sat (le1 _ _ I) 2 9 ?_; intro c l N k9
 refine nx ?_
 refine nwL ?_; intro c l N ns
 refine ld 0 B.self ?_
 refine sat (le1 _ _ I) 3 10 ?_; intro c l N k10
 refine nx ?_
 have hD:∀ g2,gLe g1 g2 → PrsL g2 [(l0,[.ref pr])] [[(.xml,.xml)]]:=fun g2 le2 => ⟨⟨⟨pr,t1,t2,rfl,le2 _ _ ho⟩,trivial⟩,trivial⟩
 refine ld 4 B.rw ?_
 refine tb ?_
 cases rw with
 | true => exact in12 (nss:=[]) B (le1 _ _ I) (by decide) fun b pm ps tk hpm => h g1 ds ns pm ps tk [(l0,[.ref pr])] [(b,[])] le1 hpm (hD g1 (gLe.rfl' _)) ⟨trivial,trivial⟩
 | false =>
  obtain ⟨kvs,⟨od,ho37,hod⟩,hKV⟩:=nsMapK Z.C.X rfl
  refine G.low fun low => ?_
  have D:GD Z.w g1 37 kvs:=⟨⟨od,low _ _ ho37,hod⟩,rfl⟩
  refine nx ?_
  refine ld 0 B.self ?_
  refine gat (v:=.ref ns) (le1 _ _ I) 3 ?_
  refine gap 0 ?_
  refine bl (v:=.type "list") B.li (by k_is) PyProof.Rows.boot_list (by decide) ?_
  refine gl B.nm (by k_is) ?_
  refine gdm D PySem.F.slot_dict_items PySem.F.type_dict_items ?_
  refine gdit D hKV ?_ (hz:=by rw [hKV.len]; decide); intro c l N g2 a vs le2 hP
  refine app 1 ?_ (he:=(rfs_cons (a,vs) []))
  show G Z g2 _ ((a,Lst vs) :: (ns,Lst (rfs [(a,vs)])) :: (ds,Lst [.ref l0]) :: (l0,Lst [.ref pr]) :: (dx,Is (DOb Z.w.params (es11 k0 k1 k2 k3 k4 k5 k6 k7 k8 k9 k10 da wr ds ns false))) :: _) _
  refine G.perm (List.perm_middle (l₁:=[_,_,_,_])).symm ?_
  exact in12 B (le2 _ _ (le1 _ _ I)) (Nat.le_of_ble_eq_true rfl) fun b pm ps tk hpm => h g2 ds ns pm ps tk [(l0,[.ref pr])] [(b,[]),(a,vs)] (le1.tr le2) hpm (hD g2 le2) ⟨trivial,hP,trivial⟩
theorem in0 {N':Ldg} (B:InEn Z.env) (I:g x = some (instObj 143 dx))
 (h:∀ g' da ds ns pm ps (tk:Nat → Tok) (decl nss:List (Addr × List Value)),gLe g g' → Z.H0.heap.objs.size ≤ pm → PrsL g' decl [[(.xml,.xml)]] → PrsL g' nss (nss0 rw) →
  Hr Z.H0 g' ((ps,Lst [.bool false]) :: (pm,Dct Z.w []) :: (ns,Lst (rfs nss)) :: (ds,Lst (rfs decl)) :: (dx,Is (dictOf ((tEs Z.w.params ⟨x,dx,wr,da,ds,ns,pm,ps,out,rw,tk⟩ false false).take 17) 17)) :: (decl.map lvP ++ (nss.map lvP ++ ((da,Lst []) :: N')))) (Q .next)) :
 G Z g (inF x wr rw) ((dx,Is (DOb Z.w.params [])) :: N') (go Z (mthB 0) (finT Q)):=by
 refine letG ?_; intro c l N
 refine nx ?_
 refine ld 1 B.write ?_
 refine ld 0 B.self ?_
 refine sat I 0 0 ?_; intro c l N k0
 refine nx ?_
 refine nwL ?_; intro c l N da
 refine ld 0 B.self ?_
 refine sat I 1 1 ?_; intro c l N k1
 refine nx ?_
 refine ld 2 B.wc ?_
 refine ld 0 B.self ?_
 refine sat I 1 2 ?_; intro c l N k2
 refine nx ?_
 refine ld 3 B.st ?_
 refine ld 0 B.self ?_
 refine sat I 1 3 ?_; intro c l N k3
 refine nx ?_
 refine ld 7 B.xa ?_
 refine tn ?_
 refine ld 0 B.self ?_
 refine sat I 1 4 ?_; intro c l N k4
 refine nx ?_
 refine ld 8 B.xt ?_
 refine tn ?_
 refine ld 0 B.self ?_
 refine sat I 1 5 ?_; intro c l N k5
 refine nx ?_
 refine ld 4 B.rw ?_
 refine ld 0 B.self ?_
 refine sat I 1 6 ?_; intro c l N k6
 refine nx ?_
 refine ld 5 B.qt ?_
 refine tn ?_
 refine nx ?_
 refine ld 0 B.self ?_
 refine sat I 1 7 ?_; intro c l N k7
 refine nx ?_
 refine ld 6 B.qa ?_
 refine tn ?_
 refine nx ?_
 refine ld 0 B.self ?_
 refine sat I 1 8 ?_; intro c l N k8
 refine G.eqN (N1:=(da,Lst []) :: (dx,Is (DOb Z.w.params (es9 k0 k1 k2 k3 k4 k5 k6 k7 k8 da wr rw))) :: N') ?_ (by kernel_rfl)
 refine G.perm (.swap _ _ _) ?_
 exact in9 B I fun g' => h g' da
end
theorem f_init {u:Nat} {R:Result → PP} {g:Addr → Option Obj} {N:Ldg} {x wr:Addr} (C:Cx w H0) (I:g x = some (instObj 143 dx)) (hroom:d ≤ 850)
 (h:∀ g' da ds ns pm ps (tk:Nat → Tok) (decl nss:List (Addr × List Value)),gLe g g' → H0.heap.objs.size ≤ pm → PrsL g' decl [[(.xml,.xml)]] → PrsL g' nss (nss0 rw) →
  Hr H0 g' ((ps,Lst [.bool false]) :: (pm,Dct w []) :: (ns,Lst (rfs nss)) :: (ds,Lst (rfs decl)) :: (dx,Is (dictOf ((tEs w.params ⟨x,dx,wr,da,ds,ns,pm,ps,out,rw,tk⟩ false false).take 17) 17)) :: (decl.map lvP ++ (nss.map lvP ++ ((da,Lst []) :: N)))) (R (.ok (.ret .none)))) :
 Hr H0 g ((dx,Is (DOb w.params [])) :: N) (codeAny (model PG w) (ar d u) (.call (.ref 60) ⟨[.ref x,.ref wr],[(Str.ofString "with_comments",.bool true),(Str.ofString "rewrite_prefixes",.bool rw)]⟩) R):=by
 refine' callG (binds:=inB x wr rw) (body:=mthB 0) [] C ?k6 ?k7 (Nat.lt_of_le_of_lt hroom (by decide)) ?k9 ?kB ?kN ?c5 ?c2 ?c3 ?c4 ?_
 walk_at "fn"
 intro L Q E hL q
 refine in0 (out:=out) ?_ I fun g' da ds ns pm ps tk decl nss le hpm h1 h2 => q.nxt (h g' da ds ns pm ps tk decl nss le hpm h1 h2)
 constructor <;> exact ⟨rfl,rfl⟩
noncomputable def a0 (rw:Bool):Ab:=⟨[[(.xml,.xml)]],nss0 rw,[],false,false,1,[],[]⟩
theorem inv0 (rw bare:Bool):Inv rw bare 0 ⟨a0 rw,[],[],[]⟩:=by
 have hn:nss0 rw = [] :: (if rw = true then [] else [nsL]):=by cases rw <;> rfl
 refine ⟨⟨by cases rw <;> decide,fun e he => ?_,rfl,List.nodup_nil,fun i e h => ?_,fun e he => ?_,fun ι => rfl⟩,fun hr e he => ?_,⟨[],r0,trivial,Nat.le_refl _,.nil,rfl,rfl,rfl,fun x hx => ?_,rfl,⟨[],hn⟩,rfl,rfl⟩,.inr rfl,fun z => absurd rfl z,fun ι => rfl,fun ι => rfl,rfl,?_,Nat.le_refl _,Nat.le_refl _,Nat.le_refl _,Nat.le_refl _,Nat.le_refl _,fun ι => ?_,fun n h => ?_,Nat.le_refl _,fun e he => (by cases he),⟨rfl,(fun z => absurd rfl z),fun z => absurd rfl z⟩⟩
 · have:e = (.xml,.xml):=by simpa [a0] using he
   subst this
   cases rw
   · rw [if_neg (by decide)]; cases bare <;> decide
   · rw [if_pos rfl]; exact .inl rfl
 · have h:([]:Lvl)[i]? = some e:=h
   simp at h
 · cases he
 · subst hr
   have he:e ∈ nsL:=by simpa [a0,nss0] using he
   exact .inr he
 · cases hx
 · cases rw <;> decide
 · show (nss0 rw).head? = _; rw [hn]; rfl
 · cases h
theorem Inv.done {k:Nat} {c:Sc} (I:Inv rw bare k c) (hk:k ≤ 130) (hp:c.path = []):∃ its r,okSeq its ∧ its.length ≤ 1000 ∧ RSteps r0 its r ∧ (textOf its).length ≤ 900000 ∧ c.a.out.flatten = textOf its ∧ joinL c.due = r.evs ∧ MkOk rw bare r.marks ∧
 c.a.dl = [[(.xml,.xml)]] ∧ c.a.nl = c.root :: (if rw = true then [] else [nsL]):=by
 obtain ⟨its,r,h1,h2,h3,h4,h5,h6,h7,h8⟩:=I.rd
 have z6:=I.zf
 rw [hp] at h8
 obtain ⟨e1,⟨T,e2⟩,_⟩:=h8
 have e3:=I.r1 hp
 rw [e2] at e3
 have e3:T = c.root:=Option.some.inj e3
 refine ⟨its,r,h1,by lia,h3,?_,h4,?_,h7,e1,by rw [e2,e3]⟩
 · rw [← h4]; lia
 · rw [h5,I.nod hp]; exact List.append_nil _
noncomputable def lawB:List Stmt:=fnB 16
noncomputable def loopB:List Stmt:=subB lawB[9]?
noncomputable def startB:List Stmt:=subB loopB[1]?
noncomputable def else1:List Stmt:=subE loopB[1]?
noncomputable def endB:List Stmt:=subB else1[0]?
noncomputable def else2:List Stmt:=subE else1[0]?
noncomputable def lcomB:List Stmt:=subB else2[0]?
noncomputable def else3:List Stmt:=subE else2[0]?
noncomputable def lpiB:List Stmt:=subB else3[0]?
noncomputable def ltextB:List Stmt:=subE else3[0]?
structure LEn (env:Env) (cF:Addr):Prop where
 cf:env.cells.lookup (Str.ofString "fit") = some cF
 fit:Lo env "fit" .cell
 script:Lo env "script"
 xml:Lo env "xml"
 xs:Lo env "xs"
 first:Lo env "first"
 bare:Lo env "bare"
 own:Lo env "own"
 prefixes:Lo env "prefixes"
 tags:Lo env "tags"
 keys:Lo env "keys"
 out:Lo env "out"
 due:Lo env "due"
 path:Lo env "path"
 root:Lo env "root"
 target:Lo env "target"
 moves:Lo env "moves"
 move:Lo env "move"
 rest:Lo env "rest"
 piece:Lo env "piece"
 uris:Lo env "uris"
 tag:Lo env "tag"
 attrs:Lo env "attrs"
 kk:Lo env "k"
 seed:Lo env "seed"
 name:Lo env "name"
 scope:Lo env "scope"
 joined:Lo env "joined"
 kind:Lo env "kind"
 what:Lo env "what"
 events:Lo env "events"
 marks:Lo env "marks"
 sum:Lo env "sum" .globalImplicit
 cls:Lo env "C14NWriterTarget" .globalImplicit
 walk:Lo env "_law_walk" .globalImplicit
 len:Lo env "len" .globalImplicit
 lpiece:Lo env "_law_piece" .globalImplicit
 lsign:Lo env "_law_sign" .globalImplicit
 range:Lo env "range" .globalImplicit
 dict:Lo env "dict" .globalImplicit
 sorted:Lo env "sorted" .globalImplicit
 read:Lo env "_law_read" .globalImplicit
structure LAd where
 ow:Addr
 pf:Addr
 tg:Addr
 ky:Addr
 due:Addr
 pth:Addr
 rt:Addr
 t:Tg
 fr:Int
 tx:Tok
 tf:Tok
noncomputable def lwN:List Str:=["xml","first","own","prefixes","tags","keys","out","due","path","root","target","move","rest","piece","uris","tag","attrs","k","seed","name","scope","script","xs","bare","moves","joined","kind","what","events","marks"]
noncomputable def lwF (V:LAd) (mv rs pc:Option Value) (o:Nat → Option Value):Fr1:=[("xml",some (sv (uriS .xml) V.tx)),("first",some (.int V.fr V.tf)),("own",some (.ref V.ow)),("prefixes",some (.ref V.pf)),("tags",some (.ref V.tg)),("keys",some (.ref V.ky)),("out",some (.ref V.t.out)),("due",some (.ref V.due)),("path",some (.ref V.pth)),("root",some (.ref V.rt)),("target",some (.ref V.t.x)),
 (Str.ofString "move",mv),(Str.ofString "rest",rs),(Str.ofString "piece",pc),(Str.ofString "uris",o 0),(Str.ofString "tag",o 1),(Str.ofString "attrs",o 2),(Str.ofString "k",o 3),(Str.ofString "seed",o 4),(Str.ofString "name",o 5),(Str.ofString "scope",o 6),(Str.ofString "script",o 7),(Str.ofString "xs",o 8),(Str.ofString "bare",o 9),(Str.ofString "moves",o 10),(Str.ofString "joined",o 11),(Str.ofString "kind",o 12),(Str.ofString "what",o 13),(Str.ofString "events",o 14),(Str.ofString "marks",o 15)]
noncomputable def stO (U D:Addr) (n:Nm) (tt:Tok) (k sd nm sc:Option Value) (o:Nat → Option Value):Nat → Option Value
 | 0 => some (.ref U)
 | 1 => some (sv (nameS n) tt)
 | 2 => some (.ref D)
 | 3 => k
 | 4 => sd
 | 5 => nm
 | 6 => sc
 | i => o i
noncomputable def GL (g:Addr → Option Obj) (a:Addr) (vs:List Value):Prop:=∃ o,g a = some o ∧ Lst vs o
noncomputable def GT (g:Addr → Option Obj) (a:Addr) (xs:List T):Prop:=∃ vs,GL g a vs ∧ Txs vs xs
theorem GL.up {g g':Addr → Option Obj} (le:gLe g g') {a:Addr} {vs:List Value} (h:GL g a vs):GL g' a vs:=let ⟨o,h1,h2⟩:=h; ⟨o,le _ _ h1,h2⟩
theorem GT.up {g g':Addr → Option Obj} (le:gLe g g') {a:Addr} {xs:List T} (h:GT g a xs):GT g' a xs:=let ⟨vs,h1,h2⟩:=h; ⟨vs,h1.up le,h2⟩
theorem GL.of {g:Addr → Option Obj} {N:Ldg} {s:Shared} {a:Addr} {vs:List Value} (G:GL g a vs) (S:St H0 g N s):s.heap.IsList a vs.toArray:=by
 obtain ⟨o,h1,n,rfl⟩:=G
 exact ⟨_,S.keep _ _ h1,rfl,n,rfl⟩
structure LC (bare:Bool) (V:LAd) (g:Addr → Option Obj):Prop where
 ow:GT g V.ow [uriS .u,uriS .v,uriS .w]
 tg:GT g V.tg ((tagU bare).map uriS)
 ky:GT g V.ky ((keyU bare).map uriS)
 pf:∃ a0 a1 a2,GL g V.pf [.ref a0,.ref a1,.ref a2] ∧ GT g a0 [pfxS .p,pfxS .q] ∧ GT g a1 [pfxS .b,pfxS .c] ∧ GT g a2 [pfxS (if bare then .e else .em),pfxS .d]
variable {V:LAd}
theorem LC.up {g g':Addr → Option Obj} (le:gLe g g') (h:LC bare V g):LC bare V g':=
 ⟨h.ow.up le,h.tg.up le,h.ky.up le,let ⟨a0,a1,a2,h1,h2,h3,h4⟩:=h.pf; ⟨a0,a1,a2,h1.up le,h2.up le,h3.up le,h4.up le⟩⟩
noncomputable def PthA (g:Addr → Option Obj) (v:Value) (e:Nm × Lvl):Prop:=∃ a tl t ps,v = .ref a ∧ g a = some (tupO [sv (nameS e.1) t,.ref tl]) ∧ GL g tl ps ∧ Prs g ps e.2
noncomputable def PthR (g:Addr → Option Obj):List Value → List (Nm × Lvl) → Prop:=F2 (PthA g)
theorem PthR.up {g g':Addr → Option Obj} (le:gLe g g') {vs:List Value} {es:List (Nm × Lvl)} (h:PthR g vs es):PthR g' vs es:=F2.imp (fun _ _ ⟨a,tl,t,ps,e,h1,h2,h3⟩ => ⟨a,tl,t,ps,e,le _ _ h1,h2.up le,h3.up le⟩) h
theorem PthR.len {g:Addr → Option Obj} {vs:List Value} {es:List (Nm × Lvl)} (h:PthR g vs es):vs.length = es.length:=F2.len h
theorem PthR.snoc {g:Addr → Option Obj} {v:Value} {e:Nm × Lvl} (q:PthR g [v] [e]) {vs:List Value} {es:List (Nm × Lvl)} (h:PthR g vs es):PthR g (vs ++ [v]) (es ++ [e]):=F2.app h q
theorem PthR.last {g:Addr → Option Obj} {e:Nm × Lvl} {vs:List Value} {es:List (Nm × Lvl)} (h:PthR g vs (es ++ [e])):∃ vs' v,vs = vs' ++ [v] ∧ PthR g vs' es ∧ PthR g [v] [e]:=
 let ⟨vs',v,e1,h1,h2⟩:=F2.last h; ⟨vs',v,e1,h1,h2,trivial⟩
noncomputable def okT (x:T):Prop:=∀ c ∈ x,c < 1114112
noncomputable def EvTx:Ev → Prop
 | .two k x => okT k ∧ okT x ∧ (k = kText → x.length ≤ 4)
 | .start n rows => okT n ∧ ∀ r ∈ rows,okT r.1 ∧ okT r.2
theorem okT_app {x:T} (hx:okT x) (hy:okT y):okT (x ++ y):=fun c hc => (List.mem_append.mp hc).elim (hx c) (hy c)
theorem okT_name (n:Nm):okT (nameS n):=nm_all (P:=fun n => ∀ c ∈ nameS n,c < 1114112) (by decide +kernel) n
theorem okT_uri (u:Uri):okT (uriS u):=uri_all (P:=fun u => ∀ c ∈ uriS u,c < 1114112) (by decide +kernel) u
theorem okT_pfx (p:Pfx):okT (pfxS p):=pfx_all (P:=fun p => ∀ c ∈ pfxS p,c < 1114112) (by decide +kernel) p
noncomputable abbrev lwL (w:World) (V:LAd) (dvs pvs:List Value) (lam:Option Addr) (σ:Ts) (X:Ldg):Ldg:=(V.due,Lst dvs) :: (V.pth,Lst pvs) :: (TP w V.t σ ++ (LamL lamP lamQ lam ++ X))
structure LR (V:LAd) (bare rt:Bool) (g0 g:Addr → Option Obj) (q:Sc) (σ:Ts) (dvs pvs:List Value):Prop where
 le:gLe g0 g
 C:LC bare V g
 T:TT g V.t σ q.a
 D:EvsR g dvs q.due
 P:PthR g pvs q.path.reverse
 R:rt = true → ∃ ps,GL g V.rt ps ∧ Prs g ps q.root
 O:∀ e ∈ q.due,EvTx e
variable {g0:Addr → Option Obj} {rt:Bool}
theorem LR.up {g g':Addr → Option Obj} {q:Sc} {σ:Ts} {dvs pvs:List Value} (le:gLe g g') (h:LR V bare rt g0 g q σ dvs pvs):LR V bare rt g0 g' q σ dvs pvs:=
 ⟨h.le.tr le,h.C.up le,h.T.up le,h.D.up le,h.P.up le,fun z => let ⟨ps,h1,h2⟩:=h.R z; ⟨ps,h1.up le,h2.up le⟩,h.O⟩
theorem due_snoc {e:Ev} (h:∀ e ∈ due,EvTx e) (he:EvTx e):∀ x ∈ due ++ [e],EvTx x:=fun x hx => (List.mem_append.mp hx).elim (h x) fun q => by rw [List.mem_singleton.mp q]; exact he
section
variable {g:Addr → Option Obj} {l:Fr1} {N:Ldg} {t:Tg} {rs:Bool} {σ:Ts}
theorem mdt (I:TgIn g t) (i:Nat) (h:G Z g l N (rsM c (.ref 90,[.ref t.x]))) (hk:autoParam (At (t.dx,Is (tObj Z.w.params t rs rd)) i N) aR) (hc:autoParam (HdM (.ref t.x) "data" c) aR):G Z g l N c:=Hr.mk fun s S => outM hc (gm_data Z.C.X S I (At.pk (i:=i + 1) hk) (h.run s S))
theorem msns (I:TgIn g t) (i:Nat) (h:G Z g l N (rsM c (.ref 106,[.ref t.x]))) (hk:autoParam (At (t.dx,Is (tObj Z.w.params t rs rd)) i N) aR) (hc:autoParam (HdM (.ref t.x) "start_ns" c) aR):G Z g l N c:=Hr.mk fun s S => outM hc (gm_start_ns Z.C.X S I (At.pk (i:=i + 1) hk) (h.run s S))
theorem mstt (I:TgIn g t) (i:Nat) (h:G Z g l N (rsM c (.ref 113,[.ref t.x]))) (hk:autoParam (At (t.dx,Is (tObj Z.w.params t rs rd)) i N) aR) (hc:autoParam (HdM (.ref t.x) "start" c) aR):G Z g l N c:=Hr.mk fun s S => outM hc (gm_start Z.C.X S I (At.pk (i:=i + 1) hk) (h.run s S))
theorem mend (I:TgIn g t) (i:Nat) (h:G Z g l N (rsM c (.ref 126,[.ref t.x]))) (hk:autoParam (At (t.dx,Is (tObj Z.w.params t rs rd)) i N) aR) (hc:autoParam (HdM (.ref t.x) "end" c) aR):G Z g l N c:=Hr.mk fun s S => outM hc (gm_end Z.C.X S I (At.pk (i:=i + 1) hk) (h.run s S))
theorem mcom (I:TgIn g t) (i:Nat) (h:G Z g l N (rsM c (.ref 133,[.ref t.x]))) (hk:autoParam (At (t.dx,Is (tObj Z.w.params t rs rd)) i N) aR) (hc:autoParam (HdM (.ref t.x) "comment" c) aR):G Z g l N c:=Hr.mk fun s S => outM hc (gm_comment Z.C.X S I (At.pk (i:=i + 1) hk) (h.run s S))
theorem mpi (I:TgIn g t) (i:Nat) (h:G Z g l N (rsM c (.ref 140,[.ref t.x]))) (hk:autoParam (At (t.dx,Is (tObj Z.w.params t rs rd)) i N) aR) (hc:autoParam (HdM (.ref t.x) "pi" c) aR):G Z g l N c:=Hr.mk fun s S => outM hc (gm_pi Z.C.X S I (At.pk (i:=i + 1) hk) (h.run s S))
theorem perm_mid (A B C:List α):(A ++ (B ++ C)).Perm (B ++ (A ++ C)):=by
 rw [← List.append_assoc,← List.append_assoc]; exact List.perm_append_comm.append_right C
theorem nt_app {A B:Ldg} (h1:∀ p ∈ A,NT p.2) (h2:∀ p ∈ B,NT p.2):∀ p ∈ A ++ B,NT p.2:=fun p hp => (List.mem_append.mp hp).elim (h1 p) (h2 p)
theorem tgK {A B:Ldg} {f:Value} {vs:List Value} (nt:∀ p ∈ A ++ B,NT p.2) (h:∀ g1 R,gLe g g1 → (∀ g2 σ',gLe g1 g2 → (∀ g3,gLe g g3 → tLe g2 g3 → G Z g3 l (A ++ (TP Z.w t σ' ++ B)) (rsV c .none)) → Hr Z.H0 g2 (TP Z.w t σ') (R (.ok (.ret .none)))) → Hr Z.H0 g1 (TP Z.w t σ) (codeAny (model PG Z.w) (ar Z.d Z.u) (.call f ⟨vs,[]⟩) R))
 (hc:autoParam (HdCal f vs c) aR):G Z g l (A ++ (TP Z.w t σ ++ B)) c:=
 calS (N1:=TP Z.w t σ) (N2:=A ++ B) (hc:=hc) (perm_mid _ _ _) nt fun g1 R le1 back => h g1 R le1 fun g2 σ' le2 q => back g2 _ .none le2 fun g3 le3 tl => G.perm (perm_mid _ _ _) (q g3 le3 tl)
end
variable {cF:Addr} {mv:Option Value}
section
variable {g:Addr → Option Obj} {q:Sc} {x:T} {k:Nat} {rs:Option Value} {o:Nat → Option Value} {σ:Ts} {lam:Option Addr} {dvs pvs:List Value}
theorem nt_lw {a b:Addr} (hX:∀ p ∈ X,NT p.2):∀ p ∈ [(a,Lst dvs),(b,Lst pvs)] ++ (LamL lamP lamQ lam ++ X),NT p.2:=nt_cons (nt_lst _) (nt_cons (nt_lst _) (nt_app (A:=LamL lamP lamQ lam) (nt_lam _ _ _) hX))
theorem mvText (B:LEn Z.env cF) (hroom:Z.d ≤ 800) (hX:∀ p ∈ X,NT p.2) (hx4:x.length ≤ 4) (hxo:okT x) (R:LR V bare rt g0 g q σ dvs pvs) (I:Inv V.t.rw bare k q) (hk:k ≤ 130)
 (h:∀ g' σ' dvs',LR V bare rt g0 g' ⟨{ q.a with data:=q.a.data ++ [x] },q.due ++ [.two kText x],q.path,q.root⟩ σ' dvs' pvs → G Z g' (lwF V mv rs (some (sv x t)) o) (lwL Z.w V dvs' pvs lam σ' X) (K .next)) :
 G Z g (lwF V mv rs (some (sv x t)) o) (lwL Z.w V dvs pvs lam σ X) (go Z ltextB K):=by
 refine letG ?_; intro c l N
 refine nx ?_
 refine ld 10 B.target ?_
 refine mdt R.T.R.I 2 ?_
 refine cwf ?_
 refine ld 13 B.piece ?_
 refine tgK (A:=[_,_]) (nt_lw hX) fun g1 R1 le1 back => f_data Z.C (R.T.R.I.up le1) (ltr hroom (by decide)) (by rw [R.T.dat.len]; exact ltr (ltr I.zd hk) (by decide)) (back g1 _ (gLe.rfl' _) fun g3 le3 _ => ?_)
 have R3:=R.up le3
 refine nx ?_
 refine ld 7 B.due ?_
 refine gap 0 ?_
 refine csM kText ?_; intro c l N t1
 refine ld 13 B.piece ?_
 refine nwT ?_; intro c l N g4 b le4 ho
 refine app 0 ?_ (hz:=by rw [R.D.len]; exact szl (ltr (ltr I.zu hk) (by decide)))
 have R4:=R3.up le4
 exact h g4 _ _ ⟨R4.le,R4.C,⟨⟨R4.T.R.I,R4.T.R.D,R4.T.R.NS,R4.T.R.PM⟩,R4.T.dat.app (Txs.one x t),R4.T.out,R4.T.rs,R4.T.rd,R4.T.nps⟩,R4.D.snoc (e:=.two kText x) ⟨_,_,_,rfl,ho⟩,R4.P,R4.R,due_snoc R4.O ⟨by unfold okT; decide,hxo,fun ι => hx4⟩⟩
end
variable {pc:Option Value}
section
variable {g:Addr → Option Obj} {q:Sc} {x:T} {k:Nat} {rs:Option Value} {o:Nat → Option Value} {σ:Ts} {lam:Option Addr} {dvs pvs:List Value}
theorem mvCom (B:LEn Z.env cF) (hroom:Z.d ≤ 800) (hX:∀ p ∈ X,NT p.2) (hx:x.length ≤ 4) (hxo:okT x) (R:LR V bare rt g0 g q σ dvs pvs) (I:Inv V.t.rw bare k q) (hk:k ≤ 130) (hpn:q.path ≠ [])
 (h:∀ g' σ' dvs',LR V bare rt g0 g' ⟨q.a.fl.wr (comS x),q.due ++ [comE x],q.path,q.root⟩ σ' dvs' pvs → G Z g' (lwF V mv rs (some (sv x t)) o) (lwL Z.w V dvs' pvs lam σ' X) (K .next)) :
 G Z g (lwF V mv rs (some (sv x t)) o) (lwL Z.w V dvs pvs lam σ X) (go Z lcomB K):=by
 refine letG ?_; intro c l N
 refine nx ?_
 refine ld 10 B.target ?_
 refine mcom R.T.R.I 2 ?_
 refine cwf ?_
 refine ld 13 B.piece ?_
 refine tgK (A:=[_,_]) (nt_lw hX) fun g1 R1 le1 back => f_comment Z.C (R.T.up le1) (ltr hroom (by decide)) (I.fit hk) (I.rs2 hpn) (I.rdf (.inl hpn)) (ltr hx (by decide)) fun g' σ' le' V2 => back g' σ' le' fun g3 le3 tl => ?_
 have V3:=V2.tp tl (R.T.R.I.up le3)
 have R3:=R.up le3
 refine nx ?_
 refine ld 7 B.due ?_
 refine gap 0 ?_
 refine csM kCom ?_; intro c l N t1
 refine csM [60,33,45,45] ?_; intro c l N t2
 refine ld 13 B.piece ?_
 refine adT ?_ (hz:=ltr (Nat.add_le_add_left hx 4) (by decide)); intro c l N t3
 refine csM [45,45,62] ?_; intro c l N t4
 refine adT ?_ (hz:=by rw [lap]; exact ltr (Nat.add_le_add_right (Nat.add_le_add_left hx 4) 3) (by decide)); intro c l N t5
 refine nwT ?_; intro c l N g4 b le4 ho
 refine app 0 ?_ (hz:=by rw [R.D.len]; exact szl (ltr (ltr I.zu hk) (by decide)))
 have R4:=R3.up le4
 exact h g4 _ _ ⟨R4.le,R4.C,V3.up le4,R4.D.snoc (e:=comE x) ⟨_,_,_,rfl,ho⟩,R4.P,R4.R,due_snoc R4.O ⟨by unfold okT; decide,okT_app (okT_app (by unfold okT; decide) hxo) (by unfold okT; decide),fun z => absurd z (by decide)⟩⟩
theorem mvPi (B:LEn Z.env cF) (hroom:Z.d ≤ 800) (hX:∀ p ∈ X,NT p.2) (hx:x.length ≤ 4) (hxo:okT x) (R:LR V bare rt g0 g q σ dvs pvs) (I:Inv V.t.rw bare k q) (hk:k ≤ 130) (hpn:q.path ≠ [])
 (h:∀ g' σ' dvs',LR V bare rt g0 g' ⟨q.a.fl.wr (piS x),q.due ++ [piE x],q.path,q.root⟩ σ' dvs' pvs → G Z g' (lwF V mv rs (some (sv x t)) o) (lwL Z.w V dvs' pvs lam σ' X) (K .next)) :
 G Z g (lwF V mv rs (some (sv x t)) o) (lwL Z.w V dvs pvs lam σ X) (go Z lpiB K):=by
 refine letG ?_; intro c l N
 refine nx ?_
 refine ld 10 B.target ?_
 refine mpi R.T.R.I 2 ?_
 refine cwf ?_
 refine csM [116] ?_; intro c l N t0
 refine ld 13 B.piece ?_
 refine tgK (A:=[_,_]) (nt_lw hX) fun g1 R1 le1 back => f_pi Z.C (R.T.up le1) (ltr hroom (by decide)) (I.fit hk) (I.rs2 hpn) (I.rdf (.inl hpn)) (ltr hx (by decide)) fun g' σ' le' V2 => back g' σ' le' fun g3 le3 tl => ?_
 have V3:=V2.tp tl (R.T.R.I.up le3)
 have R3:=R.up le3
 have hz:dvs.length ≤ sizeLine:=by rw [R.D.len]; exact szl (ltr (ltr I.zu hk) (by decide))
 refine nx ?_
 refine ld 7 B.due ?_
 refine gap 0 ?_
 refine csM kPi ?_; intro c l N t1
 refine csM [60,63,116] ?_; intro c l N t2
 refine ld 13 B.piece ?_
 refine csM [] ?_; intro c l N _
 refine neS ?_ ?_ <;> intro c l N hc
 · refine csM [32] ?_; intro c l N _
   refine ld 13 B.piece ?_
   refine adT ?_ (hz:=ltr (Nat.add_le_add_left hx 1) (by decide)); intro c l N _
   refine adT ?_ (hz:=by rw [lap]; exact ltr (Nat.add_le_add_left (Nat.add_le_add_left hx 1) 3) (by decide)); intro c l N _
   refine csM [63,62] ?_; intro c l N t4
   refine adT ?_ (hz:=by rw [lap,lap]; exact ltr (Nat.add_le_add_right (Nat.add_le_add_left (Nat.add_le_add_left hx 1) 3) 2) (by decide)); intro c l N t5
   refine nwT ?_; intro c l N g4 b le4 ho
   refine app 0 ?_ (hz:=hz)
   have R4:=R3.up le4
   have e:piE x = .two kPi ([60,63,116,32] ++ x ++ [63,62]):=congrArg (Ev.two kPi) (if_neg hc)
   rw [e] at h
   exact h g4 _ _ ⟨R4.le,R4.C,V3.up le4,R4.D.snoc (e:=.two kPi ([60,63,116,32] ++ x ++ [63,62])) ⟨_,_,_,rfl,ho⟩,R4.P,R4.R,due_snoc R4.O ⟨by unfold okT; decide,okT_app (okT_app (by unfold okT; decide) hxo) (by unfold okT; decide),fun z => absurd z (by decide)⟩⟩
 · have hc:=Classical.not_not.mp hc
   subst hc
   refine csM [] ?_; intro c l N _
   refine adT ?_; intro c l N _
   refine csM [63,62] ?_; intro c l N t4
   refine adT ?_; intro c l N t5
   refine nwT ?_; intro c l N g4 b le4 ho
   refine app 0 ?_ (hz:=hz)
   have R4:=R3.up le4
   exact h g4 _ _ ⟨R4.le,R4.C,V3.up le4,R4.D.snoc (e:=piE []) ⟨_,_,_,rfl,ho⟩,R4.P,R4.R,due_snoc R4.O ⟨by unfold okT; decide,by unfold okT; decide,fun z => absurd z (by decide)⟩⟩
theorem mvEnd {told:Lvl} (B:LEn Z.env cF) (hroom:Z.d ≤ 800) (hX:∀ p ∈ X,NT p.2) (R:LR V bare rt g0 g q σ dvs pvs) (I:Inv V.t.rw bare k q) (hk:k ≤ 130) (hpn:q.path = (n,told) :: path)
 (h:∀ g' σ' dvs' pvs',LR V bare rt g0 g' ⟨q.a.en V.t.rw n,q.due ++ [.two kEnd (nameS n)],path,q.root⟩ σ' dvs' pvs' → G Z g' (lwF V mv rs pc o) (lwL Z.w V dvs' pvs' lam σ' X) (K .next)) :
 G Z g (lwF V mv rs pc o) (lwL Z.w V dvs pvs lam σ X) (go Z endB K):=by
 have hP:=R.P
 have hpl:=R.P.len
 rw [List.length_reverse] at hpl
 rw [hpn,List.reverse_cons] at hP
 obtain ⟨pv',v,rfl,hP1,⟨a,tl,tn,ps,rfl,hga,hgl,hgp⟩,_⟩:=hP.last
 rw [lap] at hpl
 refine letG ?_; intro c l N
 refine nx ?_
 refine ld 7 B.due ?_
 refine gap 0 ?_
 refine csM kEnd ?_; intro c l N t1
 refine ld 8 B.path ?_
 refine gpo 1 ?_
 refine poL 1 ?_ (hz:=by rw [show pv'.length + 1 = _ from hpl]; exact szl (ltr (ltr I.zp hk) (by decide)))
 refine ci ?_; intro c l N _
 refine tup (i:=0) hga ?_
 refine nwT ?_; intro c l N g2 b le2 ho
 refine app 0 ?_ (hz:=by rw [R.D.len]; exact szl (ltr (ltr I.zu hk) (by decide)))
 have R2:=R.up le2
 refine nx ?_
 refine ld 10 B.target ?_
 refine mend R2.T.R.I 2 ?_
 refine cwf ?_
 refine ld 7 B.due ?_
 refine ci ?_; intro c l N _
 refine neg ?_; intro c l N _
 refine last 0 ?_ (hx:=List.getLast?_concat)
 refine ci ?_; intro c l N _
 refine tup (i:=1) ho ?_
 refine tgK (A:=[_,_]) (nt_lw hX) fun g4 R4 le4 back => f_end (k:=q.path.length) Z.C (R2.T.up le4) (ltr hroom (by decide)) (I.fit hk) I.nps (I.hok hpn) fun g5 σ5 le5 V5 => back g5 σ5 le5 fun g6 le6 tl => ?_
 have R6:=R2.up le6
 exact h g6 σ5 _ pv' ⟨R6.le,R6.C,V5.tp tl R6.T.R.I,R6.D.snoc (e:=.two kEnd (nameS n)) ⟨_,_,_,rfl,le6 _ _ ho⟩,(hP1.up le2).up le6,R6.R,due_snoc R6.O ⟨by unfold okT; decide,okT_name n,fun z => absurd z (by decide)⟩⟩
end
theorem ltN {j m:Nat} (h:(j:Int) < (m:Nat)):j < m:=Int.ofNat_lt.mp h
noncomputable def brS (x:Uri):T:=if x = .no then [] else [123] ++ uriS x ++ [125]
theorem brS_name (x:Uri) (b:Bool):brS x ++ locS b = nameS (x,b):=by
 unfold brS nameS
 by_cases hx:x = .no
 · rw [if_pos hx,if_pos hx]; rfl
 · rw [if_neg hx,if_neg hx]
theorem uri_no {x:Uri}:uriS x ≠ [] ↔ x ≠ .no:=uri_all (P:=fun x => uriS x ≠ [] ↔ x ≠ .no) (by decide +kernel) x
theorem brS_len (x:Uri):(brS x).length ≤ 100:=uri_all (P:=fun x => (brS x).length ≤ 100) (by decide +kernel) x
section
variable {g:Addr → Option Obj} {l:Fr1} {N:Ldg}
theorem mlI {a b:Int} {u:Tok} (h:let c':=c; let l':=l; let N':=N; ∀ t,G Z g l' N' (rsV c' (.int (a * b) t)))
 (hc:autoParam (HdV (binaryOp .Mult (.int a t) (.int b u)) c) aR) (hm:IntMulOk a b:=by exact IntMulOk.of_left (by decide +kernel)):G Z g l N c:=Hr.mk fun s S => outV hc (mul_int ((h _).run (tick s) S) hm)
theorem c_piece {n:Int} (hroom:Z.d ≤ 890) (h:let c':=c; let l':=l; let N':=N; ∀ t',G Z g l' N' (rsV c' (sv (pieceT n) t'))) (hc:autoParam (HdCal (.ref 180) [.int n t] c) aR):G Z g l N c:=cal (hc:=hc) (f_piece Z.C hroom h)
theorem itF {a:Addr} {vs:List Value} {k:Int} {v:Value} (D:GL g a vs) (h:G Z g l N (rsV c v)) (hx:vs[k.toNat]? = some v) (h0:0 ≤ k) (hf:k < 100)
 (hc:autoParam (HdSub (.ref a) (.int k t) c) aR) (hs:autoParam (operate [.ref a,.int k t] (getItem (.ref a) (.int k t)) = subscripted (e2C c) false (.ref a) (.int k t)) aR):G Z g l N c:=Hr.mk fun s S => outSub hc (gtL (D.of S) h0 (Int.lt_trans hf (by decide)) hx (h.run s S) hs.symm)
theorem itG {a:Addr} {xs:List T} {k:Int} {x:T} (D:GT g a xs) (hx:xs[k.toNat]? = some x) (h0:0 ≤ k) (hf:k < 100) (h:let c':=c; let l':=l; let N':=N; ∀ t',G Z g l' N' (rsV c' (sv x t')))
 (hc:autoParam (HdSub (.ref a) (.int k t) c) aR) (hs:autoParam (operate [.ref a,.int k t] (getItem (.ref a) (.int k t)) = subscripted (e2C c) false (.ref a) (.int k t)) aR):G Z g l N c:=by
 obtain ⟨vs,G1,hT⟩:=D
 obtain ⟨t',hv⟩:=hT.at hx
 exact itF G1 (h t') hv h0 hf (hc:=hc) (hs:=hs)
theorem itAB {r:Int} {u:Tok} (h:let c':=c; let l':=l; let N':=N; ∀ b t,G Z g l' N' (rsV c' (sv (locS b) t)))
 (hc:autoParam (HdSub (.ref D) (.int (r.fmod 2) u) c) aR) (hk:autoParam (At (D,Lst [sv [97] t1,sv [98] t2]) 0 N) aR) (hs:autoParam (operate [.ref D,.int (r.fmod 2) u] (getItem (.ref D) (.int (r.fmod 2) u)) = subscripted (e2C c) false (.ref D) (.int (r.fmod 2) u)) aR):G Z g l N c:=by
 obtain ⟨j,e,hj⟩:=fm_nat r (k:=2) (by decide)
 rw [e] at hc hs
 match j,hj with
 | 0,_ => exact itL 0 (h false t1) (hk:=hk) (hc:=hc) (hs:=hs)
 | 1,_ => exact itL 0 (h true t2) (hk:=hk) (hc:=hc) (hs:=hs)
 | j + 2,hj => exact absurd (ltN (m:=2) hj) (Nat.not_lt.mpr (Nat.le_add_left 2 j))
variable {r:Int} {tr:Tok} {o:Nat → Option Value}
theorem stHead (B:LEn Z.env cF) (C:LC bare V g)
 (h:∀ n U D tu tt,n.1 ∈ tagU bare → Z.H0.heap.objs.size ≤ D → G Z g (lwF V mv (some (.int r tr)) pc (stO U D n tt (o 3) (o 4) (o 5) (o 6) o)) ((D,Dct Z.w []) :: (U,Lst [sv (uriS n.1) tu]) :: N) (go Z (startB.drop 3) K)) :
 G Z g (lwF V mv (some (.int r tr)) pc o) N (go Z startB K):=by
 obtain ⟨j,e,hj⟩:=fm_nat r (k:=6) (by decide)
 obtain ⟨x,hx⟩:∃ x,(tagU bare)[j]? = some x:=⟨_,List.getElem?_eq_getElem (ltN (m:=6) hj)⟩
 refine letG ?_; intro c l N
 refine nx ?_
 refine ld 4 B.tags ?_
 refine ld 12 B.rest ?_
 refine ci ?_; intro c l N _
 refine mdI ?_; intro c l N _
 rw [e]
 refine itG (x:=uriS x) C.tg (by rw [List.getElem?_map]; exact congrArg (Option.map uriS) hx) (Int.natCast_nonneg _) (Int.lt_trans hj (by decide)) ?_; intro c l N tu
 refine nwL ?_; intro c l N U
 refine st 14 B.uris ?_
 refine nx ?_
 refine ld 14 B.uris ?_
 refine ci ?_; intro c l N _
 refine itL 0 ?_
 refine csM [] ?_; intro c l N _
 refine letG ?_; intro c l N
 have key:∀ t,G Z g l N (rsV (rsB c false) (sv (brS x) t)):=fun t => by
  refine letG ?_; intro c l N
  refine csM [97] ?_; intro c l N ta
  refine csM [98] ?_; intro c l N tb
  refine nwL ?_; intro c l N D0
  refine ld 12 B.rest ?_
  refine ci ?_; intro c l N _
  refine fdI ?_; intro c l N _
  refine ci ?_; intro c l N _
  refine mdI ?_; intro c l N _
  refine itAB ?_; intro c l N b _
  refine adT ?_ (hz:=ltr (Nat.add_le_add (brS_len x) (Nat.le_of_eq (locS_len b))) (by decide)); intro c l N tt
  rw [brS_name]
  refine st 15 B.tag ?_
  refine G.drop ?_
  refine nx ?_
  refine dic0 ?_; intro c l N D hD
  refine st 16 B.attrs ?_
  exact h (x,b) U D tu tt (List.mem_of_getElem? hx) hD
 refine neS ?_ ?_
 · intro c l N hc
   refine csM [123] ?_; intro c l N _
   refine ld 14 B.uris ?_
   refine ci ?_; intro c l N _
   refine itL 0 ?_
   refine adT ?_ (hz:=ltr (Nat.add_le_add_left (uriS_len x) 1) (by decide)); intro c l N _
   refine csM [125] ?_; intro c l N _
   refine adT ?_ (hz:=by rw [lap]; exact ltr (Nat.add_le_add_right (Nat.add_le_add_left (uriS_len x) 1) 1) (by decide)); intro c l N t
   have e2:[123] ++ uriS x ++ [125] = brS x:=(if_neg (uri_no.mp hc)).symm
   rw [e2]
   exact key t
 · intro c l N hc
   refine csM [] ?_; intro c l N t
   have e2:([]:T) = brS x:=(if_pos (Classical.not_not.mp fun z => hc (uri_no.mpr z))).symm
   rw [e2]
   exact key t
end
noncomputable def atsPut (ats:List (Nm × T)) (n:Nm) (x:T):List (Nm × T):=if n ∈ ats.map (·.1) then ats.map (fun e => if e.1 = n then (n,x) else e) else ats ++ [(n,x)]
theorem kv_put {n:Nm} {x:T} {t:Tok}:∀ {kvs:List (Str × Value)} {ats:List (Nm × T)},KV kvs (ats.map fun e => (nameS e.1,e.2)) → KV (kvs.map fun kv => if kv.1 = nmS n then (kv.1,sv x t) else kv) ((ats.map fun e => if e.1 = n then (n,x) else e).map fun e => (nameS e.1,e.2))
 | [],[],_ => trivial
 | kv :: kvs,e :: ats,h => by
  obtain ⟨⟨h1,t1,h2⟩,h3⟩:=h
  have h1:kv.1 = nmS e.1:=h1
  refine ⟨?_,kv_put h3⟩
  dsimp only
  by_cases hn:e.1 = n
  · have:kv.1 = nmS n:=by rw [h1,hn]
    rw [if_pos this,if_pos hn]
    exact ⟨this,t,rfl⟩
  · have:¬ kv.1 = nmS n:=fun z => hn (nmS_inj (h1.symm.trans z))
    rw [if_neg this,if_neg hn]
    exact ⟨h1,t1,h2⟩
 | [],_ :: _,h => h.elim
 | _ :: _,[],h => h.elim
theorem kv_app {n:Nm} {x:T} {t:Tok}:∀ {kvs:List (Str × Value)} {ats:List (Nm × T)},KV kvs (ats.map fun e => (nameS e.1,e.2)) → KV (kvs ++ [(nmS n,sv x t)]) ((ats ++ [(n,x)]).map fun e => (nameS e.1,e.2))
 | [],[],_ => ⟨⟨rfl,t,rfl⟩,trivial⟩
 | _ :: _,_ :: _,h => ⟨h.1,kv_app h.2⟩
 | [],_ :: _,h => h.elim
 | _ :: _,[],h => h.elim
theorem kv_any {n:Nm}:∀ {kvs:List (Str × Value)} {ats:List (Nm × T)},KV kvs (ats.map fun e => (nameS e.1,e.2)) → (kvs.any (fun kv => decide (kv.1 = nmS n)) = true ↔ n ∈ ats.map (·.1))
 | [],[],_ => ⟨(fun h => nomatch h),(fun h => nomatch h)⟩
 | kv :: kvs,e :: ats,h => by
  obtain ⟨⟨h1,_⟩,h3⟩:=h
  have h1:kv.1 = nmS e.1:=h1
  rw [List.any_cons,Bool.or_eq_true,kv_any h3,List.map_cons,List.mem_cons,decide_eq_true_eq,h1]
  exact ⟨fun z => z.imp (fun q => (nmS_inj q).symm) id,fun z => z.imp (fun q => by rw [q]) id⟩
 | [],_ :: _,h => h.elim
 | _ :: _,[],h => h.elim
theorem kv_stored {x:T} {kvs:List (Str × Value)} {ats:List (Nm × T)} (h:KV kvs (ats.map fun e => (nameS e.1,e.2))):KV (stored kvs (nmS n) (sv x t)) ((atsPut ats n x).map fun e => (nameS e.1,e.2)):=by
 unfold stored atsPut
 by_cases hn:n ∈ ats.map (·.1)
 · rw [if_pos ((kv_any h).mpr hn),if_pos hn]; exact kv_put h
 · rw [if_neg fun z => hn ((kv_any h).mp z),if_neg hn]; exact kv_app h
theorem atsPut_keys (ats:List (Nm × T)) (n:Nm) (x:T):(atsPut ats n x).map (·.1) = if n ∈ ats.map (·.1) then ats.map (·.1) else ats.map (·.1) ++ [n]:=by
 unfold atsPut
 split
 · rw [List.map_map]
   refine List.map_congr_left fun e _ => ?_
   show (if e.1 = n then (n,x) else e).1 = e.1
   split
   · rename_i h; exact h.symm
   · rfl
 · rw [List.map_append]; rfl
theorem atsPut_mem {ats:List (Nm × T)} {x:T} {e:Nm × T} (h:e ∈ atsPut ats n x):e = (n,x) ∨ e ∈ ats:=by
 unfold atsPut at h
 split at h
 · obtain ⟨e',he,q⟩:=List.mem_map.mp h
   split at q
   · exact .inl q.symm
   · exact .inr (q ▸ he)
 · rcases List.mem_append.mp h with q | q
   · exact .inr q
   · exact .inl (List.mem_singleton.mp q)
theorem signT_ok (n:Int):okT [signT n]:=by
 intro c hc
 rw [List.mem_singleton] at hc
 subst hc
 have l1:=fmod_lo n (n:=1112064) (by decide)
 have l2:=fmod_hi n (n:=1112064) (by decide)
 unfold signT
 split <;> omega
theorem pieceT_ok (n:Int):okT (pieceT n):=by
 have h1:∀ x ∈ pieces,okT x:=by unfold okT; decide
 unfold pieceT
 rw [List.getD_eq_getElem?_getD]
 cases e:(pieces ++ [[signT (n.fdiv 13)]])[(n.fmod 13).toNat]? with
 | none => intro c hc; cases hc
 | some x =>
  rcases List.mem_append.mp (List.mem_of_getElem? e) with q | q
  · exact h1 x q
  · rw [List.mem_singleton] at q; subst q; exact signT_ok _
structure AOk (bare:Bool) (n:Nm) (i:Nat) (ats:List (Nm × T)) (us:List Uri):Prop where
 nd:(ats.map (·.1)).Nodup
 z:ats.length ≤ i
 ok:∀ e ∈ ats,e.1.1 ∈ keyU bare ∧ (e.2.length ≤ 4 ∧ okT e.2) ∧ e.1.1 ∈ us
 hn:n.1 ∈ us
 zu:us.length ≤ i + 1
theorem AOk.put {i:Nat} {ats:List (Nm × T)} {us:List Uri} (h:AOk bare n i ats us) {y:Uri} {b:Bool} {x:T} (hy:y ∈ keyU bare) (hx:x.length ≤ 4 ∧ okT x):AOk bare n (i + 1) (atsPut ats (y,b) x) (us ++ [y]):=by
 refine ⟨?_,?_,fun e he => ?_,List.mem_append_left _ h.hn,by rw [lap]; exact Nat.succ_le_succ h.zu⟩
 · rw [atsPut_keys]
   split
   · exact h.nd
   · rename_i hn
     exact List.nodup_append.mpr ⟨h.nd,List.nodup_cons.mpr ⟨List.not_mem_nil,List.nodup_nil⟩,fun a ha c hc => by rw [List.mem_singleton] at hc; rw [hc]; exact fun z => hn (z ▸ ha)⟩
 · unfold atsPut
   split
   · rw [List.length_map]; exact Nat.le_succ_of_le h.z
   · rw [lap]; exact Nat.succ_le_succ h.z
 · rcases atsPut_mem he with rfl | he
   · exact ⟨hy,hx,List.mem_append_right _ (List.mem_singleton.mpr rfl)⟩
   · have:=h.ok e he
     exact ⟨this.1,this.2.1,List.mem_append_left _ this.2.2⟩
inductive AtK (bare:Bool) (n:Nm) (g:Addr → Option Obj) (F:Option Value → Option Value → Option Value → Fr1) (M:List (Str × Value) → List Value → Ldg):Nat → (Addr → Option Obj) → Fr1 → Ldg → Prop
 | mk {i k sd nm kvs ats uvs us} (hO:AOk bare n i ats us) (hK:KV kvs (ats.map fun e => (nameS e.1,e.2))) (hX:Txs uvs (us.map uriS)):AtK bare n g F M i g (F k sd nm) (M kvs uvs)
variable {U:Addr} {kk:Option Value}
section
variable {g:Addr → Option Obj} {N:Ldg} {r:Int} {tr:Tok} {o:Nat → Option Value} {sd nm sc:Option Value}
theorem stAttrs (B:LEn Z.env cF) (hroom:Z.d ≤ 800) (C:LC bare V g)
 (h:∀ g' k sd nm kvs ats uvs us,gLe g g' → AOk bare n 3 ats us → KV kvs (ats.map fun e => (nameS e.1,e.2)) → Txs uvs (us.map uriS) → G Z g' (lwF V mv (some (.int r tr)) pc (stO U D n tt k sd nm sc o)) ((D,Dct Z.w kvs) :: (U,Lst uvs) :: N) (go Z (startB.drop 4) K)) :
 G Z g (lwF V mv (some (.int r tr)) pc (stO U D n tt kk sd nm sc o)) ((D,Dct Z.w []) :: (U,Lst [sv (uriS n.1) tu]) :: N) (go Z (startB.drop 3) K):=by
 obtain ⟨m,e,hm⟩:=fm_nat (r.fdiv 12) (k:=4) (by decide)
 have hm3:m ≤ 3:=Nat.le_of_lt_succ (ltN (m:=4) hm)
 refine letG ?_; intro c l N1
 refine nx ?_
 refine bl (v:=.type "range") B.range (by k_is) boot_range (by decide) ?_
 refine ld 12 B.rest ?_
 refine ci ?_; intro c l N1 _
 refine fdI ?_; intro c l N1 _
 refine ci ?_; intro c l N1 _
 refine mdI ?_; intro c l N1 _
 rw [e]
 refine rg1 ?_; intro c l N1 g1 rr t1 t2 t3 le1 hr
 have hr:g1 rr = some (rgO ((0:Nat):Int) ((0 + m:Nat):Int) t1 t2 t3):=by rw [Nat.zero_add]; exact hr
 let KF:Option Value → Option Value → Option Value → Fr1:=fun k sd nm => lwF V mv (some (.int r tr)) pc (stO U D n tt k sd nm sc o)
 let KM:List (Str × Value) → List Value → Ldg:=fun kvs uvs => (D,Dct Z.w kvs) :: (U,Lst uvs) :: N
 let KI:Nat → (Addr → Option Obj) → Fr1 → Ldg → Prop:=AtK bare n g1 KF KM
 refine lpI (n:=m) (P:=Rg 0 m) (ok:=fun s => s.heap.get? rr = some (rgO ((0:Nat):Int) ((0 + m:Nat):Int) t1 t2 t3)) (srcR (ltr (Nat.add_le_add_left hm3 0) (by decide))) (fun s S => S.keep _ _ hr) KI (fun j g' l' N' s it hK S => by cases hK; exact S.keep _ _ hr) (.mk (ats:=[]) (us:=[n.1]) ⟨List.nodup_nil,Nat.le_refl _,(fun e he => nomatch he),List.mem_singleton.mpr rfl,Nat.le_refl _⟩ trivial (Txs.one _ _)) ?_ ?_
 · intro g' l' N' hK
   cases hK with | mk hO hKV hX => ?_
   exact h g1 _ _ _ _ _ _ _ le1 ⟨hO.nd,ltr hO.z hm3,hO.ok,hO.hn,ltr hO.zu (Nat.succ_le_succ hm3)⟩ hKV hX
 · rintro j v it E Q' g' l' N' hj ⟨t0,rfl⟩ hK q
   cases hK with | mk hO hKV hX => ?_
   rename_i k0 sd0 nm0 kvs ats uvs us
   have hj3:j ≤ 3:=ltr (Nat.le_of_lt hj) hm3
   have hzu:uvs.length ≤ 4:=by rw [hX.len,List.length_map]; exact ltr hO.zu (Nat.succ_le_succ hj3)
   have hzk:kvs.length ≤ 3:=by rw [hKV.len,List.length_map]; exact ltr hO.z hj3
   refine letG ?_; intro c l N1
   refine Mine.st 17 B.kk ?_
   refine nx ?_
   refine ld 12 B.rest ?_
   refine ci ?_; intro c l N1 _
   refine fdI ?_; intro c l N1 _
   refine ci ?_; intro c l N1 _
   refine ld 17 B.kk ?_
   refine mlI ?_; intro c l N1 _
   refine adI ?_; intro c l N1 tsd
   refine Mine.st 18 B.seed ?_
   generalize hsd:r.fdiv 3072 + 5 * ((0 + j:Nat):Int) = sdv
   obtain ⟨i6,e6,hi6⟩:=fm_nat sdv (k:=6) (by decide)
   obtain ⟨y,hy⟩:∃ y,(keyU bare)[i6]? = some y:=⟨_,List.getElem?_eq_getElem (ltN (m:=6) hi6)⟩
   refine nx ?_
   refine ld 14 B.uris ?_
   refine gap 2 ?_
   refine ld 5 B.keys ?_
   refine ld 18 B.seed ?_
   refine ci ?_; intro c l N1 _
   refine mdI ?_; intro c l N1 _
   rw [e6]
   refine itG (x:=uriS y) (C.up le1).ky (by rw [List.getElem?_map]; exact congrArg (Option.map uriS) hy) (Int.natCast_nonneg _) (Int.lt_trans hi6 (by decide)) ?_; intro c l N1 ty
   refine app 2 ?_ (hz:=ltr hzu (by decide))
   refine nx ?_
   refine ld 14 B.uris ?_
   refine ci ?_; intro c l N1 _
   refine neg ?_; intro c l N1 _
   refine last 2 ?_ (hx:=List.getLast?_concat)
   refine csM [] ?_; intro c l N1 _
   refine letG ?_; intro c l N1
   have key:∀ t,G (Z.sE E) g1 l N1 (rsV (rsB c false) (sv (brS y) t)):=fun t => by
    refine letG ?_; intro c l N1
    refine csM [97] ?_; intro c l N1 ta
    refine csM [98] ?_; intro c l N1 tb
    refine nwL ?_; intro c l N1 D0
    refine ld 18 B.seed ?_
    refine ci ?_; intro c l N1 _
    refine fdI ?_; intro c l N1 _
    refine ci ?_; intro c l N1 _
    refine mdI ?_; intro c l N1 _
    refine itAB ?_; intro c l N1 b _
    refine adT ?_ (hz:=ltr (Nat.add_le_add (brS_len y) (Nat.le_of_eq (locS_len b))) (by decide)); intro c l N1 tn
    rw [brS_name]
    refine Mine.st 19 B.name ?_
    refine G.drop ?_
    refine nx ?_
    refine gl B.lpiece (by k_is) ?_
    refine cwf ?_
    refine ld 18 B.seed ?_
    refine ci ?_; intro c l N1 _
    refine fdI ?_; intro c l N1 _
    refine c_piece (ltr hroom (by decide)) ?_; intro c l N1 tp
    refine ld 16 B.attrs ?_
    refine ld 19 B.name ?_
    refine sdT 1 ?_ (hz:=ltr hzk (by decide))
    refine q.go (.mk (k:=some (.int ((0 + j:Nat):Int) t0)) (sd:=some (.int sdv tsd)) (nm:=some (sv (nameS (y,b)) tn)) (us:=us ++ [y]) (hO.put (List.mem_of_getElem? hy) ⟨pieceT_len _,pieceT_ok _⟩) (kv_stored hKV) ?_)
    rw [List.map_append]; exact hX.app (Txs.one _ _)
   refine neS ?_ ?_
   · intro c l N1 hc
     refine csM [123] ?_; intro c l N1 _
     refine ld 14 B.uris ?_
     refine ci ?_; intro c l N1 _
     refine neg ?_; intro c l N1 _
     refine last 2 ?_ (hx:=List.getLast?_concat)
     refine adT ?_ (hz:=ltr (Nat.add_le_add_left (uriS_len y) 1) (by decide)); intro c l N1 _
     refine csM [125] ?_; intro c l N1 _
     refine adT ?_ (hz:=by rw [lap]; exact ltr (Nat.add_le_add_right (Nat.add_le_add_left (uriS_len y) 1) 1) (by decide)); intro c l N1 t
     have e2:[123] ++ uriS y ++ [125] = brS y:=(if_neg (uri_no.mp hc)).symm
     rw [e2]
     exact key t
   · intro c l N1 hc
     refine csM [] ?_; intro c l N1 t
     have e2:([]:T) = brS y:=(if_pos (Classical.not_not.mp fun z => hc (uri_no.mpr z))).symm
     rw [e2]
     exact key t
end
noncomputable def RdV (g:Addr → Option Obj) (v:Value) (d:PyData):Prop:=∀ h:Heap,(∀ b o,g b = some o → h.get? b = some o) → ∃ as,Reads h v d as
noncomputable def RdVs (g:Addr → Option Obj) (vs:List Value) (ds:List PyData):Prop:=∀ h:Heap,(∀ b o,g b = some o → h.get? b = some o) → ∃ as,ReadsAll h vs ds as
theorem RdV.str (g:Addr → Option Obj) (x:T) (t:Tok):RdV g (sv x t) (.str (mk x)):=fun ι ι => ⟨[],.str _ _⟩
theorem RdVs.nil (g:Addr → Option Obj):RdVs g [] []:=fun ι ι => ⟨[],.nil⟩
variable {ds:List PyData}
theorem RdVs.cons {g:Addr → Option Obj} {v:Value} {d:PyData} {vs:List Value} (h:RdV g v d) (hs:RdVs g vs ds):RdVs g (v :: vs) (d :: ds):=fun hp hk =>
 let ⟨_,h1⟩:=h hp hk; let ⟨_,h2⟩:=hs hp hk; ⟨_,.cons h1 h2⟩
theorem RdV.tup {g:Addr → Option Obj} {a:Addr} {vs:List Value} (ha:g a = some (tupO vs)) (hs:RdVs g vs ds):RdV g (.ref a) (.tuple ds):=fun hp hk =>
 let ⟨as,h2⟩:=hs hp hk; ⟨as,.tuple (hk _ _ ha) rfl rfl (by show ReadsAll hp (vs.toArray).toList ds as; rw [List.toList_toArray]; exact h2)⟩
theorem RdV.lst {g:Addr → Option Obj} {a:Addr} {vs:List Value} (ha:GL g a vs) (hs:RdVs g vs ds):RdV g (.ref a) (.list ds):=fun hp hk => by
 obtain ⟨o,h1,n,rfl⟩:=ha
 obtain ⟨as,h2⟩:=hs hp hk
 exact ⟨a :: as,.list (hk _ _ h1) rfl rfl (by show ReadsAll hp (vs.toArray).toList ds as; rw [List.toList_toArray]; exact h2)⟩
theorem St.reads {g:Addr → Option Obj} {N:Ldg} {s:Shared} {l:Addr} {vs:List Value} {f:OP → Ldg} (S:St H0 g N s) (k:Pk l (Lst vs) N f) (hs:RdVs g vs ds):∃ as,Reads s.heap (.ref l) (.list ds) as:=by
 obtain ⟨n,ho⟩:=S.plist k
 obtain ⟨as,h2⟩:=hs s.heap S.keep
 exact ⟨l :: as,.list ho rfl rfl (by show ReadsAll s.heap (vs.toArray).toList ds as; rw [List.toList_toArray]; exact h2)⟩
noncomputable def Shp (n:Nat) (d:PyData):Prop:=d.canLay0 = true ∧ d.depth ≤ n
theorem Shp.str {n:Nat} {x:T} (h:okT x):Shp n (.str (mk x)):=by
 refine ⟨?_,Nat.zero_le _⟩
 have:PyData.canLay0 (.str (mk x)) = PyData.strOk (mk x):=by simp only [PyData.canLay0]
 rw [this]
 unfold PyData.strOk mk
 simp only [List.all_toArray,List.all_eq_true,decide_eq_true_eq]
 exact h
theorem shpAll {n:Nat}:∀ {ds:List PyData},(∀ d ∈ ds,Shp n d) → PyData.canLayAll0 ds = true ∧ PyData.depthAll ds ≤ n
 | [],_ => ⟨rfl,Nat.zero_le _⟩
 | d :: ds,h => by
  have h1:=h d (List.mem_cons_self ..)
  have h2:=shpAll (ds:=ds) fun x hx => h x (List.mem_cons_of_mem _ hx)
  refine ⟨?_,?_⟩
  · show (d.canLay0 && PyData.canLayAll0 ds) = true
    rw [h1.1,h2.1]; rfl
  · show max d.depth (PyData.depthAll ds) ≤ n
    exact Nat.max_le.mpr ⟨h1.2,h2.2⟩
theorem Shp.list {n:Nat} (h:∀ d ∈ ds,Shp n d):Shp (n + 1) (.list ds):=by
 have:=shpAll h
 exact ⟨this.1,Nat.succ_le_succ this.2⟩
theorem Shp.tup {n:Nat} (h:∀ d ∈ ds,Shp n d):Shp (n + 1) (.tuple ds):=by
 have:=shpAll h
 exact ⟨this.1,Nat.succ_le_succ this.2⟩
theorem Shp.two {n:Nat} {x:T} (hx:okT x) (hy:okT y):Shp (n + 1) (.tuple [.str (mk x),.str (mk y)]):=Shp.tup fun d hd => by
 rcases List.mem_cons.mp hd with rfl | hd
 · exact Shp.str hx
 · rw [List.mem_singleton] at hd; subst hd; exact Shp.str hy
theorem Shp.shaped {n:Nat} {d:PyData} (h:Shp n d) (hn:n ≤ 64):SeqAt.shaped d = true:=by
 unfold SeqAt.shaped
 rw [h.1,Bool.true_and]
 exact decide_eq_true (ltr h.2 hn)
noncomputable def rowD (r:T × T):PyData:=.tuple [.str (mk r.1),.str (mk r.2)]
noncomputable def lvlD (l:Lvl):PyData:=.list (l.map fun e => rowD (uriS e.1,pfxS e.2))
theorem rdRow {g:Addr → Option Obj} {v:Value} {r:T × T} (h:Row g v r):RdV g v (rowD r):=by
 obtain ⟨a,t1,t2,rfl,ha⟩:=h
 exact RdV.tup ha (RdVs.cons (RdV.str _ _ _) (RdVs.cons (RdV.str _ _ _) (RdVs.nil _)))
theorem rdPrs {g:Addr → Option Obj}:∀ {vs:List Value} {l:Lvl},Prs g vs l → RdVs g vs (l.map fun e => rowD (uriS e.1,pfxS e.2))
 | [],[],_ => RdVs.nil _
 | _ :: _,_ :: _,⟨⟨a,t1,t2,e,ha⟩,h⟩ => RdVs.cons (rdRow ⟨a,t1,t2,e,ha⟩) (rdPrs h)
 | [],_ :: _,h => h.elim
 | _ :: _,[],h => h.elim
noncomputable def pthD (e:Nm × Lvl):PyData:=.tuple [.str (mk (nameS e.1)),lvlD e.2]
theorem rdPth {g:Addr → Option Obj}:∀ {vs:List Value} {es:List (Nm × Lvl)},PthR g vs es → RdVs g vs (es.map pthD)
 | [],[],_ => RdVs.nil _
 | _ :: _,_ :: _,⟨⟨a,tl,t,ps,e,ha,hl,hp⟩,h⟩ => RdVs.cons (by rw [e]; exact RdV.tup ha (RdVs.cons (RdV.str _ _ _) (RdVs.cons (RdV.lst hl (rdPrs hp)) (RdVs.nil _)))) (rdPth h)
 | [],_ :: _,h => h.elim
 | _ :: _,[],h => h.elim
theorem shp_lvl {n:Nat} (l:Lvl):Shp (n + 2) (lvlD l):=Shp.list fun d hd => by
 obtain ⟨e,_,rfl⟩:=List.mem_map.mp hd
 exact Shp.two (okT_uri _) (okT_pfx _)
theorem shp_pth (es:List (Nm × Lvl)):Shp 5 (.list (es.map pthD)):=Shp.list fun d hd => by
 obtain ⟨e,_,rfl⟩:=List.mem_map.mp hd
 refine Shp.tup fun d hd => ?_
 rcases List.mem_cons.mp hd with rfl | hd
 · exact Shp.str (okT_name _)
 · rw [List.mem_singleton] at hd; subst hd; exact shp_lvl _
theorem PthR.get {g:Addr → Option Obj} {vs:List Value} {es:List (Nm × Lvl)} (h:PthR g vs es) {i:Nat} {v:Value} (hv:vs[i]? = some v):∃ e,es[i]? = some e ∧ ∃ a tl t ps,v = .ref a ∧ g a = some (tupO [sv (nameS e.1) t,.ref tl]) ∧ GL g tl ps ∧ Prs g ps e.2:=F2.get h hv
noncomputable def scU (es:List (Nm × Lvl)):List Uri:=es.flatMap fun e => e.2.map (·.1)
theorem scU_len {es:List (Nm × Lvl)} (h:∀ e ∈ es,e.2.length ≤ 3):(scU es).length ≤ 3 * es.length:=by
 induction es with
 | nil => exact Nat.zero_le _
 | cons e es ih =>
  have h1:=h e (List.mem_cons_self ..)
  have h2:=ih fun x hx => h x (List.mem_cons_of_mem _ hx)
  unfold scU at h2 ⊢
  rw [List.flatMap_cons,lap,List.length_map,List.length_cons,Nat.mul_succ,Nat.add_comm]; exact Nat.add_le_add h2 h1
noncomputable def scopeSc:Scope:=lcSc (cpS (atB startB 4))
theorem scope_sc (env:Env):ScOk env [] scopeSc:=⟨rfl,rfl,by decide +kernel,by decide +kernel⟩
theorem scU_take {es:List (Nm × Lvl)} {i:Nat} {e:Nm × Lvl} (h:es[i]? = some e):scU (es.take (i + 1)) = scU (es.take i) ++ e.2.map (·.1):=by
 unfold scU
 rw [List.take_add_one,h,List.flatMap_append]
 exact congrArg (_ ++ ·) (List.append_nil _)
variable {P1 P2 e0:Addr × OP}
section
variable {g:Addr → Option Obj} {N:Ldg} {r:Int} {tr:Tok} {o:Nat → Option Value} {sd nm sc:Option Value} {pvs:List Value} {es:List (Nm × Lvl)}
theorem stScope (B:LEn Z.env cF) (hP:PthR g pvs es) (h3:∀ e ∈ es,e.2.length ≤ 3) (hz:es.length ≤ 200)
 (h:∀ SC svs,Txs svs ((scU es).map uriS) → G Z g (lwF V mv (some (.int r tr)) pc (stO U D n tt kk sd nm (some (.ref SC)) o)) ((SC,Lst svs) :: P1 :: P2 :: e0 :: (V.pth,Lst pvs) :: N) (go Z (startB.drop 5) K)) :
 G Z g (lwF V mv (some (.int r tr)) pc (stO U D n tt kk sd nm sc o)) (P1 :: P2 :: e0 :: (V.pth,Lst pvs) :: N) (go Z (startB.drop 4) K):=by
 refine letG ?_; intro c l N1
 refine nx ?_
 refine lcA (y:="scope") (scope_sc _) ?_ (hl:=B.scope)
 refine ld 8 B.path ?_
 refine coSU 20 B.scope (srcL (a:=V.pth) (vs:=pvs)) (scope_sc _) (fun g' out => g' = g ∧ Txs out ((scU es).map uriS)) (fun s S => S.list (.tail (.tail (.tail (.tail .head))))) (fun it acc Lc m0 s R hL S fin => ?_) ?_
 · let KI:Nat → (Addr → Option Obj) → Ldg → List Value → Prop:=fun i g' N' out => g' = g ∧ N' = (Z.env.locals,Frm l) :: N1 ∧ Txs out ((scU (es.take i)).map uriS)
   refine compC (iteL (vs:=pvs) rfl) KI (fun ι => rfl) ?_ ?_ ?_ ⟨rfl,rfl,trivial⟩ S
   · rintro i g' m' N' out s' ⟨rfl,rfl,_⟩ S'
     exact S'.list (.tail (.tail (.tail (.tail (.tail (.tail (.tail .head)))))))
   · rintro i v g' m' N' out s' Q' E' hi hv ⟨rfl,rfl,hT⟩ S' q
     obtain ⟨e,he,a,tl,t,ps,rfl,ha,hl,hp⟩:=hP.get hv
     have hlen:=hT.len
     rw [List.length_map] at hlen
     have hz1:out.length ≤ 600:=by
      rw [hlen]
      exact ltr (scU_len fun x hx => h3 x (List.mem_of_mem_take hx)) (Nat.mul_le_mul_left 3 (ltr (List.length_take_le' _ _) hz))
     refine asnT2 rfl S' (.inl (tupAt S' ha)) (fun s5 S5 => ?_) rfl rfl (kindC rfl (by decide)) (kindC rfl (by decide))
     refine ldE S5 (up_eq _ _ _) ?_ rfl rfl (kindC rfl (by decide))
     refine q tl ps.toArray _ _ _ _ (hl.of S5) S5 fun it2 s4 R' hl4 S6 fin2 => ?_
     let KJ:Nat → (Addr → Option Obj) → Ldg → List Value → Prop:=fun j g'' N' out => g'' = g' ∧ N' = (it,Itr V.pth (i + 1)) :: (Z.env.locals,Frm l) :: N1 ∧ Txs out ((scU (es.take i) ++ (e.2.take j).map (·.1)).map uriS)
     refine compE (pp:=_) (target:=_) (elt:=_) (iteL (vs:=ps) rfl) (compTurn_nest1 ..) KJ ?_ ?_ ?_ ⟨rfl,rfl,by rw [List.take_zero,List.map_nil,List.append_nil]; exact hT⟩ S6
     · rintro j g'' m'' N' out s'' ⟨rfl,rfl,_⟩ S'
       exact hl.of S'
     · rintro j v g'' m'' N' out s'' Q'' E'' hj hv ⟨rfl,rfl,hT2⟩ S' q2
       obtain ⟨p,hq,b,t1,t2,rfl,hb⟩:=hp.get hv
       refine asnT2 rfl S' (.inl (tupAt S' hb)) (fun s5 S5 => ?_) rfl rfl (kindC rfl (by decide)) (kindC rfl (by decide))
       refine ldE S5 ((up_ne (by decide +kernel)).trans (up_eq _ _ _)) ?_ rfl rfl (kindC rfl (by decide))
       refine q2 _ _ _ _ _ ?_ ⟨rfl,rfl,?_⟩ S5
       · rw [hT2.len,List.length_map,lap,List.length_map]
         exact ltr (Nat.add_le_add (hlen ▸ hz1) (ltr (List.length_take_le' _ _) (h3 e (List.mem_of_getElem? he)))) (by decide)
       · have e2:(scU (es.take i) ++ (e.2.take (j + 1)).map (·.1)).map uriS = (scU (es.take i) ++ (e.2.take j).map (·.1)).map uriS ++ [uriS p.1]:=by
          simp only [List.take_add_one,hq,List.map_append,List.append_assoc]; rfl
         rw [e2]
         exact hT2.app (Txs.one _ _)
     · rintro g'' m'' N' out s'' ⟨rfl,rfl,hT2⟩ S'
       refine fin2 _ _ _ _ _ ⟨rfl,rfl,?_⟩ S'
       rw [hp.len,List.take_length] at hT2
       rw [scU_take he]; exact hT2
   · rintro g' m' N' out s' ⟨rfl,rfl,hT⟩ S'
     rw [hP.len,List.take_length] at hT
     exact fin g' m' out s' ⟨rfl,hT⟩ S'
 · rintro g' acc out ⟨rfl,hT⟩
   exact h acc out hT
end
theorem txs_are:∀ {vs:List Value} {xs:List T},Txs vs xs → StrsAre vs (xs.map mk)
 | [],[],_ => .nil
 | _ :: _,_ :: _,⟨⟨_,rfl⟩,h⟩ => .cons _ _ (txs_are h)
 | [],_ :: _,h => h.elim
 | _ :: _,[],h => h.elim
theorem any_mk (xs:List T) (x:T):(xs.map mk).any (· == mk x) = decide (x ∈ xs):=by
 rw [Bool.eq_iff_iff,List.any_eq_true,decide_eq_true_eq]
 exact ⟨fun ⟨_,hy,e⟩ => let ⟨z,hz,q⟩:=List.mem_map.mp hy; mk_inj (q.trans (eq_of_beq e)) ▸ hz,fun hx => ⟨mk x,List.mem_map_of_mem hx,beq_self_eq_true _⟩⟩
section
variable {s:Shared} {v:Tok} {Q:Value → PP}
theorem pw0 (h:Q (.int 1 s.toks) (tick s)):wpAny (model PG w) A (binaryOp .Pow (.int 2 t) (.int 0 v)) Q E s:=AutoIntOps.pow_0 (by decide) (by decide) h
theorem pw1 (h:Q (.int 2 s.toks) (tick s)):wpAny (model PG w) A (binaryOp .Pow (.int 2 t) (.int 1 v)) Q E s:=AutoIntOps.pow_4 (by decide) (by decide) (by decide) (by decide) (by decide +kernel) h
theorem pw2 (h:Q (.int 4 s.toks) (tick s)):wpAny (model PG w) A (binaryOp .Pow (.int 2 t) (.int 2 v)) Q E s:=AutoIntOps.pow_4 (by decide) (by decide) (by decide) (by decide) (by decide +kernel) h
end
variable {P0:Addr × OP}
section
variable {g:Addr → Option Obj} {l:Fr1} {N:Ldg}
section
variable {a:Addr} {vs:List Value} {xs:List T} {x:T}
theorem inL (i:Nat) (hT:Txs vs xs) (h1:let c':=c; let l':=l; let N':=N; x ∈ xs → G Z g l' N' (rsB c' true)) (h2:let c':=c; let l':=l; let N':=N; ¬ x ∈ xs → G Z g l' N' (rsB c' false))
 (hk:autoParam (At (a,Lst vs) i N) aR) (hc:autoParam (HdC .In (sv x t) (.ref a) c) aR):G Z g l N c:=two (hc:=hc) (fun S q => in_list_strs (S.list (At.pk (i:=i + 1) hk)) (txs_are hT) (by rw [any_mk]; exact q _ S)) h1 h2
theorem ninL (i:Nat) (hT:Txs vs xs) (h1:let c':=c; let l':=l; let N':=N; x ∉ xs → G Z g l' N' (rsB c' true)) (h2:let c':=c; let l':=l; let N':=N; ¬ x ∉ xs → G Z g l' N' (rsB c' false))
 (hk:autoParam (At (a,Lst vs) i N) aR) (hc:autoParam (HdC .NotIn (sv x t) (.ref a) c) aR):G Z g l N c:=two (hc:=hc) (fun S q => notin_list_strs (S.list (At.pk (i:=i + 1) hk)) (txs_are hT) (by rw [any_mk,← decide_not]; exact q _ S)) h1 h2
end
variable {r:Int} {tr:Tok} {o:Nat → Option Value} {sd nm sc:Option Value} {pvs:List Value} {es:List (Nm × Lvl)}
theorem neP {a D0:Addr} (i:Nat) (hu:Z.u ≤ 8500) (hP:PthR g pvs es) (h:G Z g l N (rsB c (!es.isEmpty)))
 (hk:autoParam (At (a,Lst pvs) i N) aR) (h0:autoParam (At (D0,Lst []) 0 N) aR) (hc:autoParam (HdC .NotEq (.ref a) (.ref D0) c) aR):G Z g l N c:=Hr.mk fun s S => outC hc (by
 obtain ⟨as,ra⟩:=S.reads (At.pk (i:=i + 1) hk) (rdPth hP)
 obtain ⟨bs,rb⟩:=S.reads (At.pk (i:=1) h0) (RdVs.nil g)
 refine SeqAt.compareNe_shaped ra rb ((shp_pth es).shaped (by decide)) (Shp.shaped (n:=1) (Shp.list (fun _ h => nomatch h)) (by decide)) (Nat.lt_of_le_of_lt (Nat.add_le_add_right hu 64) (by decide)) ?_
 refine wpAny_truthy_bool ?_
 have e:(!PyData.eqv (.list (es.map pthD)) (.list [])) = !es.isEmpty:=by
  cases es with
  | nil => rfl
  | cons a b => rfl
 rw [e]
 exact h.run s S)
theorem stPathA (B:LEn Z.env cF) (hu:Z.u ≤ 8000)
 (h:∀ g' a,gLe g g' → g' a = some (tupO [sv (nameS n) tt,.ref V.rt]) → G Z g' (lwF V mv (some (.int r tr)) pc (stO U D n tt kk sd nm sc o)) (P0 :: P1 :: P2 :: e0 :: (V.pth,Lst [.ref a]) :: N) (go Z (startB.drop 6) K)) :
 G Z g (lwF V mv (some (.int r tr)) pc (stO U D n tt kk sd nm sc o)) (P0 :: P1 :: P2 :: e0 :: (V.pth,Lst []) :: N) (go Z (startB.drop 5) K):=by
 refine letG ?_; intro c l N1
 refine nx ?_
 refine ld 8 B.path ?_
 refine gap 4 ?_
 refine ld 15 B.tag ?_
 refine ld 8 B.path ?_
 refine nwL ?_; intro c l N1 D0
 refine neP (pvs:=[]) (es:=[]) 5 (ltr hu (by decide)) trivial ?_
 refine G.drop ?_
 refine ld 9 B.root ?_
 refine nwT ?_; intro c l N1 g2 b le2 ho
 refine app 4 ?_
 exact h g2 b le2 ho
theorem stPathB (B:LEn Z.env cF) (hu:Z.u ≤ 8000) (hP:PthR g pvs es) (hne:es ≠ []) (hz:es.length ≤ 200)
 (h:∀ g' a tl,gLe g g' → g' a = some (tupO [sv (nameS n) tt,.ref tl]) → G Z g' (lwF V mv (some (.int r tr)) pc (stO U D n tt kk sd nm sc o)) ((tl,Lst []) :: P0 :: P1 :: P2 :: e0 :: (V.pth,Lst (pvs ++ [.ref a])) :: N) (go Z (startB.drop 6) K)) :
 G Z g (lwF V mv (some (.int r tr)) pc (stO U D n tt kk sd nm sc o)) (P0 :: P1 :: P2 :: e0 :: (V.pth,Lst pvs) :: N) (go Z (startB.drop 5) K):=by
 refine letG ?_; intro c l N1
 refine nx ?_
 refine ld 8 B.path ?_
 refine gap 4 ?_
 refine ld 15 B.tag ?_
 refine ld 8 B.path ?_
 refine nwL ?_; intro c l N1 D0
 refine neP 5 (ltr hu (by decide)) hP ?_
 refine G.drop ?_
 cases es with
 | nil => exact absurd rfl hne
 | cons e es =>
  refine nwL ?_; intro c l N1 tl
  refine nwT ?_; intro c l N1 g2 b le2 ho
  refine app 5 ?_ (hz:=by rw [hP.len]; exact ltr hz (by decide))
  exact h g2 b tl le2 ho
noncomputable def ownU:List Uri:=[.u,.v,.w]
noncomputable def pfxAt (bare:Bool):List (Pfx × Pfx):=[(.p,.q),(.b,.c),(if bare then .e else .em,.d)]
theorem pw_ok {i:Nat} (hi:i < 3):(2 ^ i:Int) ≠ 0 ∧ (2 ^ i:Int).natAbs.log2 < 9000:=by
 match i,hi with
 | 0,_ => decide
 | 1,_ => decide
 | 2,_ => decide
theorem lt3:∀ {i:Nat},i < 3 → i = 0 ∨ i = 1 ∨ i = 2
 | 0,_ => .inl rfl
 | 1,_ => .inr (.inl rfl)
 | 2,_ => .inr (.inr rfl)
 | _ + 3,h => absurd h (Nat.not_lt.mpr (Nat.le_add_left 3 _))
theorem pwI {i:Nat} {v:Tok} (hi:i < 3) (h:let c':=c; let l':=l; let N':=N; ∀ t,G Z g l' N' (rsV c' (.int (2 ^ i) t))) (hc:autoParam (HdV (binaryOp .Pow (.int 2 t) (.int (i:Nat) v)) c) aR):G Z g l N c:=Hr.mk fun s S => outV hc (by
 have h:=(h s.toks).run (tick s) S
 rcases lt3 hi with rfl | rfl | rfl
 · exact pw0 (Q:=fun v => den Z (rsV c v)) h
 · exact pw1 (Q:=fun v => den Z (rsV c v)) h
 · exact pw2 (Q:=fun v => den Z (rsV c v)) h)
theorem LC.pfx {i:Nat} {pa pb:Pfx} (K:LC bare V g) (hx:(pfxAt bare)[i]? = some (pa,pb)):∃ vs a,GL g V.pf vs ∧ vs[i]? = some (.ref a) ∧ GT g a [pfxS pa,pfxS pb]:=by
 obtain ⟨a0,a1,a2,h1,h2,h3,h4⟩:=K.pf
 match i,hx with
 | 0,hx => cases hx; exact ⟨_,a0,h1,rfl,h2⟩
 | 1,hx => cases hx; exact ⟨_,a1,h1,rfl,h3⟩
 | 2,hx => cases hx; exact ⟨_,a2,h1,rfl,h4⟩
 | i + 3,hx => cases hx
theorem own_at {i:Nat} (bare:Bool) (hi:i < 3):∃ x pa pb,ownU[i]? = some x ∧ (pfxAt bare)[i]? = some (pa,pb) ∧ (x,pa) ∈ tlL bare ∧ (x,pb) ∈ tlL bare:=by
 match i,hi with
 | 0,_ => exact ⟨.u,.p,.q,rfl,rfl,by cases bare <;> decide,by cases bare <;> decide⟩
 | 1,_ => exact ⟨.v,.b,.c,rfl,rfl,by cases bare <;> decide,by cases bare <;> decide⟩
 | 2,_ => exact ⟨.w,if bare then .e else .em,.d,rfl,rfl,by cases bare <;> decide,by cases bare <;> decide⟩
structure TOk (bare:Bool) (us sc:List Uri) (i:Nat) (told:Lvl):Prop where
 z:told.length ≤ i
 ok:∀ e ∈ told,e ∈ tlL bare
 all:∀ j,j < i → ∀ x,ownU[j]? = some x → x ∈ us → x ∈ sc ∨ ∃ p,(x,p) ∈ told
theorem TOk.put {us sc:List Uri} {i:Nat} {told:Lvl} {x:Uri} {pp:Pfx} (hO:TOk bare us sc i told) (hx:ownU[i]? = some x) (h2:(x,pp) ∈ tlL bare):TOk bare us sc (i + 1) (told ++ [(x,pp)]):=by
 refine ⟨by rw [lap]; exact Nat.succ_le_succ hO.z,?_,?_⟩
 · intro e he
   rcases List.mem_append.mp he with q | q
   · exact hO.ok e q
   · rw [List.mem_singleton] at q; rw [q]; exact h2
 · intro j hj y hy hyu
   rcases Nat.eq_or_lt_of_le (Nat.le_of_lt_succ hj) with e | e
   · subst e
     rw [hx] at hy
     cases hy
     exact .inr ⟨pp,List.mem_append_right _ (List.mem_singleton.mpr rfl)⟩
   · rcases hO.all j e y hy hyu with q | ⟨p,q⟩
     · exact .inl q
     · exact .inr ⟨p,List.mem_append_left _ q⟩
theorem TOk.skip {us sc:List Uri} {i:Nat} {told:Lvl} {x:Uri} (hO:TOk bare us sc i told) (hx:ownU[i]? = some x) (hb:x ∈ us → x ∈ sc):TOk bare us sc (i + 1) told:=by
 refine ⟨Nat.le_succ_of_le hO.z,hO.ok,fun j hj y hy hyu => ?_⟩
 rcases Nat.eq_or_lt_of_le (Nat.le_of_lt_succ hj) with e | e
 · subst e
   rw [hx] at hy
   cases hy
   exact .inl (hb hyu)
 · exact hO.all j e y hy hyu
theorem mem_uri {x:Uri} {us:List Uri}:uriS x ∈ us.map uriS ↔ x ∈ us:=⟨fun h => let ⟨_,hy,e⟩:=List.mem_map.mp h; uriS_inj e ▸ hy,fun h => List.mem_map_of_mem h⟩
end
inductive ToK (V:LAd) (bare:Bool) (us sc:List Uri) (a:Ab) (g:Addr → Option Obj) (F:Option Value → Fr1) (M:List Value → Ts → Ldg):Nat → (Addr → Option Obj) → Fr1 → Ldg → Prop
 | mk {i g' k tvs told σ'} (le:gLe g g') (hO:TOk bare us sc i told) (hp:Prs g' tvs told) (hT:TT g' V.t σ' (snsAll a told)):ToK V bare us sc a g F M i g' (F k) (M tvs σ')
theorem nt_rg {a n i:Nat}:NT (Rg a n i):=by
 rintro o h ⟨_,xs,k,e⟩
 unfold Rg at h
 subst h
 cases e
section
variable {g:Addr → Option Obj} {l:Fr1} {N:Ldg} {r:Int} {tr:Tok} {o:Nat → Option Value} {sd nm:Option Value} {pvs:List Value} {es:List (Nm × Lvl)}
theorem stTold {SC tl a:Addr} {kvs:List (Str × Value)} {uvs svs dvs:List Value} {us sc:List Uri} {lam:Option Addr} {σ:Ts} {q:Sc} {k:Nat}
 (B:LEn Z.env cF) (hroom:Z.d ≤ 800) (hX:∀ p ∈ X,NT p.2) (C:LC bare V g) (hU:Txs uvs (us.map uriS)) (hS:Txs svs (sc.map uriS)) (hT:TT g V.t σ q.a) (I:Inv V.t.rw bare k q) (hk:k ≤ 130) (ha:g a = some (tupO [sv (nameS n) tt,.ref tl]))
 (h:∀ g' k tvs told σ',gLe g g' → TOk bare us sc 3 told → Prs g' tvs told → TT g' V.t σ' (snsAll q.a told) → G Z g' (lwF V mv (some (.int r tr)) pc (stO U D n tt k sd nm (some (.ref SC)) o)) ((tl,Lst tvs) :: (SC,Lst svs) :: (D,Dct Z.w kvs) :: (U,Lst uvs) :: (V.due,Lst dvs) :: (V.pth,Lst (pvs ++ [.ref a])) :: (TP Z.w V.t σ' ++ (LamL lamP lamQ lam ++ X))) (go Z (startB.drop 7) K)) :
 G Z g (lwF V mv (some (.int r tr)) pc (stO U D n tt kk sd nm (some (.ref SC)) o)) ((tl,Lst []) :: (SC,Lst svs) :: (D,Dct Z.w kvs) :: (U,Lst uvs) :: (V.due,Lst dvs) :: (V.pth,Lst (pvs ++ [.ref a])) :: (TP Z.w V.t σ ++ (LamL lamP lamQ lam ++ X))) (go Z (startB.drop 6) K):=by
 have F:=I.fit hk
 refine letG ?_; intro c l N1
 refine nx ?_
 refine bl (v:=.type "range") B.range (by k_is) boot_range (by decide) ?_
 refine ci ?_; intro c l N1 _
 refine rg1 ?_; intro c l N1 g1 rr t1 t2 t3 le1 hr
 let KF:Option Value → Fr1:=fun k => lwF V mv (some (.int r tr)) pc (stO U D n tt k sd nm (some (.ref SC)) o)
 let KM:List Value → Ts → Ldg:=fun tvs σ' => (tl,Lst tvs) :: (SC,Lst svs) :: (D,Dct Z.w kvs) :: (U,Lst uvs) :: (V.due,Lst dvs) :: (V.pth,Lst (pvs ++ [.ref a])) :: (TP Z.w V.t σ' ++ (LamL lamP lamQ lam ++ X))
 let KI:Nat → (Addr → Option Obj) → Fr1 → Ldg → Prop:=ToK V bare us sc q.a g1 KF KM
 refine lpI (n:=3) (P:=Rg 0 3) (ok:=fun s => s.heap.get? rr = some (rgO ((0:Nat):Int) ((0 + 3:Nat):Int) t1 t2 t3)) (srcR (by decide)) (fun s S => S.keep _ _ hr)
  KI
  (fun j g' l' N' s it hK S => by cases hK with | mk le _ _ _ => exact S.keep _ _ (le _ _ hr)) (.mk (k:=kk) (told:=[]) (gLe.rfl' _) ⟨Nat.le_refl _,(fun e he => nomatch he),fun j hj => absurd hj (Nat.not_lt_zero _)⟩ trivial (hT.up le1)) ?_ ?_
 · intro g' l' N' hK
   cases hK with | mk le hO hp hT => exact h _ _ _ _ _ (le1.tr le) hO hp hT
 · rintro j v it E Q' g' l' N' hj ⟨t0,hv⟩ hK Q
   rw [Nat.zero_add] at hv
   subst hv
   cases hK with | mk le hO hp hT => ?_
   rename_i k0 tvs told σ'
   obtain ⟨x,pa,pb,hx,hpx,hin1,hin2⟩:=own_at bare hj
   have le':=le1.tr le
   have C':=C.up le'
   have hox:[uriS .u,uriS .v,uriS .w][((j:Nat):Int).toNat]? = some (uriS x):=(List.getElem?_map (f:=uriS) (l:=ownU)).trans (congrArg (Option.map uriS) hx)
   have j0:(0:Int) ≤ ((j:Nat):Int):=Int.natCast_nonneg _
   have j9:((j:Nat):Int) < 100:=Int.lt_trans (Int.ofNat_lt.mpr hj) (by decide)
   refine letG ?_; intro c l N1
   refine Mine.st 17 B.kk ?_
   refine nx ?_
   refine ld 12 B.rest ?_
   refine ci ?_; intro c l N1 _
   refine fdI ?_; intro c l N1 _
   refine ci ?_; intro c l N1 _
   refine ld 17 B.kk ?_
   refine pwI hj ?_; intro c l N1 _
   refine fdI ?_ (hb:=(pw_ok hj).1) (hp:=(pw_ok hj).2); intro c l N1 _
   refine ci ?_; intro c l N1 _
   refine mdI ?_; intro c l N1 _
   refine ci ?_; intro c l N1 _
   refine letG ?_; intro c l N1
   have key:G (Z.sE E) g' l N1 (rsB c true):=by
    refine letG ?_; intro c l N1
    refine nx ?_
    refine ld 8 B.path ?_
    refine ci ?_; intro c l N1 _
    refine neg ?_; intro c l N1 _
    refine last 6 ?_ (hx:=List.getLast?_concat)
    refine ci ?_; intro c l N1 _
    refine tup (i:=1) (le' _ _ ha) ?_
    refine gap 1 ?_
    refine ld 2 B.own ?_
    refine ld 17 B.kk ?_
    refine itG C'.ow hox j0 j9 ?_; intro c l N1 t7
    refine ld 3 B.prefixes ?_
    refine ld 17 B.kk ?_
    obtain ⟨fvs,fa,hf1,hf2,hf3⟩:=C'.pfx hpx
    refine itF (v:=.ref fa) (k:=((j:Nat):Int)) hf1 ?_ hf2 j0 j9
    refine ld 12 B.rest ?_
    refine ci ?_; intro c l N1 _
    refine fdI ?_; intro c l N1 _
    refine ci ?_; intro c l N1 _
    refine ld 17 B.kk ?_
    refine pwI hj ?_; intro c l N1 _
    refine fdI ?_ (hb:=(pw_ok hj).1) (hp:=(pw_ok hj).2); intro c l N1 _
    refine ci ?_; intro c l N1 _
    refine mdI ?_; intro c l N1 _
    obtain ⟨b,eb,hb⟩:=fm_nat ((r.fdiv 384).fdiv (2 ^ j)) (k:=2) (by decide)
    rw [eb]
    obtain ⟨pp,hpp1,hpp2⟩:∃ pp,[pfxS pa,pfxS pb][((b:Nat):Int).toNat]? = some (pfxS pp) ∧ (x,pp) ∈ tlL bare:=by
     match b,ltN (m:=2) hb with
     | 0,_ => exact ⟨pa,rfl,hin1⟩
     | 1,_ => exact ⟨pb,rfl,hin2⟩
    refine itG hf3 hpp1 (Int.natCast_nonneg _) (Int.lt_trans hb (by decide)) ?_; intro c l N1 t9
    refine nwT ?_; intro c l N1 g8 b8 le8 ho8
    refine app 1 ?_ (hz:=by rw [hp.len]; exact ltr hO.z (ltr (Nat.le_of_lt hj) (by decide)))
    have hT8:=hT.up le8
    refine nx ?_
    refine ld 10 B.target ?_
    refine msns hT8.R.I 7 ?_
    refine cwf ?_
    refine ld 8 B.path ?_
    refine ci ?_; intro c l N1 _
    refine neg ?_; intro c l N1 _
    refine last 6 ?_ (hx:=List.getLast?_concat)
    refine ci ?_; intro c l N1 _
    refine tup (i:=1) (le8 _ _ (le' _ _ ha)) ?_
    refine ci ?_; intro c l N1 _
    refine neg ?_; intro c l N1 _
    refine last 1 ?_ (hx:=List.getLast?_concat)
    refine ci ?_; intro c l N1 _
    refine tup (i:=1) ho8 ?_
    refine ld 2 B.own ?_
    refine ld 17 B.kk ?_
    refine itG (C'.up le8).ow hox j0 j9 ?_; intro c l N1 t10
    have z1:=snsAll_z told q.a
    have z2:=pushN_len F.nne told
    have z3:told.length ≤ 3:=ltr hO.z (Nat.le_of_lt hj)
    refine tgK (A:=[_,_,_,_,_,_,_]) (nt_app (A:=[_,_,_,_,_,_,_]) (nt_cons nt_rg (nt_cons (nt_lst _) (nt_cons (nt_lst _) (nt_cons (nt_dct _ _) (nt_cons (nt_lst _) (nt_cons (nt_lst _) (nt_cons (nt_lst _) fun p hp => nomatch hp))))))) (nt_app (A:=LamL lamP lamQ lam) (nt_lam _ _ _) hX)) fun g11 R11 le11 back =>
     f_start_ns Z.C (hT8.up le11) (ltr hroom (by decide)) (ltr z1.1 F.zt) (ltr z1.2.1 (ltr F.zl (by decide))) (ltr z1.2.2 (ltr (Nat.add_le_add F.zo z3) (by decide))) (by rw [snsAll_nl]; exact pushN_ne F.nne told) (by rw [snsAll_nl,z2.1]; exact ltr (Nat.add_le_add F.zn z3) (by decide)) fun g12 σ12 le12 V12 => back g12 σ12 le12 fun g13 le13 tp13 => ?_
    refine Q.go (.mk (k:=some (.int (j:Nat) t0)) (told:=told ++ [(x,pp)]) ((le.tr le8).tr le13) (hO.put hx hpp2) (((hp.up le8).up le13).app ⟨⟨b8,_,_,rfl,le13 _ _ ho8⟩,trivial⟩) ?_)
    rw [snsAll_snoc]
    exact V12.tp tp13 (hT8.R.I.up le13)
   refine eqI ?_ ?_ <;> intro c l N1 hb
   · exact key
   · refine ld 2 B.own ?_
     refine ld 17 B.kk ?_
     refine itG C'.ow hox j0 j9 ?_; intro c l N1 t7
     refine ld 14 B.uris ?_
     refine inL 4 hU ?_ ?_ <;> intro c l N1 hxu
     · refine ld 2 B.own ?_
       refine ld 17 B.kk ?_
       refine itG C'.ow hox j0 j9 ?_; intro c l N1 t7
       refine ld 20 B.scope ?_
       refine ninL 2 hS ?_ ?_ <;> intro c l N1 hxs
       · exact key
       · exact Q.go (.mk (k:=some (.int (j:Nat) t0)) le (hO.skip hx fun ι => mem_uri.mp (Classical.not_not.mp hxs)) hp hT)
     · exact Q.go (.mk (k:=some (.int (j:Nat) t0)) le (hO.skip hx fun z => absurd (mem_uri.mpr z) hxu) hp hT)
end
theorem startOk {told:Lvl} {ats:List (Nm × T)} {us:List Uri} (hn:n.1 ∈ tagU bare) (hA:AOk bare n 3 ats us) (hT:TOk bare us (scU path.reverse) 3 told):StartOk bare path n told ats:=by
 refine ⟨hn,fun e he => (hA.ok e he).1,hA.nd,hA.z,fun e he => (hA.ok e he).2.1.1,hT.ok,hT.z,fun x hx hq => ?_⟩
 have hxu:x ∈ us:=by
  rcases hq with rfl | ⟨e,he,rfl⟩
  · exact hA.hn
  · exact (hA.ok e he).2.2
 obtain ⟨j,hj,hxj⟩:∃ j,j < 3 ∧ ownU[j]? = some x:=by
  rcases hx with rfl | rfl | rfl
  · exact ⟨0,by decide,rfl⟩
  · exact ⟨1,by decide,rfl⟩
  · exact ⟨2,by decide,rfl⟩
 rcases hT.all j hj x hxj hxu with q | q
 · refine .inr ?_
   unfold scU at q
   obtain ⟨e,he,hm⟩:=List.mem_flatMap.mp q
   obtain ⟨y,hy,rfl⟩:=List.mem_map.mp hm
   exact ⟨e,List.mem_reverse.mp he,y.2,hy⟩
 · exact .inl q
theorem lw_st (A T L X:List α):(A ++ (T ++ (L ++ X))).Perm ((L ++ T) ++ (A ++ X)):=by
 refine ((perm_mid A T (L ++ X)).trans ((perm_mid A L X).append_left T)).trans ?_
 rw [← List.append_assoc]; exact List.perm_append_comm.append_right _
section
variable {g:Addr → Option Obj} {l:Fr1} {N:Ldg} {r:Int} {tr:Tok} {o:Nat → Option Value} {sd nm sc:Option Value} {pvs:List Value} {es:List (Nm × Lvl)}
theorem stEnd {SC tl a:Addr} {kvs:List (Str × Value)} {uvs svs dvs tvs:List Value} {us:List Uri} {told:Lvl} {ats:List (Nm × T)} {lam:Option Addr} {σ:Ts} {q:Sc} {k:Nat}
 (C:Cy Z.w Z.H0) (B:LEn Z.env cF) (hroom:Z.d ≤ 800) (hu:Z.u ≤ 8000) (hX:∀ p ∈ X,NT p.2) (Cc:LC bare V g) (hn:n.1 ∈ tagU bare) (hA:AOk bare n 3 ats us) (hO:TOk bare us (scU q.path.reverse) 3 told) (hK:KV kvs (ats.map fun e => (nameS e.1,e.2))) (hTv:Prs g tvs told)
 (hT:TT g V.t σ (snsAll q.a told)) (I:Inv V.t.rw bare k q) (hk:k ≤ 130) (ha:g a = some (tupO [sv (nameS n) tt,.ref tl])) (hD0:Z.H0.heap.objs.size ≤ D)
 (hle:gLe g0 g) (hDv:EvsR g dvs q.due) (hDo:∀ e ∈ q.due,EvTx e) (hPv:PthR g pvs q.path.reverse) (hR1:q.path = [] → tl = V.rt) (hR2:q.path ≠ [] → ∃ ps,GL g V.rt ps ∧ Prs g ps q.root) (hroot:q.path = [] → q.root = [] ∧ q.a.rs = false)
 (h:∀ g' o' σ' lam' dvs' pvs' q',Inv V.t.rw bare (k + 1) q' → q'.path.length = q.path.length + 1 → LR V bare true g0 g' q' σ' dvs' pvs' → G Z g' (lwF V mv (some (.int r tr)) pc o') (lwL Z.w V dvs' pvs' lam' σ' X) (K .next)) :
 G Z g (lwF V mv (some (.int r tr)) pc (stO U D n tt kk sd nm sc o)) ((tl,Lst tvs) :: (SC,Lst svs) :: (D,Dct Z.w kvs) :: (U,Lst uvs) :: lwL Z.w V dvs (pvs ++ [.ref a]) lam σ X) (go Z (startB.drop 7) K):=by
 have O:=startOk hn hA hO
 have F:=I.fit hk
 have z1:=snsAll_z told q.a
 have hz3:=hA.z
 refine G.fz fun g1 le1 hl1 => ?_
 refine G.drop ?_
 refine G.fz fun g3 le3 hd3 => ?_
 refine G.drop ?_
 have le13:=le1.tr le3
 have GDD:GD Z.w g3 D kvs:=⟨hd3,notSys Z.C hD0⟩
 have GLt:GL g3 tl tvs:=GL.up le3 hl1
 have hT3:=hT.up le13
 have hkl:kvs.length ≤ 3:=by rw [hK.len,List.length_map]; exact hz3
 refine letG ?_; intro c l N1
 refine nx ?_
 refine ld 10 B.target ?_
 refine mstt hT3.R.I 2 ?_
 refine cwf ?_
 refine ld 15 B.tag ?_
 refine bl (v:=.type "dict") B.dict (by k_is) boot_dict (by decide) ?_
 refine ld 16 B.attrs ?_
 refine dcp GDD (ltr hkl (by decide)) ?_; intro c l N1 DC hDC
 refine G.fz fun g6 le6 hd6 => ?_
 have GDC:GD Z.w g6 DC kvs:=⟨hd6,notSys Z.C hDC⟩
 refine calS (N1:=LamL lamP lamQ lam ++ TP Z.w V.t σ) (N2:=[(V.due,Lst dvs),(V.pth,Lst (pvs ++ [Value.ref a]))] ++ X) (lw_st [(V.due,Lst dvs),(V.pth,Lst (pvs ++ [Value.ref a]))] (TP Z.w V.t σ) (LamL lamP lamQ lam) X) (nt_app (A:=[_,_]) (nt_cons (nt_lst _) (nt_cons (nt_lst _) fun p hp => nomatch hp)) hX) fun g7 R7 le7 back => ?_
 have le36:=le13.tr le6
 have hT7:=(hT.up le36).up le7
 refine f_start C hT7 (ltr hroom (by decide)) (ltr hu (by decide)) (GDC.up le7) hK hA.nd hz3 (fun e he => ltr (hA.ok e he).2.1.1 (by decide)) ?n1 ?n2 (ltr z1.2.2 (ltr (Nat.add_le_add (ltr I.zo (Nat.mul_le_mul_left 5 hk)) hO.z) (by decide))) (ltr z1.1 F.zt) (ltr z1.2.1 F.zl) (by rw [snsAll_dl]; exact F.zd2)
  (IvP V.t.rw bare q) ?i0 ?i1 ?i2 ?hh
 case n1 => rw [snsAll_nps,I.nps]; exact Nat.succ_le_succ (Nat.zero_le _)
 case n2 => rw [snsAll_nps,I.nps]; exact ltr (Nat.succ_le_succ (ltr I.zp hk)) (by decide)
 case i0 => rw [snsAll_dl,snsAll_pl]; exact I.iv0
 case i1 => rw [snsAll_nl]; exact fun dl pl mm hm hi => I.iv1 O hm hi
 case i2 => rw [snsAll_nl]; exact fun dl pl mm hm hi => I.iv2 hk O hm hi
 case hh =>
 intro g8 σ8 c8 ls xr as' le8 hls hxr hpa hasc V8
 refine back g8 _ .none le8 fun g9 le9 tp9 => ?_
 refine G.perm (lw_st [_,_] (TP Z.w V.t σ8) (LamL lamP lamQ (some c8)) X).symm ?_
 have leT:=le36.tr le9
 have V9:=V8.tp tp9 ((hT.up leT).R.I)
 have G9:=(GDD.up le6).up le9
 rw [snsAll_nl,snsAll_dl,snsAll_pl] at hxr
 have Inew:=I.start hk O hroot hls hxr hpa hasc
 refine letG ?_; intro c l N1
 refine nx ?_
 refine ld 7 B.due ?_
 refine gap 0 ?_
 refine csM kStart ?_; intro c l N1 t1
 refine ld 15 B.tag ?_
 refine bl (v:=.builtin "sorted") B.sorted (by k_is) boot_sorted (by decide) ?_
 refine ld 16 B.attrs ?_
 refine gdm G9 PySem.F.slot_dict_items PySem.F.type_dict_items ?_
 have hnn:((ats.map fun e => (nameS e.1,e.2)).map (·.1)).Nodup:=by
  have hnd:=hA.nd
  rw [List.map_map]
  rw [List.Nodup,List.pairwise_map] at hnd ⊢
  exact hnd.imp fun hne q => hne (nameS_inj q)
 refine gdso G9 hK hnn (by rw [List.length_map]; exact hz3) ?_; intro c l N1 g11 D11 vs11 rs11 le11 hR11 hp11 hA11
 have er:rs11 = as'.map fun e => (nameS e.1,e.2):=asc_eq (hp11.trans (hpa.map _).symm) hA11 hasc
 subst er
 refine nwT ?_; intro c l N1 g12 b12 le12 ho12
 refine nwT ?_; intro c l N1 g13 b13 le13' ho13
 refine app 1 ?_ (hz:=by rw [hDv.len]; exact szl (ltr (ltr I.zu hk) (by decide)))
 refine G.fz fun g15 le15 hl15 => ?_
 obtain ⟨o15,ho15,hl15⟩:=hl15
 have lA:gLe g9 g15:=le11.tr (le12.tr (le13'.tr le15))
 have lB:gLe g g15:=leT.tr lA
 refine h g15 _ σ8 (some c8) _ _ _ Inew rfl ⟨hle.tr lB,Cc.up lB,V9.up lA,(hDv.up lB).snoc (e:=.start (nameS n) (as'.map fun e => (nameS e.1,e.2))) ⟨_,_,D11,_,_,o15,vs11,rfl,le15 _ _ ho13,le15 _ _ (le13' _ _ ho12),ho15,hl15,hR11.up fun b o q _ => le15 _ _ (le13' _ _ (le12 _ _ q))⟩,?_,fun ι => ?_,?_⟩
 · show PthR g15 _ ((n,told) :: q.path).reverse
   rw [List.reverse_cons]
   exact PthR.snoc ⟨⟨a,tl,tt,tvs,rfl,lB _ _ ha,((GLt.up le6).up le9).up lA,hTv.up lB⟩,trivial⟩ (hPv.up lB)
 · show ∃ ps,GL g15 V.rt ps ∧ Prs g15 ps (if q.path = [] then told else q.root)
   by_cases hp:q.path = []
   · rw [if_pos hp,← hR1 hp]
     exact ⟨tvs,((GLt.up le6).up le9).up lA,hTv.up lB⟩
   · rw [if_neg hp]
     obtain ⟨ps,q1,q2⟩:=hR2 hp
     exact ⟨ps,q1.up lB,q2.up lB⟩
 · refine due_snoc hDo ⟨okT_name n,fun r hr => ?_⟩
   obtain ⟨e,he,rfl⟩:=List.mem_map.mp hr
   exact ⟨okT_name _,(hA.ok e (hpa.mem_iff.mp he)).2.1.2⟩
end
theorem rt_front (A T L X:List α) (r:α):(A ++ (T ++ (L ++ (r :: X)))).Perm (r :: (A ++ (T ++ (L ++ X)))):=
 ((((List.perm_middle (l₁:=L) (l₂:=X) (a:=r)).append_left T).trans (List.perm_middle (l₁:=T))).append_left A).trans (List.perm_middle (l₁:=A))
section
variable {g:Addr → Option Obj} {r:Int} {tr:Tok} {o:Nat → Option Value} {pvs dvs:List Value} {lam:Option Addr} {σ:Ts} {q:Sc} {k:Nat}
theorem mvStartB (C:Cy Z.w Z.H0) (B:LEn Z.env cF) (hroom:Z.d ≤ 800) (hu:Z.u ≤ 8000) (hX:∀ p ∈ X,NT p.2) (R:LR V bare true g0 g q σ dvs pvs) (I:Inv V.t.rw bare k q) (hk:k ≤ 130) (hpn:q.path ≠ [])
 (h:∀ g' o' σ' lam' dvs' pvs' q',Inv V.t.rw bare (k + 1) q' → q'.path.length = q.path.length + 1 → LR V bare true g0 g' q' σ' dvs' pvs' → G Z g' (lwF V mv (some (.int r tr)) pc o') (lwL Z.w V dvs' pvs' lam' σ' X) (K .next)) :
 G Z g (lwF V mv (some (.int r tr)) pc o) (lwL Z.w V dvs pvs lam σ X) (go Z startB K):=by
 have zl:q.path.reverse.length ≤ 200:=by rw [List.length_reverse]; exact ltr I.zp (ltr hk (by decide))
 refine stHead B R.C fun n U D tu tt hn hD0 => ?_
 refine stAttrs B hroom R.C fun g2 k2 sd nm kvs ats uvs us le2 hA hK hU => ?_
 have hP2:=R.P.up le2
 refine stScope (es:=q.path.reverse) B hP2 (fun e he => I.z3 e (List.mem_reverse.mp he)) zl fun SC svs hsc => ?_
 refine stPathB (es:=q.path.reverse) B hu hP2 (fun z => hpn (List.reverse_eq_nil_iff.mp z)) zl fun g4 a tl le4 ha => ?_
 have l24:=le2.tr le4
 refine stTold (q:=q) B hroom hX (R.C.up l24) hU hsc (R.T.up l24) I hk ha fun g5 k5 tvs told σ5 le5 hO hp5 hT5 => ?_
 have l25:=l24.tr le5
 exact stEnd (q:=q) C B hroom hu hX (R.C.up l25) hn hA hO hK hp5 hT5 I hk (le5 _ _ ha) hD0 (R.le.tr l25) (R.D.up l25) R.O (R.P.up l25) (fun z => absurd z hpn) (fun ι => let ⟨ps,q1,q2⟩:=R.R rfl; ⟨ps,q1.up l25,q2.up l25⟩) (fun z => absurd z hpn) h
theorem mvStartA (C:Cy Z.w Z.H0) (B:LEn Z.env cF) (hroom:Z.d ≤ 800) (hu:Z.u ≤ 8000) (hX:∀ p ∈ X,NT p.2) (R:LR V bare false g0 g q σ dvs pvs) (I:Inv V.t.rw bare k q) (hk:k ≤ 130) (hpn:q.path = []) (hroot:q.root = [] ∧ q.a.rs = false)
 (h:∀ g' o' σ' lam' dvs' pvs' q',Inv V.t.rw bare (k + 1) q' → q'.path.length = q.path.length + 1 → LR V bare true g0 g' q' σ' dvs' pvs' → G Z g' (lwF V mv (some (.int r tr)) pc o') (lwL Z.w V dvs' pvs' lam' σ' X) (K .next)) :
 G Z g (lwF V mv (some (.int r tr)) pc o) (lwL Z.w V dvs pvs lam σ ((V.rt,Lst []) :: X)) (go Z startB K):=by
 have hpv:pvs = []:=List.length_eq_zero_iff.mp (by rw [R.P.len,hpn]; rfl)
 subst hpv
 refine stHead B R.C fun n U D tu tt hn hD0 => ?_
 refine stAttrs B hroom R.C fun g2 k2 sd nm kvs ats uvs us le2 hA hK hU => ?_
 have hP2:=R.P.up le2
 refine stScope (es:=q.path.reverse) B hP2 (fun e he => I.z3 e (List.mem_reverse.mp he)) (by rw [hpn]; decide) fun SC svs hsc => ?_
 refine stPathA B hu fun g4 a le4 ha => ?_
 have l24:=le2.tr le4
 refine G.perm (rt_front [_,_,_,_,_] (TP Z.w V.t σ) (LamL lamP lamQ lam) X (V.rt,Lst [])) ?_
 refine stTold (q:=q) (pvs:=[]) B hroom hX (R.C.up l24) hU hsc (R.T.up l24) I hk ha fun g5 k5 tvs told σ5 le5 hO hp5 hT5 => ?_
 have l25:=l24.tr le5
 exact stEnd (q:=q) (pvs:=[]) C B hroom hu hX (R.C.up l25) hn hA hO hK hp5 hT5 I hk (le5 _ _ ha) hD0 (R.le.tr l25) (R.D.up l25) R.O (R.P.up l25) (fun ι => rfl) (fun z => absurd hpn z) (fun ι => hroot) h
end
noncomputable def LTo (mv:Int) (a b:Nat):Prop:=if mv = 0 then b = a + 1 else if mv = 6 ∨ (mv = 1 ∧ 1 < a) then b + 1 = a else b = a
section
variable {g:Addr → Option Obj} {l:Fr1} {N:Ldg} {mv r:Int} {tm tr:Tok} {o:Nat → Option Value} {pvs dvs:List Value} {lam:Option Addr} {σ:Ts} {q:Sc} {k:Nat}
theorem tnPiece (B:LEn Z.env cF) (hroom:Z.d ≤ 800)
 (h:∀ x t,x.length ≤ 4 → okT x → G Z g (lwF V (some (.int mv tm)) (some (.int r tr)) (some (sv x t)) o) N (go Z (loopB.drop 1) K)) :
 G Z g (lwF V (some (.int mv tm)) (some (.int r tr)) pc o) N (go Z loopB K):=by
 refine letG ?_; intro c l N1
 refine nx ?_
 refine ld 11 B.move ?_
 refine ci ?_; intro c l N1 _
 refine neI ?_ ?_ <;> intro c l N1 hc
 · refine gl B.lpiece (by k_is) ?_
   refine cwf ?_
   refine ld 12 B.rest ?_
   refine c_piece (ltr hroom (by decide)) ?_; intro c l N1 t
   refine st 13 B.piece ?_
   exact h _ t (pieceT_len _) (pieceT_ok _)
 · refine gl B.lsign (by k_is) ?_
   refine cwf ?_
   refine ld 12 B.rest ?_
   refine c_sign (ltr hroom (by decide)) ?_; intro c l N1 t
   refine st 13 B.piece ?_
   exact h _ t (Nat.le_of_ble_eq_true rfl) (signT_ok _)
theorem tnAny (C:Cy Z.w Z.H0) (B:LEn Z.env cF) (hroom:Z.d ≤ 800) (hu:Z.u ≤ 8000) (hX:∀ p ∈ X,NT p.2) (R:LR V bare true g0 g q σ dvs pvs) (I:Inv V.t.rw bare k q) (hk:k ≤ 130) (hpn:q.path ≠ [])
 (h:∀ g' o' pc' σ' lam' dvs' pvs' q',Inv V.t.rw bare (k + 1) q' → LTo mv q.path.length q'.path.length → LR V bare true g0 g' q' σ' dvs' pvs' → G Z g' (lwF V (some (.int mv tm)) (some (.int r tr)) pc' o') (lwL Z.w V dvs' pvs' lam' σ' X) (K .next)) :
 G Z g (lwF V (some (.int mv tm)) (some (.int r tr)) pc o) (lwL Z.w V dvs pvs lam σ X) (go Z loopB K):=by
 refine tnPiece B hroom fun x t hx hxo => ?_
 have hpl:=R.P.len
 rw [List.length_reverse] at hpl
 refine letG ?_; intro c l N1
 refine nx ?_
 refine ld 11 B.move ?_
 refine ci ?_; intro c l N1 _
 refine eqI ?_ ?_ <;> intro c l N1 h0
 · exact mvStartB (K:=nxT [] K) C B hroom hu hX R I hk hpn fun g' o' σ' lam' dvs' pvs' q' I' hp R' => h g' o' _ σ' lam' dvs' pvs' q' I' (by unfold LTo; rw [if_pos h0]; exact hp) R'
 refine nx ?_
 refine ld 11 B.move ?_
 refine ci ?_; intro c l N1 _
 refine letG ?_; intro c l N1
 have key1:(mv = 6 ∨ (mv = 1 ∧ 1 < q.path.length)) → G Z g l N1 (rsB c true):=fun he => by
  obtain ⟨n,told,path,hc⟩:∃ n told path,q.path = (n,told) :: path:=by
   cases e:q.path with
   | nil => exact absurd e hpn
   | cons y ys => exact ⟨y.1,y.2,ys,rfl⟩
  exact mvEnd (K:=nxT [] (nxT [] K)) B hroom hX R I hk hc fun g' σ' dvs' pvs' R' => h g' o _ σ' lam dvs' pvs' _ (I.endd hk hc) (by unfold LTo; rw [if_neg h0,if_pos he,hc]; rfl) R'
 have key2:¬ (mv = 6 ∨ (mv = 1 ∧ 1 < q.path.length)) → G Z g l N1 (go Z else2 (nxT [] (nxT [] K))):=fun he => by
  have hs:LTo mv q.path.length q.path.length:=by unfold LTo; rw [if_neg h0,if_neg he]
  refine letG ?_; intro c l N1
  refine nx ?_
  refine ld 11 B.move ?_
  refine ci ?_; intro c l N1 _
  refine eqI ?_ ?_ <;> intro c l N1 _
  · exact mvCom (K:=nxT [] (nxT [] (nxT [] K))) B hroom hX hx hxo R I hk hpn fun g' σ' dvs' R' => h g' o _ σ' lam dvs' pvs _ (I.com hk hpn hx) hs R'
  refine nx ?_
  refine ld 11 B.move ?_
  refine ci ?_; intro c l N1 _
  refine eqI ?_ ?_ <;> intro c l N1 _
  · exact mvPi (K:=nxT [] (nxT [] (nxT [] (nxT [] K)))) B hroom hX hx hxo R I hk hpn fun g' σ' dvs' R' => h g' o _ σ' lam dvs' pvs _ (I.pi hk hpn hx) hs R'
  · exact mvText (K:=nxT [] (nxT [] (nxT [] (nxT [] K)))) B hroom hX hx hxo R I hk fun g' σ' dvs' R' => h g' o _ σ' lam dvs' pvs _ (I.text hpn hx) hs R'
 refine eqI ?_ ?_ <;> intro c l N1 h6
 · exact key1 (.inl h6)
 refine ld 11 B.move ?_
 refine ci ?_; intro c l N1 _
 refine eqI ?_ ?_ <;> intro c l N1 h1
 · refine bl (v:=.builtin "len") B.len (by k_is) boot_len (by decide) ?_
   refine ld 8 B.path ?_
   refine lnL 1 ?_ (hz:=by rw [hpl]; exact ltr I.zp (ltr hk (by decide))); intro c l N1 _
   refine ci ?_; intro c l N1 _
   have e1:(1:Int) < ((pvs.length:Nat):Int) ↔ 1 < q.path.length:=by rw [hpl]; exact Int.ofNat_lt (n:=1)
   refine gtI ?_ ?_ <;> intro c l N1 hl
   · exact key1 (.inr ⟨h1,e1.mp hl⟩)
   · exact key2 fun z => z.elim h6 fun z => hl (e1.mpr z.2)
 · exact key2 fun z => z.elim h6 fun z => h1 z.1
theorem tnRoot (C:Cy Z.w Z.H0) (B:LEn Z.env cF) (hroom:Z.d ≤ 800) (hu:Z.u ≤ 8000) (hX:∀ p ∈ X,NT p.2) (R:LR V bare false g0 g q σ dvs pvs) (I:Inv V.t.rw bare k q) (hk:k ≤ 130) (hpn:q.path = []) (hroot:q.root = [] ∧ q.a.rs = false)
 (h:∀ g' o' pc' σ' lam' dvs' pvs' q',Inv V.t.rw bare (k + 1) q' → q'.path.length = 1 → LR V bare true g0 g' q' σ' dvs' pvs' → G Z g' (lwF V (some (.int 0 tm)) (some (.int r tr)) pc' o') (lwL Z.w V dvs' pvs' lam' σ' X) (K .next)) :
 G Z g (lwF V (some (.int 0 tm)) (some (.int r tr)) pc o) (lwL Z.w V dvs pvs lam σ ((V.rt,Lst []) :: X)) (go Z loopB K):=by
 refine tnPiece B hroom fun x t hx hxo => ?_
 refine letG ?_; intro c l N1
 refine nx ?_
 refine ld 11 B.move ?_
 refine ci ?_; intro c l N1 _
 refine eqI ?_ ?_ <;> intro c l N1 h0
 · exact mvStartA (K:=nxT [] K) C B hroom hu hX R I hk hpn hroot fun g' o' σ' lam' dvs' pvs' q' I' hp R' => h g' o' _ σ' lam' dvs' pvs' q' I' (by rw [hp,hpn]; rfl) R'
 · exact absurd rfl h0
end
noncomputable def mvsOf (fr:Int) (ns:List Int):List (Int × Int):=(0,fr.fdiv 4) :: (ns.tail.map (fun x => (x.fmod 6,x.fdiv 6)) ++ (List.replicate ns.length (1,0) ++ [(6,0)]))
theorem mvs_len (fr:Int) (ns:List Int) (hz:ns.length ≤ 63):(mvsOf fr ns).length ≤ 129:=by
 unfold mvsOf
 rw [List.length_cons,lap,lap,List.length_map,List.length_replicate,List.length_tail]
 exact Nat.succ_le_succ (ltr (Nat.add_le_add (ltr (Nat.sub_le _ _) hz) (Nat.add_le_add hz (Nat.le_refl 1))) (by decide))
noncomputable def Gd:List (Int × Int) → Nat → Prop
 | [],l => l = 0
 | e :: es,l => 1 ≤ l ∧ ∀ l',LTo e.1 l l' → Gd es l'
theorem gd_ends:∀ (m:Nat) {l:Nat},1 ≤ l → l ≤ m + 1 → Gd (List.replicate m (1,0) ++ [(6,0)]) l
 | 0,l,h1,h2 => ⟨h1,fun l' h => by
  have e:l' + 1 = l:=h
  exact Nat.le_zero.mp (Nat.le_of_succ_le_succ (ltr (Nat.le_of_eq e) h2))⟩
 | m + 1,l,h1,h2 => ⟨h1,fun l' h => by
  have h:if (1:Int) = 6 ∨ ((1:Int) = 1 ∧ 1 < l) then l' + 1 = l else l' = l:=h
  by_cases hl:1 < l
  · rw [if_pos (.inr ⟨rfl,hl⟩)] at h
    subst h
    exact gd_ends m (Nat.le_of_lt_succ hl) (Nat.le_of_succ_le_succ h2)
  · rw [if_neg (fun z => z.elim (by decide) fun z => hl z.2)] at h
    subst h
    exact gd_ends m h1 (ltr (Nat.not_lt.mp hl) (Nat.le_add_left 1 m))⟩
theorem gd_all {n:Nat}:∀ {A:List (Int × Int)} {l:Nat},(∀ e ∈ A,e.1 ≠ 6) → 1 ≤ l → l + A.length ≤ n + 1 → Gd (A ++ (List.replicate n (1,0) ++ [(6,0)])) l
 | [],_,_,h1,h2 => gd_ends n h1 h2
 | e :: A,l,hA,h1,h2 => ⟨h1,fun l' h => by
  have hA':=fun x hx => hA x (List.mem_cons_of_mem _ hx)
  have h2:l + A.length + 1 ≤ n + 1:=h2
  unfold LTo at h
  split at h
  · subst h
    exact gd_all hA' (Nat.le_add_left 1 l) (by rw [Nat.add_right_comm]; exact h2)
  · split at h
    · rename_i _ h6
      rcases h6 with h6 | ⟨_,hl⟩
      · exact absurd h6 (hA e (List.mem_cons_self ..))
      · subst h
        exact gd_all hA' (Nat.le_of_lt_succ hl) (ltr (Nat.add_le_add_right (Nat.le_succ l') _) (Nat.le_of_succ_le h2))
    · subst h
      exact gd_all hA' h1 (Nat.le_of_succ_le h2)⟩
noncomputable def MvA (g:Addr → Option Obj) (v:Value) (e:Int × Int):Prop:=∃ a t1 t2,v = .ref a ∧ g a = some (tupO [.int e.1 t1,.int e.2 t2])
noncomputable def MvR (g:Addr → Option Obj):List Value → List (Int × Int) → Prop:=F2 (MvA g)
theorem MvR.up {g g':Addr → Option Obj} (le:gLe g g') {vs:List Value} {es:List (Int × Int)} (h:MvR g vs es):MvR g' vs es:=F2.imp (fun _ _ ⟨a,t1,t2,e,h1⟩ => ⟨a,t1,t2,e,le _ _ h1⟩) h
theorem MvR.len {g:Addr → Option Obj} {vs:List Value} {es:List (Int × Int)} (h:MvR g vs es):vs.length = es.length:=F2.len h
theorem MvR.app {g:Addr → Option Obj} {vs ws:List Value} {es fs:List (Int × Int)} (h:MvR g vs es) (q:MvR g ws fs):MvR g (vs ++ ws) (es ++ fs):=F2.app h q
variable {mvs:List Value}
theorem MvR.step {g:Addr → Option Obj} {es:List (Int × Int)} {j:Nat} {v:Value} (hv:mvs[j]? = some v) (h:MvR g (mvs.drop j) es):∃ e es',es = e :: es' ∧ (∃ a t1 t2,v = .ref a ∧ g a = some (tupO [.int e.1 t1,.int e.2 t2])) ∧ MvR g (mvs.drop (j + 1)) es':=by
 obtain ⟨hj,e⟩:=List.getElem?_eq_some_iff.mp hv
 rw [List.drop_eq_getElem_cons hj,e] at h
 cases es with
 | nil => exact h.elim
 | cons e es => exact ⟨e,es,rfl,h.1,h.2⟩
inductive MvK (V:LAd) (bare:Bool) (g0:Addr → Option Obj) (mvs:List Value) (F:List (Option Value) → (Nat → Option Value) → Fr1) (M0:Ldg) (M:List Value → List Value → Option Addr → Ts → Ldg):Nat → (Addr → Option Obj) → Fr1 → Ldg → Prop
 | first {fs o}:MvK V bare g0 mvs F M0 M 0 g0 (F fs o) M0
 | next {i g' fs o dvs pvs lam σ q es} (R:LR V bare true g0 g' q σ dvs pvs) (I:Inv V.t.rw bare (i + 1) q) (hm:MvR g0 (mvs.drop (i + 1)) es) (hg:Gd es q.path.length):MvK V bare g0 mvs F M0 M (i + 1) g' (F fs o) (M dvs pvs lam σ)
noncomputable def lwFs (V:LAd) (fs:List (Option Value)) (o:Nat → Option Value):Fr1:=lwF V (fs.getD 0 none) (fs.getD 1 none) (fs.getD 2 none) o
section
variable {g:Addr → Option Obj} {l:Fr1} {N:Ldg} {rs:Option Value} {o:Nat → Option Value} {σ0:Ts} {mvA:Addr} {ns:List Int} {r:List Stmt}
noncomputable def moO (mvA:Addr) (o:Nat → Option Value):Nat → Option Value
 | 10 => some (.ref mvA)
 | i => o i
theorem lawLoop (C:Cy Z.w Z.H0) (B:LEn Z.env cF) (hroom:Z.d ≤ 800) (hu:Z.u ≤ 8000) (hX:∀ p ∈ X,NT p.2) (Gm:GL g0 mvA mvs) (hV:MvR g0 mvs (mvsOf V.fr ns)) (hz:ns.length ≤ 63) (R:LR V bare false g0 g0 ⟨a0 V.t.rw,[],[],[]⟩ σ0 [] [])
 (h:∀ g' mv rs pc o' σ lam dvs pvs q k,k ≤ 130 → k ≠ 0 → Inv V.t.rw bare k q → q.path = [] → LR V bare true g0 g' q σ dvs pvs → G Z g' (lwF V mv rs pc o') (lwL Z.w V dvs pvs lam σ X) (seqT r K)) :
 G Z g0 (lwF V mv rs pc (moO mvA o)) (lwL Z.w V [] [] none σ0 ((V.rt,Lst []) :: X)) (go Z (atB lawB 9 :: r) K):=by
 have hlen:mvs.length ≤ 129:=by rw [hV.len]; exact mvs_len _ _ hz
 refine letG ?_; intro c l N1
 refine nx ?_
 refine ld 24 B.moves ?_
 let KF:List (Option Value) → (Nat → Option Value) → Fr1:=lwFs V
 let K0:Ldg:=lwL Z.w V [] [] none σ0 ((V.rt,Lst []) :: X)
 let KM:List Value → List Value → Option Addr → Ts → Ldg:=fun dvs pvs lam σ => lwL Z.w V dvs pvs lam σ X
 let KI:Nat → (Addr → Option Obj) → Fr1 → Ldg → Prop:=MvK V bare g0 mvs KF K0 KM
 refine lpI (srcL (a:=mvA) (vs:=mvs)) (fun s S => Gm.of S) KI (fun j g' l' N' s it hK S => ?_) (.first (fs:=[mv,rs,pc])) ?_ ?_
 · cases hK with
   | first => exact Gm.of S
   | next R => exact (Gm.up R.le).of S
 · generalize hml:mvs.length = n
   intro g' l' N' hK
   cases hK with
   | first => rw [hV.len] at hml; cases hml
   | next R I hm hg =>
    rename_i i fs o' dvs pvs lam σ q es
    rw [List.drop_eq_nil_of_le (Nat.le_of_eq hml)] at hm
    cases es with
    | nil => exact h g' _ _ _ o' σ lam dvs pvs q (i + 1) (ltr (hml ▸ hlen) (by decide)) (Nat.succ_ne_zero i) I (List.length_eq_zero_iff.mp hg) R
    | cons _ _ => exact hm.elim
 · intro j v it E Q' g' l' N' hj hv hK Q
   have hX':∀ p ∈ (it,Itr mvA (j + 1)) :: X,NT p.2:=nt_cons (nt_itr _ _) hX
   cases hK with
   | first =>
    obtain ⟨e,es,e0,⟨ad,t1,t2,rfl,hg⟩,hm⟩:=MvR.step hv hV
    obtain ⟨rfl,rfl⟩:=List.cons.inj e0
    refine letG ?_; intro c l N1
    refine as2 11 12 B.move B.rest hg ?_
    refine G.perm (N1:=lwL Z.w V [] [] none σ0 ((V.rt,Lst []) :: (it,Itr mvA (0 + 1)) :: X)) ?_ ?_
    · exact ((((rt_front [_,_] (TP Z.w V.t σ0) (LamL lamP lamQ none) X (V.rt,Lst [])).cons _).trans (.swap _ _ _)).trans ((rt_front [_,_] (TP Z.w V.t σ0) (LamL lamP lamQ none) X _).symm.cons _)).trans (rt_front [_,_] (TP Z.w V.t σ0) (LamL lamP lamQ none) _ (V.rt,Lst [])).symm
    refine tnRoot (Z:=Z.sE E) (k:=0) C B hroom hu hX' R (inv0 _ _) (by decide) rfl ⟨rfl,rfl⟩ fun g' o' pc' σ' lam' dvs' pvs' q' I' hp R' => ?_
    refine G.perm (rt_front [_,_] (TP Z.w V.t σ') (LamL lamP lamQ lam') X _) (Q.go (.next (fs:=[_,_,pc']) (o:=o') R' I' hm ?_))
    rw [hp]
    refine gd_all (fun e he => ?_) (Nat.le_refl 1) (by rw [List.length_map,List.length_tail,Nat.add_comm]; exact Nat.succ_le_succ (Nat.sub_le _ _))
    obtain ⟨x,_,rfl⟩:=List.mem_map.mp he
    exact Int.ne_of_lt (fmod_hi x (n:=6) (by decide))
   | next R I hm hg0 =>
    rename_i i fs o' dvs pvs lam σ q es
    obtain ⟨e,es,rfl,⟨ad,t1,t2,rfl,hg⟩,hm'⟩:=MvR.step hv hm
    have hpn:q.path ≠ []:=fun z => by rw [z] at hg0; exact absurd hg0.1 (by decide)
    refine letG ?_; intro c l N1
    refine as2 11 12 B.move B.rest (R.le _ _ hg) ?_
    refine G.perm (N1:=lwL Z.w V dvs pvs lam σ ((it,Itr mvA (i + 1 + 1)) :: X)) (rt_front [_,_] (TP Z.w V.t σ) (LamL lamP lamQ lam) X _).symm ?_
    refine tnAny (Z:=Z.sE E) C B hroom hu hX' R I (ltr (Nat.le_of_lt hj) (ltr hlen (by decide))) hpn fun g' o' pc' σ' lam' dvs' pvs' q' I' hp R' => ?_
    exact G.perm (rt_front [_,_] (TP Z.w V.t σ') (LamL lamP lamQ lam') X _) (Q.go (.next (fs:=[_,_,pc']) (o:=o') R' I' hm' (hg0.2 _ hp)))
end
noncomputable def slK (Z:Zc) (k:Value → Tr) (o i j:Value):PP:=fun s => ∃ l items,o = .ref l ∧ s.heap.IsList l items ∧ wz Z (getItem o (.ref s.heap.objs.size)) (fun v => den Z (k v)) { s with heap:=s.heap.push { cls:=.type "slice",data:=.fields #[i,j,.none] } }
noncomputable def rsSlL (Z:Zc) (c:Tr):Tr:=evT Z.env 20 (sbV (exC c)) fun o => partT (evT Z.env 20) (slA (sbS (exC c))) fun i => partT (evT Z.env 20) (slB (sbS (exC c))) fun j => .fin (slK Z (rsV c) o i j)
noncomputable def swK (Z:Zc) (xs:List Str) (k:Tr) (v:Value):PP:=fun s => wz Z (unpackItems v xs.length none) (fun items s2 => wz Z (assignInOrder (xs.reverse.map fun n => bindName Z.env n) items.reverse) (fun ι => den Z k) s2) s
noncomputable def rsTuS (Z:Zc) (xs:List Str) (c:Tr):Tr:=evT Z.env 20 (cE c) fun v => .fin (swK Z xs (rsF c .next) v)
section
variable {g:Addr → Option Obj} {l:Fr1} {N:Ldg}
theorem slLX (h:G Z g l N (rsSlL Z c)) (hc:autoParam (HdEx () c) aR) (he:autoParam (isSl (exC c)) aR) (ht:∀ o r,letTemporaryGo (sbV (exC c)) o r = pure ():=by intro _ _; rfl):G Z g l N c:=Hr.mk fun s S => den_at hc.e (by
 have h:=h.run s S
 unfold rsSlL at h
 have he:exC c = .Subscript (sbV (exC c)) (.Slice (slA (sbS (exC c))) (slB (sbS (exC c))) none (sbP (sbS (exC c)))) (sbP (exC c)):=he
 show wpAny _ _ (eval (exC c) Z.env) _ _ _
 rw [he]
 generalize sbV (exC c) = v at *
 generalize slA (sbS (exC c)) = a at *
 generalize slB (sbS (exC c)) = b at *
 have h:den Z (evT Z.env 20 v fun o => partT (evT Z.env 20) a fun i => partT (evT Z.env 20) b fun j => .fin (slK Z (rsV c) o i j)) s:=h
 refine wpAny_Subscript_Slice (T:="list") slot_list_getitem.lookup (thn (evT_ok 20 h) fun o s1 z => wpAny_Slice (thn (partT_ok z) fun i s2 z => thn (partT_ok z) fun j s3 z => evalPart_none_step ?_)) ht
 obtain ⟨l,items,rfl,hl,z⟩:=z
 exact ⟨(hl.push { cls:=.type "slice",data:=.fields #[i,j,.none] }).typeIs,z⟩)
section
variable {a:Addr} {vs:List Value} {b:Nat} {tb:Tok} {k:Value → Tr}
theorem lsTo (hl:∀ s,St Z.H0 g ((Z.env.locals,Frm l) :: N) s → s.heap.IsList a vs.toArray) (hz:vs.length ≤ 100000) (h:let k':=k; let l':=l; let N':=N; ∀ D,G Z g l' ((D,Lst (vs.take b)) :: N') (k' (.ref D)))
 (hc:autoParam (HdFin (slK Z k (.ref a) .none (.int (b:Nat) tb)) c) aR):G Z g l N c:=Hr.mk fun s S => den_at hc.e (by
 have hl2:=(hl s S).push { cls:=.type "slice",data:=.fields #[.none,.int ((b:Nat):Int) tb,.none] }
 refine ⟨a,vs.toArray,rfl,hl s S,wpAny_getItem_list_slice hl2 (.new _ _ _ _) .none (.int _ _) .none (by decide) ?_ (szl (ltr hz (by decide)))⟩
 rw [slicePick_upto']
 exact (h _).run _ (St.newIn (s:={ s with heap:=s.heap.push { cls:=.type "slice",data:=.fields #[.none,.int ((b:Nat):Int) tb,.none] } }) (P:=Lst (vs.take b)) (S.pushed _) rfl ⟨0,rfl⟩))
theorem lsFrom (hl:∀ s,St Z.H0 g ((Z.env.locals,Frm l) :: N) s → s.heap.IsList a vs.toArray) (hz:vs.length ≤ 100000) (h:let k':=k; let l':=l; let N':=N; ∀ D,G Z g l' ((D,Lst (vs.drop b)) :: N') (k' (.ref D)))
 (hc:autoParam (HdFin (slK Z k (.ref a) (.int (b:Nat) tb) .none) c) aR):G Z g l N c:=Hr.mk fun s S => den_at hc.e (by
 have hl2:=(hl s S).push { cls:=.type "slice",data:=.fields #[.int ((b:Nat):Int) tb,.none,.none] }
 refine ⟨a,vs.toArray,rfl,hl s S,wpAny_getItem_list_slice hl2 (.new _ _ _ _) (.int _ _) .none .none (by decide) ?_ (szl (ltr hz (by decide)))⟩
 rw [slicePick_from']
 exact (h _).run _ (St.newIn (s:={ s with heap:=s.heap.push { cls:=.type "slice",data:=.fields #[.int ((b:Nat):Int) tb,.none,.none] } }) (P:=Lst (vs.drop b)) (S.pushed _) rfl ⟨0,rfl⟩))
end
theorem tuSw {x y:Str} {elts:List Expr} {n:Nat} {tp:Pos} (h:G Z g l N (rsTuS Z [x,y] c)) (hw:swappedStores (tgC c) (cE c) Z.env = pure (some [x,y])) (hc:autoParam (HdSm (.Assign (tgC c) (cE c) (cP c)) c) aR) (ht:autoParam (tgC c = [.Tuple elts n tp]) aR)
 (hs:autoParam (swapsWithSole (tgC c) (cE c) (cP c).line Z.env = pure false) aR):G Z g l N c:=Hr.mk fun s S => den_at hc.e (by
 have h:=h.run s S
 unfold rsTuS at h
 rw [ht] at hs hw ⊢
 generalize cE c = e at *
 have h:den Z (evT Z.env 20 e fun v => .fin (swK Z [x,y] (rsF c .next) v)) s:=h
 exact Assign_Tuple_swapped (names:=[x,y]) (thn (evT_ok 20 h) fun v s1 z => z) hs hw)
theorem swF {x y:Str} {a:Addr} {va vb:Value} {k:Tr} (i j:Nat) (hx:Lo Z.env x) (hy:Lo Z.env y) (hg:g a = some (tupO [va,vb])) (h:G Z g (setF va i (setF vb j l)) N k)
 (hc:autoParam (HdFin (swK Z [x,y] k (.ref a)) c) aR) (h1:autoParam (KeyAt x i l) aR) (h2:autoParam (KeyAt y j l) aR):G Z g l N c:=Hr.mk fun s S => den_at hc.e (by
 obtain ⟨m,S1,hn,hm⟩:=S.frm
 refine wpAny_le (wpAny_unpackItems_tuple (items:=[va,vb].toArray) rfl (tupAt S1 hg) fun h' he hle => ?_)
 show wz Z (assignInOrder [bindName Z.env y,bindName Z.env x] [vb,va]) _ _
 refine wpAny_assignInOrder_more (bindName_ (stE (S1.extNew he hle.2) (fun s2 S2 => ?_) rfl Z.kf hy.k))
 refine wpAny_assignInOrder_more (bindName_ (stE S2 (fun s3 S3 => ?_) rfl Z.kf hx.k))
 exact assignInOrder_nil (h.run s3 (S3.toFr _ (by rw [setF_keys,setF_keys]; exact hn) (frUp (by rw [setF_keys]; exact hn) (frUp hn hm h2) (keyF h1)))))
theorem swp2 {x y:Str} {tp vp q1 q2:Pos} {e1 e2:List Expr} (hx:Lo Z.env x) (hy:Lo Z.env y) (hl:autoParam ((p2.line == p1.line) = true) aQ) (hne:([x,y].eraseDups.length != 2) = false:=by decide +kernel):swappedStores [.Tuple [.Name x p1,.Name y p2] k1 tp] (.Tuple [.List e1 q1,.List e2 q2] k2 vp) Z.env = pure (some [x,y]):=by
 have hb:Z.env.blockKind = .function:=by unfold Env.blockKind; rw [Z.kf]; rfl
 have hpp:(p1.line == p1.line) = true:=beq_self_eq_true _
 have hpos:(Expr.Name x p1).pos = p1:=rfl
 unfold swappedStores
 dsimp only
 rw [hb]
 refine (if_neg Bool.false_ne_true).trans ?_
 refine (if_neg Bool.false_ne_true).trans ?_
 simp only [List.head?_cons,Option.map_some,Option.getD_some,hpos,List.filterMap_cons,List.filterMap_nil,hx.k,hy.k,hl,hpp]
 refine (if_neg ?_).trans ?_
 · show ¬ ((false || ([x,y].eraseDups.length != 2)) = true)
   rw [hne]; exact Bool.false_ne_true
 refine (if_neg Bool.false_ne_true).trans ?_
 refine (if_neg Bool.false_ne_true).trans ?_
 rfl
theorem swp0 {x y:Str} {tp vp q1 q2:Pos} {e1 e2:Const} {n1 n2:Nat} (hx:Lo Z.env x) (hy:Lo Z.env y) (hl:autoParam ((p2.line == p1.line) = true) aQ) (hne:([x,y].eraseDups.length != 2) = false:=by decide +kernel):swappedStores [.Tuple [.Name x p1,.Name y p2] k1 tp] (.Tuple [.Constant e1 n1 q1,.Constant e2 n2 q2] k2 vp) Z.env = pure none:=by
 have hb:Z.env.blockKind = .function:=by unfold Env.blockKind; rw [Z.kf]; rfl
 have hpp:(p1.line == p1.line) = true:=beq_self_eq_true _
 have hpos:(Expr.Name x p1).pos = p1:=rfl
 unfold swappedStores
 dsimp only
 rw [hb]
 refine (if_neg Bool.false_ne_true).trans ?_
 refine (if_neg Bool.false_ne_true).trans ?_
 simp only [List.head?_cons,Option.map_some,Option.getD_some,hpos,List.filterMap_cons,List.filterMap_nil,hx.k,hy.k,hl,hpp]
 refine (if_neg ?_).trans ?_
 · show ¬ ((false || ([x,y].eraseDups.length != 2)) = true)
   rw [hne]; exact Bool.false_ne_true
 exact if_pos rfl
theorem smI {a:Addr} {vs:List Value} {ns:List Int} (i:Nat) (hi:IntsAre vs ns) (h:let c':=c; let l':=l; let N':=N; ∀ n t,G Z g l' N' (rsV c' (.int n t)))
 (hk:autoParam (At (a,Lst vs) i N) aR) (hc:autoParam (HdV (call (.builtin "sum") [.ref a]) c) aR):G Z g l N c:=Hr.mk fun s S => outV hc (by
 have hl:=S.list (At.pk (i:=i + 1) hk)
 obtain ⟨xs,e⟩:=(hi.allInts).items
 rw [e] at hl
 exact wpAny_le (sum_intListG rfl hl fun h' tk t' hk hle => (h _ _).run _ (S.grow hk hle.2)))
end
noncomputable def lwI (f:Nat → Option Value):Fr1:=[(Str.ofString "xml",f 0),(Str.ofString "first",f 1),(Str.ofString "own",f 2),(Str.ofString "prefixes",f 3),(Str.ofString "tags",f 4),(Str.ofString "keys",f 5),(Str.ofString "out",f 6),(Str.ofString "due",f 7),(Str.ofString "path",f 8),(Str.ofString "root",f 9),(Str.ofString "target",f 10),
 (Str.ofString "move",none),("rest",none),("piece",none),("uris",none),("tag",none),("attrs",none),("k",none),("seed",none),("name",none),("scope",none),(Str.ofString "script",f 11),(Str.ofString "xs",f 12),(Str.ofString "bare",f 13),("moves",none),("joined",none),("kind",none),("what",none),("events",none),("marks",none)]
noncomputable def lf0 (sc:Addr):Nat → Option Value
 | 11 => some (.ref sc)
 | _ => none
noncomputable def lf1 (sc:Addr) (tx ty:Tok) (fr:Int) (tf:Tok):Nat → Option Value
 | 0 => some (sv (uriS .xml) tx)
 | 1 => some (.int fr tf)
 | 12 => some (sv (uriS .xs) ty)
 | 13 => some (.bool (decide ((fr.fdiv 2).fmod 2 = 1)))
 | i => lf0 sc i
noncomputable def lf2 (sc:Addr) (tx ty:Tok) (fr:Int) (tf:Tok) (ow pf tg ky:Addr):Nat → Option Value
 | 2 => some (.ref ow)
 | 3 => some (.ref pf)
 | 4 => some (.ref tg)
 | 5 => some (.ref ky)
 | i => lf1 sc tx ty fr tf i
noncomputable def lf3 (sc:Addr) (tx ty:Tok) (fr:Int) (tf:Tok) (ow pf tg ky ou du pt rt:Addr):Nat → Option Value
 | 6 => some (.ref ou)
 | 7 => some (.ref du)
 | 8 => some (.ref pt)
 | 9 => some (.ref rt)
 | i => lf2 sc tx ty fr tf ow pf tg ky i
noncomputable def GI (g:Addr → Option Obj) (a:Addr) (vs:List Value):Prop:=∃ o,g a = some o ∧ o.cls = .type "list" ∧ ∃ n,o.data = .seq vs.toArray n
theorem GI.up {g g':Addr → Option Obj} (le:gLe g g') {a:Addr} {vs:List Value} (h:GI g a vs):GI g' a vs:=let ⟨o,h1,h2⟩:=h; ⟨o,le _ _ h1,h2⟩
theorem GI.of {g:Addr → Option Obj} {N:Ldg} {s:Shared} {a:Addr} {vs:List Value} (G:GI g a vs) (S:St H0 g N s):s.heap.IsList a vs.toArray:=let ⟨o,h1,h2⟩:=G; ⟨o,S.keep _ _ h1,h2⟩
variable {ky ow pf tg:Addr} {tf ty:Tok}
section
variable {g:Addr → Option Obj} {l:Fr1} {N:Ldg} {sc:Addr} {vs:List Value} {ns:List Int} {tx:Tok} {fr:Int}
theorem law0 (B:LEn Z.env cF) (Gs:GI g sc vs) (hi:IntsAre vs ns) (hz:ns.length ≤ 63)
 (h:∀ g' tx ty fr tf,gLe g g' → G Z g' (lwI (lf1 sc tx ty fr tf)) N (go Z (lawB.drop 3) K)) :
 G Z g (lwI (lf0 sc)) N (go Z lawB K):=by
 have hvl:vs.length ≤ 63:=by rw [hi.length]; exact hz
 refine letG ?_; intro c l N1
 refine nx ?_
 refine tuA ?_ (hw:=swp0 B.xml B.xs)
 refine csM (uriS .xml) ?_; intro c l N1 tx
 refine csM (uriS .xs) ?_; intro c l N1 ty
 refine nwT ?_; intro c l N1 g1 r1 le1 ho
 refine as2 0 22 B.xml B.xs ho ?_
 refine nx ?_
 refine bl (v:=.builtin "sum") B.sum (by k_is) boot_sum (by decide) ?_
 refine slLX ?_
 refine ld 21 B.script ?_
 refine ci ?_; intro c l N1 _
 refine lsTo (b:=1) (fun s S => (Gs.up le1).of S) (ltr hvl (by decide)) ?_; intro k l N1 D
 refine smI 0 (hi.take 1) ?_; intro c l N1 fr tf
 refine G.drop ?_
 refine st 1 B.first ?_
 refine nx ?_
 refine ld 1 B.first ?_
 refine ci ?_; intro c l N1 _
 refine fdI ?_; intro c l N1 _
 refine ci ?_; intro c l N1 _
 refine mdI ?_; intro c l N1 _
 refine ci ?_; intro c l N1 _
 refine eqV ?_
 refine st 23 B.bare ?_
 exact h g1 tx ty fr tf le1
theorem GL.fz {a:Addr} (h:∀ g',gLe g g' → GL g' a vs → G Z g' l N c):G Z g l ((a,Lst vs) :: N) c:=G.fz h
theorem brC {b:Bool} (x y:T) {X Y:Str} (h:let c':=c; let l':=l; let N':=N; ∀ t,G Z g l' N' (rsV (rsB c' true) (sv (bif b then x else y) t)))
 (hb:autoParam (HdB (truthy (.bool b)) c) aR) (h1:autoParam (HdS X (rsB c true)) aR) (h2:autoParam (HdS Y (rsB c false)) aR) (e:autoParam (rsV (rsB c false) = rsV (rsB c true)) aR) (hX:X = mk x:=by decide +kernel) (hY:Y = mk y:=by decide +kernel):G Z g l N c:=by
 subst hX hY
 refine tb ?_ (hc:=hb)
 cases b with
 | true => exact cs h (hc:=h1)
 | false => exact cs (fun t => by rw [e]; exact h t) (hc:=h2)
theorem law1 (B:LEn Z.env cF)
 (h:∀ g' ow pf,gLe g g' → GT g' ow [uriS .u,uriS .v,uriS .w] → (∃ a0 a1 a2,GL g' pf [.ref a0,.ref a1,.ref a2] ∧ GT g' a0 [pfxS .p,pfxS .q] ∧ GT g' a1 [pfxS .b,pfxS .c] ∧ GT g' a2 [pfxS (if (decide ((fr.fdiv 2).fmod 2 = 1)) then .e else .em),pfxS .d]) →
  G Z g' (lwI fun | 2 => some (.ref ow) | 3 => some (.ref pf) | i => lf1 sc tx ty fr tf i) N (go Z (lawB.drop 4) K)) :
 G Z g (lwI (lf1 sc tx ty fr tf)) N (go Z (lawB.drop 3) K):=by
 refine letG ?_; intro c l N1
 refine nx ?_
 refine tuSw (x:=Str.ofString "own") (y:=Str.ofString "prefixes") ?_ (swp2 B.own B.prefixes)
 refine csM (uriS .u) ?_; intro c l N1 ta
 refine csM (uriS .v) ?_; intro c l N1 tb
 refine csM (uriS .w) ?_; intro c l N1 tc
 refine nwL ?_; intro c l N1 ow
 refine GL.fz fun g1 le1 G1 => ?_
 refine csM (pfxS .p) ?_; intro c l N1 td
 refine csM (pfxS .q) ?_; intro c l N1 te
 refine nwL ?_; intro c l N1 a0
 refine GL.fz fun g2 le2 G2 => ?_
 refine csM (pfxS .b) ?_; intro c l N1 tf'
 refine csM (pfxS .c) ?_; intro c l N1 tg
 refine nwL ?_; intro c l N1 a1
 refine GL.fz fun g3 le3 G3 => ?_
 refine ld 23 B.bare ?_
 refine brC (pfxS .e) (pfxS .em) ?_; intro c l N1 th
 refine csM (pfxS .d) ?_; intro c l N1 ti
 refine nwL ?_; intro c l N1 a2
 refine GL.fz fun g4 le4 G4 => ?_
 refine nwL ?_; intro c l N1 pf
 refine GL.fz fun g5 le5 G5 => ?_
 refine nwT ?_; intro c l N1 g6 r6 le6 ho
 have eb:(bif (decide ((fr.fdiv 2).fmod 2 = 1)) then pfxS .e else pfxS .em) = pfxS (if (decide ((fr.fdiv 2).fmod 2 = 1)) then .e else .em):=by cases decide ((fr.fdiv 2).fmod 2 = 1) <;> rfl
 rw [eb] at G4
 have l46:=le5.tr le6
 have l36:=le4.tr l46
 have l26:=le3.tr l36
 refine swF 2 3 B.own B.prefixes ho ?_
 exact h g6 ow pf (le1.tr (le2.tr l26)) ⟨_,G1.up (le2.tr l26),⟨_,rfl⟩,⟨_,rfl⟩,⟨_,rfl⟩,trivial⟩ ⟨a0,a1,a2,G5.up le6,⟨_,G2.up l26,⟨_,rfl⟩,⟨_,rfl⟩,trivial⟩,⟨_,G3.up l36,⟨_,rfl⟩,⟨_,rfl⟩,trivial⟩,⟨_,G4.up l46,⟨_,rfl⟩,⟨_,rfl⟩,trivial⟩⟩
theorem law2 (B:LEn Z.env cF)
 (h:∀ g' tg ky,gLe g g' → GT g' tg ((tagU (decide ((fr.fdiv 2).fmod 2 = 1))).map uriS) → GT g' ky ((keyU (decide ((fr.fdiv 2).fmod 2 = 1))).map uriS) → G Z g' (lwI (lf2 sc tx ty fr tf ow pf tg ky)) N (go Z (lawB.drop 5) K)) :
 G Z g (lwI fun | 2 => some (.ref ow) | 3 => some (.ref pf) | i => lf1 sc tx ty fr tf i) N (go Z (lawB.drop 4) K):=by
 refine letG ?_; intro c l N1
 refine nx ?_
 refine tuSw (x:=Str.ofString "tags") (y:=Str.ofString "keys") ?_ (swp2 B.tags B.keys)
 refine ld 0 B.xml ?_
 refine ld 22 B.xs ?_
 refine csM (uriS .u) ?_; intro c l N1 ta
 refine csM (uriS .v) ?_; intro c l N1 tb
 refine csM (uriS .w) ?_; intro c l N1 tc
 refine ld 23 B.bare ?_
 refine brC (uriS .no) (uriS .u) ?_; intro c l N1 th
 refine nwL ?_; intro c l N1 tg
 refine GL.fz fun g1 le1 G1 => ?_
 refine csM (uriS .no) ?_; intro c l N1 td
 refine ld 0 B.xml ?_
 refine ld 22 B.xs ?_
 refine csM (uriS .u) ?_; intro c l N1 ta
 refine csM (uriS .v) ?_; intro c l N1 tb
 refine ld 23 B.bare ?_
 refine brC (uriS .w) (uriS .no) ?_; intro c l N1 ti
 refine nwL ?_; intro c l N1 ky
 refine GL.fz fun g2 le2 G2 => ?_
 refine nwT ?_; intro c l N1 g3 r3 le3 ho
 refine swF 4 5 B.tags B.keys ho ?_
 have e1:(bif (decide ((fr.fdiv 2).fmod 2 = 1)) then uriS .no else uriS .u) = uriS (if (decide ((fr.fdiv 2).fmod 2 = 1)) then .no else .u):=by cases decide ((fr.fdiv 2).fmod 2 = 1) <;> rfl
 have e2:(bif (decide ((fr.fdiv 2).fmod 2 = 1)) then uriS .w else uriS .no) = uriS (if (decide ((fr.fdiv 2).fmod 2 = 1)) then .w else .no):=by cases decide ((fr.fdiv 2).fmod 2 = 1) <;> rfl
 rw [e1] at G1
 rw [e2] at G2
 exact h g3 tg ky (le1.tr (le2.tr le3)) ⟨_,G1.up (le2.tr le3),⟨_,rfl⟩,⟨_,rfl⟩,⟨_,rfl⟩,⟨_,rfl⟩,⟨_,rfl⟩,⟨_,rfl⟩,trivial⟩ ⟨_,G2.up le3,⟨_,rfl⟩,⟨_,rfl⟩,⟨_,rfl⟩,⟨_,rfl⟩,⟨_,rfl⟩,⟨_,rfl⟩,trivial⟩
theorem law3 (B:LEn Z.env cF)
 (h:∀ g' ou du pt rt,gLe g g' → G Z g' (lwI (lf3 sc tx ty fr tf ow pf tg ky ou du pt rt)) ((rt,Lst []) :: (pt,Lst []) :: (du,Lst []) :: (ou,Lst []) :: N) (go Z (lawB.drop 6) K)) :
 G Z g (lwI (lf2 sc tx ty fr tf ow pf tg ky)) N (go Z (lawB.drop 5) K):=by
 refine letG ?_; intro c l N1
 refine nx ?_
 refine tuA ?_
 refine nwL ?_; intro c l N1 ou
 refine nwL ?_; intro c l N1 du
 refine nwL ?_; intro c l N1 pt
 refine nwL ?_; intro c l N1 rt
 refine nwT ?_; intro c l N1 g1 r1 le1 ho
 refine asU ho ?_
 refine st 6 B.out ?_
 refine st 7 B.due ?_
 refine st 8 B.path ?_
 refine st 9 B.root ?_
 exact h g1 ou du pt rt le1
end
theorem md_get:typeLookup (.type "method_descriptor") "__get__" = pure (some (.builtin "method_descriptor.__get__")):=by rw [typeLookup_type,builtinLookup_eq_fast]; kernel_rfl
theorem md_set:typeLookup (.type "method_descriptor") "__set__" = pure none:=by rw [typeLookup_type,builtinLookup_eq_fast]; kernel_rfl
theorem md_del:typeLookup (.type "method_descriptor") "__delete__" = pure none:=by rw [typeLookup_type,builtinLookup_eq_fast]; kernel_rfl
theorem slot_md_get:Slot "method_descriptor" "__get__" "method_descriptor.__get__":=
 .of (owner:="method_descriptor") (n:="__get__") md_get (by decide +kernel) (by decide +kernel) (by decide +kernel)
  (by first | exact .inl (by decide +kernel) | exact .inr (by decide +kernel)) (by rw [isSubtype_type]; kernel_rfl)
theorem entry_md_get:entryFor table "method_descriptor.__get__" = some Builtin.«method_descriptor.__get__»:=entryFor_of_tree (by kernel_rfl)
theorem args_md_get (a b c:Value):argsOk "method_descriptor.__get__" ⟨[a,b,c],[]⟩:=by unfold argsOk; kernel_rfl
theorem own_app:".".intercalate ("list.append".cutAt '.').dropLast = "list":=by decide +kernel
theorem sub_app:isSubtype (.type "list") (.type (".".intercalate ("list.append".cutAt '.').dropLast)) = pure true:=by rw [own_app,isSubtype_type]; kernel_rfl
theorem meets_ga_app (a:Addr) (xs:Array Value) (k:Nat) (u:Tok) :
 Meets (Builtin.«object.__getattribute__» ⟨[.ref a,.str "append" u],[]⟩) (fun A R s => s.heap.get? a = some { cls:=.type "list",dict:=none,data:=.seq xs k,slots:=#[] } ∧ R (.ok (.ret (.ref s.heap.objs.size))) { s with heap:=s.heap.push { cls:=.type "builtin_function_or_method",data:=.fields #[.builtin "list.append",.ref a] } }):=
 Meets.of_wp fun prog w A R s hs => by
  obtain ⟨hp,g,d,tk,os⟩:=s
  obtain ⟨hx,hs⟩:=hs
  have hT:(⟨hp,g,d,tk,os⟩:Shared).TypeIs (.ref a) "list":=⟨_,hx,rfl⟩
  have f1:=PySem.F.slot_list_append.lookup
  have f2:=PySem.F.type_list_append
  have f3:=md_get
  have f4:=md_set
  have f5:=md_del
  unfold Builtin.«object.__getattribute__»
  repeat (any_goals (first | assumption | wp_step))
  refine codeAny_call_builtin slot_md_get.plain entry_md_get ?_
  refine slot_md_get.check _ _ _ _ _ _ _ _ (show (⟨hp,g,d,tk,os⟩:Shared).TypeIs (.builtin "list.append") "method_descriptor" from PySem.F.type_list_append) (args_md_get _ _ _) ?_
  have f6:=sub_app
  unfold Builtin.«method_descriptor.__get__»
  repeat (any_goals (first | assumption | wp_step))
  exact ⟨_,rfl,hs⟩
theorem gaApp {s:Shared} {a:Addr} {xs:Array Value} {k:Nat}
 (hx:s.heap.get? a = some { cls:=.type "list",dict:=none,data:=.seq xs k,slots:=#[] })
 (h:Q (.ref s.heap.objs.size) { s with heap:=s.heap.push { cls:=.type "builtin_function_or_method",data:=.fields #[.builtin "list.append",.ref a] },toks:=s.toks + 1 }) :
 wpAny (model prog w) A (getAttr (.ref a) "append" true) Q E s:=by
 obtain ⟨hp,g,d,tk,os⟩:=s
 have hT:∀ tk',(⟨hp,g,d,tk',os⟩:Shared).TypeIs (.ref a) "list":=fun ι => ⟨_,hx,rfl⟩
 have f3:=F.slot_list_getattribute.lookup
 have f4:=F.slot_list_getattribute.bind (.ref a)
 have f5:=am_list_getattr_none
 unfold getAttr getAttrBy
 repeat (any_goals (first | assumption | exact hT _ | ((with_reducible show wpAny _ _ (call (Value.builtin "list.__getattribute__") _ _) _ _ _); refine call_meets F.slot_list_getattribute (hT _) am_entry_list_getattribute (F.args_list_getattribute_2 _ _) (meets_ga_app a xs k _) ⟨hx,?_⟩) | wp_step))
 exact wpAny_pure h
noncomputable def tL (t:Tg):List (Str × Tok × Value):=
 [("_write",t.tk 0,.ref t.wr),("_data",t.tk 1,.ref t.da),("_with_comments",t.tk 2,.bool true),("_strip_text",t.tk 3,.bool false),("_exclude_attrs",t.tk 4,.none),("_exclude_tags",t.tk 5,.none),("_rewrite_prefixes",t.tk 6,.bool t.rw),("_qname_aware_tags",t.tk 7,.none),("_find_qname_aware_attrs",t.tk 8,.none),("_declared_ns_stack",t.tk 9,.ref t.ds),("_ns_stack",t.tk 10,.ref t.ns),("_prefix_map",t.tk 11,.ref t.pm),("_preserve_space",t.tk 12,.ref t.ps),("_pending_start",t.tk 13,.none),("_root_seen",t.tk 14,.bool false),("_root_done",t.tk 15,.bool false),("_ignored_depth",t.tk 16,.int 0 (t.tk 18))]
noncomputable def Tg.wt (t:Tg) (k:Tok):Tg:={ t with tk:=fun i => if i = 17 then k else t.tk i }
theorem makeT {u:Nat} {g:Addr → Option Obj} {N:Ldg} {wr:Addr} {Q E:Value → PP} (C:Cx w H0) (hroom:d ≤ 800) (hw:g wr = some (wrO out))
 (h:∀ g' (t:Tg) (decl nss:List (Addr × List Value)),gLe g g' → H0.heap.objs.size ≤ t.pm → t.out = out → t.rw = rw → g' t.x = some (instObj 143 t.dx) → g' t.wr = some (wrO out) → PrsL g' decl [[(.xml,.xml)]] → PrsL g' nss (nss0 rw) →
  Hr H0 g' ((t.ps,Lst [.bool false]) :: (t.pm,Dct w []) :: (t.ns,Lst (rfs nss)) :: (t.ds,Lst (rfs decl)) :: (t.dx,Is (DOb w.params (tL t))) :: (decl.map lvP ++ (nss.map lvP ++ ((t.da,Lst []) :: N)))) (Q (.ref t.x))) :
 Hr H0 g N (wpAny (model PG w) (ar d u) (call (.ref 143) [.ref wr] [(Str.ofString "with_comments",.bool true),(Str.ofString "rewrite_prefixes",.bool rw)]) Q E):=Hr.mk fun s S => by
 have X':=C.at S
 obtain ⟨hp,gg,dd,tt,oo⟩:=s
 have S1:Stc H0 g ((hp.objs.size,Is (DOb w.params [])) :: N) (hp.push emptyDict) gg oo:=S.new (o:=emptyDict) rfl rfl
 refine St.newG (s:=⟨hp.push emptyDict,gg,dd,tt,oo⟩) S1 (o:=instObj 143 hp.objs.size) rfl fun g2 le2 S2 hx => ?_
 have hx:g2 (hp.objs.size + 1) = some (instObj 143 hp.objs.size):=by rw [← hx]; show _ = g2 (hp.push emptyDict).objs.size; rw [Heap.size_push]
 refine wpAny_call ?_
 refine make_core (makes_of (C:=143) X' (by k_is)) (looks_findIn (r:=some (.ref 60)) X' (by k_is)) (fun self => bind_fn X' self (by k_is)) (.inl rfl) ?_
 refine codeAny_wider (B:=ar (d + 1) (u + 1)) (wid rfl (Nat.le_of_eq ?e1) (Nat.le_of_eq ?e2)) ?_
 case e1 => show d + Code.weight _ = d + 1; exact congrArg (d + ·) (by kernel_rfl)
 case e2 => show u + Code.cUnits _ = u + 1; exact congrArg (u + ·) (by kernel_rfl)
 refine (f_init (wr:=wr) (out:=out) (x:=hp.objs.size + 1) (dx:=hp.objs.size) C hx (ltr (Nat.succ_le_succ hroom) (by decide)) fun g' da ds ns pm ps tk decl nss le hpm hd hn => Hr.mk fun s' S' => ?_).run _ S2
 exact ⟨rfl,(h g' ⟨hp.objs.size + 1,hp.objs.size,wr,da,ds,ns,pm,ps,out,rw,tk⟩ decl nss (le2.tr le) hpm rfl rfl (le _ _ hx) (le _ _ (le2 _ _ hw)) hd hn).run s' S'⟩
theorem CallK_ {s:Shared} {E:Value → PP} {func:Expr} {args:List Expr} {kws:List Keyword}
 (h:wpAny M A (eval func env) (fun f s₁ => wpAny M A (callWith pos f [] (backTo pos (starEach args env)) (backToKw pos (keywordEach kws env))) Q E s₁) E s)
 (he:autoParam (eval (.Call func args kws pos) env = (do callWith pos (← eval func env) [] (backTo pos (starEach args env)) (backToKw pos (keywordEach kws env)))) aQ) :
 wpAny M A (eval (.Call func args kws pos) env) Q E s:=by
 rw [he]; exact wpAny_bind h
theorem fr_front (A D E N:List α) (d f:α):(A ++ (D ++ (E ++ (d :: f :: N)))).Perm (f :: (A ++ (D ++ (E ++ (d :: N))))):=
 ((((List.Perm.swap f d N).append_left E).append_left D).append_left A).trans (rt_front A D E (d :: N) f)
theorem permT {A R T S:List α} (D E:List α) (h:(A ++ R).Perm (T ++ S)):(A ++ (D ++ (E ++ R))).Perm (T ++ ((D ++ E) ++ S)):=by
 rw [List.append_assoc]
 exact (((perm_mid A D _).trans ((perm_mid A E R).append_left D)).trans ((h.append_left E).append_left D)).trans ((perm_mid T D _).trans ((perm_mid T E S).append_left D)).symm
noncomputable def lf4 (sc:Addr) (tx ty:Tok) (fr:Int) (tf:Tok) (ow pf tg ky ou du pt rt:Addr) (t:Tg):Nat → Option Value
 | 10 => some (.ref t.x)
 | i => lf3 sc tx ty fr tf ow pf tg ky ou du pt rt i
variable {du ou pt:Addr}
section
variable {g:Addr → Option Obj} {l:Fr1} {N:Ldg} {sc:Addr} {tx:Tok} {fr:Int} {rt:Addr}
theorem exV (h:∀ s,St Z.H0 g ((Z.env.locals,Frm l) :: N) s → wz Z (eval (exC c) Z.env) (fun v => den Z (rsV c v)) s) (hc:autoParam (HdEx () c) aR):G Z g l N c:=Hr.mk fun s S => den_at hc.e (h s S)
theorem law6 (B:LEn Z.env cF) (hroom:Z.d ≤ 800)
 (h:∀ g' (t:Tg) (decl nss:List (Addr × List Value)),gLe g g' → Z.H0.heap.objs.size ≤ t.pm → t.out = ou → t.rw = decide (fr.fmod 2 = 1) → g' t.x = some (instObj 143 t.dx) → g' t.wr = some (wrO ou) → PrsL g' decl [[(.xml,.xml)]] → PrsL g' nss (nss0 t.rw) →
  G Z g' (lwI (lf4 sc tx ty fr tf ow pf tg ky ou du pt rt t)) ((t.ps,Lst [.bool false]) :: (t.pm,Dct Z.w []) :: (t.ns,Lst (rfs nss)) :: (t.ds,Lst (rfs decl)) :: (t.dx,Is (DOb Z.w.params (tL t))) :: (decl.map lvP ++ (nss.map lvP ++ ((t.da,Lst []) :: (rt,Lst []) :: (pt,Lst []) :: (du,Lst []) :: (ou,Lst []) :: N)))) (go Z (lawB.drop 7) K)) :
 G Z g (lwI (lf3 sc tx ty fr tf ow pf tg ky ou du pt rt)) ((rt,Lst []) :: (pt,Lst []) :: (du,Lst []) :: (ou,Lst []) :: N) (go Z (lawB.drop 6) K):=by
 refine letG ?_; intro c l N1
 refine nx ?_
 refine letG ?_; intro c l N1
 have hm:∀ g' (t:Tg) (decl nss:List (Addr × List Value)),gLe g g' → Z.H0.heap.objs.size ≤ t.pm → t.out = ou → t.rw = decide (fr.fmod 2 = 1) → g' t.x = some (instObj 143 t.dx) → g' t.wr = some (wrO ou) → PrsL g' decl [[(.xml,.xml)]] → PrsL g' nss (nss0 (decide (fr.fmod 2 = 1))) →
  Hr Z.H0 g' ((t.ps,Lst [.bool false]) :: (t.pm,Dct Z.w []) :: (t.ns,Lst (rfs nss)) :: (t.ds,Lst (rfs decl)) :: (t.dx,Is (DOb Z.w.params (tL t))) :: (decl.map lvP ++ (nss.map lvP ++ ((t.da,Lst []) :: (Z.env.locals,Frm l) :: N1)))) (den Z (rsV c (.ref t.x))):=fun g' t decl nss le hpm e1 e2 hx hw hd hn => by
  refine Hr.perm (fr_front [_,_,_,_,_] (decl.map lvP) (nss.map lvP) N1 (t.da,Lst []) (Z.env.locals,Frm l)) ?_
  show G Z g' l ([_,_,_,_,_] ++ (decl.map lvP ++ (nss.map lvP ++ ((t.da,Lst []) :: N1)))) (rsV c (.ref t.x))
  refine st 10 B.target ?_
  exact h g' t decl nss le hpm e1 e2 hx hw hd (by rw [e2]; exact hn)
 refine exV (fun s S => ?_)
 obtain ⟨m,S1,hf⟩:=S.frm
 have ho:=hf.2 _ (At.mem (i:=6) (show At (Str.ofString "out",some (Value.ref ou)) 6 l from rfl))
 have hfi:=hf.2 _ (At.mem (i:=1) (show At (Str.ofString "first",some (Value.int fr tf)) 1 l from rfl))
 refine CallK_ ?_
 refine glE (v:=.ref 143) S1 Z.C (by k_is) ?_ Z.gl Z.kf B.cls.k B.cls.d
 refine' callWith_KW Z.C.X ?k1 ?k2 ?_ ?k3 ?k4
 case k1 => k_is
 case k2 => rfl
 case k3 => rfl
 case k4 => rfl
 refine spliced_more ?_
 refine Attribute_Name_ ?_
 refine ldE S1 ho ?_ rfl Z.kf B.out.k B.out.d
 obtain ⟨n,hp⟩:=S1.plist (.tail (.tail (.tail (.tail .head))))
 refine gaApp (show s.heap.get? ou = _ from hp) ?_
 refine S.newG (o:=wrO ou) rfl fun g1 le1 S2 hw => ?_
 refine spliced_none ?_
 show wpAny _ _ (evalAll [eval _ Z.env >>= fun v => standAt _ >>= fun ι => pure v,eval _ Z.env >>= fun v => standAt _ >>= fun ι => pure v]) _ _ _
 refine wpAny_evalAll_cons ?_
 refine wpAny_bind ?_
 refine wpAny_Constant_bool ?_
 refine wpAny_bind (wpAny_standAt (wpAny_pure ?_))
 refine wpAny_evalAll_cons ?_
 refine wpAny_bind ?_
 refine wpAny_Compare1 ?_
 refine wpAny_BinOp ?_
 obtain ⟨m2,S3,hf2⟩:=St.frm (s:={ s with heap:=s.heap.push (wrO ou) }) S2
 have hfi2:=hf2.2 _ (At.mem (i:=1) (show At (Str.ofString "first",some (Value.int fr tf)) 1 l from rfl))
 refine ldE (s:={ s with heap:=s.heap.push (wrO ou),toks:=_ }) S3 hfi2 ?_ rfl Z.kf B.first.k B.first.d
 refine wpAny_Constant_int ?_
 refine mod_int (by decide) ?_
 refine wpAny_Constant_int ?_
 refine eq_int ?_
 refine wpAny_bind (wpAny_standAt (wpAny_pure ?_))
 refine wpAny_evalAll_nil ?_
 refine ⟨Z.C.at S2,?_⟩
 exact (makeT (rw:=decide (fr.fmod 2 = 1)) (out:=ou) Z.C hroom hw fun g' t decl nss le => hm g' t decl nss (le1.tr le)).run _ S2
theorem law7 {t:Tg} (B:LEn Z.env cF) (hx:g t.x = some (instObj 143 t.dx)) {P3:Addr × OP}
 (h:∀ k,G Z g (lwI (lf4 sc tx ty fr tf ow pf tg ky ou du pt rt t)) (P0 :: P1 :: P2 :: P3 :: (t.dx,Is (tObj Z.w.params (t.wt k) false false)) :: N) (go Z (lawB.drop 8) K)) :
 G Z g (lwI (lf4 sc tx ty fr tf ow pf tg ky ou du pt rt t)) (P0 :: P1 :: P2 :: P3 :: (t.dx,Is (DOb Z.w.params (tL t))) :: N) (go Z (lawB.drop 7) K):=by
 refine letG ?_; intro c l N1
 refine nx ?_
 refine gl B.walk (by k_is) ?_
 refine ld 10 B.target ?_
 refine sat hx 4 17 ?_; intro c l N1 k
 exact h k
end
theorem fold_rep (v:Value):∀ (n:Nat) (a:Array Value),List.foldl (fun x1 x2 => x1 ++ x2) a (List.replicate n #[v]) = (a.toList ++ List.replicate n v).toArray
 | 0,a => by simp
 | n + 1,a => by
  rw [List.replicate_succ,List.foldl_cons,fold_rep v n]
  simp [List.replicate_succ]
theorem mvR_rep {g:Addr → Option Obj} {ad:Addr} {t1 t2:Tok} {a b:Int} (h:g ad = some (tupO [.int a t1,.int b t2])):∀ n,MvR g (List.replicate n (.ref ad)) (List.replicate n (a,b))
 | 0 => trivial
 | n + 1 => ⟨⟨ad,t1,t2,rfl,h⟩,mvR_rep h n⟩
theorem ints_get:∀ {vs:List Value} {ns:List Int},IntsAre vs ns → ∀ {i:Nat} {v:Value},vs[i]? = some v → ∃ n t,ns[i]? = some n ∧ v = .int n t
 | _,_,.nil,_,_,h => nomatch h
 | _,_,.cons n t _,0,_,h => ⟨n,t,rfl,(Option.some.inj h).symm⟩
 | _,_,.cons _ _ r,i + 1,_,h => ints_get r (i:=i) h
noncomputable def mvSc:Scope:=lcSc (evE (evE (evE (cpS (atB lawB 8))).a).a).b
theorem mv_sc (env:Env):ScOk env [] mvSc:=⟨rfl,rfl,by decide +kernel,by decide +kernel⟩
section
variable {g:Addr → Option Obj} {l:Fr1} {N:Ldg} {sc:Addr} {tx:Tok} {fr:Int} {rt:Addr} {t:Tg} {vs:List Value} {ns:List Int}
theorem mlL {a:Addr} {v:Value} {n:Nat} {t:Tok} (i:Nat) (hn:n ≤ 1000) (h:let c':=c; let l':=l; let N':=N; ∀ D,G Z g l' ((D,Lst (List.replicate n v)) :: N') (rsV c' (.ref D)))
 (hk:autoParam (At (a,Lst [v]) i N) aR) (hc:autoParam (HdV (binaryOp .Mult (.ref a) (.int (n:Nat) t)) c) aR):G Z g l N c:=Hr.mk fun s S => outV hc (by
 obtain ⟨k,ho⟩:=S.plist (At.pk (i:=i + 1) hk)
 refine S.viaF Z.hL fun m news F Nw k1 k2 => ?_
 refine wpAny_le (mul_list F Nw ho (by lia) (by lia) (by simp; lia) fun h' F' N' hle => ?_)
 refine (h _).run _ (k2 h' _ (Lst (List.replicate n v)) hle.2 F' N' ⟨0,?_⟩)
 have e:((if ([v].toArray).isEmpty = true then 0 else ((n:Nat):Int).toNat)) = n:=rfl
 rw [e,show [v].toArray = #[v] from rfl,fold_rep v n #[]]
 rfl)
theorem lnF {a:Addr} (D:GI g a vs) (hz:vs.length ≤ 1000) (h:let c':=c; let l':=l; let N':=N; ∀ t,G Z g l' N' (rsV c' (.int (vs.length:Nat) t))) (hc:autoParam (HdV (call (.builtin "len") [.ref a]) c) aR):G Z g l N c:=Hr.mk fun s S => outV hc (call_len_list (D.of S) (Int.lt_of_le_of_lt (Int.ofNat_le.mpr hz) (by decide)) ((h (s.toks + 1)).run (tick (tick s)) S))
theorem law8 (B:LEn Z.env cF) (Gs:GI g sc vs) (hi:IntsAre vs ns) (hz:ns.length ≤ 63)
 (h:∀ g' mvA mvs,gLe g g' → GL g' mvA mvs → MvR g' mvs (mvsOf fr ns) → G Z g' (setF (.ref mvA) 24 (lwI (lf4 sc tx ty fr tf ow pf tg ky ou du pt rt t))) N (go Z (lawB.drop 9) K)) :
 G Z g (lwI (lf4 sc tx ty fr tf ow pf tg ky ou du pt rt t)) N (go Z (lawB.drop 8) K):=by
 have hvl:vs.length = ns.length:=hi.length
 have hv63:vs.length ≤ 63:=hvl ▸ hz
 have hdl:(ns.drop 1).length ≤ 63:=by rw [List.length_drop]; exact ltr (Nat.sub_le _ _) hz
 have hdi:=hi.drop 1
 refine letG ?_; intro c l N1
 refine nx ?_
 refine ci ?_; intro c l N1 _
 refine ld 1 B.first ?_
 refine ci ?_; intro c l N1 _
 refine fdI ?_; intro c l N1 _
 refine nwT ?_; intro c l N1 g1 b1 le1 ho1
 refine nwL ?_; intro c l N1 m0
 refine lcG (mv_sc _) ?_
 refine slLX ?_
 refine ld 21 B.script ?_
 refine ci ?_; intro c l N1 _
 refine lsFrom (b:=1) (fun s S => (Gs.up le1).of S) (ltr hv63 (by decide)) ?_; intro k l N1 D3
 let KI:Nat → (Addr → Option Obj) → List Value → Prop:=fun i g' out => gLe g1 g' ∧ out.length ≤ i ∧ i ≤ 63 ∧ MvR g' out (((ns.drop 1).take i).map fun x => (x.fmod 6,x.fdiv 6))
 refine coVL 0 (mv_sc _) ["x"] KI ?_ ?_ ⟨gLe.rfl' _,Nat.le_refl _,Nat.zero_le _,trivial⟩ ?_ ?_
 · rintro j g' out ⟨_,h1,h2,_⟩
   exact ltr h1 (ltr h2 (by decide))
 · rintro j g' out ⟨h1,_⟩; exact h1
 · rintro g5 acc out ⟨le5,_,_,hout⟩
   rw [hdi.length,List.take_length] at hout
   have hol:out.length ≤ 63:=by rw [hout.len,List.length_map]; exact hdl
   refine letG ?_; intro c l N1
   refine adL 2 0 ?_ (hz:=ltr (Nat.add_le_add_left hol 1) (by decide)); intro c l N1 D7
   refine ci ?_; intro c l N1 _
   refine ci ?_; intro c l N1 _
   refine nwT ?_; intro c l N1 g8 b8 le8 ho8
   refine nwL ?_; intro c l N1 m8
   refine bl (v:=.builtin "len") B.len (by k_is) boot_len (by decide) ?_
   refine ld 21 B.script ?_
   refine lnF ((Gs.up le1).up (le5.tr le8)) (ltr hv63 (by decide)) ?_; intro c l N1 _
   refine mlL 0 (ltr hv63 (by decide)) ?_; intro c l N1 D10
   refine adL 2 0 ?_ (hz:=by rw [lap,List.length_replicate]; exact ltr (Nat.add_le_add (Nat.add_le_add_left hol 1) hv63) (by decide)); intro c l N1 D11
   refine ci ?_; intro c l N1 _
   refine ci ?_; intro c l N1 _
   refine nwT ?_; intro c l N1 g12 b12 le12 ho12
   refine nwL ?_; intro c l N1 m12
   refine adL 1 0 ?_ (hz:=by rw [lap,lap,List.length_replicate]; exact ltr (Nat.add_le_add_right (Nat.add_le_add (Nat.add_le_add_left hol 1) hv63) 1) (by decide)); intro c l N1 D14
   refine GL.fz fun g16 le16 G16 => ?_
   refine st 24 B.moves ?_
   have l1:gLe g1 g16:=le5.tr (le8.tr (le12.tr le16))
   refine G.dropN 8 ?_
   refine h g16 D14 _ (le1.tr l1) G16 ?_
   have e2:mvsOf fr ns = (([(0,fr.fdiv 4)] ++ ns.tail.map fun x => (x.fmod 6,x.fdiv 6)) ++ List.replicate vs.length (1,0)) ++ [(6,0)]:=by unfold mvsOf; rw [hvl,List.append_assoc,List.append_assoc]; rfl
   rw [e2]
   rw [List.drop_one] at hout
   exact ((MvR.app (g:=g16) (vs:=[_]) (es:=[(0,fr.fdiv 4)]) ⟨⟨_,_,_,rfl,l1 _ _ ho1⟩,trivial⟩ (hout.up (le8.tr (le12.tr le16)))).app (mvR_rep (le12.tr le16 _ _ ho8) vs.length)).app (ws:=[_]) (fs:=[(6,0)]) ⟨⟨_,_,_,rfl,le16 _ _ ho12⟩,trivial⟩
 · rintro Lc hL E j v it acc g' out m Qe Qs hv ⟨le,h1,h2,hT⟩ q
   obtain ⟨n,t,hn,rfl⟩:=ints_get hdi hv
   have hj:j < 63:=Nat.lt_of_lt_of_le (List.getElem?_eq_some_iff.mp hn).1 hdl
   refine letG ?_; intro c l N1
   refine Mine.st 0 (loC rfl) ?_
   refine ld 0 (loC rfl) ?_
   refine ci ?_; intro c l N1 _
   refine mdI ?_; intro c l N1 _
   refine ld 0 (loC rfl) ?_
   refine ci ?_; intro c l N1 _
   refine fdI ?_; intro c l N1 _
   refine nwT ?_; intro c l N1 g6 b6 le6 ho6
   refine q.el ⟨le.tr le6,by rw [lap]; exact Nat.succ_le_succ h1,hj,?_⟩
   rw [List.take_add_one,hn,List.map_append]
   exact (hT.up le6).app ⟨⟨_,_,_,rfl,ho6⟩,trivial⟩
end
section
variable {s:Shared} {g:Addr → Option Obj} {N:Ldg} {f:OP → Ldg}
theorem setLast {l:Addr} {its:List Value} {x v:Value} {Q:Unit → Shared → Prop} (S:St H0 g N s) (k:Pk l (Lst (its ++ [x])) N f) (h:∀ s',St H0 g (f (Lst (its ++ [v]))) s' → Q () s') :
 wpAny (model prog w) A (setItem (.ref l) (.int (-1) t) v) Q E s:=by
 have hl:=S.list k
 obtain ⟨o,ho,hc,ne,hd⟩:=id hl
 unfold setItem
 try with_reducible refine wpAny_holding ?_
 first | refine wpAny_bind (wpAny_pure ?_) | skip
 refine wpAny_bind (wpAny_sequenceKey hl.typeIs (by decide) ?_)
 refine wpAny_bind (wpAny_callSpecial?_slot (name:=Str.ofString "__setitem__") hl.typeIs slot_list_setitem
  (wpAny_call_entry slot_list_setitem hl.typeIs entry_list_setitem ?_ (args_list_setitem _ _ _)))
 show wpAny _ _ (Builtin.List.listSubscript? (.int (-1) t) >>= _) _ _ s
 refine wpAny_bind (wpAny_listSubscript_int (by decide +kernel) ?_)
 have hidx:seqIndex? (-1) (its ++ [x]).toArray.size = some its.length:=by
  rw [seqIndex_neg (by decide) (by simp; lia)]
  simp; lia
 show wpAny _ _ ((Builtin.List.listItems (.ref l) >>= fun xs => pure ((seqIndex? (-1) xs.size).bind fun i => xs[i]?.map (i,·))) >>= _) _ _ s
 refine wpAny_bind (wpAny_bind ?_)
 show wpAny _ _ (seqItems? (.ref l) >>= _) _ _ s
 refine wpAny_bind (wpAny_seqItems ho hd (wpAny_pure (wpAny_pure ?_)))
 have hx:(its ++ [x]).toArray[its.length]? = some x:=by simp
 rw [hidx]
 simp only [Option.bind_some,hx,Option.map_some]
 show wpAny _ _ (setSeqItemAt l its.length v >>= _) _ _ s
 have hq:(its ++ [x]).toArray.setIfInBounds its.length v = (its ++ [v]).toArray:=by simp
 obtain ⟨n,ho2⟩:=S.plist k
 have q:=h { s with heap:=s.heap.update l (Obj.mapSeq (·.setIfInBounds its.length v)) } (S.put k (Heap.SameBut.update ..) (Heap.get?_update_self _ ho2 rfl) ⟨_,by
  show ({ cls:=_,dict:=_,data:=.seq ((its ++ [x]).toArray.setIfInBounds its.length v) _,slots:=_ }:Obj) = _
  rw [hq]⟩)
 refine wpAny_bind (wpAny_setSeqItemAt ho hd ?_)
 first
  | exact wpAny_bind (wpAny_pure (wpAny_pure ⟨.none,rfl,wpAny_pure q⟩))
  | exact wpAny_pure ⟨.none,rfl,wpAny_pure q⟩
end
noncomputable def evK:Ev → T
 | .two k _ => k
 | .start _ _ => kStart
noncomputable def EvW (g:Addr → Option Obj) (v:Value):Ev → Prop
 | .two _ x => ∃ t,v = sv x t
 | .start n rows => ∃ a2 D t2 o vs,v = .ref a2 ∧ g a2 = some (tupO [sv n t2,.ref D]) ∧ g D = some o ∧ Lst vs o ∧ Rws g vs rows
theorem EvR.split {g:Addr → Option Obj} {v:Value} {e:Ev} (h:EvR g v e):∃ a t wv,v = .ref a ∧ g a = some (tupO [sv (evK e) t,wv]) ∧ EvW g wv e:=by
 cases e with
 | two k x => obtain ⟨a,t1,t2,e,q⟩:=h; exact ⟨a,t1,_,e,q,t2,rfl⟩
 | start n rows => obtain ⟨a,a2,D,t1,t2,o,vs,e,q1,q2,q3,q4,q5⟩:=h; exact ⟨a,t1,_,e,q1,a2,D,t2,o,vs,rfl,q2,q3,q4,q5⟩
theorem EvW.evR {g:Addr → Option Obj} {wv:Value} {e:Ev} {a:Addr} (ha:g a = some (tupO [sv (evK e) t,wv])) (h:EvW g wv e):EvR g (.ref a) e:=by
 cases e with
 | two k x => obtain ⟨t2,rfl⟩:=h; exact ⟨a,t,t2,rfl,ha⟩
 | start n rows => obtain ⟨a2,D,t2,o,vs,rfl,q2,q3,q4,q5⟩:=h; exact ⟨a,a2,D,t,t2,o,vs,rfl,ha,q2,q3,q4,q5⟩
theorem EvW.up {g g':Addr → Option Obj} (le:gLe g g') {v:Value} {e:Ev} (h:EvW g v e):EvW g' v e:=by
 cases e with
 | two k x => exact h
 | start n rows => obtain ⟨a2,D,t2,o,vs,e,q2,q3,q4,q5⟩:=h; exact ⟨a2,D,t2,o,vs,e,le _ _ q2,le _ _ q3,q4,q5.up fun b o q _ => le b o q⟩
theorem EvsR.last {g:Addr → Option Obj} {vs:List Value} {es:List Ev} (h:EvsR g vs es) (hne:es ≠ []):∃ vs' v es' e,vs = vs' ++ [v] ∧ es = es' ++ [e] ∧ EvsR g vs' es' ∧ EvR g v e:=by
 have e1:=List.dropLast_concat_getLast hne
 rw [← e1] at h
 obtain ⟨vs',v,e2,h1,h2⟩:=F2.last h
 exact ⟨vs',v,_,_,e2,e1.symm,h1,h2⟩
theorem txOf_some {e:Ev} {x:T} (h:txOf e = some x):e = .two kText x:=by
 cases e with
 | two k y =>
  have h:(if k = kText then some y else none) = some x:=h
  by_cases hk:k = kText
  · rw [if_pos hk] at h; rw [hk,Option.some.inj h]
  · rw [if_neg hk] at h; cases h
 | start n rows => cases h
theorem evK_text (e:Ev):evK e = kText ↔ ∃ x,e = .two kText x:=by
 cases e with
 | two k x => exact ⟨fun h => ⟨x,by rw [show k = kText from h]⟩,fun ⟨y,h⟩ => by cases h; rfl⟩
 | start n rows => exact ⟨fun h => absurd (show kStart = kText from h) (by decide),fun ⟨y,h⟩ => by cases h⟩
theorem txOf_none {e:Ev} (h:¬ ∃ x,e = .two kText x):txOf e = none:=by
 cases hx:txOf e with
 | none => rfl
 | some x => exact absurd ⟨x,txOf_some hx⟩ h
theorem txOf_two (x:T):txOf (.two kText x) = some x:=by show (if kText = kText then some x else none) = _; rw [if_pos rfl]
noncomputable def joinB:List Stmt:=subB lawB[11]?
theorem eqTx (x y:T):((mk x:Str) == mk y) = decide (x = y):=by
 rw [Bool.eq_iff_iff,beq_iff_eq,decide_eq_true_eq]
 exact ⟨mk_inj,fun h => by rw [h]⟩
noncomputable def evD:Ev → PyData
 | .two k x => rowD (k,x)
 | .start n rows => .tuple [.str (mk kStart),.tuple [.str (mk n),.list (rows.map rowD)]]
theorem rdRws {g:Addr → Option Obj}:∀ {vs:List Value} {rs:List (T × T)},Rws g vs rs → RdVs g vs (rs.map rowD)
 | [],[],_ => RdVs.nil _
 | _ :: _,_ :: _,h => RdVs.cons (rdRow (h.2 0 (Nat.succ_pos _))) (rdRws ⟨Nat.succ.inj h.1,fun i hi => h.2 (i + 1) (Nat.succ_lt_succ hi)⟩)
 | [],_ :: _,h => by cases h.1
 | _ :: _,[],h => by cases h.1
theorem rdEv {g:Addr → Option Obj} {v:Value} {e:Ev} (h:EvR g v e):RdV g v (evD e):=by
 cases e with
 | two k x => exact rdRow h
 | start n rows =>
  obtain ⟨a,a2,D,t1,t2,o,vs,rfl,q1,q2,q3,q4,q5⟩:=h
  exact RdV.tup q1 (RdVs.cons (RdV.str _ _ _) (RdVs.cons (RdV.tup q2 (RdVs.cons (RdV.str _ _ _) (RdVs.cons (RdV.lst ⟨o,q3,q4⟩ (rdRws q5)) (RdVs.nil _)))) (RdVs.nil _)))
theorem rdEvs {g:Addr → Option Obj}:∀ {vs:List Value} {es:List Ev},EvsR g vs es → RdVs g vs (es.map evD)
 | [],[],_ => RdVs.nil _
 | _ :: _,_ :: _,h => RdVs.cons (rdEv h.1) (rdEvs h.2)
 | [],_ :: _,h => h.elim
 | _ :: _,[],h => h.elim
noncomputable def EvS:Ev → Prop
 | .two k x => okT k ∧ okT x
 | .start n rows => okT n ∧ ∀ r ∈ rows,okT r.1 ∧ okT r.2
theorem EvTx.s {e:Ev} (h:EvTx e):EvS e:=by
 cases e with
 | two k x => exact ⟨h.1,h.2.1⟩
 | start n rows => exact h
theorem shp_ev {e:Ev} (h:EvS e):Shp 5 (evD e):=by
 cases e with
 | two k x => exact Shp.two h.1 h.2
 | start n rows =>
  refine Shp.tup fun d hd => ?_
  rcases List.mem_cons.mp hd with rfl | hd
  · exact Shp.str (by unfold okT; decide)
  rw [List.mem_singleton] at hd; subst hd
  refine Shp.tup fun d hd => ?_
  rcases List.mem_cons.mp hd with rfl | hd
  · exact Shp.str h.1
  rw [List.mem_singleton] at hd; subst hd
  refine Shp.list fun d hd => ?_
  obtain ⟨r,hr,rfl⟩:=List.mem_map.mp hd
  exact Shp.two (h.2 r hr).1 (h.2 r hr).2
theorem shp_evs {es:List Ev} (h:∀ e ∈ es,EvS e):Shp 6 (.list (es.map evD)):=Shp.list fun d hd => by
 obtain ⟨e,he,rfl⟩:=List.mem_map.mp hd
 exact shp_ev (h e he)
theorem ev_eqv (e:Ev):PyData.eqv (evD e) (rowD (kText,[])) = true ↔ e = .two kText []:=by
 cases e with
 | two k x =>
  show ((mk k:Str) == mk kText && (((mk x:Str) == mk []) && true)) = true ↔ _
  rw [eqTx,eqTx,Bool.and_true,Bool.and_eq_true,decide_eq_true_eq,decide_eq_true_eq]
  exact ⟨fun ⟨a,b⟩ => by rw [a,b],fun h => by cases h; exact ⟨rfl,rfl⟩⟩
 | start n rows =>
  refine ⟨fun h => ?_,fun h => by cases h⟩
  have h:(PyData.eqv (.str (mk kStart)) (.str (mk kText)) && PyData.eqvAll [.tuple [.str (mk n),.list (rows.map rowD)]] [.str (mk [])]) = true:=h
  have h:((mk kStart:Str) == mk kText) = true:=(Bool.and_eq_true_iff.mp h).1
  rw [eqTx] at h
  exact absurd (of_decide_eq_true h) (by decide)
section
variable {g:Addr → Option Obj} {l:Fr1} {N:Ldg}
theorem neD {a b:Value} {x y:PyData} (hu:Z.u ≤ 8000) (ra:RdV g a x) (rb:RdV g b y) (sa:SeqAt.shaped x = true) (sb:SeqAt.shaped y = true) (h:G Z g l N (rsB c (!PyData.eqv x y))) (hc:autoParam (HdC .NotEq a b c) aR):G Z g l N c:=Hr.mk fun s S => outC hc (by
 obtain ⟨as,r1⟩:=ra s.heap S.keep
 obtain ⟨bs,r2⟩:=rb s.heap S.keep
 exact SeqAt.compareNe_shaped r1 r2 sa sb (Nat.lt_of_le_of_lt (Nat.add_le_add_right hu 64) (by decide)) (wpAny_truthy_bool (h.run s S)))
theorem eqD {a b:Value} {x:PyData} {n:Nat} (hu:Z.u ≤ 8000) (ra:RdV g a x) (rb:RdV g b x) (sh:Shp n x) (hn:n ≤ 64) (h:G Z g l N (rsV c (.bool true))) (hc:autoParam (HdV (compareOp .Eq a b) c) aR):G Z g l N c:=Hr.mk fun s S => outV hc (by
 obtain ⟨as,r1⟩:=ra s.heap S.keep
 obtain ⟨bs,r2⟩:=rb s.heap S.keep
 exact SeqAt.compareEq_shaped r1 r2 (sh.shaped hn) (sh.shaped hn) (Nat.lt_of_le_of_lt (Nat.add_le_add_right hu 64) (by decide)) (by rw [PySem.SeqAt.eqv_refl x sh.1]; exact h.run s S))
end
section
variable {g:Addr → Option Obj} {l:Fr1} {N:Ldg} {rs:Option Value} {o:Nat → Option Value}
theorem stL {a:Addr} {its:List Value} {x v:Value} (i:Nat) (h:G Z g l (updL (a,Lst (its ++ [v])) i N) (rsU c)) (hk:autoParam (At (a,Lst (its ++ [x])) i N) aR) (hc:autoParam (HdU (setItem (.ref a) (.int (-1) t) v) c) aR):G Z g l N c:=Hr.mk fun s S => outU hc (setLast S (At.pk (i:=i + 1) hk) fun s2 S2 => h.run s2 S2)
noncomputable def jnO (J:Addr) (kd wv:Option Value) (o:Nat → Option Value):Nat → Option Value
 | 11 => some (.ref J)
 | 12 => kd
 | 13 => wv
 | i => o i
theorem joinTurn {I:Addr × OP} {J:Addr} {jvs:List Value} {js:List Ev} {e:Ev} {wv:Value} (B:LEn Z.env cF) (hu:Z.u ≤ 8000) (hW:EvW g wv e) (hE:EvsR g jvs js) (hne:js ≠ []) (hok:EvS e) (hz:js.length ≤ 1000) (hx:∀ x,e = .two kText x → x.length ≤ 4) (hxs:∀ x,js.getLast? = some (.two kText x) → x.length ≤ 1000)
 (h:∀ g' jvs',gLe g g' → EvsR g' jvs' (joinStep js e) → G Z g' (lwF V mv rs pc (jnO J (some (sv (evK e) tk)) (some wv) o)) (I :: (J,Lst jvs') :: N) (K .next)) :
 G Z g (lwF V mv rs pc (jnO J (some (sv (evK e) tk)) (some wv) o)) (I :: (J,Lst jvs) :: N) (go Z joinB K):=by
 obtain ⟨jv',v,js',e',rfl,rfl,hE',hv⟩:=hE.last hne
 obtain ⟨a,t1,w1,rfl,ha,hW1⟩:=hv.split
 have hlast:(js' ++ [e']).getLast? = some e':=List.getLast?_concat
 refine letG ?_; intro c l N1
 refine nx ?_
 refine ld 26 B.kind ?_
 refine csM kText ?_; intro c l N1 _
 refine letG ?_; intro c l N1
 have key:¬ ((∃ x,e = .two kText x) ∧ ∃ x,e' = .two kText x) → G Z g l N1 (rsB c false):=fun hb => by
  refine letG ?_; intro c l N1
  refine nx ?_
  refine ld 26 B.kind ?_
  refine ld 27 B.what ?_
  refine nwT ?_; intro c l N1 g2 b2 le2 ho2
  refine csM kText ?_; intro c l N1 _
  refine csM [] ?_; intro c l N1 _
  refine nwT ?_; intro c l N1 g3 b3 le3 ho3
  have r1:=rdEv ((hW.up (le2.tr le3)).evR (le3 _ _ ho2))
  have r2:RdV g3 (.ref b3) (rowD (kText,[])):=rdRow ⟨_,_,_,rfl,ho3⟩
  have le13:=le2.tr le3
  by_cases he:e = .two kText []
  · refine neD hu r1 r2 ((shp_ev hok).shaped (by decide)) ((Shp.two (n:=1) (by unfold okT; decide) (by unfold okT; decide)).shaped (by decide)) ?_
    rw [(ev_eqv e).mpr he]
    refine h g3 _ le13 ?_
    have:joinStep (js' ++ [e']) e = js' ++ [e']:=by
     unfold joinStep
     rw [he,txOf_two,hlast,show (some e').bind txOf = none from txOf_none fun z => hb ⟨⟨[],he⟩,z⟩]
     rfl
    rw [this]
    exact hE.up le13
  · refine neD hu r1 r2 ((shp_ev hok).shaped (by decide)) ((Shp.two (n:=1) (by unfold okT; decide) (by unfold okT; decide)).shaped (by decide)) ?_
    rw [Bool.eq_false_iff.mpr fun z => he ((ev_eqv e).mp z)]
    refine nx ?_
    refine ld 25 B.joined ?_
    refine gap 1 ?_
    refine ld 26 B.kind ?_
    refine ld 27 B.what ?_
    refine nwT ?_; intro c l N1 g4 b4 le4 ho4
    refine app 1 ?_ (hz:=by rw [hE.len]; exact szl (ltr hz (by decide)))
    refine h g4 _ (le13.tr le4) ?_
    have:joinStep (js' ++ [e']) e = (js' ++ [e']) ++ [e]:=by
     unfold joinStep
     cases ht:txOf e with
     | none => rfl
     | some x =>
      have hx:=txOf_some ht
      dsimp only
      rw [hlast,show (some e').bind txOf = none from txOf_none fun z => hb ⟨⟨x,hx⟩,z⟩]
      dsimp only
      rw [if_neg fun z => he (by rw [hx,z])]
    rw [this]
    exact EvsR.snoc ((hW.up (le13.tr le4)).evR ho4) (hE.up (le13.tr le4))
 refine eqS ?_ ?_ <;> intro c l N1 h1
 · refine ld 25 B.joined ?_
   refine ci ?_; intro c l N1 _
   refine neg ?_; intro c l N1 _
   refine last 1 ?_ (hx:=List.getLast?_concat)
   refine ci ?_; intro c l N1 _
   refine tup (i:=0) ha ?_
   refine csM kText ?_; intro c l N1 _
   refine eqS ?_ ?_ <;> intro c l N1 h2
   · obtain ⟨x,rfl⟩:=(evK_text e).mp h1
     obtain ⟨y,rfl⟩:=(evK_text e').mp h2
     obtain ⟨t2,rfl⟩:=hW1
     obtain ⟨t3,rfl⟩:=hW
     refine nx ?_
     refine csM kText ?_; intro c l N1 _
     refine ld 25 B.joined ?_
     refine ci ?_; intro c l N1 _
     refine neg ?_; intro c l N1 _
     refine last 1 ?_ (hx:=List.getLast?_concat)
     refine ci ?_; intro c l N1 _
     refine tup (i:=1) ha ?_
     refine ld 27 B.what ?_
     refine adT ?_ (hz:=ltr (Nat.add_le_add (hxs y hlast) (hx x rfl)) (by decide)); intro c l N1 t4
     refine nwT ?_; intro c l N1 g5 b5 le5 ho5
     refine ld 25 B.joined ?_
     refine ci ?_; intro c l N1 _
     refine neg ?_; intro c l N1 _
     refine stL 1 ?_
     refine h g5 _ le5 ?_
     have:joinStep (js' ++ [.two kText y]) (.two kText x) = js' ++ [.two kText (y ++ x)]:=by
      unfold joinStep
      rw [txOf_two,hlast,show (some (Ev.two kText y)).bind txOf = some y from txOf_two y]
      show List.dropLast (js' ++ [.two kText y]) ++ _ = _
      rw [List.dropLast_concat]
     rw [this]
     exact EvsR.snoc (e:=.two kText (y ++ x)) ⟨_,_,_,rfl,ho5⟩ (hE'.up le5)
   · exact key fun z => h2 ((evK_text e').mpr z.2)
 · exact key fun z => h1 ((evK_text e).mpr z.1)
end
structure JOk (n:Nat) (js:List Ev):Prop where
 ne:js ≠ []
 ok:∀ e ∈ js,EvS e
 z:js.length ≤ n
 x:∀ x,js.getLast? = some (.two kText x) → x.length ≤ 4 * n
theorem JOk.snoc {n:Nat} {js:List Ev} {e:Ev} (h:JOk n js) (he:EvTx e):JOk (n + 1) (js ++ [e]):=by
 refine ⟨fun z => List.cons_ne_nil _ _ (List.append_eq_nil_iff.mp z).2,fun y hy => ?_,?_,fun x hx => ?_⟩
 · rcases List.mem_append.mp hy with q | q
   · exact h.ok y q
   · rw [List.mem_singleton.mp q]; exact he.s
 · have:=h.z
   rw [lap]
   exact Nat.succ_le_succ this
 · rw [List.getLast?_concat] at hx
   have hx:=Option.some.inj hx
   subst hx
   exact ltr (he.2.2 rfl) (Nat.le_mul_of_pos_right 4 (Nat.succ_pos n))
theorem JOk.step {n:Nat} {js:List Ev} {e:Ev} (h:JOk n js) (he:EvTx e):JOk (n + 1) (joinStep js e):=by
 unfold joinStep
 cases ht:txOf e with
 | none => exact h.snoc he
 | some x =>
  have hx:=txOf_some ht
  subst hx
  dsimp only
  cases hl:js.getLast?.bind txOf with
  | some y =>
   obtain ⟨e',h1,h2⟩:=Option.bind_eq_some_iff.mp hl
   have h2:=txOf_some h2
   subst h2
   have hy:=h.x y h1
   have hm:=h.ok _ (List.mem_of_getLast? h1)
   dsimp only
   refine ⟨fun z => List.cons_ne_nil _ _ (List.append_eq_nil_iff.mp z).2,fun z hz => ?_,?_,fun z hz => ?_⟩
   · rcases List.mem_append.mp hz with q | q
     · exact h.ok z (List.dropLast_subset _ q)
     · rw [List.mem_singleton.mp q]
       exact ⟨hm.1,okT_app hm.2 he.2.1⟩
   · rw [lap,List.length_dropLast]
     exact Nat.succ_le_succ (ltr (Nat.sub_le _ _) h.z)
   · rw [List.getLast?_concat] at hz
     have hz:=Option.some.inj hz
     injection hz with _ hz
     rw [← hz,lap]
     exact Nat.add_le_add hy (he.2.2 rfl)
  | none =>
   dsimp only
   by_cases hx:x = []
   · rw [if_pos hx]
     exact ⟨h.ne,h.ok,Nat.le_succ_of_le h.z,fun z hz => ltr (h.x z hz) (Nat.mul_le_mul_left 4 (Nat.le_succ n))⟩
   · rw [if_neg hx]; exact h.snoc he
theorem joinL_take {i:Nat} {e:Ev} (h:due[i]? = some e):joinL (due.take (i + 1)) = joinStep (joinL (due.take i)) e:=by
 rw [List.take_add_one,h]
 exact joinL_snoc _ _
theorem joinL_ok {due:List Ev} (hok:∀ e ∈ due,EvTx e) (h0:due.head?.bind txOf = none):∀ i,i < due.length → JOk (i + 1) (joinL (due.take (i + 1)))
 | 0,h => by
  cases due with
  | nil => exact absurd h (Nat.not_lt_zero _)
  | cons e r =>
   have h0:txOf e = none:=h0
   have q:joinL ((e :: r).take 1) = [e]:=by
    show joinStep [] e = _
    unfold joinStep
    rw [h0]; rfl
   rw [q]
   refine ⟨List.cons_ne_nil _ _,fun y hy => ?_,Nat.le_refl _,fun x hx => ?_⟩
   · rw [List.mem_singleton.mp hy]; exact (hok e (List.mem_cons_self ..)).s
   · have hx:e = _:=Option.some.inj hx
     rw [hx,txOf_two] at h0; cases h0
 | i + 1,h => by
  have he:due[i + 1]? = some due[i + 1]:=List.getElem?_eq_getElem h
  rw [joinL_take he]
  exact (joinL_ok hok h0 i (Nat.lt_of_succ_lt h)).step (hok _ (List.getElem_mem h))
theorem EvsR.get {g:Addr → Option Obj} {vs:List Value} {es:List Ev} (h:EvsR g vs es) {i:Nat} {v:Value} (hv:vs[i]? = some v):∃ e,es[i]? = some e ∧ EvR g v e:=F2.get h hv
theorem join_one (h0:due.head?.bind txOf = none) (hne:due ≠ []):joinL (due.take 1) = due.take 1:=by
 cases due with
 | nil => exact absurd rfl hne
 | cons e r =>
  show joinStep [] e = [e]
  unfold joinStep
  rw [show txOf e = none from h0]; rfl
theorem EvsR.take1 {g:Addr → Option Obj}:∀ {vs:List Value} {es:List Ev},EvsR g vs es → EvsR g (vs.take 1) (es.take 1)
 | [],[],_ => trivial
 | _ :: _,_ :: _,h => ⟨h.1,trivial⟩
 | [],_ :: _,h => h.elim
 | _ :: _,[],h => h.elim
inductive JnK (g:Addr → Option Obj) (due:List Ev) (F:Option Value → Option Value → Fr1) (M:List Value → Ldg):Nat → (Addr → Option Obj) → Fr1 → Ldg → Prop
 | mk {i g' kd wv jvs} (le:gLe g g') (hJ:EvsR g' jvs (joinL (due.take (i + 1)))):JnK g due F M i g' (F kd wv) (M jvs)
section
variable {g:Addr → Option Obj} {l:Fr1} {N:Ldg} {rs:Option Value} {o:Nat → Option Value} {dvs:List Value}
theorem law11 (B:LEn Z.env cF) (hu:Z.u ≤ 8000) (hE:EvsR g dvs due) (hok:∀ e ∈ due,EvTx e) (h0:due.head?.bind txOf = none) (hne:due ≠ []) (hz:due.length ≤ 130)
 (h:∀ g' J kd wv jvs,gLe g g' → EvsR g' jvs (joinL due) → JOk due.length (joinL due) → G Z g' (lwF V mv rs pc (jnO J kd wv o)) ((J,Lst jvs) :: (V.due,Lst dvs) :: N) (go Z (lawB.drop 12) K)) :
 G Z g (lwF V mv rs pc o) ((V.due,Lst dvs) :: N) (go Z (lawB.drop 10) K):=by
 have hlen:=hE.len
 have hvz:dvs.length ≤ 100000:=hlen ▸ ltr hz (by decide)
 have hdl:0 < due.length:=List.length_pos_iff.mpr hne
 refine letG ?_; intro c l N1
 refine nx ?_
 refine slLX ?_
 refine ld 7 B.due ?_
 refine ci ?_; intro c l N1 _
 refine lsTo (vs:=dvs) (b:=1) (fun s S => S.list (.tail .head)) hvz ?_; intro k l N1 J
 refine st 25 B.joined ?_
 refine nx ?_
 refine slLX ?_
 refine ld 7 B.due ?_
 refine ci ?_; intro c l N1 _
 refine lsFrom (vs:=dvs) (b:=1) (fun s S => S.list (.tail (.tail .head))) hvz ?_; intro k l N1 D
 refine GL.fz fun g3 le3 G3 => ?_
 let KF:Option Value → Option Value → Fr1:=fun kd wv => lwF V mv rs pc (jnO J kd wv o)
 let KM:List Value → Ldg:=fun jvs => (J,Lst jvs) :: (V.due,Lst dvs) :: N
 let KI:Nat → (Addr → Option Obj) → Fr1 → Ldg → Prop:=JnK g3 due KF KM
 refine lpI (srcL (a:=D) (vs:=dvs.drop 1)) (fun s S => G3.of S) KI (fun j g' l' N' s it hK S => by cases hK with | mk le _ => exact (G3.up le).of S) (.mk (kd:=o 12) (wv:=o 13) (gLe.rfl' _) (by rw [join_one h0 hne]; exact (hE.up le3).take1)) ?_ ?_
 · have e1:(dvs.drop 1).length + 1 = due.length:=by rw [List.length_drop,hlen]; exact Nat.sub_add_cancel hdl
   generalize (dvs.drop 1).length = n at *
   intro g' l' N' hK
   cases hK with | mk le hJ => ?_
   rw [e1,List.take_length] at hJ
   have q:=joinL_ok hok h0 n (e1 ▸ Nat.lt_succ_self n)
   rw [e1,List.take_length] at q
   exact h g' J _ _ _ (le3.tr le) hJ q
 · intro i v it E Q' g' l' N' hi hv hK Q
   cases hK with | mk le hJ => ?_
   rename_i kd0 wv0 jvs
   have hv':dvs[i + 1]? = some v:=by rw [List.getElem?_drop,Nat.add_comm] at hv; exact hv
   obtain ⟨e,he,hev⟩:=(hE.up (le3.tr le)).get hv'
   obtain ⟨a,t,wv,rfl,ha,hW⟩:=hev.split
   have hi:i + 1 < due.length:=(List.getElem?_eq_some_iff.mp he).1
   have Jk:=joinL_ok hok h0 i (Nat.lt_of_succ_lt hi)
   have hi130:i + 1 ≤ 130:=ltr (Nat.le_of_lt hi) hz
   have hek:=hok e (List.mem_of_getElem? he)
   refine letG ?_; intro c l N1
   refine as2 26 27 B.kind B.what ha ?_
   refine joinTurn (Z:=Z.sE E) B hu hW hJ Jk.ne hek.s (ltr Jk.z (ltr hi130 (by decide))) (fun x hx => ?_) (fun x hx => ltr (Jk.x x hx) (ltr (Nat.mul_le_mul_left 4 hi130) (by decide))) fun g6 jvs6 le6 hJ6 => ?_
   · subst hx; exact hek.2.2 rfl
   rw [← joinL_take he] at hJ6
   exact Q.go (.mk (kd:=some (sv (evK e) t)) (wv:=some wv) (le.tr le6) hJ6)
end
theorem b_read {g:Addr → Option Obj} {N:Ldg} {its:List Itm} {rd:Rd} {Q:Flow → PP} (B:REn Z.env cT cL) (hroom:Z.d ≤ 880) (hY:Y.length ≤ 1000000) (hzi:its.length ≤ 1000) (hd:Y = textOf its) (hok:okSeq its) (hR:RSteps ⟨[],[],[],[lm0]⟩ its rd)
 (h:∀ g' ev mk' evs ms a,gLe g g' → EvsR g' evs rd.evs → Txs ms rd.marks → g' a = some (tupO [.ref ev,.ref mk']) → Hr Z.H0 g' ((ev,Lst evs) :: (mk',Lst ms) :: N) (Q (.ret (.ref a)))) :
 G Z g (rdN.map fun x => (x,none)) ((cL,Cel none) :: (cT,Cel (some (sv Y tY))) :: N) (go Z readB (finT Q)):=by
 refine rdInit (r:=readB.drop 1) B fun g1 V D t1 t2 t5 le1 hG => ?_
 refine rdWhile (r:=readB.drop 2) B hroom hY hzi hd hok hR hG fun g2 lvc a sp nm pr o nms lvs evs ms le2 hE hM => ?_
 refine letG ?_; intro c l N1
 refine nx ?_
 refine ld 0 B.events ?_
 refine ld 1 B.marks ?_
 refine nwT ?_; intro c l N1 g3 b le3 ho
 refine Hr.dropN 3 ?_
 refine Hr.perm (N1:=(V.nm,Lst nms) :: (V.lv,Lst lvs) :: (V.ev,Lst evs) :: (V.mr,Lst ms) :: N) ((List.perm_append_comm (l₁:=[_,_]) (l₂:=[_,_])).append_right N) ?_
 exact Hr.dropN 2 (h g3 V.ev V.mr evs ms b (le1.tr (le2.tr le3)) (hE.up le3) hM ho)
theorem f_read {u:Nat} {R:Result → PP} {g:Addr → Option Obj} {N:Ldg} {its:List Itm} {rd:Rd}
 (C:Cx w H0) (hroom:d ≤ 850) (hz:(textOf its).length ≤ 900000) (hzi:its.length ≤ 1000) (hok:okSeq its) (hR:RSteps ⟨[],[],[],[lm0]⟩ its rd)
 (h:∀ g' ev mk' evs ms a,gLe g g' → EvsR g' evs rd.evs → Txs ms rd.marks → g' a = some (tupO [.ref ev,.ref mk']) → Hr H0 g' ((ev,Lst evs) :: (mk',Lst ms) :: N) (R (.ok (.ret (.ref a))))) :
 Hr H0 g N (codeAny (model PG w) (ar d u) (.call (.ref 199) ⟨[sv (textOf its) t],[]⟩) R):=by
 generalize hY:textOf its = Y at hz
 refine' callGC (binds:=[(Str.ofString "text",sv Y t)]) (body:=readB) rdN C ?k6 ?k7 (Nat.lt_of_le_of_lt hroom (by decide)) ?k9 ?kB ?kC ?kN ?c2 ?c3 ?c4 ?_
 walk_at "fn"
 case kB =>
  intro n x hx
  rw [List.mem_singleton.mp hx]
  exact .inr ⟨rfl,rfl⟩
 case kC =>
  intro n
  show (List.Nodup [Str.ofString "level",Str.ofString "text"])
  decide +kernel
 intro L Q E hL q
 exact b_read (cT:=L + 1) (cL:=L + 2) (Y:=Y) (tY:=t) (by constructor <;> first | rfl | exact ⟨rfl,rfl⟩) (ltr (Nat.succ_le_succ hroom) (by decide)) (ltr hz (by decide)) hzi hY.symm hok hR fun g' ev mk' evs ms a le hE hM ho => q.ret (h g' ev mk' evs ms a le hE hM ho)
noncomputable def tryB (s:Stmt):List Stmt:=(svS s).b
noncomputable def tryH (s:Stmt):List ExceptHandler:=(svS s).hs
noncomputable def tryP (s:Stmt):Pos:=(svS s).p
section
variable {g:Addr → Option Obj} {l:Fr1} {N:Ldg} {rs:Option Value} {o:Nat → Option Value}
theorem trX (h:∀ E,G (Z.sE E) g l N (go Z (tryB (smC c)) fun f => .fin (den Z (rsF c f)))) (hc:autoParam (HdSm (.Try (tryB (smC c)) (tryH (smC c)) [] [] (tryP (smC c))) c) aR) (hn:autoParam ((tryH (smC c)).isEmpty = false) aR):G Z g l N c:=Hr.mk fun s S => den_at hc.e (by
 generalize tryH (smC c) = hs at *
 cases hs with
 | nil => exact nomatch hn
 | cons h0 hs =>
  have key:∀ E',wpAny (model PG Z.w) (ar Z.d Z.u) (execs (tryB (smC c)) Z.env) (fun f => den Z (rsF c f)) E' s:=fun E' => (h E').run s S
  refine wpAny_Try_except (thn (key _) ?_)
  intro f s1 z
  cases f with
  | next => exact wpAny_execs_nil z
  | _ => exact z)
theorem law12 {J:Addr} {jvs dvs pvs:List Value} {kd wv:Option Value} {lam:Option Addr} {σ:Ts} {os:List T} {its:List Itm} {rd:Rd} (B:LEn Z.env cF) (hroom:Z.d ≤ 800) (hO:Txs σ.out os) (he:os.flatten = textOf its)
 (hz:(textOf its).length ≤ 900000) (hzi:its.length ≤ 1000) (hok:okSeq its) (hR:RSteps r0 its rd)
 (h:∀ g' ev mk' evs ms,gLe g g' → EvsR g' evs rd.evs → Txs ms rd.marks → G Z g' (setF (.ref mk') 29 (setF (.ref ev) 28 (lwF V mv rs pc (jnO J kd wv o)))) ((ev,Lst evs) :: (mk',Lst ms) :: (J,Lst jvs) :: lwL Z.w V dvs pvs lam σ X) (go Z (lawB.drop 13) K)) :
 G Z g (lwF V mv rs pc (jnO J kd wv o)) ((J,Lst jvs) :: lwL Z.w V dvs pvs lam σ X) (go Z (lawB.drop 12) K):=by
 refine letG ?_; intro c l N1
 refine nx ?_
 refine trX fun E => ?_
 refine letG ?_; intro c l N1
 refine nx ?_
 refine tuA ?_
 refine gl B.read (by k_is) ?_
 refine cwf ?_
 refine cs ?_; intro c l N1 t0
 refine gjn ?_
 refine ld 6 B.out ?_
 refine jnL 9 hO (by rw [he]; exact ltr hz (by decide)) ?_; intro c l N1 t1
 rw [he]
 refine cal (f_read (its:=its) (rd:=rd) Z.C (ltr hroom (by decide)) hz hzi hok hR fun g1 ev mk' evs ms a le1 hE hM ha => ?_)
 refine Hr.perm (((List.Perm.swap _ _ _).cons _).trans (.swap _ _ _)) ?_
 show G (Z.sE E) g1 l ((ev,Lst evs) :: (mk',Lst ms) :: N1) (rsV (rsV c (sv (textOf its) t1)) (.ref a))
 refine as2 28 29 B.events B.marks ha ?_
 exact Hr.mk fun s S => (h g1 ev mk' evs ms le1 hE hM).run s S
end
noncomputable def nT (i:Nat):T:=[110,48 + i]
theorem nT_str {i:Nat} (h:i < 9):Str.ofString (toString ((0 + i:Nat):Int)) = mk [48 + i]:=by
 have key:∀ j:_root_.Fin 9,Str.ofString (toString ((0 + j.val:Nat):Int)) = mk [48 + j.val]:=by decide +kernel
 exact key ⟨i,h⟩
theorem nT_log {i:Nat} (h:i < 9):((0 + i:Nat):Int).natAbs.log2 < 1920:=by
 have key:∀ j:_root_.Fin 9,((0 + j.val:Nat):Int).natAbs.log2 < 1920:=by decide +kernel
 exact key ⟨i,h⟩
theorem fit_rw (bare:Bool):∀ p ∈ fitP true bare,pfxS p ∈ [pfxS .xml] ++ (List.range 9).map nT:=by cases bare <;> decide +kernel
theorem fit_no (bare:Bool):∀ p ∈ fitP false bare,pfxS p ∈ [pfxS .em,pfxS .xml,pfxS .xs] ++ [pfxS .p,pfxS .q] ++ [pfxS .b,pfxS .c] ++ [pfxS (if bare then .e else .em),pfxS .d]:=by cases bare <;> decide +kernel
noncomputable def fitSc:Scope:=lcSc (evE (evE (cpS (atB lawB 13))).a).b
theorem fit_sc (env:Env):ScOk env [] fitSc:=⟨rfl,rfl,by decide +kernel,by decide +kernel⟩
noncomputable def mkSc:Scope:=lcSc (evE (svS (atB lawB 14)).x).a
theorem mk_sc (h:env.cells.lookup (Str.ofString "fit") = some cF):ScOk env [(Str.ofString "fit",cF)] mkSc:=⟨closOne (pre:=mkSc.names.take 2) (post:=[]) rfl rfl rfl h,rfl,by decide +kernel,by decide +kernel⟩
section
variable {g:Addr → Option Obj} {l:Fr1} {N:Ldg} {rs:Option Value} {o:Nat → Option Value}
theorem strI {i:Nat} (hi:i < 9) (h:let c':=c; let l':=l; let N':=N; ∀ t,G Z g l' N' (rsV c' (sv [48 + i] t))) (hc:autoParam (HdV (call (.type "str") [.int ((0 + i:Nat):Int) t]) c) aR):G Z g l N c:=Hr.mk fun s S => outV hc (PySem.P.str_of_int (nT_log hi) (by
 rw [nT_str hi]
 exact (h _).run _ S))
theorem adF {a b:Addr} {vs ws:List Value} (i:Nat) (D:GL g b ws) (h:let c':=c; let l':=l; let N':=N; ∀ a,G Z g l' ((a,Lst (vs ++ ws)) :: N') (rsV c' (.ref a)))
 (hk:autoParam (At (a,Lst vs) i N) aR) (hc:autoParam (HdV (binaryOp .Add (.ref a) (.ref b)) c) aR) (hz:vs.length + ws.length ≤ sizeLine:=by exact Nat.le_of_ble_eq_true rfl):G Z g l N c:=Hr.mk fun s S => outV hc (by
 have h1:=(S.plist (At.pk (i:=i + 1) hk)).choose_spec
 obtain ⟨o,h2,n,rfl⟩:=D
 refine P.add_list h1 (S.keep _ _ h2) ?_ (by simpa using hz)
 exact (h _).run _ (S.newIn (P:=Lst (vs ++ ws)) (o:={ cls:=.type "list",data:=.seq (vs.toArray ++ ws.toArray) }) rfl ⟨0,by simp⟩))
theorem ninF {a:Addr} {vs:List Value} {xs:List T} {x:T} (D:GL g a vs) (hT:Txs vs xs) (h:G Z g l N (rsB c false)) (hm:x ∈ xs) (hc:autoParam (HdC .NotIn (sv x t) (.ref a) c) aR):G Z g l N c:=Hr.mk fun s S => outC hc (notin_list_strs (D.of S) (txs_are hT) (by rw [any_mk,decide_eq_true hm]; exact wpAny_truthy_bool (h.run s S)))
theorem law13 {l0:Fr1} (B:LEn Z.env cF) (C:LC bare V g) (hf:At (Str.ofString "first",some (.int V.fr V.tf)) 1 l0) (hp:At (Str.ofString "prefixes",some (.ref V.pf)) 3 l0)
 (h:∀ g' FT fvs fs,gLe g g' → GL g' FT fvs → Txs fvs fs → (∀ p ∈ fitP (decide (V.fr.fmod 2 = 1)) bare,pfxS p ∈ fs) → G Z g' l0 ((cF,Cel (some (.ref FT))) :: N) (go Z (lawB.drop 14) K)) :
 G Z g l0 ((cF,Cel none) :: N) (go Z (lawB.drop 13) K):=by
 refine letG ?_; intro c l N1
 refine nx ?_
 refine ld 1 B.first ?_ (hv:=hf)
 refine ci ?_; intro c l N1 _
 refine mdI ?_; intro c l N1 _
 refine ci ?_; intro c l N1 _
 refine eqI ?_ ?_ <;> intro c l N1 hr
 · rw [decide_eq_true hr] at h
   refine csM (pfxS .xml) ?_; intro c l N1 t1
   refine nwL ?_; intro c l N1 D1
   refine lcG (fit_sc _) ?_
   refine bl (v:=.type "range") B.range (by k_is) boot_range (by decide) ?_
   refine ci ?_; intro c l N1 _
   refine rg1 ?_; intro c l N1 g2 rr t2 t3 t4 le2 hrr
   let KI:Nat → (Addr → Option Obj) → List Value → Prop:=fun i g' out => g' = g2 ∧ i ≤ 9 ∧ Txs out ((List.range i).map nT)
   refine coV (n:=9) (P:=Rg 0 9) (ok:=fun s => s.heap.get? rr = some (rgO ((0:Nat):Int) ((0 + 9:Nat):Int) t2 t3 t4)) (srcR (by decide)) (fit_sc _) ["k"]
    KI ?_ (fun N1 s g' le S => S.keep _ _ (le _ _ hrr)) ?_ ⟨rfl,Nat.zero_le _,trivial⟩ ?_ ?_
   · rintro j g' out ⟨_,hj,hT⟩
     rw [hT.len,List.length_map,List.length_range]; exact ltr hj (by decide)
   · rintro j g' out ⟨rfl,_⟩; exact gLe.rfl' _
   · rintro g' acc out ⟨rfl,_,hT⟩
     have hol:out.length = 9:=hT.len
     refine letG ?_; intro c l N1
     refine adL 1 0 ?_ (hz:=by rw [hol]; exact Nat.le_of_ble_eq_true rfl); intro c l N1 D6
     refine GL.fz fun g7 le7 G7 => ?_
     refine G.dropN 2 ?_
     refine stc 0 B.fit B.cf ?_
     exact h g7 D6 _ _ (le2.tr le7) G7 (Txs.app (Txs.one (pfxS .xml) t1) hT) (fit_rw bare)
   · rintro Lc hL E j v it acc g' out m Qe Qs hj ⟨t,rfl⟩ ⟨rfl,_,hT⟩ q
     refine letG ?_; intro c l N1
     refine Mine.st 0 (loC rfl) ?_
     refine csM [110] ?_; intro c l N1 _
     refine bl (v:=.type "str") (loC rfl) (by k_is) PyProof.Rows.boot_str (by decide) ?_
     refine ld 0 (loC rfl) ?_
     refine strI hj ?_; intro c l N1 _
     refine adT ?_; intro c l N1 _
     refine q.el ⟨rfl,hj,?_⟩
     rw [List.range_succ,List.map_append]
     exact hT.app (Txs.one (nT j) _)
 · rw [decide_eq_false hr] at h
   obtain ⟨a0,a1,a2,G0,⟨w0,P0,T0⟩,⟨w1,P1,T1⟩,⟨w2,P2,T2⟩⟩:=C.pf
   have z0:w0.length = 2:=T0.len
   have z1:w1.length = 2:=T1.len
   have z2:w2.length = 2:=T2.len
   refine csM (pfxS .em) ?_; intro c l N1 t1
   refine csM (pfxS .xml) ?_; intro c l N1 t2
   refine csM (pfxS .xs) ?_; intro c l N1 t3
   refine nwL ?_; intro c l N1 D1
   refine ld 3 B.prefixes ?_ (hv:=hp)
   refine ci ?_; intro c l N1 _
   refine itF (v:=.ref a0) (k:=0) G0 ?_ rfl (by decide) (by decide)
   refine adF 0 P0 ?_ (hz:=by rw [z0]; exact Nat.le_of_ble_eq_true rfl); intro c l N1 D2
   refine ld 3 B.prefixes ?_ (hv:=hp)
   refine ci ?_; intro c l N1 _
   refine itF (v:=.ref a1) (k:=1) G0 ?_ rfl (by decide) (by decide)
   refine adF 0 P1 ?_ (hz:=by rw [lap,z0,z1]; exact Nat.le_of_ble_eq_true rfl); intro c l N1 D3
   refine ld 3 B.prefixes ?_ (hv:=hp)
   refine ci ?_; intro c l N1 _
   refine itF (v:=.ref a2) (k:=2) G0 ?_ rfl (by decide) (by decide)
   refine adF 0 P2 ?_ (hz:=by rw [lap,lap,z0,z1,z2]; exact Nat.le_of_ble_eq_true rfl); intro c l N1 D4
   refine GL.fz fun g5 le5 G5 => ?_
   refine G.dropN 3 ?_
   refine stc 0 B.fit B.cf ?_
   exact h g5 D4 _ _ le5 G5 (((Txs.app (vs:=[sv (pfxS .em) t1,sv (pfxS .xml) t2,sv (pfxS .xs) t3]) (ps:=[pfxS .em,pfxS .xml,pfxS .xs]) ⟨⟨t1,rfl⟩,⟨t2,rfl⟩,⟨t3,rfl⟩,trivial⟩ T0).app T1).app T2) (fit_no bare)
theorem law14 {l0:Fr1} {FT mk':Addr} {fvs ms:List Value} {fs xs:List T} (B:LEn Z.env cF) (hu:Z.u ≤ 8000) (hm:At (Str.ofString "marks",some (.ref mk')) 29 l0) (D:GL g FT fvs) (hF:Txs fvs fs) (hT:Txs ms xs) (hall:∀ x ∈ xs,x ∈ fs)
 (h:G Z g l0 ((cF,Cel (some (.ref FT))) :: P0 :: (mk',Lst ms) :: N) (go Z (lawB.drop 15) K)) :
 G Z g l0 ((cF,Cel (some (.ref FT))) :: P0 :: (mk',Lst ms) :: N) (go Z (lawB.drop 14) K):=by
 refine letG ?_; intro c l N1
 refine nx ?_
 refine lcG (mk_sc B.cf) ?_
 refine ld 29 B.marks ?_ (hv:=hm)
 let KI:Nat → (Addr → Option Obj) → List Value → Prop:=fun i g' out => g' = g ∧ out = []
 refine coVL 2 (mk_sc B.cf) ["mark"] KI ?_ ?_ ⟨rfl,rfl⟩ ?_ ?_
 · rintro j g' out ⟨_,rfl⟩; exact Nat.zero_le _
 · rintro j g' out ⟨rfl,_⟩; exact gLe.rfl' _
 · rintro g' acc out ⟨rfl,rfl⟩
   refine letG ?_; intro c l N1
   refine nwL ?_; intro c l N1 D0
   refine neP (pvs:=[]) (es:=[]) 1 (ltr hu (by decide)) trivial ?_
   refine G.dropN 2 ?_
   exact h
 · rintro Lc hL E j v it acc g' out m Qe Qs hv ⟨rfl,rfl⟩ q
   obtain ⟨x,t,hx,rfl⟩:=hT.get hv
   refine letG ?_; intro c l N1
   refine Mine.st 0 (loC rfl) ?_
   refine ld 0 (loC rfl) ?_
   refine ldc 3 (loF rfl Z.kf B.fit) rfl ?_
   refine ninF D hF ?_ (hall x (List.mem_of_getElem? hx))
   exact q.sk ⟨rfl,rfl⟩
end
section
variable {s:Shared} {g:Addr → Option Obj}
theorem subTail {lo up:Option Expr} {p:Pos} {o i:Value} {T:String} (hT:s.TypeIs o T) (hl:typeLookup (.type T) "__getitem__" = pure (some (.builtin id)))
 (h:wpAny (model PG w) A (getItem o i) Q E s):wpAny (model PG w) A (subscriptTail value (.Slice lo up none p) o i) Q E s:=by
 unfold subscriptTail
 refine wpAny_bind ?_
 rw [getitemInPython_of_ne hT.not_modules]
 refine wpAny_bind (wpAny_specialOf hT hl ?_)
 have fin:wpAny (model PG w) A (operate [i,o] (getItem o i)) (fun r s₃ => wpAny (model PG w) A (letTemporaryGo value o r >>= fun ι => pure r) Q E s₃) E s:=
  wpAny_operating (wpAny_mono h (fun r s₃ h₃ => wpAny_bind (wpAny_letTemporaryGo (wpAny_pure h₃))) fun _ _ x => x)
 first
  | exact wpAny_pure (wpAny_bind fin)
  | exact wpAny_bind (wpAny_pure (wpAny_bind fin))
  | exact wpAny_bind fin
theorem rdLvls {decl:List (Addr × List Value)} {ls:List Lvl} (hg:∀ l ∈ decl,GL g l.1 l.2) (h:PrsL g decl ls):RdVs g (decl.map fun l => .ref l.1) (ls.map lvlD):=by
 induction decl generalizing ls with
 | nil =>
  cases ls with
  | nil => exact RdVs.nil _
  | cons _ _ => exact h.elim
 | cons a r ih =>
  cases ls with
  | nil => exact h.elim
  | cons l ls => exact RdVs.cons (RdV.lst (hg a (List.mem_cons_self ..)) (rdPrs h.1)) (ih (fun x hx => hg x (List.mem_cons_of_mem _ hx)) h.2)
theorem rdDecl {decl:List (Addr × List Value)} (hg:∀ l ∈ decl,GL g l.1 l.2) (h:PrsL g decl [[(.xml,.xml)]]):RdVs g (rfs decl) [lvlD [(.xml,.xml)]]:=by
 match decl,h with
 | [a],h => exact rdLvls (decl:=[a]) (ls:=[[(.xml,.xml)]]) hg h
theorem rdNss {nss:List (Addr × List Value)} {root:Lvl} {b:Nat} (hb:b = if rw then 0 else 1) (hg:∀ l ∈ nss,GL g l.1 l.2) (h:PrsL g nss (root :: (if rw = true then [] else [nsL]))):RdVs g ((rfs nss).drop b) [lvlD root]:=by
 subst hb
 cases rw with
 | true =>
  match nss,h with
  | [a],h => exact rdLvls (decl:=[a]) (ls:=[root]) hg h
 | false =>
  match nss,h with
  | [a,c],h => exact rdLvls (decl:=[a]) (ls:=[root]) (fun l hl => hg l (by rw [List.mem_singleton.mp hl]; exact List.mem_cons_self ..)) ⟨h.1,trivial⟩
theorem bitOf {fr:Int} (hrw:rw = decide (fr.fmod 2 = 1)):∃ b:Nat,1 - fr.fmod 2 = ((b:Nat):Int) ∧ b = if rw then 0 else 1:=by
 obtain ⟨j,e,hj⟩:=fm_nat fr (k:=2) (by decide)
 rw [hrw,e]
 match j,ltN (m:=2) hj with
 | 0,_ => exact ⟨1,rfl,rfl⟩
 | 1,_ => exact ⟨0,rfl,rfl⟩
end
noncomputable def bo1 (e:Expr):Expr:=(evE e).es.headD dkE
noncomputable def bo2 (e:Expr):Expr:=((evE e).es.drop 1).headD dkE
noncomputable def boP (e:Expr):Pos:=(evE e).p
noncomputable def rsAn (env:Env) (c:Tr):Tr:=evT env 20 (bo1 (exC c)) fun v => .bl (truthy v) fun b => match b with
 | true => evT env 20 (bo2 (exC c)) (rsV c)
 | false => rsV c v
section
variable {g:Addr → Option Obj} {l:Fr1} {N:Ldg} {rs:Option Value} {o:Nat → Option Value}
theorem anX (h:G Z g l N (rsAn Z.env c)) (hc:autoParam (HdEx () c) aR) (he:autoParam (exC c = .BoolOp .And [bo1 (exC c),bo2 (exC c)] (boP (exC c))) aR):G Z g l N c:=Hr.mk fun s S => den_at hc.e (by
 have h:=h.run s S
 unfold rsAn at h
 show wpAny _ _ (eval (exC c) Z.env) _ _ _
 rw [he]
 generalize bo1 (exC c) = a at *
 generalize bo2 (exC c) = b at *
 have h:den Z (evT Z.env 20 a fun v => .bl (truthy v) fun t => match t with
  | true => evT Z.env 20 b (rsV c)
  | false => rsV c v) s:=h
 refine BoolOp_and (thn (evT_ok 20 h) fun v s1 z => ?_)
 have z:wz Z (truthy v) (fun t => den Z (match t with
  | true => evT Z.env 20 b (rsV c)
  | false => rsV c v)) s1:=z
 refine thn z fun t s2 z => ?_
 cases t with
 | true =>
  have z:den Z (evT Z.env 20 b (rsV c)) s2:=z
  exact ifY rfl (BoolOp_one (evT_ok 20 z))
 | false => exact ifN Bool.false_ne_true z)
theorem slLA (h:G Z g l N (rsSlL Z c)) (hc:autoParam (HdEx () c) aR) (he:autoParam (isSl (exC c)) aR):G Z g l N c:=Hr.mk fun s S => den_at hc.e (by
 have h:=h.run s S
 unfold rsSlL at h
 have he:exC c = .Subscript (sbV (exC c)) (.Slice (slA (sbS (exC c))) (slB (sbS (exC c))) none (sbP (sbS (exC c)))) (sbP (exC c)):=he
 show wpAny _ _ (eval (exC c) Z.env) _ _ _
 rw [he]
 generalize sbV (exC c) = v at *
 generalize slA (sbS (exC c)) = a at *
 generalize slB (sbS (exC c)) = b at *
 have h:den Z (evT Z.env 20 v fun o => partT (evT Z.env 20) a fun i => partT (evT Z.env 20) b fun j => .fin (slK Z (rsV c) o i j)) s:=h
 refine Subscript_ (thn (evT_ok 20 h) fun o s1 z => wpAny_Slice (thn (partT_ok z) fun i s2 z => thn (partT_ok z) fun j s3 z => evalPart_none_step ?_))
 obtain ⟨l,items,rfl,hl,z⟩:=z
 exact subTail (T:="list") (hl.push { cls:=.type "slice",data:=.fields #[i,j,.none] }).typeIs slot_list_getitem.lookup z)
theorem RdVs.up {g':Addr → Option Obj} {vs:List Value} (le:gLe g g') (q:RdVs g vs ds):RdVs g' vs ds:=fun hp hk => q hp fun b o e => hk b o (le b o e)
theorem RdVs.one {v:Value} {d:PyData} (h:RdV g v d):RdVs g [v] [d]:=RdVs.cons h (RdVs.nil g)
theorem law15 {ev J mk':Addr} {kd wv:Option Value} {evs jvs rps:List Value} {es:List Ev} {decl nss:List (Addr × List Value)} {root:Lvl} {tr td:Bool} (B:LEn Z.env cF) (hu:Z.u ≤ 8000) (Gev:GL g ev evs) (hE:EvsR g evs es) (GJ:GL g J jvs) (hJ:EvsR g jvs es) (hS:∀ e ∈ es,EvS e)
 (I:TgIn g V.t) (Gds:GL g V.t.ds (rfs decl)) (Gns:GL g V.t.ns (rfs nss)) (hd:PrsL g decl [[(.xml,.xml)]]) (hn:PrsL g nss (root :: (if V.t.rw = true then [] else [nsL]))) (hdl:∀ l ∈ decl,GL g l.1 l.2) (hnl:∀ l ∈ nss,GL g l.1 l.2) (hrw:V.t.rw = decide (V.fr.fmod 2 = 1)) (Grt:GL g V.rt rps) (hrt:Prs g rps root) (hz:nss.length ≤ 1000)
 (h:∀ g' l,gLe g g' → G Z g' l ((V.t.dx,Is (tObj Z.w.params V.t tr td)) :: N) (K (.ret (.bool true)))) :
 G Z g (setF (.ref mk') 29 (setF (.ref ev) 28 (lwF V mv rs pc (jnO J kd wv o)))) ((V.t.dx,Is (tObj Z.w.params V.t tr td)) :: N) (go Z (lawB.drop 15) K):=by
 obtain ⟨b,hb,hb2⟩:=bitOf hrw
 have hzn:(rfs nss).length ≤ 100000:=by rw [List.length_map,List.length_reverse]; exact ltr hz (by decide)
 refine letG ?_; intro c l N1
 refine nx ?_
 refine anX ?_
 refine ld 28 B.events ?_
 refine ld 25 B.joined ?_
 refine eqD hu (RdV.lst Gev (rdEvs hE)) (RdV.lst GJ (rdEvs hJ)) (shp_evs hS) (by decide) ?_
 refine tb ?_
 refine ld 10 B.target ?_
 refine gdst I 0 ?_
 refine slLA ?_
 refine ld 10 B.target ?_
 refine gnst I 0 ?_
 refine ci ?_; intro c l N1 _
 refine ld 1 B.first ?_
 refine ci ?_; intro c l N1 _
 refine mdI ?_; intro c l N1 _
 refine sbI ?_; intro c l N1 _
 rw [hb]
 refine lsFrom (vs:=rfs nss) (b:=b) (fun s S => Gns.of S) hzn ?_; intro k l N1 D1
 refine GL.fz fun g1 le1 G1 => ?_
 refine nwL ?_; intro c l N1 L2
 refine GL.fz fun g2 le2 G2 => ?_
 refine ld 0 B.xml ?_
 refine csM (pfxS .xml) ?_; intro c l N1 _
 refine nwT ?_; intro c l N1 g3 b3 le3 ho3
 refine nwL ?_; intro c l N1 L4
 refine GL.fz fun g4 le4 G4 => ?_
 refine nwL ?_; intro c l N1 L5
 refine GL.fz fun g5 le5 G5 => ?_
 refine ld 9 B.root ?_
 refine nwL ?_; intro c l N1 L6
 refine GL.fz fun g6 le6 G6 => ?_
 refine nwL ?_; intro c l N1 L7
 refine GL.fz fun g7 le7 G7 => ?_
 have l56:gLe g5 g7:=le6.tr le7
 have l36:gLe g3 g7:=le4.tr (le5.tr l56)
 have l16:gLe g1 g7:=le2.tr (le3.tr l36)
 have l06:gLe g g7:=le1.tr l16
 have ra:RdV g7 (.ref V.t.ds) (.list [lvlD [(.xml,.xml)]]):=RdV.lst (Gds.up l06) ((rdDecl hdl hd).up l06)
 have rb:RdV g7 (.ref D1) (.list [lvlD root]):=RdV.lst (G1.up l16) ((rdNss hb2 hnl hn).up l06)
 have rl:RdV g7 (.ref L2) (.list [.list [lvlD [(.xml,.xml)]],.list [lvlD root]]):=RdV.lst (G2.up (le3.tr l36)) (RdVs.cons ra (RdVs.one rb))
 have rr:RdV g7 (.ref L7) (.list [.list [lvlD [(.xml,.xml)]],.list [lvlD root]]):=RdV.lst G7 (RdVs.cons (RdV.lst (G5.up l56) (RdVs.one (RdV.lst (G4.up (le5.tr l56)) (RdVs.one (RdV.tup (l36 _ _ ho3) (RdVs.cons (RdV.str _ _ _) (RdVs.one (RdV.str _ _ _)))))))) (RdVs.one (RdV.lst (G6.up le7) (RdVs.one (RdV.lst (Grt.up l06) ((rdPrs hrt).up l06))))))
 have one:∀ l:Lvl,Shp 3 (.list [lvlD l]):=fun l => Shp.list fun d hd => by rw [List.mem_singleton.mp hd]; exact shp_lvl (n:=0) _
 have sh2:Shp 4 (.list [.list [lvlD [(.xml,.xml)]],.list [lvlD root]]):=Shp.list fun d hd => by
  rcases List.mem_cons.mp hd with rfl | hd
  · exact one _
  · rw [List.mem_singleton.mp hd]; exact one _
 refine eqD hu rl rr sh2 (by decide) ?_
 exact h g7 _ l06
end
theorem perm12 (x0 x1 x2 x3 x4 x5 x6 x7 x8 x9 x10 x11:α):([x0,x1,x2,x3,x4] ++ [x5,x6,x7,x8,x9,x10,x11]).Perm ([x8,x7,x4,x5,x3,x2,x1,x0,x9] ++ [x11,x6,x10]):=by
 have f:∃ f:Nat → α,f = fun i => match i with | 0 => x0 | 1 => x1 | 2 => x2 | 3 => x3 | 4 => x4 | 5 => x5 | 6 => x6 | 7 => x7 | 8 => x8 | 9 => x9 | 10 => x10 | _ => x11:=⟨_,rfl⟩
 obtain ⟨f,e⟩:=f
 have h:=List.Perm.map f (by decide:[0,1,2,3,4,5,6,7,8,9,10,11].Perm [8,7,4,5,3,2,1,0,9,11,6,10])
 subst e
 exact h
section
variable {g:Addr → Option Obj} {l:Fr1} {N:Ldg} {sc:Addr} {rs:Option Value} {o:Nat → Option Value}
theorem G.fzN (h:∀ g',gLe g g' → (∀ p ∈ N2,∃ o,g' p.1 = some o ∧ p.2 o) → G Z g' l N1 c):G Z g l (N2 ++ N1) c:=Hr.mk fun s S =>
 St.freeze (N:=(Z.env.locals,Frm l) :: N1) (N₂:=N2) (S.perm (.cons _ List.perm_append_comm)) fun g' le S' ho _ => (h g' le ho).run s S'
theorem lawEnd {q:Sc} {k:Nat} {σ:Ts} {lam:Option Addr} {dvs pvs:List Value} (B:LEn Z.env cF) (hroom:Z.d ≤ 800) (hu:Z.u ≤ 8000) (hrw:V.t.rw = decide (V.fr.fmod 2 = 1)) (hk:k ≤ 130) (hk0:k ≠ 0) (I:Inv V.t.rw bare k q) (hp:q.path = []) (R:LR V bare true g0 g q σ dvs pvs)
 (h:∀ g' l lam P,G Z g' l (P :: LamL lamP lamQ lam) (K (.ret (.bool true)))) :
 G Z g (lwF V mv rs pc o) (lwL Z.w V dvs pvs lam σ [(cF,Cel none)]) (go Z (lawB.drop 10) K):=by
 obtain ⟨its,r,ok,zi,hR,zt,ho,hj,hm,hdl,hnl⟩:=I.done hk hp
 refine law11 B hu R.D R.O I.h0.1 (I.h0.2.2 hk0) (ltr I.zu hk) fun g2 J kd wv jvs le2 hJ Jk => ?_
 have R2:=R.up le2
 refine law12 (its:=its) (rd:=r) B hroom R2.T.out ho zt zi ok hR fun g3 ev mk' evs ms le3 hE hM => ?_
 have R3:=R2.up le3
 refine G.perm (rt_front [_,_,_,_,_] (TP Z.w V.t σ) (LamL lamP lamQ lam) [] (cF,Cel none)) ?_
 refine law13 (bare:=bare) B R3.C rfl rfl fun g4 FT fvs fs le4 GF hF hfit => ?_
 have R4:=R3.up le4
 rw [← hrw] at hfit
 refine law14 B hu rfl GF hF hM (fun x hx => let ⟨p,hp,e⟩:=hm x hx; e ▸ hfit p hp) ?_
 refine G.perm (N1:=([(cF,Cel (some (.ref FT))),(ev,Lst evs),(mk',Lst ms),(J,Lst jvs),(V.due,Lst dvs),(V.pth,Lst pvs)] ++ (TP Z.w V.t σ).tail) ++ ((V.t.dx,Is (tObj Z.w.params V.t σ.rs σ.rd)) :: LamL lamP lamQ lam)) ?_ (G.fzN fun g7 le7 fz => ?_)
 · rw [List.append_assoc]
   refine List.Perm.append_left [_,_,_,_,_,_] ?_
   show ((V.t.dx,Is (tObj Z.w.params V.t σ.rs σ.rd)) :: ((TP Z.w V.t σ).tail ++ (LamL lamP lamQ lam ++ []))).Perm _
   rw [List.append_nil]
   exact List.perm_middle.symm
 have R7:=R4.up le7
 obtain ⟨rps,Grt,hrt⟩:=R7.R rfl
 have hdp:=R7.T.R.D
 have hnp:=R7.T.R.NS
 rw [hdl] at hdp
 rw [hnl] at hnp
 have hzn:σ.nss.length ≤ 1000:=by
  rw [hnp.len]
  cases V.t.rw <;> exact Nat.le_of_ble_eq_true rfl
 rw [hj] at hJ Jk
 refine law15 B hu (fz _ (List.mem_append_left _ (.tail _ (.head _)))) (hE.up (le4.tr le7)) (fz _ (List.mem_append_left _ (.tail _ (.tail _ (.tail _ (.head _)))))) (hJ.up (le3.tr (le4.tr le7))) Jk.ok R7.T.R.I
  (fz _ (List.mem_append_right _ (.tail _ (.head _)))) (fz _ (List.mem_append_right _ (.tail _ (.tail _ (.head _))))) hdp hnp ?_ ?_ hrw Grt hrt hzn fun g8 l8 le8 => h g8 l8 lam _
 · exact fun l hl => fz _ (List.mem_append_right _ (.tail _ (.tail _ (.tail _ (.tail _ (.tail _ (.tail _ (List.mem_append_left _ (List.mem_map_of_mem hl)))))))))
 · exact fun l hl => fz _ (List.mem_append_right _ (.tail _ (.tail _ (.tail _ (.tail _ (.tail _ (.tail _ (List.mem_append_right _ (List.mem_map_of_mem hl)))))))))
theorem lawAll {vs:List Value} {ns:List Int} (C:Cy Z.w Z.H0) (B:LEn Z.env cF) (hroom:Z.d ≤ 800) (hu:Z.u ≤ 8000) (Gs:GI g sc vs) (hi:IntsAre vs ns) (hz:ns.length ≤ 63)
 (h:∀ g' l lam P,G Z g' l (P :: LamL lamP lamQ lam) (K (.ret (.bool true)))) :
 G Z g (lwI (lf0 sc)) ((cF,Cel none) :: LamL lamP lamQ none) (go Z lawB K):=by
 refine law0 B Gs hi hz fun g1 tx ty fr tf le1 => ?_
 refine law1 B fun g2 ow pf le2 Go Gp => ?_
 refine law2 B fun g3 tg ky le3 Gt Gk => ?_
 refine law3 B fun g4 ou du pt rt le4 => ?_
 refine law6 B hroom fun g5 t decl nss le5 hpm e1 e2 hx hw hd hn => ?_
 subst e1
 have l15:=le2.tr (le3.tr (le4.tr le5))
 refine law7 B hx fun k => ?_
 refine law8 B (Gs.up (le1.tr l15)) hi hz fun g7 mvA mvs le7 Gm hV => ?_
 have l:=le4.tr (le5.tr le7)
 have l3:=le3.tr l
 obtain ⟨a0,a1,a2,h1,h2,h3,h4⟩:=Gp
 refine G.perm (permT (A:=[_,_,_,_,_]) (R:=[_,_,_,_,_,_,_]) (T:=[_,_,_,_,_,_,_,_,_]) (S:=[_,_,_]) (decl.map lvP) (nss.map lvP) (perm12 (t.ps,Lst [.bool false]) (t.pm,Dct Z.w []) (t.ns,Lst (rfs nss)) (t.ds,Lst (rfs decl)) (t.dx,Is (tObj Z.w.params (t.wt k) false false)) (t.da,Lst []) (rt,Lst []) (pt,Lst []) (du,Lst []) (t.out,Lst []) (cF,Cel none) (116,Is (tabObj #[])))) ?_
 have R0:LR ⟨ow,pf,tg,ky,du,pt,rt,t.wt k,fr,tx,tf⟩ (decide ((fr.fdiv 2).fmod 2 = 1)) false g7 g7 ⟨Mine.a0 t.rw,[],[],[]⟩ ⟨false,false,[],decl,nss,[],1,[]⟩ [] []:=
  ⟨gLe.rfl' _,⟨Go.up l3,Gt.up l,Gk.up l,a0,a1,a2,h1.up l3,h2.up l3,h3.up l3,h4.up l3⟩,⟨⟨⟨le7 _ _ hx,le7 _ _ hw,notSys Z.C hpm⟩,hd.up le7,hn.up le7,trivial⟩,trivial,trivial,rfl,rfl,rfl⟩,trivial,trivial,(fun z => nomatch z),fun e he => nomatch he⟩
 exact lawLoop (r:=lawB.drop 10) (X:=[(cF,Cel none)]) (mv:=none) (rs:=none) (pc:=none) (o:=fun | 7 => some (.ref sc) | 8 => some (sv (uriS .xs) ty) | 9 => some (.bool (decide ((fr.fdiv 2).fmod 2 = 1))) | _ => none) C B hroom hu (nt_cons (nt_cel _) fun p hp => nomatch hp) Gm hV hz R0 fun g9 mv rs pc o' σ lam dvs pvs q k9 hk hk0 I hp R => lawEnd B hroom hu e2 hk hk0 I hp R h
end
theorem St.start {h1:Heap} {s:Shared} {c:Addr} {o:Obj} {v:Option Value} (F:Fr (ghostOf h1 [(118,116)]) L s.heap m) (N:News (ghostOf h1 [(118,116)]) L s.heap [(c,o),(116,tabObj #[])]) (hc:c = L + 1) (hT:116 < L) (ho:o.data = .cell v) :
 St { s with heap:=ghostOf h1 [(118,116)] } (ghostOf h1 [(118,116)]).get? ((L,Nsp m) :: (c,Cel v) :: LamL lamP lamQ none) s:=by
 obtain ⟨n1,_,n3⟩:=N (c,o) (List.mem_cons_self ..)
 obtain ⟨t1,_,t3⟩:=N (116,tabObj #[]) (List.mem_cons_of_mem _ (List.mem_cons_self ..))
 obtain ⟨oL,es,ep,l1,l2,l3,l4⟩:=F.ns
 refine ⟨F.keep,fun _ _ e => e,fun p hp => ?_,?_,ltr F.above (Nat.le_of_lt (Heap.lt_size l1)),rfl,rfl⟩
 · rcases List.mem_cons.mp hp with rfl | hp
   · refine ⟨⟨oL,l1,es,ep,l2,l3,l4⟩,?_⟩
     cases e:(ghostOf h1 [(118,116)]).get? L with
     | none => rfl
     | some x => exact absurd (Heap.lt_size e) (Nat.not_lt.mpr F.above)
   · rcases List.mem_cons.mp hp with rfl | hp
     · exact ⟨⟨o,n1,ho⟩,n3⟩
     · rw [List.mem_singleton.mp hp]
       exact ⟨⟨_,t1,rfl⟩,t3⟩
 · subst hc
   have h1:L ≠ 116:=Nat.ne_of_gt hT
   have h2:L + 1 ≠ 116:=Nat.ne_of_gt (Nat.lt_succ_of_lt hT)
   show [L,L + 1,116].Nodup
   simp [h1,h2]
theorem toLaw {s:Shared} {h1:Heap} {sc:Addr} {vs:List Value} {ns:List Int} {Q:Flow → Shared → Prop} {o:Obj} {p:Program} {loose:List Str} {mean:ExcName → Option Value} {mg mb:Str → Option Value}
 (X:(hd.heap_1 w.params).In (ghostOf h1 [(118,116)])) (T:Top p loose mean mg mb (ghostOf h1 [(118,116)])) (K:CodeHd (ghostOf h1 [(118,116)]) 118 116) (F:Fr (ghostOf h1 [(118,116)]) L s.heap m) (N:News (ghostOf h1 [(118,116)]) L s.heap [(cF,o),(116,tabObj #[])]) (hc:cF = L + 1) (hT:116 < L) (ho:o.data = .cell none)
 (hl:(ghostOf h1 [(118,116)]).IsList sc vs.toArray) (hi:IntsAre vs ns) (hz:ns.length ≤ 63) (hm:frV lwN m = lwI (lf0 sc)) (B:LEn env cF) (hE:env.locals = L) (hk:env.scope.kind = .function) (hg:env.globals = mainGlobals) (hb:env.builtins = builtinsNs) (hA:A.handled = none ∧ A.depth ≤ 800 ∧ A.units ≤ 8000)
 (k:∀ s',s'.gens = s.gens → s'.os = s.os → (∀ b o,(ghostOf h1 [(118,116)]).get? b = some o → s'.heap.get? b = some o) → GrownAt 116 s'.heap → Q (.ret (.bool true)) s') :
 wpAny (model PG w) A (execs lawB env) Q E s:=by
 subst hE
 have Cx':Cx w { s with heap:=ghostOf h1 [(118,116)] }:=⟨X,p,loose,mg,mb,topRead_of T⟩
 have C:Cy w { s with heap:=ghostOf h1 [(118,116)] }:=⟨Cx',K,let ⟨bm,ob,q1,q2⟩:=T.bmain; ⟨mg,bm,ob,T.g,q1,q2⟩⟩
 refine wpAny_wider (B:=ar A.depth A.units) ⟨hA.1,Nat.le_refl _,rfl,rfl,Nat.le_refl _⟩ ?_
 have key:=lawAll (Z:=⟨w,A.depth,A.units,E,env,{ s with heap:=ghostOf h1 [(118,116)] },Cx',F.above,hk,hg,hb⟩) (K:=finT Q) (g:=(ghostOf h1 [(118,116)]).get?) C B hA.2.1 hA.2.2 hl hi hz fun g' l lam P => Hr.mk fun s' S' => by
  have gr:GrownAt 116 s'.heap:=by
   cases lam with
   | none =>
    obtain ⟨o,h1,h2⟩:=(S'.has (116,Is (tabObj #[])) (.tail _ (.tail _ (.head _)))).1
    exact ⟨_,(show o = _ from h2) ▸ h1⟩
   | some cd =>
    obtain ⟨o,h1,h2⟩:=(S'.has (116,Is (tabObj #[rawInt lamP.line,rawInt lamP.col,.ref cd])) (.tail _ (.tail _ (.head _)))).1
    exact ⟨_,(show o = _ from h2) ▸ h1⟩
  exact k s' S'.gens S'.os (fun b o e => S'.keep b o (S'.low b o e)) gr
 have S0:=frV_ok lwN (by kernel_rfl) (St.start F N hc hT ho)
 rw [hm] at S0
 exact key.run s S0
end Mine
set_option maxRecDepth 100000 in
set_option maxHeartbeats 8000000 in
set_option pp.deepTerms false in
set_option pp.maxSteps 3000 in
theorem PySem.Challenge.cw_dn0278_11_holds : PySem.Challenge.rw_dn0278_11.Holds :=
  (fun H : PySem.Challenge.rw_dn0278_11.row.Holds => ⟨Mine.ws H.1, H⟩) (hd (by
 k_go0
 rename_i w s₀ s₁ mg mb G Y fa o pm cd doc ho hcd hg X V T B TE TW ns hs hlay0 hL1 hr1 hl2 as5 as4 l vs as1 hL ra w1 r0 hI hr cond condT hD h1 tk1 cell hcell X0 X' T' K' F' N' l0
 refine Mine.toLaw (cF := s₁.heap.objs.size + 1) (L := s₁.heap.objs.size) (sc := l) (vs := vs) (ns := ns) X' T' codeHd F' N' rfl l0 hcell lifted hI (by omega) ?_ ?_ ?_ ?_ ?_ ?_ ?_ fun s' e1 e2 kp gr => ?_
 · rfl
 · constructor <;> first | rfl | exact ⟨rfl, rfl⟩
 · rfl
 · rfl
 · rfl
 · rfl
 · exact ⟨rfl, show 1 + claimMargin + 1 ≤ 800 by decide +kernel, show 4 + 3 ≤ 8000 by decide⟩
 · exact ⟨⟨.inl ⟨.bool true, .bool true, [], rfl, fun ι => rfl, .bool true, by kernel_rfl, fun ι => ⟨List.nodup_nil, fun _ h => nomatch h⟩⟩, kp, e2, e1.trans hg⟩, gr, trivial⟩))
