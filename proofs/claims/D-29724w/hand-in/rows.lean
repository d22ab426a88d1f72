section
-- ===== PART A: goes FIRST, ahead of the names: the tables' words, and 'selects' of the private methods out of them =====
/-- a private method of a class that the tables say can be made, by its rows of tables_1 -/
def lw_okq (q : MethodName × Nat) : Prop := (q.1.cls ≠ "java/lang/invoke/MethodHandle" ∧ q.1.cls ≠ "java/lang/invoke/VarHandle") ∧ Cond.instantiable q.1.cls q.2 ∈ tables_1 ∧ Cond.privateMethod q.1 ∈ tables_1 ∧ Cond.instanceMethod q.1 ∈ tables_1
set_option maxRecDepth 100000
theorem lw_t1 {w : Cond} (h : w ∈ tables_1_1) : w ∈ tables_1 := List.mem_append_left _ h
theorem lw_t2 {w : Cond} (h : w ∈ tables_1_2) : w ∈ tables_1 := List.mem_append_right _ h
theorem lw_p0 : lw_okq (⟨"SmDigestDesk", "from", "(I)I"⟩, 5) := ⟨⟨by decide +kernel, by decide +kernel⟩, lw_t1 (List.mem_of_getElem? (i := 15) rfl), lw_t1 (List.mem_of_getElem? (i := 13) rfl), lw_t1 (List.mem_of_getElem? (i := 14) rfl)⟩
theorem lw_p1 : lw_okq (⟨"SmDigestDesk", "count", "(II)I"⟩, 5) := ⟨⟨by decide +kernel, by decide +kernel⟩, lw_t1 (List.mem_of_getElem? (i := 15) rfl), lw_t1 (List.mem_of_getElem? (i := 19) rfl), lw_t1 (List.mem_of_getElem? (i := 20) rfl)⟩
theorem lw_p2 : lw_okq (⟨"SM3Digest", "P1", "(I)I"⟩, 8) := ⟨⟨by decide +kernel, by decide +kernel⟩, lw_t1 (List.mem_of_getElem? (i := 51) rfl), lw_t1 (List.mem_of_getElem? (i := 49) rfl), lw_t1 (List.mem_of_getElem? (i := 50) rfl)⟩
theorem lw_p3 : lw_okq (⟨"SM3Digest", "FF0", "(III)I"⟩, 8) := ⟨⟨by decide +kernel, by decide +kernel⟩, lw_t1 (List.mem_of_getElem? (i := 51) rfl), lw_t1 (List.mem_of_getElem? (i := 56) rfl), lw_t1 (List.mem_of_getElem? (i := 57) rfl)⟩
theorem lw_p4 : lw_okq (⟨"SM3Digest", "GG0", "(III)I"⟩, 8) := ⟨⟨by decide +kernel, by decide +kernel⟩, lw_t1 (List.mem_of_getElem? (i := 51) rfl), lw_t1 (List.mem_of_getElem? (i := 60) rfl), lw_t1 (List.mem_of_getElem? (i := 61) rfl)⟩
theorem lw_p5 : lw_okq (⟨"SM3Digest", "P0", "(I)I"⟩, 8) := ⟨⟨by decide +kernel, by decide +kernel⟩, lw_t1 (List.mem_of_getElem? (i := 51) rfl), lw_t1 (List.mem_of_getElem? (i := 64) rfl), lw_t1 (List.mem_of_getElem? (i := 65) rfl)⟩
theorem lw_p6 : lw_okq (⟨"SM3Digest", "FF1", "(III)I"⟩, 8) := ⟨⟨by decide +kernel, by decide +kernel⟩, lw_t1 (List.mem_of_getElem? (i := 51) rfl), lw_t1 (List.mem_of_getElem? (i := 68) rfl), lw_t1 (List.mem_of_getElem? (i := 69) rfl)⟩
theorem lw_p7 : lw_okq (⟨"SM3Digest", "GG1", "(III)I"⟩, 8) := ⟨⟨by decide +kernel, by decide +kernel⟩, lw_t1 (List.mem_of_getElem? (i := 51) rfl), lw_t1 (List.mem_of_getElem? (i := 72) rfl), lw_t1 (List.mem_of_getElem? (i := 73) rfl)⟩
theorem lw_p8 : lw_okq (⟨"SmDigestDesk", "word", "(II)V"⟩, 5) := ⟨⟨by decide +kernel, by decide +kernel⟩, lw_t1 (List.mem_of_getElem? (i := 15) rfl), lw_t1 (List.mem_of_getElem? (i := 224) rfl), lw_t1 (List.mem_of_getElem? (i := 225) rfl)⟩
def lw_privs_1 : List (MethodName × Nat) := [(⟨"SmDigestDesk", "from", "(I)I"⟩, 5), (⟨"SmDigestDesk", "count", "(II)I"⟩, 5), (⟨"SM3Digest", "P1", "(I)I"⟩, 8), (⟨"SM3Digest", "FF0", "(III)I"⟩, 8), (⟨"SM3Digest", "GG0", "(III)I"⟩, 8), (⟨"SM3Digest", "P0", "(I)I"⟩, 8), (⟨"SM3Digest", "FF1", "(III)I"⟩, 8), (⟨"SM3Digest", "GG1", "(III)I"⟩, 8), (⟨"SmDigestDesk", "word", "(II)V"⟩, 5)]
theorem lw_r1 : ∀ q ∈ lw_privs_1, lw_okq q := List.forall_mem_cons.mpr ⟨lw_p0, List.forall_mem_cons.mpr ⟨lw_p1, List.forall_mem_cons.mpr ⟨lw_p2, List.forall_mem_cons.mpr ⟨lw_p3, List.forall_mem_cons.mpr ⟨lw_p4, List.forall_mem_cons.mpr ⟨lw_p5, List.forall_mem_cons.mpr ⟨lw_p6, List.forall_mem_cons.mpr ⟨lw_p7, List.forall_mem_cons.mpr ⟨lw_p8, fun _ h => absurd h List.not_mem_nil⟩⟩⟩⟩⟩⟩⟩⟩⟩
def lw_privs : List (MethodName × Nat) := lw_privs_1
def lw_tbl : List Cond := k2_sels lw_privs ++ tables_1
theorem lw_privs_ok : ∀ q ∈ lw_privs, lw_okq q := lw_r1
-- ===== ONE list of words for every method: the tables' words that hold all through a run =====
def lw_all : List Cond := lw_tbl.filter goodWord
/-- a word of the tables by its place: claim/WORDS.tsv -/
theorem lw_w {w : Cond} (i : Nat) (h : lw_tbl[i]? = some w) (g : goodWord w = true) : w ∈ lw_all := List.mem_filter.mpr ⟨List.mem_of_getElem? h, g⟩
theorem lw_all_tbl {w : Cond} (h : w ∈ lw_all) : w ∈ lw_tbl := (List.mem_filter.mp h).1
theorem lw_self : GoodIn lw_all lw_all := fun w h => ⟨h, good_of_word (List.mem_filter.mp h).2⟩
/-- a class's field words, by their places -/
theorem lw_in (ws : List Cond) (ps : List Nat) (hp : ws = ps.filterMap (fun i => lw_tbl[i]?)) (hg : ws.all goodWord = true) : ∀ w ∈ ws, w ∈ lw_all := by
  intro w h
  have h1 := List.all_eq_true.mp hg w h
  rw [hp] at h
  obtain ⟨i, -, hi⟩ := List.mem_filterMap.mp h
  exact lw_w i hi h1
/-- the words of a contract for the method y with code b, L locals, answer r -/
abbrev ws_ (y : MethodName) (b : ByteArray) (L : Nat) (r : Option FieldType) : List Cond := Cond.code y b L r :: lw_all
theorem lw_meth {y : MethodName} {b : ByteArray} {L : Nat} {r : Option FieldType} (h : Cond.code y b L r ∈ lw_all) : GoodIn lw_all (ws_ y b L r) := by
  intro w hw
  rcases List.mem_cons.mp hw with e | e
  · rw [e]
    exact lw_self _ h
  · exact lw_self _ e
theorem lw_app {a c : List Cond} (ha : ∀ w ∈ a, w ∈ lw_all) (hc : GoodIn lw_all c) : GoodIn lw_all (a ++ c) := by
  intro w hw
  rcases List.mem_append.mp hw with e | e
  · exact lw_self w (ha w e)
  · exact hc w e
/-- what a call through an object asks: cwV n hts (lw_V ..) -/
theorem lw_V {own : String} {idx : Nat} {C : String} {y : MethodName} {b : ByteArray} {L : Nat} {r : Option FieldType} (h1 : Cond.methodLink own idx y ∈ lw_all) (h2 : Cond.instanceMethod y ∈ lw_all) (h3 : Cond.selects C y y ∈ lw_all) (h4 : Cond.initialized C ∈ lw_all) (h5 : Cond.code y b L r ∈ lw_all) : GoodIn lw_all (wsV own idx C y (ws_ y b L r)) := by
  refine lw_app ?_ (lw_meth h5)
  intro w hw
  simp only [List.mem_cons, List.not_mem_nil, or_false] at hw
  rcases hw with e | e | e | e
  · rw [e]; exact h1
  · rw [e]; exact h2
  · rw [e]; exact h3
  · rw [e]; exact h4
/-- what a static call asks: va_cwS n hts (lw_S ..) -/
theorem lw_S {own : String} {idx : Nat} {y : MethodName} {b : ByteArray} {L : Nat} {r : Option FieldType} (h1 : Cond.methodLink own idx y ∈ lw_all) (h2 : Cond.static y ∈ lw_all) (h3 : Cond.initialized y.cls ∈ lw_all) (h4 : Cond.code y b L r ∈ lw_all) : GoodIn lw_all (va_wsS own idx y (ws_ y b L r)) := by
  refine lw_app ?_ (lw_meth h4)
  intro w hw
  simp only [List.mem_cons, List.not_mem_nil, or_false] at hw
  rcases hw with e | e | e
  · rw [e]; exact h1
  · rw [e]; exact h2
  · rw [e]; exact h3
/-- the words of a contract for a method WITH HANDLERS (hh: its table) -/
abbrev wsW_ (y : MethodName) (b : ByteArray) (L : Nat) (r : Option FieldType) (hh : List (Nat × Nat × Nat × Nat)) : List Cond := Cond.codeWith y b L r hh :: lw_all
theorem lw_methW {y : MethodName} {b : ByteArray} {L : Nat} {r : Option FieldType} {hh : List (Nat × Nat × Nat × Nat)} (h : Cond.codeWith y b L r hh ∈ lw_all) : GoodIn lw_all (wsW_ y b L r hh) := by
  intro w hw
  rcases List.mem_cons.mp hw with e | e
  · rw [e]
    exact lw_self _ h
  · exact lw_self _ e
/-- any list of words by their places (lw_in), good -/
theorem lw_good {ws : List Cond} (h : ∀ w ∈ ws, w ∈ lw_all) : GoodIn lw_all ws := fun w hw => lw_self w (h w hw)
/-- what a call of a method with handlers asks: vx_cwVW n hts (lw_VW ..), vx_cwSW n hts (lw_SW ..) -/
theorem lw_VW {own : String} {idx : Nat} {C : String} {y : MethodName} {b : ByteArray} {L : Nat} {r : Option FieldType} {hh : List (Nat × Nat × Nat × Nat)} (h1 : Cond.methodLink own idx y ∈ lw_all) (h2 : Cond.instanceMethod y ∈ lw_all) (h3 : Cond.selects C y y ∈ lw_all) (h4 : Cond.initialized C ∈ lw_all) (h5 : Cond.codeWith y b L r hh ∈ lw_all) : GoodIn lw_all (wsV own idx C y (wsW_ y b L r hh)) := by
  refine lw_app ?_ (lw_methW h5)
  intro w hw
  simp only [List.mem_cons, List.not_mem_nil, or_false] at hw
  rcases hw with e | e | e | e
  · rw [e]; exact h1
  · rw [e]; exact h2
  · rw [e]; exact h3
  · rw [e]; exact h4
theorem lw_SW {own : String} {idx : Nat} {y : MethodName} {b : ByteArray} {L : Nat} {r : Option FieldType} {hh : List (Nat × Nat × Nat × Nat)} (h1 : Cond.methodLink own idx y ∈ lw_all) (h2 : Cond.static y ∈ lw_all) (h3 : Cond.initialized y.cls ∈ lw_all) (h4 : Cond.codeWith y b L r hh ∈ lw_all) : GoodIn lw_all (va_wsS own idx y (wsW_ y b L r hh)) := by
  refine lw_app ?_ (lw_methW h4)
  intro w hw
  simp only [List.mem_cons, List.not_mem_nil, or_false] at hw
  rcases hw with e | e | e
  · rw [e]; exact h1
  · rw [e]; exact h2
  · rw [e]; exact h3
/-- a word by its place in its run of the tables -/
theorem lw_at {r : List Cond} (hr : ∀ w ∈ r, w ∈ lw_tbl) {w : Cond} (i : Nat) (h : r[i]? = some w) : w ∈ lw_tbl := hr w (List.mem_of_getElem? h)
theorem lw_g {w : Cond} (h : w ∈ lw_tbl) (g : goodWord w = true) : w ∈ lw_all := List.mem_filter.mpr ⟨h, g⟩
theorem lw_ms : ∀ w ∈ k2_sels lw_privs, w ∈ lw_tbl := fun w h => show w ∈ k2_sels lw_privs ++ tables_1 from List.mem_append_left _ h
theorem lw_m1 : ∀ w ∈ tables_1_1, w ∈ lw_tbl := fun w h => show w ∈ k2_sels lw_privs ++ tables_1 from List.mem_append_right (k2_sels lw_privs) (show w ∈ tables_1 from List.mem_append_left _ h)
theorem lw_m2 : ∀ w ∈ tables_1_2, w ∈ lw_tbl := fun w h => show w ∈ k2_sels lw_privs ++ tables_1 from List.mem_append_right (k2_sels lw_privs) (show w ∈ tables_1 from List.mem_append_right _ h)
theorem qs0 : (Cond.selects "SmDigestDesk" ⟨"SmDigestDesk", "from", "(I)I"⟩ ⟨"SmDigestDesk", "from", "(I)I"⟩) ∈ lw_all := lw_g (lw_at lw_ms 0 rfl) rfl
theorem qs1 : (Cond.selects "SmDigestDesk" ⟨"SmDigestDesk", "count", "(II)I"⟩ ⟨"SmDigestDesk", "count", "(II)I"⟩) ∈ lw_all := lw_g (lw_at lw_ms 1 rfl) rfl
theorem qs2 : (Cond.selects "SM3Digest" ⟨"SM3Digest", "P1", "(I)I"⟩ ⟨"SM3Digest", "P1", "(I)I"⟩) ∈ lw_all := lw_g (lw_at lw_ms 2 rfl) rfl
theorem qs3 : (Cond.selects "SM3Digest" ⟨"SM3Digest", "FF0", "(III)I"⟩ ⟨"SM3Digest", "FF0", "(III)I"⟩) ∈ lw_all := lw_g (lw_at lw_ms 3 rfl) rfl
theorem qs4 : (Cond.selects "SM3Digest" ⟨"SM3Digest", "GG0", "(III)I"⟩ ⟨"SM3Digest", "GG0", "(III)I"⟩) ∈ lw_all := lw_g (lw_at lw_ms 4 rfl) rfl
theorem qs5 : (Cond.selects "SM3Digest" ⟨"SM3Digest", "P0", "(I)I"⟩ ⟨"SM3Digest", "P0", "(I)I"⟩) ∈ lw_all := lw_g (lw_at lw_ms 5 rfl) rfl
theorem qs6 : (Cond.selects "SM3Digest" ⟨"SM3Digest", "FF1", "(III)I"⟩ ⟨"SM3Digest", "FF1", "(III)I"⟩) ∈ lw_all := lw_g (lw_at lw_ms 6 rfl) rfl
theorem qs7 : (Cond.selects "SM3Digest" ⟨"SM3Digest", "GG1", "(III)I"⟩ ⟨"SM3Digest", "GG1", "(III)I"⟩) ∈ lw_all := lw_g (lw_at lw_ms 7 rfl) rfl
theorem qs8 : (Cond.selects "SmDigestDesk" ⟨"SmDigestDesk", "word", "(II)V"⟩ ⟨"SmDigestDesk", "word", "(II)V"⟩) ∈ lw_all := lw_g (lw_at lw_ms 8 rfl) rfl
end
section
/-! DECODE ROWS BY BYTES: one lemma an opcode; a method's code is cut into short pieces once, and a row reads its own piece alone. -/
set_option maxRecDepth 100000
/-- the code has just these bytes from pc on -/
def DkAt (code : ByteArray) (pc : Nat) (bs : List UInt8) : Prop := ∀ (j : Nat) (b : UInt8), bs[j]? = some b → code.data.toList[pc + j]? = some b
/-- the piece W has the bytes bs from its place j on -/
def dkIn (W : List UInt8) (j : Nat) (bs : List UInt8) : Bool := decide ((W.drop j).take bs.length = bs)
theorem dk_seg {l W T : List UInt8} {o o2 : Nat} (h : l.drop o = W ++ T) (n : Nat) (hn : W.length = n) (ho : o + n = o2) : l.drop o2 = T := by
  subst ho
  rw [← List.drop_drop, h, List.drop_left' hn]
theorem dk_at {code : ByteArray} {W T bs : List UInt8} {o pc : Nat} (h : code.data.toList.drop o = W ++ T) (j : Nat) (hp : o + j = pc) (hw : dkIn W j bs = true) : DkAt code pc bs := by
  subst hp
  intro i b e
  have h1 := of_decide_eq_true hw
  have h2 : i < bs.length := (List.getElem?_eq_some_iff.mp e).1
  have h3 : W[j + i]? = some b := by
    rw [← h1, List.getElem?_take, if_pos h2, List.getElem?_drop] at e
    exact e
  have h4 : j + i < W.length := (List.getElem?_eq_some_iff.mp h3).1
  have h5 : (code.data.toList.drop o)[j + i]? = some b := by
    rw [h, List.getElem?_append_left h4]
    exact h3
  rw [List.getElem?_drop, ← Nat.add_assoc] at h5
  exact h5
theorem dk_u1 {A : ByteArray} {p : Nat} {b : UInt8} (h : A.data.toList[p]? = some b) : (Reader.u1 : Reader DecodeError Nat) A p = .ok (b.toNat, p + 1) := by
  obtain ⟨h1, h2⟩ := List.getElem?_eq_some_iff.mp h
  have h3 : p < A.size := by simpa using h1
  have h4 : A[p]'h3 = b := h2
  have e : (Reader.u1 : Reader DecodeError Nat) A p = (if h : p < A.size then .ok (A[p].toNat, p + 1) else .error (HasTruncated.truncated p)) := by
    show (do if h : p < A.size then do set (p + 1); Pure.pure A[p].toNat else MonadExcept.throw (HasTruncated.truncated p) : Reader DecodeError Nat) A p = _
    by_cases hi : p < A.size
    · rw [dif_pos hi, dif_pos hi]; rfl
    · rw [dif_neg hi, dif_neg hi]; rfl
  rw [e, dif_pos h3, h4]
theorem dk_bind {α β : Type} {r : Reader DecodeError α} {f : α → Reader DecodeError β} {A : ByteArray} {p s : Nat} {a : α} (h : r A p = .ok (a, s)) : (r >>= f) A p = f a A s := by
  show (do let (a, s) ← r A p; f a A s : Except DecodeError (β × Nat)) = _
  rw [h]
  rfl
theorem dk_map {α β : Type} {r : Reader DecodeError α} {g : α → β} {A : ByteArray} {p s : Nat} {a : α} (h : r A p = .ok (a, s)) : (g <$> r) A p = .ok (g a, s) := by
  show (do let (a, s) ← r A p; .ok (g a, s) : Except DecodeError (β × Nat)) = _
  rw [h]
  rfl
theorem dk_u2 {A : ByteArray} {p : Nat} {a b : UInt8} (h : A.data.toList[p]? = some a) (h2 : A.data.toList[p + 1]? = some b) : (Reader.u2 : Reader DecodeError Nat) A p = .ok (a.toNat * 256 + b.toNat, p + 2) := by
  show (Reader.u1 >>= fun hi => Reader.u1 >>= fun lo => Pure.pure (hi * 256 + lo) : Reader DecodeError Nat) A p = _
  rw [dk_bind (dk_u1 h), dk_bind (dk_u1 h2)]
  rfl
theorem dk_of {code : ByteArray} {pc n : Nat} {i : Instr} (h : Decoder.instr pc code pc = .ok (i, pc + n)) : decode code pc = .ok (i, n) := by
  have e : decode code pc = (match Decoder.instr pc code pc with | .error x => .error x | .ok (j, s) => .ok (j, s - pc)) := by
    show (do let (j, s) ← Decoder.instr pc code pc; Pure.pure (j, s - pc) : Except DecodeError (Instr × Nat)) = _
    cases Decoder.instr pc code pc <;> rfl
  rw [e, h]
  show Except.ok (i, pc + n - pc) = _
  rw [Nat.add_sub_cancel_left]
theorem dk_2 {code : ByteArray} {pc : Nat} (h : DkAt code pc [2]) : decode code pc = .ok (.iconst (-1), 1) := dk_of ((dk_bind (dk_u1 (h 0 _ rfl))).trans rfl)
theorem dk_3 {code : ByteArray} {pc : Nat} (h : DkAt code pc [3]) : decode code pc = .ok (.iconst 0, 1) := dk_of ((dk_bind (dk_u1 (h 0 _ rfl))).trans rfl)
theorem dk_4 {code : ByteArray} {pc : Nat} (h : DkAt code pc [4]) : decode code pc = .ok (.iconst 1, 1) := dk_of ((dk_bind (dk_u1 (h 0 _ rfl))).trans rfl)
theorem dk_5 {code : ByteArray} {pc : Nat} (h : DkAt code pc [5]) : decode code pc = .ok (.iconst 2, 1) := dk_of ((dk_bind (dk_u1 (h 0 _ rfl))).trans rfl)
theorem dk_6 {code : ByteArray} {pc : Nat} (h : DkAt code pc [6]) : decode code pc = .ok (.iconst 3, 1) := dk_of ((dk_bind (dk_u1 (h 0 _ rfl))).trans rfl)
theorem dk_7 {code : ByteArray} {pc : Nat} (h : DkAt code pc [7]) : decode code pc = .ok (.iconst 4, 1) := dk_of ((dk_bind (dk_u1 (h 0 _ rfl))).trans rfl)
theorem dk_8 {code : ByteArray} {pc : Nat} (h : DkAt code pc [8]) : decode code pc = .ok (.iconst 5, 1) := dk_of ((dk_bind (dk_u1 (h 0 _ rfl))).trans rfl)
theorem dk_9 {code : ByteArray} {pc : Nat} (h : DkAt code pc [9]) : decode code pc = .ok (.lconst 0, 1) := dk_of ((dk_bind (dk_u1 (h 0 _ rfl))).trans rfl)
theorem dk_10 {code : ByteArray} {pc : Nat} (h : DkAt code pc [10]) : decode code pc = .ok (.lconst 1, 1) := dk_of ((dk_bind (dk_u1 (h 0 _ rfl))).trans rfl)
theorem dk_16 {code : ByteArray} {pc : Nat} (a : UInt8) (h : DkAt code pc [16, a]) : decode code pc = .ok (.bipush (Reader.signed 8 a.toNat), 2) := dk_of ((dk_bind (dk_u1 (h 0 _ rfl))).trans ((dk_bind (dk_map (dk_u1 (h 1 _ rfl)))).trans rfl))
theorem dk_17 {code : ByteArray} {pc : Nat} (a b : UInt8) (h : DkAt code pc [17, a, b]) : decode code pc = .ok (.sipush (Reader.signed 16 (a.toNat * 256 + b.toNat)), 3) := dk_of ((dk_bind (dk_u1 (h 0 _ rfl))).trans ((dk_bind (dk_map (dk_u2 (h 1 _ rfl) (h 2 _ rfl)))).trans rfl))
theorem dk_18 {code : ByteArray} {pc : Nat} (a : UInt8) (h : DkAt code pc [18, a]) : decode code pc = .ok (.ldc a.toNat, 2) := dk_of ((dk_bind (dk_u1 (h 0 _ rfl))).trans ((dk_bind (dk_u1 (h 1 _ rfl))).trans rfl))
theorem dk_21 {code : ByteArray} {pc : Nat} (a : UInt8) (h : DkAt code pc [21, a]) : decode code pc = .ok (.iload a.toNat, 2) := dk_of ((dk_bind (dk_u1 (h 0 _ rfl))).trans ((dk_bind (dk_u1 (h 1 _ rfl))).trans rfl))
theorem dk_25 {code : ByteArray} {pc : Nat} (a : UInt8) (h : DkAt code pc [25, a]) : decode code pc = .ok (.aload a.toNat, 2) := dk_of ((dk_bind (dk_u1 (h 0 _ rfl))).trans ((dk_bind (dk_u1 (h 1 _ rfl))).trans rfl))
theorem dk_26 {code : ByteArray} {pc : Nat} (h : DkAt code pc [26]) : decode code pc = .ok (.iload_n 0, 1) := dk_of ((dk_bind (dk_u1 (h 0 _ rfl))).trans rfl)
theorem dk_27 {code : ByteArray} {pc : Nat} (h : DkAt code pc [27]) : decode code pc = .ok (.iload_n 1, 1) := dk_of ((dk_bind (dk_u1 (h 0 _ rfl))).trans rfl)
theorem dk_28 {code : ByteArray} {pc : Nat} (h : DkAt code pc [28]) : decode code pc = .ok (.iload_n 2, 1) := dk_of ((dk_bind (dk_u1 (h 0 _ rfl))).trans rfl)
theorem dk_29 {code : ByteArray} {pc : Nat} (h : DkAt code pc [29]) : decode code pc = .ok (.iload_n 3, 1) := dk_of ((dk_bind (dk_u1 (h 0 _ rfl))).trans rfl)
theorem dk_31 {code : ByteArray} {pc : Nat} (h : DkAt code pc [31]) : decode code pc = .ok (.lload_n 1, 1) := dk_of ((dk_bind (dk_u1 (h 0 _ rfl))).trans rfl)
theorem dk_42 {code : ByteArray} {pc : Nat} (h : DkAt code pc [42]) : decode code pc = .ok (.aload_n 0, 1) := dk_of ((dk_bind (dk_u1 (h 0 _ rfl))).trans rfl)
theorem dk_43 {code : ByteArray} {pc : Nat} (h : DkAt code pc [43]) : decode code pc = .ok (.aload_n 1, 1) := dk_of ((dk_bind (dk_u1 (h 0 _ rfl))).trans rfl)
theorem dk_44 {code : ByteArray} {pc : Nat} (h : DkAt code pc [44]) : decode code pc = .ok (.aload_n 2, 1) := dk_of ((dk_bind (dk_u1 (h 0 _ rfl))).trans rfl)
theorem dk_45 {code : ByteArray} {pc : Nat} (h : DkAt code pc [45]) : decode code pc = .ok (.aload_n 3, 1) := dk_of ((dk_bind (dk_u1 (h 0 _ rfl))).trans rfl)
theorem dk_46 {code : ByteArray} {pc : Nat} (h : DkAt code pc [46]) : decode code pc = .ok (.iaload, 1) := dk_of ((dk_bind (dk_u1 (h 0 _ rfl))).trans rfl)
theorem dk_51 {code : ByteArray} {pc : Nat} (h : DkAt code pc [51]) : decode code pc = .ok (.baload, 1) := dk_of ((dk_bind (dk_u1 (h 0 _ rfl))).trans rfl)
theorem dk_54 {code : ByteArray} {pc : Nat} (a : UInt8) (h : DkAt code pc [54, a]) : decode code pc = .ok (.istore a.toNat, 2) := dk_of ((dk_bind (dk_u1 (h 0 _ rfl))).trans ((dk_bind (dk_u1 (h 1 _ rfl))).trans rfl))
theorem dk_58 {code : ByteArray} {pc : Nat} (a : UInt8) (h : DkAt code pc [58, a]) : decode code pc = .ok (.astore a.toNat, 2) := dk_of ((dk_bind (dk_u1 (h 0 _ rfl))).trans ((dk_bind (dk_u1 (h 1 _ rfl))).trans rfl))
theorem dk_60 {code : ByteArray} {pc : Nat} (h : DkAt code pc [60]) : decode code pc = .ok (.istore_n 1, 1) := dk_of ((dk_bind (dk_u1 (h 0 _ rfl))).trans rfl)
theorem dk_61 {code : ByteArray} {pc : Nat} (h : DkAt code pc [61]) : decode code pc = .ok (.istore_n 2, 1) := dk_of ((dk_bind (dk_u1 (h 0 _ rfl))).trans rfl)
theorem dk_62 {code : ByteArray} {pc : Nat} (h : DkAt code pc [62]) : decode code pc = .ok (.istore_n 3, 1) := dk_of ((dk_bind (dk_u1 (h 0 _ rfl))).trans rfl)
theorem dk_64 {code : ByteArray} {pc : Nat} (h : DkAt code pc [64]) : decode code pc = .ok (.lstore_n 1, 1) := dk_of ((dk_bind (dk_u1 (h 0 _ rfl))).trans rfl)
theorem dk_75 {code : ByteArray} {pc : Nat} (h : DkAt code pc [75]) : decode code pc = .ok (.astore_n 0, 1) := dk_of ((dk_bind (dk_u1 (h 0 _ rfl))).trans rfl)
theorem dk_76 {code : ByteArray} {pc : Nat} (h : DkAt code pc [76]) : decode code pc = .ok (.astore_n 1, 1) := dk_of ((dk_bind (dk_u1 (h 0 _ rfl))).trans rfl)
theorem dk_77 {code : ByteArray} {pc : Nat} (h : DkAt code pc [77]) : decode code pc = .ok (.astore_n 2, 1) := dk_of ((dk_bind (dk_u1 (h 0 _ rfl))).trans rfl)
theorem dk_78 {code : ByteArray} {pc : Nat} (h : DkAt code pc [78]) : decode code pc = .ok (.astore_n 3, 1) := dk_of ((dk_bind (dk_u1 (h 0 _ rfl))).trans rfl)
theorem dk_79 {code : ByteArray} {pc : Nat} (h : DkAt code pc [79]) : decode code pc = .ok (.iastore, 1) := dk_of ((dk_bind (dk_u1 (h 0 _ rfl))).trans rfl)
theorem dk_84 {code : ByteArray} {pc : Nat} (h : DkAt code pc [84]) : decode code pc = .ok (.bastore, 1) := dk_of ((dk_bind (dk_u1 (h 0 _ rfl))).trans rfl)
theorem dk_87 {code : ByteArray} {pc : Nat} (h : DkAt code pc [87]) : decode code pc = .ok (.pop, 1) := dk_of ((dk_bind (dk_u1 (h 0 _ rfl))).trans rfl)
theorem dk_89 {code : ByteArray} {pc : Nat} (h : DkAt code pc [89]) : decode code pc = .ok (.dup, 1) := dk_of ((dk_bind (dk_u1 (h 0 _ rfl))).trans rfl)
theorem dk_90 {code : ByteArray} {pc : Nat} (h : DkAt code pc [90]) : decode code pc = .ok (.dup_x1, 1) := dk_of ((dk_bind (dk_u1 (h 0 _ rfl))).trans rfl)
theorem dk_92 {code : ByteArray} {pc : Nat} (h : DkAt code pc [92]) : decode code pc = .ok (.dup2, 1) := dk_of ((dk_bind (dk_u1 (h 0 _ rfl))).trans rfl)
theorem dk_96 {code : ByteArray} {pc : Nat} (h : DkAt code pc [96]) : decode code pc = .ok (.iadd, 1) := dk_of ((dk_bind (dk_u1 (h 0 _ rfl))).trans rfl)
theorem dk_97 {code : ByteArray} {pc : Nat} (h : DkAt code pc [97]) : decode code pc = .ok (.ladd, 1) := dk_of ((dk_bind (dk_u1 (h 0 _ rfl))).trans rfl)
theorem dk_100 {code : ByteArray} {pc : Nat} (h : DkAt code pc [100]) : decode code pc = .ok (.isub, 1) := dk_of ((dk_bind (dk_u1 (h 0 _ rfl))).trans rfl)
theorem dk_104 {code : ByteArray} {pc : Nat} (h : DkAt code pc [104]) : decode code pc = .ok (.imul, 1) := dk_of ((dk_bind (dk_u1 (h 0 _ rfl))).trans rfl)
theorem dk_108 {code : ByteArray} {pc : Nat} (h : DkAt code pc [108]) : decode code pc = .ok (.idiv, 1) := dk_of ((dk_bind (dk_u1 (h 0 _ rfl))).trans rfl)
theorem dk_112 {code : ByteArray} {pc : Nat} (h : DkAt code pc [112]) : decode code pc = .ok (.irem, 1) := dk_of ((dk_bind (dk_u1 (h 0 _ rfl))).trans rfl)
theorem dk_120 {code : ByteArray} {pc : Nat} (h : DkAt code pc [120]) : decode code pc = .ok (.ishl, 1) := dk_of ((dk_bind (dk_u1 (h 0 _ rfl))).trans rfl)
theorem dk_121 {code : ByteArray} {pc : Nat} (h : DkAt code pc [121]) : decode code pc = .ok (.lshl, 1) := dk_of ((dk_bind (dk_u1 (h 0 _ rfl))).trans rfl)
theorem dk_122 {code : ByteArray} {pc : Nat} (h : DkAt code pc [122]) : decode code pc = .ok (.ishr, 1) := dk_of ((dk_bind (dk_u1 (h 0 _ rfl))).trans rfl)
theorem dk_124 {code : ByteArray} {pc : Nat} (h : DkAt code pc [124]) : decode code pc = .ok (.iushr, 1) := dk_of ((dk_bind (dk_u1 (h 0 _ rfl))).trans rfl)
theorem dk_125 {code : ByteArray} {pc : Nat} (h : DkAt code pc [125]) : decode code pc = .ok (.lushr, 1) := dk_of ((dk_bind (dk_u1 (h 0 _ rfl))).trans rfl)
theorem dk_126 {code : ByteArray} {pc : Nat} (h : DkAt code pc [126]) : decode code pc = .ok (.iand, 1) := dk_of ((dk_bind (dk_u1 (h 0 _ rfl))).trans rfl)
theorem dk_128 {code : ByteArray} {pc : Nat} (h : DkAt code pc [128]) : decode code pc = .ok (.ior, 1) := dk_of ((dk_bind (dk_u1 (h 0 _ rfl))).trans rfl)
theorem dk_130 {code : ByteArray} {pc : Nat} (h : DkAt code pc [130]) : decode code pc = .ok (.ixor, 1) := dk_of ((dk_bind (dk_u1 (h 0 _ rfl))).trans rfl)
theorem dk_132 {code : ByteArray} {pc : Nat} (a b : UInt8) (h : DkAt code pc [132, a, b]) : decode code pc = .ok (.iinc a.toNat (Reader.signed 8 b.toNat), 3) := dk_of ((dk_bind (dk_u1 (h 0 _ rfl))).trans ((dk_bind (dk_u1 (h 1 _ rfl))).trans ((dk_bind (dk_map (dk_u1 (h 2 _ rfl)))).trans rfl)))
theorem dk_133 {code : ByteArray} {pc : Nat} (h : DkAt code pc [133]) : decode code pc = .ok (.i2l, 1) := dk_of ((dk_bind (dk_u1 (h 0 _ rfl))).trans rfl)
theorem dk_136 {code : ByteArray} {pc : Nat} (h : DkAt code pc [136]) : decode code pc = .ok (.l2i, 1) := dk_of ((dk_bind (dk_u1 (h 0 _ rfl))).trans rfl)
theorem dk_145 {code : ByteArray} {pc : Nat} (h : DkAt code pc [145]) : decode code pc = .ok (.i2b, 1) := dk_of ((dk_bind (dk_u1 (h 0 _ rfl))).trans rfl)
theorem dk_153 {code : ByteArray} {pc : Nat} (a b : UInt8) (h : DkAt code pc [153, a, b]) : decode code pc = .ok (.ifCond .eq (Reader.signed 16 (a.toNat * 256 + b.toNat)), 3) := dk_of ((dk_bind (dk_u1 (h 0 _ rfl))).trans ((dk_bind (dk_map (dk_u2 (h 1 _ rfl) (h 2 _ rfl)))).trans rfl))
theorem dk_154 {code : ByteArray} {pc : Nat} (a b : UInt8) (h : DkAt code pc [154, a, b]) : decode code pc = .ok (.ifCond .ne (Reader.signed 16 (a.toNat * 256 + b.toNat)), 3) := dk_of ((dk_bind (dk_u1 (h 0 _ rfl))).trans ((dk_bind (dk_map (dk_u2 (h 1 _ rfl) (h 2 _ rfl)))).trans rfl))
theorem dk_159 {code : ByteArray} {pc : Nat} (a b : UInt8) (h : DkAt code pc [159, a, b]) : decode code pc = .ok (.if_icmp .eq (Reader.signed 16 (a.toNat * 256 + b.toNat)), 3) := dk_of ((dk_bind (dk_u1 (h 0 _ rfl))).trans ((dk_bind (dk_map (dk_u2 (h 1 _ rfl) (h 2 _ rfl)))).trans rfl))
theorem dk_160 {code : ByteArray} {pc : Nat} (a b : UInt8) (h : DkAt code pc [160, a, b]) : decode code pc = .ok (.if_icmp .ne (Reader.signed 16 (a.toNat * 256 + b.toNat)), 3) := dk_of ((dk_bind (dk_u1 (h 0 _ rfl))).trans ((dk_bind (dk_map (dk_u2 (h 1 _ rfl) (h 2 _ rfl)))).trans rfl))
theorem dk_161 {code : ByteArray} {pc : Nat} (a b : UInt8) (h : DkAt code pc [161, a, b]) : decode code pc = .ok (.if_icmp .lt (Reader.signed 16 (a.toNat * 256 + b.toNat)), 3) := dk_of ((dk_bind (dk_u1 (h 0 _ rfl))).trans ((dk_bind (dk_map (dk_u2 (h 1 _ rfl) (h 2 _ rfl)))).trans rfl))
theorem dk_162 {code : ByteArray} {pc : Nat} (a b : UInt8) (h : DkAt code pc [162, a, b]) : decode code pc = .ok (.if_icmp .ge (Reader.signed 16 (a.toNat * 256 + b.toNat)), 3) := dk_of ((dk_bind (dk_u1 (h 0 _ rfl))).trans ((dk_bind (dk_map (dk_u2 (h 1 _ rfl) (h 2 _ rfl)))).trans rfl))
theorem dk_164 {code : ByteArray} {pc : Nat} (a b : UInt8) (h : DkAt code pc [164, a, b]) : decode code pc = .ok (.if_icmp .le (Reader.signed 16 (a.toNat * 256 + b.toNat)), 3) := dk_of ((dk_bind (dk_u1 (h 0 _ rfl))).trans ((dk_bind (dk_map (dk_u2 (h 1 _ rfl) (h 2 _ rfl)))).trans rfl))
theorem dk_167 {code : ByteArray} {pc : Nat} (a b : UInt8) (h : DkAt code pc [167, a, b]) : decode code pc = .ok (.goto (Reader.signed 16 (a.toNat * 256 + b.toNat)), 3) := dk_of ((dk_bind (dk_u1 (h 0 _ rfl))).trans ((dk_bind (dk_map (dk_u2 (h 1 _ rfl) (h 2 _ rfl)))).trans rfl))
theorem dk_172 {code : ByteArray} {pc : Nat} (h : DkAt code pc [172]) : decode code pc = .ok (.ireturn, 1) := dk_of ((dk_bind (dk_u1 (h 0 _ rfl))).trans rfl)
theorem dk_176 {code : ByteArray} {pc : Nat} (h : DkAt code pc [176]) : decode code pc = .ok (.areturn, 1) := dk_of ((dk_bind (dk_u1 (h 0 _ rfl))).trans rfl)
theorem dk_177 {code : ByteArray} {pc : Nat} (h : DkAt code pc [177]) : decode code pc = .ok (.return_, 1) := dk_of ((dk_bind (dk_u1 (h 0 _ rfl))).trans rfl)
theorem dk_178 {code : ByteArray} {pc : Nat} (a b : UInt8) (h : DkAt code pc [178, a, b]) : decode code pc = .ok (.getstatic (a.toNat * 256 + b.toNat), 3) := dk_of ((dk_bind (dk_u1 (h 0 _ rfl))).trans ((dk_bind (dk_u2 (h 1 _ rfl) (h 2 _ rfl))).trans rfl))
theorem dk_180 {code : ByteArray} {pc : Nat} (a b : UInt8) (h : DkAt code pc [180, a, b]) : decode code pc = .ok (.getfield (a.toNat * 256 + b.toNat), 3) := dk_of ((dk_bind (dk_u1 (h 0 _ rfl))).trans ((dk_bind (dk_u2 (h 1 _ rfl) (h 2 _ rfl))).trans rfl))
theorem dk_181 {code : ByteArray} {pc : Nat} (a b : UInt8) (h : DkAt code pc [181, a, b]) : decode code pc = .ok (.putfield (a.toNat * 256 + b.toNat), 3) := dk_of ((dk_bind (dk_u1 (h 0 _ rfl))).trans ((dk_bind (dk_u2 (h 1 _ rfl) (h 2 _ rfl))).trans rfl))
theorem dk_182 {code : ByteArray} {pc : Nat} (a b : UInt8) (h : DkAt code pc [182, a, b]) : decode code pc = .ok (.invokevirtual (a.toNat * 256 + b.toNat), 3) := dk_of ((dk_bind (dk_u1 (h 0 _ rfl))).trans ((dk_bind (dk_u2 (h 1 _ rfl) (h 2 _ rfl))).trans rfl))
theorem dk_183 {code : ByteArray} {pc : Nat} (a b : UInt8) (h : DkAt code pc [183, a, b]) : decode code pc = .ok (.invokespecial (a.toNat * 256 + b.toNat), 3) := dk_of ((dk_bind (dk_u1 (h 0 _ rfl))).trans ((dk_bind (dk_u2 (h 1 _ rfl) (h 2 _ rfl))).trans rfl))
theorem dk_184 {code : ByteArray} {pc : Nat} (a b : UInt8) (h : DkAt code pc [184, a, b]) : decode code pc = .ok (.invokestatic (a.toNat * 256 + b.toNat), 3) := dk_of ((dk_bind (dk_u1 (h 0 _ rfl))).trans ((dk_bind (dk_u2 (h 1 _ rfl) (h 2 _ rfl))).trans rfl))
theorem dk_187 {code : ByteArray} {pc : Nat} (a b : UInt8) (h : DkAt code pc [187, a, b]) : decode code pc = .ok (.new (a.toNat * 256 + b.toNat), 3) := dk_of ((dk_bind (dk_u1 (h 0 _ rfl))).trans ((dk_bind (dk_u2 (h 1 _ rfl) (h 2 _ rfl))).trans rfl))
theorem dk_188_8 {code : ByteArray} {pc : Nat} (h : DkAt code pc [188, 8]) : decode code pc = .ok (.newarray .byte, 2) := dk_of ((dk_bind (dk_u1 (h 0 _ rfl))).trans ((dk_bind (dk_u1 (h 1 _ rfl))).trans rfl))
theorem dk_188_10 {code : ByteArray} {pc : Nat} (h : DkAt code pc [188, 10]) : decode code pc = .ok (.newarray .int, 2) := dk_of ((dk_bind (dk_u1 (h 0 _ rfl))).trans ((dk_bind (dk_u1 (h 1 _ rfl))).trans rfl))
theorem dk_190 {code : ByteArray} {pc : Nat} (h : DkAt code pc [190]) : decode code pc = .ok (.arraylength, 1) := dk_of ((dk_bind (dk_u1 (h 0 _ rfl))).trans rfl)
theorem q210 : (Jvm.Cond.arrayClass Jvm.ClassFile.FieldType.byte) ∈ lw_all := lw_g (lw_at lw_m1 201 rfl) rfl
set_option maxRecDepth 100000
theorem q211 : (Jvm.Cond.arrayClass Jvm.ClassFile.FieldType.int) ∈ lw_all := lw_g (lw_at lw_m1 202 rfl) rfl
theorem q13 : (Jvm.Cond.initialized "java/lang/Enum") ∈ lw_all := lw_g (lw_at lw_m1 4 rfl) rfl
set_option maxRecDepth 100000
theorem q14 : (Jvm.Cond.initialized "CryptoServicePurpose") ∈ lw_all := lw_g (lw_at lw_m1 5 rfl) rfl
set_option maxRecDepth 100000
theorem q178 : (Jvm.Cond.laysStatic "CryptoServicePurpose" "ANY" "LCryptoServicePurpose;") ∈ lw_tbl := lw_at lw_m1 169 rfl
theorem q33 : (Jvm.Cond.interfaceMethod "Digest" "Digest" "update" "([BII)V") ∈ lw_tbl := lw_at lw_m1 24 rfl
set_option maxRecDepth 100000
theorem q34 : (Jvm.Cond.declares ({ cls := "Digest", name := "update", desc := "([BII)V" } : Jvm.MethodName)) ∈ lw_tbl := lw_at lw_m1 25 rfl
theorem q90 : (Jvm.Cond.interfaceMethod "Digest" "Digest" "update" "(B)V") ∈ lw_tbl := lw_at lw_m1 81 rfl
theorem q91 : (Jvm.Cond.declares ({ cls := "Digest", name := "update", desc := "(B)V" } : Jvm.MethodName)) ∈ lw_tbl := lw_at lw_m1 82 rfl
theorem q103 : (Jvm.Cond.interfaceMethod "Digest" "Digest" "doFinal" "([BI)I") ∈ lw_tbl := lw_at lw_m1 94 rfl
theorem q104 : (Jvm.Cond.declares ({ cls := "Digest", name := "doFinal", desc := "([BI)I" } : Jvm.MethodName)) ∈ lw_tbl := lw_at lw_m1 95 rfl
theorem q155 : (Jvm.Cond.interfaceMethod "Digest" "Digest" "reset" "()V") ∈ lw_tbl := lw_at lw_m1 146 rfl
theorem q156 : (Jvm.Cond.declares ({ cls := "Digest", name := "reset", desc := "()V" } : Jvm.MethodName)) ∈ lw_tbl := lw_at lw_m1 147 rfl
/-! java/lang/Math -/
set_option maxRecDepth 100000
def RJ0 : String := "java/lang/Math"
abbrev cJ0_max : ByteArray := prog_10_method_65_code
def yJ0_max : MethodName := ⟨RJ0, "max", "(II)I"⟩
def dkwJ0_max_0 : List UInt8 := [26, 27, 161, 0, 7, 26, 167, 0, 4, 27, 172]
abbrev dktJ0_max_0 : List UInt8 := dkwJ0_max_0 ++ []
theorem dksJ0_max_0 : cJ0_max.data.toList.drop 0 = dktJ0_max_0 := by decide +kernel
theorem dJ0_max_0 : decode cJ0_max 0 = .ok (.iload_n 0, 1) := dk_26 (dk_at dksJ0_max_0 0 rfl rfl)
theorem dJ0_max_1 : decode cJ0_max 1 = .ok (.iload_n 1, 1) := dk_27 (dk_at dksJ0_max_0 1 rfl rfl)
theorem dJ0_max_2 : decode cJ0_max 2 = .ok (.if_icmp .lt 7, 3) := dk_161 0 7 (dk_at dksJ0_max_0 2 rfl rfl)
theorem dJ0_max_5 : decode cJ0_max 5 = .ok (.iload_n 0, 1) := dk_26 (dk_at dksJ0_max_0 5 rfl rfl)
theorem dJ0_max_6 : decode cJ0_max 6 = .ok (.goto 4, 3) := dk_167 0 4 (dk_at dksJ0_max_0 6 rfl rfl)
theorem dJ0_max_9 : decode cJ0_max 9 = .ok (.iload_n 1, 1) := dk_27 (dk_at dksJ0_max_0 9 rfl rfl)
theorem dJ0_max_10 : decode cJ0_max 10 = .ok (.ireturn, 1) := dk_172 (dk_at dksJ0_max_0 10 rfl rfl)
theorem q15 : (Jvm.Cond.initialized "java/lang/Math") ∈ lw_all := lw_g (lw_at lw_m1 6 rfl) rfl
theorem q42 : (Jvm.Cond.static ({ cls := "java/lang/Math", name := "max", desc := "(II)I" } : Jvm.MethodName)) ∈ lw_all := lw_g (lw_at lw_m1 33 rfl) rfl
theorem q43 : (Jvm.Cond.code ({ cls := "java/lang/Math", name := "max", desc := "(II)I" } : Jvm.MethodName) prog_10_method_65_code (2 : Nat) (Option.some Jvm.ClassFile.FieldType.int)) ∈ lw_all := lw_g (lw_at lw_m1 34 rfl) rfl
/-! java/lang/Object -/
set_option maxRecDepth 100000
def RJ1 : String := "java/lang/Object"
abbrev cJ1_init : ByteArray := object_method_1_code
def yJ1_init : MethodName := ⟨RJ1, "<init>", "()V"⟩
theorem dJ1_init_0 : decode cJ1_init 0 = .ok (.return_, 1) := by decide +kernel
theorem q171 : (Jvm.Cond.instanceMethod ({ cls := "java/lang/Object", name := "<init>", desc := "()V" } : Jvm.MethodName)) ∈ lw_all := lw_g (lw_at lw_m1 162 rfl) rfl
theorem q172 : (Jvm.Cond.code ({ cls := "java/lang/Object", name := "<init>", desc := "()V" } : Jvm.MethodName) object_method_1_code (1 : Nat) (Option.none : Option Jvm.ClassFile.FieldType)) ∈ lw_all := lw_g (lw_at lw_m1 163 rfl) rfl
/-! Pack -/
set_option maxRecDepth 100000
def RX4 : String := "Pack"
abbrev cX4_bigEndianToInt : ByteArray := prog_5_method_2_code
def yX4_bigEndianToInt : MethodName := ⟨RX4, "bigEndianToInt", "([BI)I"⟩
def dkwX4_bigEndianToInt_2 : List UInt8 := [17, 0, 255, 126, 128, 61, 28, 172]
abbrev dktX4_bigEndianToInt_2 : List UInt8 := dkwX4_bigEndianToInt_2 ++ []
def dkwX4_bigEndianToInt_1 : List UInt8 := [42, 132, 1, 1, 27, 51, 17, 0, 255, 126, 16, 8, 120, 128, 61, 28, 42, 132, 1, 1, 27, 51]
abbrev dktX4_bigEndianToInt_1 : List UInt8 := dkwX4_bigEndianToInt_1 ++ dktX4_bigEndianToInt_2
def dkwX4_bigEndianToInt_0 : List UInt8 := [42, 27, 51, 16, 24, 120, 61, 28, 42, 132, 1, 1, 27, 51, 17, 0, 255, 126, 16, 16, 120, 128, 61, 28]
abbrev dktX4_bigEndianToInt_0 : List UInt8 := dkwX4_bigEndianToInt_0 ++ dktX4_bigEndianToInt_1
theorem dksX4_bigEndianToInt_0 : cX4_bigEndianToInt.data.toList.drop 0 = dktX4_bigEndianToInt_0 := by decide +kernel
theorem dksX4_bigEndianToInt_1 : cX4_bigEndianToInt.data.toList.drop 24 = dktX4_bigEndianToInt_1 := dk_seg dksX4_bigEndianToInt_0 24 rfl rfl
theorem dksX4_bigEndianToInt_2 : cX4_bigEndianToInt.data.toList.drop 46 = dktX4_bigEndianToInt_2 := dk_seg dksX4_bigEndianToInt_1 22 rfl rfl
theorem dX4_bigEndianToInt_0 : decode cX4_bigEndianToInt 0 = .ok (.aload_n 0, 1) := dk_42 (dk_at dksX4_bigEndianToInt_0 0 rfl rfl)
theorem dX4_bigEndianToInt_1 : decode cX4_bigEndianToInt 1 = .ok (.iload_n 1, 1) := dk_27 (dk_at dksX4_bigEndianToInt_0 1 rfl rfl)
theorem dX4_bigEndianToInt_2 : decode cX4_bigEndianToInt 2 = .ok (.baload, 1) := dk_51 (dk_at dksX4_bigEndianToInt_0 2 rfl rfl)
theorem dX4_bigEndianToInt_3 : decode cX4_bigEndianToInt 3 = .ok (.bipush 24, 2) := dk_16 24 (dk_at dksX4_bigEndianToInt_0 3 rfl rfl)
theorem dX4_bigEndianToInt_5 : decode cX4_bigEndianToInt 5 = .ok (.ishl, 1) := dk_120 (dk_at dksX4_bigEndianToInt_0 5 rfl rfl)
theorem dX4_bigEndianToInt_6 : decode cX4_bigEndianToInt 6 = .ok (.istore_n 2, 1) := dk_61 (dk_at dksX4_bigEndianToInt_0 6 rfl rfl)
theorem dX4_bigEndianToInt_7 : decode cX4_bigEndianToInt 7 = .ok (.iload_n 2, 1) := dk_28 (dk_at dksX4_bigEndianToInt_0 7 rfl rfl)
theorem dX4_bigEndianToInt_8 : decode cX4_bigEndianToInt 8 = .ok (.aload_n 0, 1) := dk_42 (dk_at dksX4_bigEndianToInt_0 8 rfl rfl)
theorem dX4_bigEndianToInt_9 : decode cX4_bigEndianToInt 9 = .ok (.iinc 1 1, 3) := dk_132 1 1 (dk_at dksX4_bigEndianToInt_0 9 rfl rfl)
theorem dX4_bigEndianToInt_12 : decode cX4_bigEndianToInt 12 = .ok (.iload_n 1, 1) := dk_27 (dk_at dksX4_bigEndianToInt_0 12 rfl rfl)
theorem dX4_bigEndianToInt_13 : decode cX4_bigEndianToInt 13 = .ok (.baload, 1) := dk_51 (dk_at dksX4_bigEndianToInt_0 13 rfl rfl)
theorem dX4_bigEndianToInt_14 : decode cX4_bigEndianToInt 14 = .ok (.sipush 255, 3) := dk_17 0 255 (dk_at dksX4_bigEndianToInt_0 14 rfl rfl)
theorem dX4_bigEndianToInt_17 : decode cX4_bigEndianToInt 17 = .ok (.iand, 1) := dk_126 (dk_at dksX4_bigEndianToInt_0 17 rfl rfl)
theorem dX4_bigEndianToInt_18 : decode cX4_bigEndianToInt 18 = .ok (.bipush 16, 2) := dk_16 16 (dk_at dksX4_bigEndianToInt_0 18 rfl rfl)
theorem dX4_bigEndianToInt_20 : decode cX4_bigEndianToInt 20 = .ok (.ishl, 1) := dk_120 (dk_at dksX4_bigEndianToInt_0 20 rfl rfl)
theorem dX4_bigEndianToInt_21 : decode cX4_bigEndianToInt 21 = .ok (.ior, 1) := dk_128 (dk_at dksX4_bigEndianToInt_0 21 rfl rfl)
theorem dX4_bigEndianToInt_22 : decode cX4_bigEndianToInt 22 = .ok (.istore_n 2, 1) := dk_61 (dk_at dksX4_bigEndianToInt_0 22 rfl rfl)
theorem dX4_bigEndianToInt_23 : decode cX4_bigEndianToInt 23 = .ok (.iload_n 2, 1) := dk_28 (dk_at dksX4_bigEndianToInt_0 23 rfl rfl)
theorem dX4_bigEndianToInt_24 : decode cX4_bigEndianToInt 24 = .ok (.aload_n 0, 1) := dk_42 (dk_at dksX4_bigEndianToInt_1 0 rfl rfl)
theorem dX4_bigEndianToInt_25 : decode cX4_bigEndianToInt 25 = .ok (.iinc 1 1, 3) := dk_132 1 1 (dk_at dksX4_bigEndianToInt_1 1 rfl rfl)
theorem dX4_bigEndianToInt_28 : decode cX4_bigEndianToInt 28 = .ok (.iload_n 1, 1) := dk_27 (dk_at dksX4_bigEndianToInt_1 4 rfl rfl)
theorem dX4_bigEndianToInt_29 : decode cX4_bigEndianToInt 29 = .ok (.baload, 1) := dk_51 (dk_at dksX4_bigEndianToInt_1 5 rfl rfl)
theorem dX4_bigEndianToInt_30 : decode cX4_bigEndianToInt 30 = .ok (.sipush 255, 3) := dk_17 0 255 (dk_at dksX4_bigEndianToInt_1 6 rfl rfl)
theorem dX4_bigEndianToInt_33 : decode cX4_bigEndianToInt 33 = .ok (.iand, 1) := dk_126 (dk_at dksX4_bigEndianToInt_1 9 rfl rfl)
theorem dX4_bigEndianToInt_34 : decode cX4_bigEndianToInt 34 = .ok (.bipush 8, 2) := dk_16 8 (dk_at dksX4_bigEndianToInt_1 10 rfl rfl)
theorem dX4_bigEndianToInt_36 : decode cX4_bigEndianToInt 36 = .ok (.ishl, 1) := dk_120 (dk_at dksX4_bigEndianToInt_1 12 rfl rfl)
theorem dX4_bigEndianToInt_37 : decode cX4_bigEndianToInt 37 = .ok (.ior, 1) := dk_128 (dk_at dksX4_bigEndianToInt_1 13 rfl rfl)
theorem dX4_bigEndianToInt_38 : decode cX4_bigEndianToInt 38 = .ok (.istore_n 2, 1) := dk_61 (dk_at dksX4_bigEndianToInt_1 14 rfl rfl)
theorem dX4_bigEndianToInt_39 : decode cX4_bigEndianToInt 39 = .ok (.iload_n 2, 1) := dk_28 (dk_at dksX4_bigEndianToInt_1 15 rfl rfl)
theorem dX4_bigEndianToInt_40 : decode cX4_bigEndianToInt 40 = .ok (.aload_n 0, 1) := dk_42 (dk_at dksX4_bigEndianToInt_1 16 rfl rfl)
theorem dX4_bigEndianToInt_41 : decode cX4_bigEndianToInt 41 = .ok (.iinc 1 1, 3) := dk_132 1 1 (dk_at dksX4_bigEndianToInt_1 17 rfl rfl)
theorem dX4_bigEndianToInt_44 : decode cX4_bigEndianToInt 44 = .ok (.iload_n 1, 1) := dk_27 (dk_at dksX4_bigEndianToInt_1 20 rfl rfl)
theorem dX4_bigEndianToInt_45 : decode cX4_bigEndianToInt 45 = .ok (.baload, 1) := dk_51 (dk_at dksX4_bigEndianToInt_1 21 rfl rfl)
theorem dX4_bigEndianToInt_46 : decode cX4_bigEndianToInt 46 = .ok (.sipush 255, 3) := dk_17 0 255 (dk_at dksX4_bigEndianToInt_2 0 rfl rfl)
theorem dX4_bigEndianToInt_49 : decode cX4_bigEndianToInt 49 = .ok (.iand, 1) := dk_126 (dk_at dksX4_bigEndianToInt_2 3 rfl rfl)
theorem dX4_bigEndianToInt_50 : decode cX4_bigEndianToInt 50 = .ok (.ior, 1) := dk_128 (dk_at dksX4_bigEndianToInt_2 4 rfl rfl)
theorem dX4_bigEndianToInt_51 : decode cX4_bigEndianToInt 51 = .ok (.istore_n 2, 1) := dk_61 (dk_at dksX4_bigEndianToInt_2 5 rfl rfl)
theorem dX4_bigEndianToInt_52 : decode cX4_bigEndianToInt 52 = .ok (.iload_n 2, 1) := dk_28 (dk_at dksX4_bigEndianToInt_2 6 rfl rfl)
theorem dX4_bigEndianToInt_53 : decode cX4_bigEndianToInt 53 = .ok (.ireturn, 1) := dk_172 (dk_at dksX4_bigEndianToInt_2 7 rfl rfl)
abbrev cX4_intToBigEndian : ByteArray := prog_5_method_4_code
def yX4_intToBigEndian : MethodName := ⟨RX4, "intToBigEndian", "([I[BI)V"⟩
def dkwX4_intToBigEndian_1 : List UInt8 := [167, 255, 236, 177]
abbrev dktX4_intToBigEndian_1 : List UInt8 := dkwX4_intToBigEndian_1 ++ []
def dkwX4_intToBigEndian_0 : List UInt8 := [3, 62, 29, 42, 190, 162, 0, 20, 42, 29, 46, 43, 28, 184, 0, 7, 132, 2, 4, 132, 3, 1]
abbrev dktX4_intToBigEndian_0 : List UInt8 := dkwX4_intToBigEndian_0 ++ dktX4_intToBigEndian_1
theorem dksX4_intToBigEndian_0 : cX4_intToBigEndian.data.toList.drop 0 = dktX4_intToBigEndian_0 := by decide +kernel
theorem dksX4_intToBigEndian_1 : cX4_intToBigEndian.data.toList.drop 22 = dktX4_intToBigEndian_1 := dk_seg dksX4_intToBigEndian_0 22 rfl rfl
theorem dX4_intToBigEndian_0 : decode cX4_intToBigEndian 0 = .ok (.iconst 0, 1) := dk_3 (dk_at dksX4_intToBigEndian_0 0 rfl rfl)
theorem dX4_intToBigEndian_1 : decode cX4_intToBigEndian 1 = .ok (.istore_n 3, 1) := dk_62 (dk_at dksX4_intToBigEndian_0 1 rfl rfl)
theorem dX4_intToBigEndian_2 : decode cX4_intToBigEndian 2 = .ok (.iload_n 3, 1) := dk_29 (dk_at dksX4_intToBigEndian_0 2 rfl rfl)
theorem dX4_intToBigEndian_3 : decode cX4_intToBigEndian 3 = .ok (.aload_n 0, 1) := dk_42 (dk_at dksX4_intToBigEndian_0 3 rfl rfl)
theorem dX4_intToBigEndian_4 : decode cX4_intToBigEndian 4 = .ok (.arraylength, 1) := dk_190 (dk_at dksX4_intToBigEndian_0 4 rfl rfl)
theorem dX4_intToBigEndian_5 : decode cX4_intToBigEndian 5 = .ok (.if_icmp .ge 20, 3) := dk_162 0 20 (dk_at dksX4_intToBigEndian_0 5 rfl rfl)
theorem dX4_intToBigEndian_8 : decode cX4_intToBigEndian 8 = .ok (.aload_n 0, 1) := dk_42 (dk_at dksX4_intToBigEndian_0 8 rfl rfl)
theorem dX4_intToBigEndian_9 : decode cX4_intToBigEndian 9 = .ok (.iload_n 3, 1) := dk_29 (dk_at dksX4_intToBigEndian_0 9 rfl rfl)
theorem dX4_intToBigEndian_10 : decode cX4_intToBigEndian 10 = .ok (.iaload, 1) := dk_46 (dk_at dksX4_intToBigEndian_0 10 rfl rfl)
theorem dX4_intToBigEndian_11 : decode cX4_intToBigEndian 11 = .ok (.aload_n 1, 1) := dk_43 (dk_at dksX4_intToBigEndian_0 11 rfl rfl)
theorem dX4_intToBigEndian_12 : decode cX4_intToBigEndian 12 = .ok (.iload_n 2, 1) := dk_28 (dk_at dksX4_intToBigEndian_0 12 rfl rfl)
theorem dX4_intToBigEndian_13 : decode cX4_intToBigEndian 13 = .ok (.invokestatic 7, 3) := dk_184 0 7 (dk_at dksX4_intToBigEndian_0 13 rfl rfl)
theorem dX4_intToBigEndian_16 : decode cX4_intToBigEndian 16 = .ok (.iinc 2 4, 3) := dk_132 2 4 (dk_at dksX4_intToBigEndian_0 16 rfl rfl)
theorem dX4_intToBigEndian_19 : decode cX4_intToBigEndian 19 = .ok (.iinc 3 1, 3) := dk_132 3 1 (dk_at dksX4_intToBigEndian_0 19 rfl rfl)
theorem dX4_intToBigEndian_22 : decode cX4_intToBigEndian 22 = .ok (.goto (-20), 3) := dk_167 255 236 (dk_at dksX4_intToBigEndian_1 0 rfl rfl)
theorem dX4_intToBigEndian_25 : decode cX4_intToBigEndian 25 = .ok (.return_, 1) := dk_177 (dk_at dksX4_intToBigEndian_1 3 rfl rfl)
abbrev cX4_intToBigEndian_2 : ByteArray := prog_5_method_3_code
def yX4_intToBigEndian_2 : MethodName := ⟨RX4, "intToBigEndian", "(I[BI)V"⟩
def dkwX4_intToBigEndian_2_1 : List UInt8 := [26, 16, 8, 124, 145, 84, 43, 132, 2, 1, 28, 26, 145, 84, 177]
abbrev dktX4_intToBigEndian_2_1 : List UInt8 := dkwX4_intToBigEndian_2_1 ++ []
def dkwX4_intToBigEndian_2_0 : List UInt8 := [43, 28, 26, 16, 24, 124, 145, 84, 43, 132, 2, 1, 28, 26, 16, 16, 124, 145, 84, 43, 132, 2, 1, 28]
abbrev dktX4_intToBigEndian_2_0 : List UInt8 := dkwX4_intToBigEndian_2_0 ++ dktX4_intToBigEndian_2_1
theorem dksX4_intToBigEndian_2_0 : cX4_intToBigEndian_2.data.toList.drop 0 = dktX4_intToBigEndian_2_0 := by decide +kernel
theorem dksX4_intToBigEndian_2_1 : cX4_intToBigEndian_2.data.toList.drop 24 = dktX4_intToBigEndian_2_1 := dk_seg dksX4_intToBigEndian_2_0 24 rfl rfl
theorem dX4_intToBigEndian_2_0 : decode cX4_intToBigEndian_2 0 = .ok (.aload_n 1, 1) := dk_43 (dk_at dksX4_intToBigEndian_2_0 0 rfl rfl)
theorem dX4_intToBigEndian_2_1 : decode cX4_intToBigEndian_2 1 = .ok (.iload_n 2, 1) := dk_28 (dk_at dksX4_intToBigEndian_2_0 1 rfl rfl)
theorem dX4_intToBigEndian_2_2 : decode cX4_intToBigEndian_2 2 = .ok (.iload_n 0, 1) := dk_26 (dk_at dksX4_intToBigEndian_2_0 2 rfl rfl)
theorem dX4_intToBigEndian_2_3 : decode cX4_intToBigEndian_2 3 = .ok (.bipush 24, 2) := dk_16 24 (dk_at dksX4_intToBigEndian_2_0 3 rfl rfl)
theorem dX4_intToBigEndian_2_5 : decode cX4_intToBigEndian_2 5 = .ok (.iushr, 1) := dk_124 (dk_at dksX4_intToBigEndian_2_0 5 rfl rfl)
theorem dX4_intToBigEndian_2_6 : decode cX4_intToBigEndian_2 6 = .ok (.i2b, 1) := dk_145 (dk_at dksX4_intToBigEndian_2_0 6 rfl rfl)
theorem dX4_intToBigEndian_2_7 : decode cX4_intToBigEndian_2 7 = .ok (.bastore, 1) := dk_84 (dk_at dksX4_intToBigEndian_2_0 7 rfl rfl)
theorem dX4_intToBigEndian_2_8 : decode cX4_intToBigEndian_2 8 = .ok (.aload_n 1, 1) := dk_43 (dk_at dksX4_intToBigEndian_2_0 8 rfl rfl)
theorem dX4_intToBigEndian_2_9 : decode cX4_intToBigEndian_2 9 = .ok (.iinc 2 1, 3) := dk_132 2 1 (dk_at dksX4_intToBigEndian_2_0 9 rfl rfl)
theorem dX4_intToBigEndian_2_12 : decode cX4_intToBigEndian_2 12 = .ok (.iload_n 2, 1) := dk_28 (dk_at dksX4_intToBigEndian_2_0 12 rfl rfl)
theorem dX4_intToBigEndian_2_13 : decode cX4_intToBigEndian_2 13 = .ok (.iload_n 0, 1) := dk_26 (dk_at dksX4_intToBigEndian_2_0 13 rfl rfl)
theorem dX4_intToBigEndian_2_14 : decode cX4_intToBigEndian_2 14 = .ok (.bipush 16, 2) := dk_16 16 (dk_at dksX4_intToBigEndian_2_0 14 rfl rfl)
theorem dX4_intToBigEndian_2_16 : decode cX4_intToBigEndian_2 16 = .ok (.iushr, 1) := dk_124 (dk_at dksX4_intToBigEndian_2_0 16 rfl rfl)
theorem dX4_intToBigEndian_2_17 : decode cX4_intToBigEndian_2 17 = .ok (.i2b, 1) := dk_145 (dk_at dksX4_intToBigEndian_2_0 17 rfl rfl)
theorem dX4_intToBigEndian_2_18 : decode cX4_intToBigEndian_2 18 = .ok (.bastore, 1) := dk_84 (dk_at dksX4_intToBigEndian_2_0 18 rfl rfl)
theorem dX4_intToBigEndian_2_19 : decode cX4_intToBigEndian_2 19 = .ok (.aload_n 1, 1) := dk_43 (dk_at dksX4_intToBigEndian_2_0 19 rfl rfl)
theorem dX4_intToBigEndian_2_20 : decode cX4_intToBigEndian_2 20 = .ok (.iinc 2 1, 3) := dk_132 2 1 (dk_at dksX4_intToBigEndian_2_0 20 rfl rfl)
theorem dX4_intToBigEndian_2_23 : decode cX4_intToBigEndian_2 23 = .ok (.iload_n 2, 1) := dk_28 (dk_at dksX4_intToBigEndian_2_0 23 rfl rfl)
theorem dX4_intToBigEndian_2_24 : decode cX4_intToBigEndian_2 24 = .ok (.iload_n 0, 1) := dk_26 (dk_at dksX4_intToBigEndian_2_1 0 rfl rfl)
theorem dX4_intToBigEndian_2_25 : decode cX4_intToBigEndian_2 25 = .ok (.bipush 8, 2) := dk_16 8 (dk_at dksX4_intToBigEndian_2_1 1 rfl rfl)
theorem dX4_intToBigEndian_2_27 : decode cX4_intToBigEndian_2 27 = .ok (.iushr, 1) := dk_124 (dk_at dksX4_intToBigEndian_2_1 3 rfl rfl)
theorem dX4_intToBigEndian_2_28 : decode cX4_intToBigEndian_2 28 = .ok (.i2b, 1) := dk_145 (dk_at dksX4_intToBigEndian_2_1 4 rfl rfl)
theorem dX4_intToBigEndian_2_29 : decode cX4_intToBigEndian_2 29 = .ok (.bastore, 1) := dk_84 (dk_at dksX4_intToBigEndian_2_1 5 rfl rfl)
theorem dX4_intToBigEndian_2_30 : decode cX4_intToBigEndian_2 30 = .ok (.aload_n 1, 1) := dk_43 (dk_at dksX4_intToBigEndian_2_1 6 rfl rfl)
theorem dX4_intToBigEndian_2_31 : decode cX4_intToBigEndian_2 31 = .ok (.iinc 2 1, 3) := dk_132 2 1 (dk_at dksX4_intToBigEndian_2_1 7 rfl rfl)
theorem dX4_intToBigEndian_2_34 : decode cX4_intToBigEndian_2 34 = .ok (.iload_n 2, 1) := dk_28 (dk_at dksX4_intToBigEndian_2_1 10 rfl rfl)
theorem dX4_intToBigEndian_2_35 : decode cX4_intToBigEndian_2 35 = .ok (.iload_n 0, 1) := dk_26 (dk_at dksX4_intToBigEndian_2_1 11 rfl rfl)
theorem dX4_intToBigEndian_2_36 : decode cX4_intToBigEndian_2 36 = .ok (.i2b, 1) := dk_145 (dk_at dksX4_intToBigEndian_2_1 12 rfl rfl)
theorem dX4_intToBigEndian_2_37 : decode cX4_intToBigEndian_2 37 = .ok (.bastore, 1) := dk_84 (dk_at dksX4_intToBigEndian_2_1 13 rfl rfl)
theorem dX4_intToBigEndian_2_38 : decode cX4_intToBigEndian_2 38 = .ok (.return_, 1) := dk_177 (dk_at dksX4_intToBigEndian_2_1 14 rfl rfl)
theorem q16 : (Jvm.Cond.initialized "Pack") ∈ lw_all := lw_g (lw_at lw_m1 7 rfl) rfl
theorem q51 : (Jvm.Cond.static ({ cls := "Pack", name := "bigEndianToInt", desc := "([BI)I" } : Jvm.MethodName)) ∈ lw_all := lw_g (lw_at lw_m1 42 rfl) rfl
theorem q52 : (Jvm.Cond.code ({ cls := "Pack", name := "bigEndianToInt", desc := "([BI)I" } : Jvm.MethodName) prog_5_method_2_code (3 : Nat) (Option.some Jvm.ClassFile.FieldType.int)) ∈ lw_all := lw_g (lw_at lw_m1 43 rfl) rfl
theorem q128 : (Jvm.Cond.static ({ cls := "Pack", name := "intToBigEndian", desc := "([I[BI)V" } : Jvm.MethodName)) ∈ lw_all := lw_g (lw_at lw_m1 119 rfl) rfl
theorem q129 : (Jvm.Cond.code ({ cls := "Pack", name := "intToBigEndian", desc := "([I[BI)V" } : Jvm.MethodName) prog_5_method_4_code (4 : Nat) (Option.none : Option Jvm.ClassFile.FieldType)) ∈ lw_all := lw_g (lw_at lw_m1 120 rfl) rfl
theorem q130 : (Jvm.Cond.methodLink "Pack" (7 : Nat) ({ cls := "Pack", name := "intToBigEndian", desc := "(I[BI)V" } : Jvm.MethodName)) ∈ lw_all := lw_g (lw_at lw_m1 121 rfl) rfl
theorem q131 : (Jvm.Cond.static ({ cls := "Pack", name := "intToBigEndian", desc := "(I[BI)V" } : Jvm.MethodName)) ∈ lw_all := lw_g (lw_at lw_m1 122 rfl) rfl
theorem q132 : (Jvm.Cond.code ({ cls := "Pack", name := "intToBigEndian", desc := "(I[BI)V" } : Jvm.MethodName) prog_5_method_3_code (3 : Nat) (Option.none : Option Jvm.ClassFile.FieldType)) ∈ lw_all := lw_g (lw_at lw_m1 123 rfl) rfl
end
section
/-! GeneralDigest -/
set_option maxRecDepth 100000
def RX2 : String := "GeneralDigest"
abbrev cX2_update : ByteArray := prog_4_method_3_code
def yX2_update : MethodName := ⟨RX2, "update", "([BII)V"⟩
def dkwX2_update_6 : List UInt8 := [181, 0, 25, 177]
abbrev dktX2_update_6 : List UInt8 := dkwX2_update_6 ++ []
def dkwX2_update_5 : List UInt8 := [181, 0, 17, 43, 28, 21, 4, 132, 4, 1, 96, 51, 84, 167, 255, 225, 42, 89, 180, 0, 25, 29, 133, 97]
abbrev dktX2_update_5 : List UInt8 := dkwX2_update_5 ++ dktX2_update_6
def dkwX2_update_4 : List UInt8 := [132, 4, 4, 167, 255, 237, 21, 4, 29, 162, 0, 31, 42, 180, 0, 7, 42, 89, 180, 0, 17, 90, 4, 96]
abbrev dktX2_update_4 : List UInt8 := dkwX2_update_4 ++ dktX2_update_5
def dkwX2_update_3 : List UInt8 := [167, 0, 3, 29, 6, 100, 54, 5, 21, 4, 21, 5, 162, 0, 18, 42, 43, 28, 21, 4, 96, 182, 0, 21]
abbrev dktX2_update_3 : List UInt8 := dkwX2_update_3 ++ dktX2_update_4
def dkwX2_update_2 : List UInt8 := [42, 180, 0, 17, 7, 160, 255, 220, 42, 42, 180, 0, 7, 3, 182, 0, 21, 42, 3, 181, 0, 17]
abbrev dktX2_update_2 : List UInt8 := dkwX2_update_2 ++ dktX2_update_3
def dkwX2_update_1 : List UInt8 := [180, 0, 7, 42, 89, 180, 0, 17, 90, 4, 96, 181, 0, 17, 43, 28, 21, 4, 132, 4, 1, 96, 51, 84]
abbrev dktX2_update_1 : List UInt8 := dkwX2_update_1 ++ dktX2_update_2
def dkwX2_update_0 : List UInt8 := [3, 29, 184, 0, 29, 62, 3, 54, 4, 42, 180, 0, 17, 153, 0, 59, 21, 4, 29, 162, 0, 53, 42]
abbrev dktX2_update_0 : List UInt8 := dkwX2_update_0 ++ dktX2_update_1
theorem dksX2_update_0 : cX2_update.data.toList.drop 0 = dktX2_update_0 := by decide +kernel
theorem dksX2_update_1 : cX2_update.data.toList.drop 23 = dktX2_update_1 := dk_seg dksX2_update_0 23 rfl rfl
theorem dksX2_update_2 : cX2_update.data.toList.drop 47 = dktX2_update_2 := dk_seg dksX2_update_1 24 rfl rfl
theorem dksX2_update_3 : cX2_update.data.toList.drop 69 = dktX2_update_3 := dk_seg dksX2_update_2 22 rfl rfl
theorem dksX2_update_4 : cX2_update.data.toList.drop 93 = dktX2_update_4 := dk_seg dksX2_update_3 24 rfl rfl
theorem dksX2_update_5 : cX2_update.data.toList.drop 117 = dktX2_update_5 := dk_seg dksX2_update_4 24 rfl rfl
theorem dksX2_update_6 : cX2_update.data.toList.drop 141 = dktX2_update_6 := dk_seg dksX2_update_5 24 rfl rfl
theorem dX2_update_0 : decode cX2_update 0 = .ok (.iconst 0, 1) := dk_3 (dk_at dksX2_update_0 0 rfl rfl)
theorem dX2_update_1 : decode cX2_update 1 = .ok (.iload_n 3, 1) := dk_29 (dk_at dksX2_update_0 1 rfl rfl)
theorem dX2_update_2 : decode cX2_update 2 = .ok (.invokestatic 29, 3) := dk_184 0 29 (dk_at dksX2_update_0 2 rfl rfl)
theorem dX2_update_5 : decode cX2_update 5 = .ok (.istore_n 3, 1) := dk_62 (dk_at dksX2_update_0 5 rfl rfl)
theorem dX2_update_6 : decode cX2_update 6 = .ok (.iconst 0, 1) := dk_3 (dk_at dksX2_update_0 6 rfl rfl)
theorem dX2_update_7 : decode cX2_update 7 = .ok (.istore 4, 2) := dk_54 4 (dk_at dksX2_update_0 7 rfl rfl)
theorem dX2_update_9 : decode cX2_update 9 = .ok (.aload_n 0, 1) := dk_42 (dk_at dksX2_update_0 9 rfl rfl)
theorem dX2_update_10 : decode cX2_update 10 = .ok (.getfield 17, 3) := dk_180 0 17 (dk_at dksX2_update_0 10 rfl rfl)
theorem dX2_update_13 : decode cX2_update 13 = .ok (.ifCond .eq 59, 3) := dk_153 0 59 (dk_at dksX2_update_0 13 rfl rfl)
theorem dX2_update_16 : decode cX2_update 16 = .ok (.iload 4, 2) := dk_21 4 (dk_at dksX2_update_0 16 rfl rfl)
theorem dX2_update_18 : decode cX2_update 18 = .ok (.iload_n 3, 1) := dk_29 (dk_at dksX2_update_0 18 rfl rfl)
theorem dX2_update_19 : decode cX2_update 19 = .ok (.if_icmp .ge 53, 3) := dk_162 0 53 (dk_at dksX2_update_0 19 rfl rfl)
theorem dX2_update_22 : decode cX2_update 22 = .ok (.aload_n 0, 1) := dk_42 (dk_at dksX2_update_0 22 rfl rfl)
theorem dX2_update_23 : decode cX2_update 23 = .ok (.getfield 7, 3) := dk_180 0 7 (dk_at dksX2_update_1 0 rfl rfl)
theorem dX2_update_26 : decode cX2_update 26 = .ok (.aload_n 0, 1) := dk_42 (dk_at dksX2_update_1 3 rfl rfl)
theorem dX2_update_27 : decode cX2_update 27 = .ok (.dup, 1) := dk_89 (dk_at dksX2_update_1 4 rfl rfl)
theorem dX2_update_28 : decode cX2_update 28 = .ok (.getfield 17, 3) := dk_180 0 17 (dk_at dksX2_update_1 5 rfl rfl)
theorem dX2_update_31 : decode cX2_update 31 = .ok (.dup_x1, 1) := dk_90 (dk_at dksX2_update_1 8 rfl rfl)
theorem dX2_update_32 : decode cX2_update 32 = .ok (.iconst 1, 1) := dk_4 (dk_at dksX2_update_1 9 rfl rfl)
theorem dX2_update_33 : decode cX2_update 33 = .ok (.iadd, 1) := dk_96 (dk_at dksX2_update_1 10 rfl rfl)
theorem dX2_update_34 : decode cX2_update 34 = .ok (.putfield 17, 3) := dk_181 0 17 (dk_at dksX2_update_1 11 rfl rfl)
theorem dX2_update_37 : decode cX2_update 37 = .ok (.aload_n 1, 1) := dk_43 (dk_at dksX2_update_1 14 rfl rfl)
theorem dX2_update_38 : decode cX2_update 38 = .ok (.iload_n 2, 1) := dk_28 (dk_at dksX2_update_1 15 rfl rfl)
theorem dX2_update_39 : decode cX2_update 39 = .ok (.iload 4, 2) := dk_21 4 (dk_at dksX2_update_1 16 rfl rfl)
theorem dX2_update_41 : decode cX2_update 41 = .ok (.iinc 4 1, 3) := dk_132 4 1 (dk_at dksX2_update_1 18 rfl rfl)
theorem dX2_update_44 : decode cX2_update 44 = .ok (.iadd, 1) := dk_96 (dk_at dksX2_update_1 21 rfl rfl)
theorem dX2_update_45 : decode cX2_update 45 = .ok (.baload, 1) := dk_51 (dk_at dksX2_update_1 22 rfl rfl)
theorem dX2_update_46 : decode cX2_update 46 = .ok (.bastore, 1) := dk_84 (dk_at dksX2_update_1 23 rfl rfl)
theorem dX2_update_47 : decode cX2_update 47 = .ok (.aload_n 0, 1) := dk_42 (dk_at dksX2_update_2 0 rfl rfl)
theorem dX2_update_48 : decode cX2_update 48 = .ok (.getfield 17, 3) := dk_180 0 17 (dk_at dksX2_update_2 1 rfl rfl)
theorem dX2_update_51 : decode cX2_update 51 = .ok (.iconst 4, 1) := dk_7 (dk_at dksX2_update_2 4 rfl rfl)
theorem dX2_update_52 : decode cX2_update 52 = .ok (.if_icmp .ne (-36), 3) := dk_160 255 220 (dk_at dksX2_update_2 5 rfl rfl)
theorem dX2_update_55 : decode cX2_update 55 = .ok (.aload_n 0, 1) := dk_42 (dk_at dksX2_update_2 8 rfl rfl)
theorem dX2_update_56 : decode cX2_update 56 = .ok (.aload_n 0, 1) := dk_42 (dk_at dksX2_update_2 9 rfl rfl)
theorem dX2_update_57 : decode cX2_update 57 = .ok (.getfield 7, 3) := dk_180 0 7 (dk_at dksX2_update_2 10 rfl rfl)
theorem dX2_update_60 : decode cX2_update 60 = .ok (.iconst 0, 1) := dk_3 (dk_at dksX2_update_2 13 rfl rfl)
theorem dX2_update_61 : decode cX2_update 61 = .ok (.invokevirtual 21, 3) := dk_182 0 21 (dk_at dksX2_update_2 14 rfl rfl)
theorem dX2_update_64 : decode cX2_update 64 = .ok (.aload_n 0, 1) := dk_42 (dk_at dksX2_update_2 17 rfl rfl)
theorem dX2_update_65 : decode cX2_update 65 = .ok (.iconst 0, 1) := dk_3 (dk_at dksX2_update_2 18 rfl rfl)
theorem dX2_update_66 : decode cX2_update 66 = .ok (.putfield 17, 3) := dk_181 0 17 (dk_at dksX2_update_2 19 rfl rfl)
theorem dX2_update_69 : decode cX2_update 69 = .ok (.goto 3, 3) := dk_167 0 3 (dk_at dksX2_update_3 0 rfl rfl)
theorem dX2_update_72 : decode cX2_update 72 = .ok (.iload_n 3, 1) := dk_29 (dk_at dksX2_update_3 3 rfl rfl)
theorem dX2_update_73 : decode cX2_update 73 = .ok (.iconst 3, 1) := dk_6 (dk_at dksX2_update_3 4 rfl rfl)
theorem dX2_update_74 : decode cX2_update 74 = .ok (.isub, 1) := dk_100 (dk_at dksX2_update_3 5 rfl rfl)
theorem dX2_update_75 : decode cX2_update 75 = .ok (.istore 5, 2) := dk_54 5 (dk_at dksX2_update_3 6 rfl rfl)
theorem dX2_update_77 : decode cX2_update 77 = .ok (.iload 4, 2) := dk_21 4 (dk_at dksX2_update_3 8 rfl rfl)
theorem dX2_update_79 : decode cX2_update 79 = .ok (.iload 5, 2) := dk_21 5 (dk_at dksX2_update_3 10 rfl rfl)
theorem dX2_update_81 : decode cX2_update 81 = .ok (.if_icmp .ge 18, 3) := dk_162 0 18 (dk_at dksX2_update_3 12 rfl rfl)
theorem dX2_update_84 : decode cX2_update 84 = .ok (.aload_n 0, 1) := dk_42 (dk_at dksX2_update_3 15 rfl rfl)
theorem dX2_update_85 : decode cX2_update 85 = .ok (.aload_n 1, 1) := dk_43 (dk_at dksX2_update_3 16 rfl rfl)
theorem dX2_update_86 : decode cX2_update 86 = .ok (.iload_n 2, 1) := dk_28 (dk_at dksX2_update_3 17 rfl rfl)
theorem dX2_update_87 : decode cX2_update 87 = .ok (.iload 4, 2) := dk_21 4 (dk_at dksX2_update_3 18 rfl rfl)
theorem dX2_update_89 : decode cX2_update 89 = .ok (.iadd, 1) := dk_96 (dk_at dksX2_update_3 20 rfl rfl)
theorem dX2_update_90 : decode cX2_update 90 = .ok (.invokevirtual 21, 3) := dk_182 0 21 (dk_at dksX2_update_3 21 rfl rfl)
theorem dX2_update_93 : decode cX2_update 93 = .ok (.iinc 4 4, 3) := dk_132 4 4 (dk_at dksX2_update_4 0 rfl rfl)
theorem dX2_update_96 : decode cX2_update 96 = .ok (.goto (-19), 3) := dk_167 255 237 (dk_at dksX2_update_4 3 rfl rfl)
theorem dX2_update_99 : decode cX2_update 99 = .ok (.iload 4, 2) := dk_21 4 (dk_at dksX2_update_4 6 rfl rfl)
theorem dX2_update_101 : decode cX2_update 101 = .ok (.iload_n 3, 1) := dk_29 (dk_at dksX2_update_4 8 rfl rfl)
theorem dX2_update_102 : decode cX2_update 102 = .ok (.if_icmp .ge 31, 3) := dk_162 0 31 (dk_at dksX2_update_4 9 rfl rfl)
theorem dX2_update_105 : decode cX2_update 105 = .ok (.aload_n 0, 1) := dk_42 (dk_at dksX2_update_4 12 rfl rfl)
theorem dX2_update_106 : decode cX2_update 106 = .ok (.getfield 7, 3) := dk_180 0 7 (dk_at dksX2_update_4 13 rfl rfl)
theorem dX2_update_109 : decode cX2_update 109 = .ok (.aload_n 0, 1) := dk_42 (dk_at dksX2_update_4 16 rfl rfl)
theorem dX2_update_110 : decode cX2_update 110 = .ok (.dup, 1) := dk_89 (dk_at dksX2_update_4 17 rfl rfl)
theorem dX2_update_111 : decode cX2_update 111 = .ok (.getfield 17, 3) := dk_180 0 17 (dk_at dksX2_update_4 18 rfl rfl)
theorem dX2_update_114 : decode cX2_update 114 = .ok (.dup_x1, 1) := dk_90 (dk_at dksX2_update_4 21 rfl rfl)
theorem dX2_update_115 : decode cX2_update 115 = .ok (.iconst 1, 1) := dk_4 (dk_at dksX2_update_4 22 rfl rfl)
theorem dX2_update_116 : decode cX2_update 116 = .ok (.iadd, 1) := dk_96 (dk_at dksX2_update_4 23 rfl rfl)
theorem dX2_update_117 : decode cX2_update 117 = .ok (.putfield 17, 3) := dk_181 0 17 (dk_at dksX2_update_5 0 rfl rfl)
theorem dX2_update_120 : decode cX2_update 120 = .ok (.aload_n 1, 1) := dk_43 (dk_at dksX2_update_5 3 rfl rfl)
theorem dX2_update_121 : decode cX2_update 121 = .ok (.iload_n 2, 1) := dk_28 (dk_at dksX2_update_5 4 rfl rfl)
theorem dX2_update_122 : decode cX2_update 122 = .ok (.iload 4, 2) := dk_21 4 (dk_at dksX2_update_5 5 rfl rfl)
theorem dX2_update_124 : decode cX2_update 124 = .ok (.iinc 4 1, 3) := dk_132 4 1 (dk_at dksX2_update_5 7 rfl rfl)
theorem dX2_update_127 : decode cX2_update 127 = .ok (.iadd, 1) := dk_96 (dk_at dksX2_update_5 10 rfl rfl)
theorem dX2_update_128 : decode cX2_update 128 = .ok (.baload, 1) := dk_51 (dk_at dksX2_update_5 11 rfl rfl)
theorem dX2_update_129 : decode cX2_update 129 = .ok (.bastore, 1) := dk_84 (dk_at dksX2_update_5 12 rfl rfl)
theorem dX2_update_130 : decode cX2_update 130 = .ok (.goto (-31), 3) := dk_167 255 225 (dk_at dksX2_update_5 13 rfl rfl)
theorem dX2_update_133 : decode cX2_update 133 = .ok (.aload_n 0, 1) := dk_42 (dk_at dksX2_update_5 16 rfl rfl)
theorem dX2_update_134 : decode cX2_update 134 = .ok (.dup, 1) := dk_89 (dk_at dksX2_update_5 17 rfl rfl)
theorem dX2_update_135 : decode cX2_update 135 = .ok (.getfield 25, 3) := dk_180 0 25 (dk_at dksX2_update_5 18 rfl rfl)
theorem dX2_update_138 : decode cX2_update 138 = .ok (.iload_n 3, 1) := dk_29 (dk_at dksX2_update_5 21 rfl rfl)
theorem dX2_update_139 : decode cX2_update 139 = .ok (.i2l, 1) := dk_133 (dk_at dksX2_update_5 22 rfl rfl)
theorem dX2_update_140 : decode cX2_update 140 = .ok (.ladd, 1) := dk_97 (dk_at dksX2_update_5 23 rfl rfl)
theorem dX2_update_141 : decode cX2_update 141 = .ok (.putfield 25, 3) := dk_181 0 25 (dk_at dksX2_update_6 0 rfl rfl)
theorem dX2_update_144 : decode cX2_update 144 = .ok (.return_, 1) := dk_177 (dk_at dksX2_update_6 3 rfl rfl)
abbrev cX2_update_2 : ByteArray := prog_4_method_2_code
def yX2_update_2 : MethodName := ⟨RX2, "update", "(B)V"⟩
def dkwX2_update_2_2 : List UInt8 := [180, 0, 25, 10, 97, 181, 0, 25, 177]
abbrev dktX2_update_2_2 : List UInt8 := dkwX2_update_2_2 ++ []
def dkwX2_update_2_1 : List UInt8 := [180, 0, 7, 190, 160, 0, 17, 42, 42, 180, 0, 7, 3, 182, 0, 21, 42, 3, 181, 0, 17, 42, 89]
abbrev dktX2_update_2_1 : List UInt8 := dkwX2_update_2_1 ++ dktX2_update_2_2
def dkwX2_update_2_0 : List UInt8 := [42, 180, 0, 7, 42, 89, 180, 0, 17, 90, 4, 96, 181, 0, 17, 27, 84, 42, 180, 0, 17, 42]
abbrev dktX2_update_2_0 : List UInt8 := dkwX2_update_2_0 ++ dktX2_update_2_1
theorem dksX2_update_2_0 : cX2_update_2.data.toList.drop 0 = dktX2_update_2_0 := by decide +kernel
theorem dksX2_update_2_1 : cX2_update_2.data.toList.drop 22 = dktX2_update_2_1 := dk_seg dksX2_update_2_0 22 rfl rfl
theorem dksX2_update_2_2 : cX2_update_2.data.toList.drop 45 = dktX2_update_2_2 := dk_seg dksX2_update_2_1 23 rfl rfl
theorem dX2_update_2_0 : decode cX2_update_2 0 = .ok (.aload_n 0, 1) := dk_42 (dk_at dksX2_update_2_0 0 rfl rfl)
theorem dX2_update_2_1 : decode cX2_update_2 1 = .ok (.getfield 7, 3) := dk_180 0 7 (dk_at dksX2_update_2_0 1 rfl rfl)
theorem dX2_update_2_4 : decode cX2_update_2 4 = .ok (.aload_n 0, 1) := dk_42 (dk_at dksX2_update_2_0 4 rfl rfl)
theorem dX2_update_2_5 : decode cX2_update_2 5 = .ok (.dup, 1) := dk_89 (dk_at dksX2_update_2_0 5 rfl rfl)
theorem dX2_update_2_6 : decode cX2_update_2 6 = .ok (.getfield 17, 3) := dk_180 0 17 (dk_at dksX2_update_2_0 6 rfl rfl)
theorem dX2_update_2_9 : decode cX2_update_2 9 = .ok (.dup_x1, 1) := dk_90 (dk_at dksX2_update_2_0 9 rfl rfl)
theorem dX2_update_2_10 : decode cX2_update_2 10 = .ok (.iconst 1, 1) := dk_4 (dk_at dksX2_update_2_0 10 rfl rfl)
theorem dX2_update_2_11 : decode cX2_update_2 11 = .ok (.iadd, 1) := dk_96 (dk_at dksX2_update_2_0 11 rfl rfl)
theorem dX2_update_2_12 : decode cX2_update_2 12 = .ok (.putfield 17, 3) := dk_181 0 17 (dk_at dksX2_update_2_0 12 rfl rfl)
theorem dX2_update_2_15 : decode cX2_update_2 15 = .ok (.iload_n 1, 1) := dk_27 (dk_at dksX2_update_2_0 15 rfl rfl)
theorem dX2_update_2_16 : decode cX2_update_2 16 = .ok (.bastore, 1) := dk_84 (dk_at dksX2_update_2_0 16 rfl rfl)
theorem dX2_update_2_17 : decode cX2_update_2 17 = .ok (.aload_n 0, 1) := dk_42 (dk_at dksX2_update_2_0 17 rfl rfl)
theorem dX2_update_2_18 : decode cX2_update_2 18 = .ok (.getfield 17, 3) := dk_180 0 17 (dk_at dksX2_update_2_0 18 rfl rfl)
theorem dX2_update_2_21 : decode cX2_update_2 21 = .ok (.aload_n 0, 1) := dk_42 (dk_at dksX2_update_2_0 21 rfl rfl)
theorem dX2_update_2_22 : decode cX2_update_2 22 = .ok (.getfield 7, 3) := dk_180 0 7 (dk_at dksX2_update_2_1 0 rfl rfl)
theorem dX2_update_2_25 : decode cX2_update_2 25 = .ok (.arraylength, 1) := dk_190 (dk_at dksX2_update_2_1 3 rfl rfl)
theorem dX2_update_2_26 : decode cX2_update_2 26 = .ok (.if_icmp .ne 17, 3) := dk_160 0 17 (dk_at dksX2_update_2_1 4 rfl rfl)
theorem dX2_update_2_29 : decode cX2_update_2 29 = .ok (.aload_n 0, 1) := dk_42 (dk_at dksX2_update_2_1 7 rfl rfl)
theorem dX2_update_2_30 : decode cX2_update_2 30 = .ok (.aload_n 0, 1) := dk_42 (dk_at dksX2_update_2_1 8 rfl rfl)
theorem dX2_update_2_31 : decode cX2_update_2 31 = .ok (.getfield 7, 3) := dk_180 0 7 (dk_at dksX2_update_2_1 9 rfl rfl)
theorem dX2_update_2_34 : decode cX2_update_2 34 = .ok (.iconst 0, 1) := dk_3 (dk_at dksX2_update_2_1 12 rfl rfl)
theorem dX2_update_2_35 : decode cX2_update_2 35 = .ok (.invokevirtual 21, 3) := dk_182 0 21 (dk_at dksX2_update_2_1 13 rfl rfl)
theorem dX2_update_2_38 : decode cX2_update_2 38 = .ok (.aload_n 0, 1) := dk_42 (dk_at dksX2_update_2_1 16 rfl rfl)
theorem dX2_update_2_39 : decode cX2_update_2 39 = .ok (.iconst 0, 1) := dk_3 (dk_at dksX2_update_2_1 17 rfl rfl)
theorem dX2_update_2_40 : decode cX2_update_2 40 = .ok (.putfield 17, 3) := dk_181 0 17 (dk_at dksX2_update_2_1 18 rfl rfl)
theorem dX2_update_2_43 : decode cX2_update_2 43 = .ok (.aload_n 0, 1) := dk_42 (dk_at dksX2_update_2_1 21 rfl rfl)
theorem dX2_update_2_44 : decode cX2_update_2 44 = .ok (.dup, 1) := dk_89 (dk_at dksX2_update_2_1 22 rfl rfl)
theorem dX2_update_2_45 : decode cX2_update_2 45 = .ok (.getfield 25, 3) := dk_180 0 25 (dk_at dksX2_update_2_2 0 rfl rfl)
theorem dX2_update_2_48 : decode cX2_update_2 48 = .ok (.lconst 1, 1) := dk_10 (dk_at dksX2_update_2_2 3 rfl rfl)
theorem dX2_update_2_49 : decode cX2_update_2 49 = .ok (.ladd, 1) := dk_97 (dk_at dksX2_update_2_2 4 rfl rfl)
theorem dX2_update_2_50 : decode cX2_update_2 50 = .ok (.putfield 25, 3) := dk_181 0 25 (dk_at dksX2_update_2_2 5 rfl rfl)
theorem dX2_update_2_53 : decode cX2_update_2 53 = .ok (.return_, 1) := dk_177 (dk_at dksX2_update_2_2 8 rfl rfl)
abbrev cX2_finish : ByteArray := prog_4_method_4_code
def yX2_finish : MethodName := ⟨RX2, "finish", "()V"⟩
def dkwX2_finish_1 : List UInt8 := [182, 0, 35, 167, 255, 244, 42, 31, 182, 0, 39, 42, 182, 0, 43, 177]
abbrev dktX2_finish_1 : List UInt8 := dkwX2_finish_1 ++ []
def dkwX2_finish_0 : List UInt8 := [42, 180, 0, 25, 6, 121, 64, 42, 16, 128, 182, 0, 35, 42, 180, 0, 17, 153, 0, 11, 42, 3]
abbrev dktX2_finish_0 : List UInt8 := dkwX2_finish_0 ++ dktX2_finish_1
theorem dksX2_finish_0 : cX2_finish.data.toList.drop 0 = dktX2_finish_0 := by decide +kernel
theorem dksX2_finish_1 : cX2_finish.data.toList.drop 22 = dktX2_finish_1 := dk_seg dksX2_finish_0 22 rfl rfl
theorem dX2_finish_0 : decode cX2_finish 0 = .ok (.aload_n 0, 1) := dk_42 (dk_at dksX2_finish_0 0 rfl rfl)
theorem dX2_finish_1 : decode cX2_finish 1 = .ok (.getfield 25, 3) := dk_180 0 25 (dk_at dksX2_finish_0 1 rfl rfl)
theorem dX2_finish_4 : decode cX2_finish 4 = .ok (.iconst 3, 1) := dk_6 (dk_at dksX2_finish_0 4 rfl rfl)
theorem dX2_finish_5 : decode cX2_finish 5 = .ok (.lshl, 1) := dk_121 (dk_at dksX2_finish_0 5 rfl rfl)
theorem dX2_finish_6 : decode cX2_finish 6 = .ok (.lstore_n 1, 1) := dk_64 (dk_at dksX2_finish_0 6 rfl rfl)
theorem dX2_finish_7 : decode cX2_finish 7 = .ok (.aload_n 0, 1) := dk_42 (dk_at dksX2_finish_0 7 rfl rfl)
theorem dX2_finish_8 : decode cX2_finish 8 = .ok (.bipush (-128), 2) := dk_16 128 (dk_at dksX2_finish_0 8 rfl rfl)
theorem dX2_finish_10 : decode cX2_finish 10 = .ok (.invokevirtual 35, 3) := dk_182 0 35 (dk_at dksX2_finish_0 10 rfl rfl)
theorem dX2_finish_13 : decode cX2_finish 13 = .ok (.aload_n 0, 1) := dk_42 (dk_at dksX2_finish_0 13 rfl rfl)
theorem dX2_finish_14 : decode cX2_finish 14 = .ok (.getfield 17, 3) := dk_180 0 17 (dk_at dksX2_finish_0 14 rfl rfl)
theorem dX2_finish_17 : decode cX2_finish 17 = .ok (.ifCond .eq 11, 3) := dk_153 0 11 (dk_at dksX2_finish_0 17 rfl rfl)
theorem dX2_finish_20 : decode cX2_finish 20 = .ok (.aload_n 0, 1) := dk_42 (dk_at dksX2_finish_0 20 rfl rfl)
theorem dX2_finish_21 : decode cX2_finish 21 = .ok (.iconst 0, 1) := dk_3 (dk_at dksX2_finish_0 21 rfl rfl)
theorem dX2_finish_22 : decode cX2_finish 22 = .ok (.invokevirtual 35, 3) := dk_182 0 35 (dk_at dksX2_finish_1 0 rfl rfl)
theorem dX2_finish_25 : decode cX2_finish 25 = .ok (.goto (-12), 3) := dk_167 255 244 (dk_at dksX2_finish_1 3 rfl rfl)
theorem dX2_finish_28 : decode cX2_finish 28 = .ok (.aload_n 0, 1) := dk_42 (dk_at dksX2_finish_1 6 rfl rfl)
theorem dX2_finish_29 : decode cX2_finish 29 = .ok (.lload_n 1, 1) := dk_31 (dk_at dksX2_finish_1 7 rfl rfl)
theorem dX2_finish_30 : decode cX2_finish 30 = .ok (.invokevirtual 39, 3) := dk_182 0 39 (dk_at dksX2_finish_1 8 rfl rfl)
theorem dX2_finish_33 : decode cX2_finish 33 = .ok (.aload_n 0, 1) := dk_42 (dk_at dksX2_finish_1 11 rfl rfl)
theorem dX2_finish_34 : decode cX2_finish 34 = .ok (.invokevirtual 43, 3) := dk_182 0 43 (dk_at dksX2_finish_1 12 rfl rfl)
theorem dX2_finish_37 : decode cX2_finish 37 = .ok (.return_, 1) := dk_177 (dk_at dksX2_finish_1 15 rfl rfl)
abbrev cX2_reset : ByteArray := prog_4_method_5_code
def yX2_reset : MethodName := ⟨RX2, "reset", "()V"⟩
def dkwX2_reset_1 : List UInt8 := [180, 0, 7, 27, 3, 84, 132, 1, 1, 167, 255, 237, 177]
abbrev dktX2_reset_1 : List UInt8 := dkwX2_reset_1 ++ []
def dkwX2_reset_0 : List UInt8 := [42, 9, 181, 0, 25, 42, 3, 181, 0, 17, 3, 60, 27, 42, 180, 0, 7, 190, 162, 0, 16, 42]
abbrev dktX2_reset_0 : List UInt8 := dkwX2_reset_0 ++ dktX2_reset_1
theorem dksX2_reset_0 : cX2_reset.data.toList.drop 0 = dktX2_reset_0 := by decide +kernel
theorem dksX2_reset_1 : cX2_reset.data.toList.drop 22 = dktX2_reset_1 := dk_seg dksX2_reset_0 22 rfl rfl
theorem dX2_reset_0 : decode cX2_reset 0 = .ok (.aload_n 0, 1) := dk_42 (dk_at dksX2_reset_0 0 rfl rfl)
theorem dX2_reset_1 : decode cX2_reset 1 = .ok (.lconst 0, 1) := dk_9 (dk_at dksX2_reset_0 1 rfl rfl)
theorem dX2_reset_2 : decode cX2_reset 2 = .ok (.putfield 25, 3) := dk_181 0 25 (dk_at dksX2_reset_0 2 rfl rfl)
theorem dX2_reset_5 : decode cX2_reset 5 = .ok (.aload_n 0, 1) := dk_42 (dk_at dksX2_reset_0 5 rfl rfl)
theorem dX2_reset_6 : decode cX2_reset 6 = .ok (.iconst 0, 1) := dk_3 (dk_at dksX2_reset_0 6 rfl rfl)
theorem dX2_reset_7 : decode cX2_reset 7 = .ok (.putfield 17, 3) := dk_181 0 17 (dk_at dksX2_reset_0 7 rfl rfl)
theorem dX2_reset_10 : decode cX2_reset 10 = .ok (.iconst 0, 1) := dk_3 (dk_at dksX2_reset_0 10 rfl rfl)
theorem dX2_reset_11 : decode cX2_reset 11 = .ok (.istore_n 1, 1) := dk_60 (dk_at dksX2_reset_0 11 rfl rfl)
theorem dX2_reset_12 : decode cX2_reset 12 = .ok (.iload_n 1, 1) := dk_27 (dk_at dksX2_reset_0 12 rfl rfl)
theorem dX2_reset_13 : decode cX2_reset 13 = .ok (.aload_n 0, 1) := dk_42 (dk_at dksX2_reset_0 13 rfl rfl)
theorem dX2_reset_14 : decode cX2_reset 14 = .ok (.getfield 7, 3) := dk_180 0 7 (dk_at dksX2_reset_0 14 rfl rfl)
theorem dX2_reset_17 : decode cX2_reset 17 = .ok (.arraylength, 1) := dk_190 (dk_at dksX2_reset_0 17 rfl rfl)
theorem dX2_reset_18 : decode cX2_reset 18 = .ok (.if_icmp .ge 16, 3) := dk_162 0 16 (dk_at dksX2_reset_0 18 rfl rfl)
theorem dX2_reset_21 : decode cX2_reset 21 = .ok (.aload_n 0, 1) := dk_42 (dk_at dksX2_reset_0 21 rfl rfl)
theorem dX2_reset_22 : decode cX2_reset 22 = .ok (.getfield 7, 3) := dk_180 0 7 (dk_at dksX2_reset_1 0 rfl rfl)
theorem dX2_reset_25 : decode cX2_reset 25 = .ok (.iload_n 1, 1) := dk_27 (dk_at dksX2_reset_1 3 rfl rfl)
theorem dX2_reset_26 : decode cX2_reset 26 = .ok (.iconst 0, 1) := dk_3 (dk_at dksX2_reset_1 4 rfl rfl)
theorem dX2_reset_27 : decode cX2_reset 27 = .ok (.bastore, 1) := dk_84 (dk_at dksX2_reset_1 5 rfl rfl)
theorem dX2_reset_28 : decode cX2_reset 28 = .ok (.iinc 1 1, 3) := dk_132 1 1 (dk_at dksX2_reset_1 6 rfl rfl)
theorem dX2_reset_31 : decode cX2_reset 31 = .ok (.goto (-19), 3) := dk_167 255 237 (dk_at dksX2_reset_1 9 rfl rfl)
theorem dX2_reset_34 : decode cX2_reset 34 = .ok (.return_, 1) := dk_177 (dk_at dksX2_reset_1 12 rfl rfl)
abbrev cX2_init : ByteArray := prog_4_method_1_code
def yX2_init : MethodName := ⟨RX2, "<init>", "(LCryptoServicePurpose;)V"⟩
def dkwX2_init_0 : List UInt8 := [42, 183, 0, 1, 42, 7, 188, 8, 181, 0, 7, 42, 43, 181, 0, 13, 42, 3, 181, 0, 17, 177]
abbrev dktX2_init_0 : List UInt8 := dkwX2_init_0 ++ []
theorem dksX2_init_0 : cX2_init.data.toList.drop 0 = dktX2_init_0 := by decide +kernel
theorem dX2_init_0 : decode cX2_init 0 = .ok (.aload_n 0, 1) := dk_42 (dk_at dksX2_init_0 0 rfl rfl)
theorem dX2_init_1 : decode cX2_init 1 = .ok (.invokespecial 1, 3) := dk_183 0 1 (dk_at dksX2_init_0 1 rfl rfl)
theorem dX2_init_4 : decode cX2_init 4 = .ok (.aload_n 0, 1) := dk_42 (dk_at dksX2_init_0 4 rfl rfl)
theorem dX2_init_5 : decode cX2_init 5 = .ok (.iconst 4, 1) := dk_7 (dk_at dksX2_init_0 5 rfl rfl)
theorem dX2_init_6 : decode cX2_init 6 = .ok (.newarray .byte, 2) := dk_188_8 (dk_at dksX2_init_0 6 rfl rfl)
theorem dX2_init_8 : decode cX2_init 8 = .ok (.putfield 7, 3) := dk_181 0 7 (dk_at dksX2_init_0 8 rfl rfl)
theorem dX2_init_11 : decode cX2_init 11 = .ok (.aload_n 0, 1) := dk_42 (dk_at dksX2_init_0 11 rfl rfl)
theorem dX2_init_12 : decode cX2_init 12 = .ok (.aload_n 1, 1) := dk_43 (dk_at dksX2_init_0 12 rfl rfl)
theorem dX2_init_13 : decode cX2_init 13 = .ok (.putfield 13, 3) := dk_181 0 13 (dk_at dksX2_init_0 13 rfl rfl)
theorem dX2_init_16 : decode cX2_init 16 = .ok (.aload_n 0, 1) := dk_42 (dk_at dksX2_init_0 16 rfl rfl)
theorem dX2_init_17 : decode cX2_init 17 = .ok (.iconst 0, 1) := dk_3 (dk_at dksX2_init_0 17 rfl rfl)
theorem dX2_init_18 : decode cX2_init 18 = .ok (.putfield 17, 3) := dk_181 0 17 (dk_at dksX2_init_0 18 rfl rfl)
theorem dX2_init_21 : decode cX2_init 21 = .ok (.return_, 1) := dk_177 (dk_at dksX2_init_0 21 rfl rfl)
theorem q11 : (Jvm.Cond.initialized "GeneralDigest") ∈ lw_all := lw_g (lw_at lw_m1 2 rfl) rfl
theorem q38 : (Jvm.Cond.instanceMethod ({ cls := "GeneralDigest", name := "update", desc := "([BII)V" } : Jvm.MethodName)) ∈ lw_all := lw_g (lw_at lw_m1 29 rfl) rfl
theorem q39 : (Jvm.Cond.publicMethod ({ cls := "GeneralDigest", name := "update", desc := "([BII)V" } : Jvm.MethodName)) ∈ lw_tbl := lw_at lw_m1 30 rfl
theorem q40 : (Jvm.Cond.code ({ cls := "GeneralDigest", name := "update", desc := "([BII)V" } : Jvm.MethodName) prog_4_method_3_code (6 : Nat) (Option.none : Option Jvm.ClassFile.FieldType)) ∈ lw_all := lw_g (lw_at lw_m1 31 rfl) rfl
theorem q41 : (Jvm.Cond.methodLink "GeneralDigest" (29 : Nat) ({ cls := "java/lang/Math", name := "max", desc := "(II)I" } : Jvm.MethodName)) ∈ lw_all := lw_g (lw_at lw_m1 32 rfl) rfl
theorem q44 : (Jvm.Cond.methodLink "GeneralDigest" (21 : Nat) ({ cls := "GeneralDigest", name := "processWord", desc := "([BI)V" } : Jvm.MethodName)) ∈ lw_all := lw_g (lw_at lw_m1 35 rfl) rfl
theorem q45 : (Jvm.Cond.declares ({ cls := "GeneralDigest", name := "processWord", desc := "([BI)V" } : Jvm.MethodName)) ∈ lw_tbl := lw_at lw_m1 36 rfl
theorem q46 : (Jvm.Cond.sameMethod "GeneralDigest" "GeneralDigest" "processWord" "([BI)V") ∈ lw_all := lw_g (lw_at lw_m1 37 rfl) rfl
theorem q94 : (Jvm.Cond.instanceMethod ({ cls := "GeneralDigest", name := "update", desc := "(B)V" } : Jvm.MethodName)) ∈ lw_all := lw_g (lw_at lw_m1 85 rfl) rfl
theorem q95 : (Jvm.Cond.publicMethod ({ cls := "GeneralDigest", name := "update", desc := "(B)V" } : Jvm.MethodName)) ∈ lw_tbl := lw_at lw_m1 86 rfl
theorem q96 : (Jvm.Cond.code ({ cls := "GeneralDigest", name := "update", desc := "(B)V" } : Jvm.MethodName) prog_4_method_2_code (2 : Nat) (Option.none : Option Jvm.ClassFile.FieldType)) ∈ lw_all := lw_g (lw_at lw_m1 87 rfl) rfl
theorem q112 : (Jvm.Cond.declares ({ cls := "GeneralDigest", name := "finish", desc := "()V" } : Jvm.MethodName)) ∈ lw_tbl := lw_at lw_m1 103 rfl
theorem q114 : (Jvm.Cond.instanceMethod ({ cls := "GeneralDigest", name := "finish", desc := "()V" } : Jvm.MethodName)) ∈ lw_all := lw_g (lw_at lw_m1 105 rfl) rfl
theorem q115 : (Jvm.Cond.code ({ cls := "GeneralDigest", name := "finish", desc := "()V" } : Jvm.MethodName) prog_4_method_4_code (3 : Nat) (Option.none : Option Jvm.ClassFile.FieldType)) ∈ lw_all := lw_g (lw_at lw_m1 106 rfl) rfl
theorem q116 : (Jvm.Cond.methodLink "GeneralDigest" (35 : Nat) ({ cls := "GeneralDigest", name := "update", desc := "(B)V" } : Jvm.MethodName)) ∈ lw_all := lw_g (lw_at lw_m1 107 rfl) rfl
theorem q117 : (Jvm.Cond.methodLink "GeneralDigest" (39 : Nat) ({ cls := "GeneralDigest", name := "processLength", desc := "(J)V" } : Jvm.MethodName)) ∈ lw_all := lw_g (lw_at lw_m1 108 rfl) rfl
theorem q118 : (Jvm.Cond.declares ({ cls := "GeneralDigest", name := "processLength", desc := "(J)V" } : Jvm.MethodName)) ∈ lw_tbl := lw_at lw_m1 109 rfl
theorem q119 : (Jvm.Cond.sameMethod "GeneralDigest" "GeneralDigest" "processLength" "(J)V") ∈ lw_all := lw_g (lw_at lw_m1 110 rfl) rfl
theorem q123 : (Jvm.Cond.methodLink "GeneralDigest" (43 : Nat) ({ cls := "GeneralDigest", name := "processBlock", desc := "()V" } : Jvm.MethodName)) ∈ lw_all := lw_g (lw_at lw_m1 114 rfl) rfl
theorem q124 : (Jvm.Cond.declares ({ cls := "GeneralDigest", name := "processBlock", desc := "()V" } : Jvm.MethodName)) ∈ lw_tbl := lw_at lw_m1 115 rfl
theorem q125 : (Jvm.Cond.sameMethod "GeneralDigest" "GeneralDigest" "processBlock" "()V") ∈ lw_all := lw_g (lw_at lw_m1 116 rfl) rfl
theorem q139 : (Jvm.Cond.instanceMethod ({ cls := "GeneralDigest", name := "reset", desc := "()V" } : Jvm.MethodName)) ∈ lw_all := lw_g (lw_at lw_m1 130 rfl) rfl
theorem q140 : (Jvm.Cond.code ({ cls := "GeneralDigest", name := "reset", desc := "()V" } : Jvm.MethodName) prog_4_method_5_code (2 : Nat) (Option.none : Option Jvm.ClassFile.FieldType)) ∈ lw_all := lw_g (lw_at lw_m1 131 rfl) rfl
theorem q183 : (Jvm.Cond.instanceMethod ({ cls := "GeneralDigest", name := "<init>", desc := "(LCryptoServicePurpose;)V" } : Jvm.MethodName)) ∈ lw_all := lw_g (lw_at lw_m1 174 rfl) rfl
theorem q184 : (Jvm.Cond.code ({ cls := "GeneralDigest", name := "<init>", desc := "(LCryptoServicePurpose;)V" } : Jvm.MethodName) prog_4_method_1_code (2 : Nat) (Option.none : Option Jvm.ClassFile.FieldType)) ∈ lw_all := lw_g (lw_at lw_m1 175 rfl) rfl
theorem q185 : (Jvm.Cond.methodLink "GeneralDigest" (1 : Nat) ({ cls := "java/lang/Object", name := "<init>", desc := "()V" } : Jvm.MethodName)) ∈ lw_all := lw_g (lw_at lw_m1 176 rfl) rfl
theorem q190 : (Jvm.Cond.fieldLink "GeneralDigest" (13 : Nat) "GeneralDigest" "purpose" "LCryptoServicePurpose;") ∈ lw_all := lw_g (lw_at lw_m1 181 rfl) rfl
theorem q191 : (Jvm.Cond.fieldLink "GeneralDigest" (7 : Nat) "GeneralDigest" "xBuf" "[B") ∈ lw_all := lw_g (lw_at lw_m1 182 rfl) rfl
theorem q192 : (Jvm.Cond.fieldLink "GeneralDigest" (17 : Nat) "GeneralDigest" "xBufOff" "I") ∈ lw_all := lw_g (lw_at lw_m1 183 rfl) rfl
theorem q193 : (Jvm.Cond.fieldLink "GeneralDigest" (25 : Nat) "GeneralDigest" "byteCount" "J") ∈ lw_all := lw_g (lw_at lw_m1 184 rfl) rfl
theorem q203 : (Jvm.Cond.soleField "GeneralDigest" "purpose") ∈ lw_all := lw_g (lw_at lw_m1 194 rfl) rfl
theorem q205 : (Jvm.Cond.soleField "GeneralDigest" "xBuf") ∈ lw_all := lw_g (lw_at lw_m1 196 rfl) rfl
theorem q207 : (Jvm.Cond.soleField "GeneralDigest" "xBufOff") ∈ lw_all := lw_g (lw_at lw_m1 198 rfl) rfl
theorem q209 : (Jvm.Cond.soleField "GeneralDigest" "byteCount") ∈ lw_all := lw_g (lw_at lw_m1 200 rfl) rfl
theorem q256 : (Jvm.Cond.sameMethod "GeneralDigest" "GeneralDigest" "update" "(B)V") ∈ lw_all := lw_g (lw_at lw_m2 7 rfl) rfl
theorem q258 : (Jvm.Cond.sameMethod "GeneralDigest" "GeneralDigest" "reset" "()V") ∈ lw_all := lw_g (lw_at lw_m2 9 rfl) rfl
end
section
/-! SM3Digest -/
set_option maxRecDepth 100000
def RX3 : String := "SM3Digest"
def TX3 : u_T := fun k => match k with
  | 0 => ("GeneralDigest", "purpose", "LCryptoServicePurpose;", true)
  | 1 => ("GeneralDigest", "xBuf", "[B", true)
  | 2 => ("GeneralDigest", "xBufOff", "I", false)
  | 3 => ("GeneralDigest", "byteCount", "J", false)
  | 4 => ("SM3Digest", "V", "[I", false)
  | 5 => ("SM3Digest", "inwords", "[I", false)
  | 6 => ("SM3Digest", "xOff", "I", false)
  | _ => ("SM3Digest", "W", "[I", false)
def tyX3 : Nat → FieldType := fun k => match k with
  | 0 => .object "CryptoServicePurpose"
  | 1 => .array .byte
  | 2 => .int
  | 3 => .long
  | 4 => .array .int
  | 5 => .array .int
  | 6 => .int
  | _ => .array .int
abbrev wsX30 : List Cond := u_ws RX3 TX3 8
theorem nmX3 : ∀ a, a < 8 → ∀ b, b < 8 → a ≠ b → (TX3 a).2.1 ≠ (TX3 b).2.1 := by decide +kernel
theorem tyX3_ok : ∀ k, k < 8 → parseFieldDescriptor (TX3 k).2.2.1 = some (tyX3 k) := by decide +kernel
abbrev cX3_processWord : ByteArray := prog_6_method_5_code
def yX3_processWord : MethodName := ⟨RX3, "processWord", "([BI)V"⟩
def dkwX3_processWord_1 : List UInt8 := [180, 0, 39, 16, 16, 161, 0, 7, 42, 182, 0, 56, 177]
abbrev dktX3_processWord_1 : List UInt8 := dkwX3_processWord_1 ++ []
def dkwX3_processWord_0 : List UInt8 := [42, 180, 0, 20, 42, 89, 180, 0, 39, 90, 4, 96, 181, 0, 39, 43, 28, 184, 0, 52, 79, 42]
abbrev dktX3_processWord_0 : List UInt8 := dkwX3_processWord_0 ++ dktX3_processWord_1
theorem dksX3_processWord_0 : cX3_processWord.data.toList.drop 0 = dktX3_processWord_0 := by decide +kernel
theorem dksX3_processWord_1 : cX3_processWord.data.toList.drop 22 = dktX3_processWord_1 := dk_seg dksX3_processWord_0 22 rfl rfl
theorem dX3_processWord_0 : decode cX3_processWord 0 = .ok (.aload_n 0, 1) := dk_42 (dk_at dksX3_processWord_0 0 rfl rfl)
theorem dX3_processWord_1 : decode cX3_processWord 1 = .ok (.getfield 20, 3) := dk_180 0 20 (dk_at dksX3_processWord_0 1 rfl rfl)
theorem dX3_processWord_4 : decode cX3_processWord 4 = .ok (.aload_n 0, 1) := dk_42 (dk_at dksX3_processWord_0 4 rfl rfl)
theorem dX3_processWord_5 : decode cX3_processWord 5 = .ok (.dup, 1) := dk_89 (dk_at dksX3_processWord_0 5 rfl rfl)
theorem dX3_processWord_6 : decode cX3_processWord 6 = .ok (.getfield 39, 3) := dk_180 0 39 (dk_at dksX3_processWord_0 6 rfl rfl)
theorem dX3_processWord_9 : decode cX3_processWord 9 = .ok (.dup_x1, 1) := dk_90 (dk_at dksX3_processWord_0 9 rfl rfl)
theorem dX3_processWord_10 : decode cX3_processWord 10 = .ok (.iconst 1, 1) := dk_4 (dk_at dksX3_processWord_0 10 rfl rfl)
theorem dX3_processWord_11 : decode cX3_processWord 11 = .ok (.iadd, 1) := dk_96 (dk_at dksX3_processWord_0 11 rfl rfl)
theorem dX3_processWord_12 : decode cX3_processWord 12 = .ok (.putfield 39, 3) := dk_181 0 39 (dk_at dksX3_processWord_0 12 rfl rfl)
theorem dX3_processWord_15 : decode cX3_processWord 15 = .ok (.aload_n 1, 1) := dk_43 (dk_at dksX3_processWord_0 15 rfl rfl)
theorem dX3_processWord_16 : decode cX3_processWord 16 = .ok (.iload_n 2, 1) := dk_28 (dk_at dksX3_processWord_0 16 rfl rfl)
theorem dX3_processWord_17 : decode cX3_processWord 17 = .ok (.invokestatic 52, 3) := dk_184 0 52 (dk_at dksX3_processWord_0 17 rfl rfl)
theorem dX3_processWord_20 : decode cX3_processWord 20 = .ok (.iastore, 1) := dk_79 (dk_at dksX3_processWord_0 20 rfl rfl)
theorem dX3_processWord_21 : decode cX3_processWord 21 = .ok (.aload_n 0, 1) := dk_42 (dk_at dksX3_processWord_0 21 rfl rfl)
theorem dX3_processWord_22 : decode cX3_processWord 22 = .ok (.getfield 39, 3) := dk_180 0 39 (dk_at dksX3_processWord_1 0 rfl rfl)
theorem dX3_processWord_25 : decode cX3_processWord 25 = .ok (.bipush 16, 2) := dk_16 16 (dk_at dksX3_processWord_1 3 rfl rfl)
theorem dX3_processWord_27 : decode cX3_processWord 27 = .ok (.if_icmp .lt 7, 3) := dk_161 0 7 (dk_at dksX3_processWord_1 5 rfl rfl)
theorem dX3_processWord_30 : decode cX3_processWord 30 = .ok (.aload_n 0, 1) := dk_42 (dk_at dksX3_processWord_1 8 rfl rfl)
theorem dX3_processWord_31 : decode cX3_processWord 31 = .ok (.invokevirtual 56, 3) := dk_182 0 56 (dk_at dksX3_processWord_1 9 rfl rfl)
theorem dX3_processWord_34 : decode cX3_processWord 34 = .ok (.return_, 1) := dk_177 (dk_at dksX3_processWord_1 12 rfl rfl)
abbrev cX3_processBlock : ByteArray := prog_6_method_13_code
def yX3_processBlock : MethodName := ⟨RX3, "processBlock", "()V"⟩
def dkwX3_processBlock_26 : List UInt8 := [46, 21, 8, 130, 79, 42, 3, 181, 0, 39, 177]
abbrev dktX3_processBlock_26 : List UInt8 := dkwX3_processBlock_26 ++ []
def dkwX3_processBlock_25 : List UInt8 := [46, 21, 6, 130, 79, 42, 180, 0, 16, 16, 6, 92, 46, 21, 7, 130, 79, 42, 180, 0, 16, 16, 7, 92]
abbrev dktX3_processBlock_25 : List UInt8 := dkwX3_processBlock_25 ++ dktX3_processBlock_26
def dkwX3_processBlock_24 : List UInt8 := [6, 92, 46, 21, 4, 130, 79, 42, 180, 0, 16, 7, 92, 46, 21, 5, 130, 79, 42, 180, 0, 16, 8, 92]
abbrev dktX3_processBlock_24 : List UInt8 := dkwX3_processBlock_24 ++ dktX3_processBlock_25
def dkwX3_processBlock_23 : List UInt8 := [42, 180, 0, 16, 4, 92, 46, 28, 130, 79, 42, 180, 0, 16, 5, 92, 46, 29, 130, 79, 42, 180, 0, 16]
abbrev dktX3_processBlock_23 : List UInt8 := dkwX3_processBlock_23 ++ dktX3_processBlock_24
def dkwX3_processBlock_22 : List UInt8 := [42, 21, 17, 182, 0, 73, 54, 5, 132, 9, 1, 167, 255, 92, 42, 180, 0, 16, 3, 92, 46, 27, 130, 79]
abbrev dktX3_processBlock_22 : List UInt8 := dkwX3_processBlock_22 ++ dktX3_processBlock_23
def dkwX3_processBlock_21 : List UInt8 := [21, 16, 60, 21, 7, 54, 8, 21, 6, 16, 19, 120, 21, 6, 16, 13, 124, 128, 54, 7, 21, 5, 54, 6]
abbrev dktX3_processBlock_21 : List UInt8 := dkwX3_processBlock_21 ++ dktX3_processBlock_22
def dkwX3_processBlock_20 : List UInt8 := [21, 12, 96, 21, 14, 96, 54, 17, 29, 54, 4, 28, 16, 9, 120, 28, 16, 23, 124, 128, 62, 27, 61]
abbrev dktX3_processBlock_20 : List UInt8 := dkwX3_processBlock_20 ++ dktX3_processBlock_21
def dkwX3_processBlock_19 : List UInt8 := [21, 4, 96, 21, 13, 96, 21, 15, 96, 54, 16, 42, 21, 5, 21, 6, 21, 7, 182, 0, 79, 21, 8, 96]
abbrev dktX3_processBlock_19 : List UInt8 := dkwX3_processBlock_19 ++ dktX3_processBlock_20
def dkwX3_processBlock_18 : List UInt8 := [54, 14, 21, 14, 42, 180, 0, 23, 21, 9, 7, 96, 46, 130, 54, 15, 42, 27, 28, 29, 182, 0, 76]
abbrev dktX3_processBlock_18 : List UInt8 := dkwX3_processBlock_18 ++ dktX3_processBlock_19
def dkwX3_processBlock_17 : List UInt8 := [120, 21, 11, 16, 25, 124, 128, 54, 12, 21, 12, 21, 10, 130, 54, 13, 42, 180, 0, 23, 21, 9, 46]
abbrev dktX3_processBlock_17 : List UInt8 := dkwX3_processBlock_17 ++ dktX3_processBlock_18
def dkwX3_processBlock_16 : List UInt8 := [16, 20, 124, 128, 54, 10, 21, 10, 21, 5, 96, 178, 0, 63, 21, 9, 46, 96, 54, 11, 21, 11, 16, 7]
abbrev dktX3_processBlock_16 : List UInt8 := dkwX3_processBlock_16 ++ dktX3_processBlock_17
def dkwX3_processBlock_15 : List UInt8 := [54, 5, 132, 9, 1, 167, 255, 92, 16, 16, 54, 9, 21, 9, 16, 64, 162, 0, 163, 27, 16, 12, 120, 27]
abbrev dktX3_processBlock_15 : List UInt8 := dkwX3_processBlock_15 ++ dktX3_processBlock_16
def dkwX3_processBlock_14 : List UInt8 := [21, 6, 16, 19, 120, 21, 6, 16, 13, 124, 128, 54, 7, 21, 5, 54, 6, 42, 21, 17, 182, 0, 73]
abbrev dktX3_processBlock_14 : List UInt8 := dkwX3_processBlock_14 ++ dktX3_processBlock_15
def dkwX3_processBlock_13 : List UInt8 := [54, 17, 29, 54, 4, 28, 16, 9, 120, 28, 16, 23, 124, 128, 62, 27, 61, 21, 16, 60, 21, 7, 54, 8]
abbrev dktX3_processBlock_13 : List UInt8 := dkwX3_processBlock_13 ++ dktX3_processBlock_14
def dkwX3_processBlock_12 : List UInt8 := [21, 15, 96, 54, 16, 42, 21, 5, 21, 6, 21, 7, 182, 0, 70, 21, 8, 96, 21, 12, 96, 21, 14, 96]
abbrev dktX3_processBlock_12 : List UInt8 := dkwX3_processBlock_12 ++ dktX3_processBlock_13
def dkwX3_processBlock_11 : List UInt8 := [180, 0, 23, 21, 9, 7, 96, 46, 130, 54, 15, 42, 27, 28, 29, 182, 0, 66, 21, 4, 96, 21, 13, 96]
abbrev dktX3_processBlock_11 : List UInt8 := dkwX3_processBlock_11 ++ dktX3_processBlock_12
def dkwX3_processBlock_10 : List UInt8 := [128, 54, 12, 21, 12, 21, 10, 130, 54, 13, 42, 180, 0, 23, 21, 9, 46, 54, 14, 21, 14, 42]
abbrev dktX3_processBlock_10 : List UInt8 := dkwX3_processBlock_10 ++ dktX3_processBlock_11
def dkwX3_processBlock_9 : List UInt8 := [21, 10, 21, 5, 96, 178, 0, 63, 21, 9, 46, 96, 54, 11, 21, 11, 16, 7, 120, 21, 11, 16, 25, 124]
abbrev dktX3_processBlock_9 : List UInt8 := dkwX3_processBlock_9 ++ dktX3_processBlock_10
def dkwX3_processBlock_8 : List UInt8 := [54, 8, 3, 54, 9, 21, 9, 16, 16, 162, 0, 163, 27, 16, 12, 120, 27, 16, 20, 124, 128, 54, 10]
abbrev dktX3_processBlock_8 : List UInt8 := dkwX3_processBlock_8 ++ dktX3_processBlock_9
def dkwX3_processBlock_7 : List UInt8 := [180, 0, 16, 8, 46, 54, 6, 42, 180, 0, 16, 16, 6, 46, 54, 7, 42, 180, 0, 16, 16, 7, 46]
abbrev dktX3_processBlock_7 : List UInt8 := dkwX3_processBlock_7 ++ dktX3_processBlock_8
def dkwX3_processBlock_6 : List UInt8 := [42, 180, 0, 16, 5, 46, 62, 42, 180, 0, 16, 6, 46, 54, 4, 42, 180, 0, 16, 7, 46, 54, 5, 42]
abbrev dktX3_processBlock_6 : List UInt8 := dkwX3_processBlock_6 ++ dktX3_processBlock_7
def dkwX3_processBlock_5 : List UInt8 := [100, 46, 130, 79, 132, 1, 1, 167, 255, 160, 42, 180, 0, 16, 3, 46, 60, 42, 180, 0, 16, 4, 46, 61]
abbrev dktX3_processBlock_5 : List UInt8 := dkwX3_processBlock_5 ++ dktX3_processBlock_6
def dkwX3_processBlock_4 : List UInt8 := [180, 0, 23, 27, 16, 9, 100, 46, 130, 29, 130, 182, 0, 59, 21, 5, 130, 42, 180, 0, 23, 27, 16, 6]
abbrev dktX3_processBlock_4 : List UInt8 := dkwX3_processBlock_4 ++ dktX3_processBlock_5
def dkwX3_processBlock_3 : List UInt8 := [21, 4, 16, 25, 124, 128, 54, 5, 42, 180, 0, 23, 27, 42, 42, 180, 0, 23, 27, 16, 16, 100, 46, 42]
abbrev dktX3_processBlock_3 : List UInt8 := dkwX3_processBlock_3 ++ dktX3_processBlock_4
def dkwX3_processBlock_2 : List UInt8 := [120, 28, 16, 17, 124, 128, 62, 42, 180, 0, 23, 27, 16, 13, 100, 46, 54, 4, 21, 4, 16, 7, 120]
abbrev dktX3_processBlock_2 : List UInt8 := dkwX3_processBlock_2 ++ dktX3_processBlock_3
def dkwX3_processBlock_1 : List UInt8 := [167, 255, 235, 16, 16, 60, 27, 16, 68, 162, 0, 96, 42, 180, 0, 23, 27, 6, 100, 46, 61, 28, 16, 15]
abbrev dktX3_processBlock_1 : List UInt8 := dkwX3_processBlock_1 ++ dktX3_processBlock_2
def dkwX3_processBlock_0 : List UInt8 := [3, 60, 27, 16, 16, 162, 0, 21, 42, 180, 0, 23, 27, 42, 180, 0, 20, 27, 46, 79, 132, 1, 1]
abbrev dktX3_processBlock_0 : List UInt8 := dkwX3_processBlock_0 ++ dktX3_processBlock_1
theorem dksX3_processBlock_0 : cX3_processBlock.data.toList.drop 0 = dktX3_processBlock_0 := by decide +kernel
theorem dksX3_processBlock_1 : cX3_processBlock.data.toList.drop 23 = dktX3_processBlock_1 := dk_seg dksX3_processBlock_0 23 rfl rfl
theorem dksX3_processBlock_2 : cX3_processBlock.data.toList.drop 47 = dktX3_processBlock_2 := dk_seg dksX3_processBlock_1 24 rfl rfl
theorem dksX3_processBlock_3 : cX3_processBlock.data.toList.drop 70 = dktX3_processBlock_3 := dk_seg dksX3_processBlock_2 23 rfl rfl
theorem dksX3_processBlock_4 : cX3_processBlock.data.toList.drop 94 = dktX3_processBlock_4 := dk_seg dksX3_processBlock_3 24 rfl rfl
theorem dksX3_processBlock_5 : cX3_processBlock.data.toList.drop 118 = dktX3_processBlock_5 := dk_seg dksX3_processBlock_4 24 rfl rfl
theorem dksX3_processBlock_6 : cX3_processBlock.data.toList.drop 142 = dktX3_processBlock_6 := dk_seg dksX3_processBlock_5 24 rfl rfl
theorem dksX3_processBlock_7 : cX3_processBlock.data.toList.drop 166 = dktX3_processBlock_7 := dk_seg dksX3_processBlock_6 24 rfl rfl
theorem dksX3_processBlock_8 : cX3_processBlock.data.toList.drop 189 = dktX3_processBlock_8 := dk_seg dksX3_processBlock_7 23 rfl rfl
theorem dksX3_processBlock_9 : cX3_processBlock.data.toList.drop 212 = dktX3_processBlock_9 := dk_seg dksX3_processBlock_8 23 rfl rfl
theorem dksX3_processBlock_10 : cX3_processBlock.data.toList.drop 236 = dktX3_processBlock_10 := dk_seg dksX3_processBlock_9 24 rfl rfl
theorem dksX3_processBlock_11 : cX3_processBlock.data.toList.drop 258 = dktX3_processBlock_11 := dk_seg dksX3_processBlock_10 22 rfl rfl
theorem dksX3_processBlock_12 : cX3_processBlock.data.toList.drop 282 = dktX3_processBlock_12 := dk_seg dksX3_processBlock_11 24 rfl rfl
theorem dksX3_processBlock_13 : cX3_processBlock.data.toList.drop 306 = dktX3_processBlock_13 := dk_seg dksX3_processBlock_12 24 rfl rfl
theorem dksX3_processBlock_14 : cX3_processBlock.data.toList.drop 330 = dktX3_processBlock_14 := dk_seg dksX3_processBlock_13 24 rfl rfl
theorem dksX3_processBlock_15 : cX3_processBlock.data.toList.drop 353 = dktX3_processBlock_15 := dk_seg dksX3_processBlock_14 23 rfl rfl
theorem dksX3_processBlock_16 : cX3_processBlock.data.toList.drop 377 = dktX3_processBlock_16 := dk_seg dksX3_processBlock_15 24 rfl rfl
theorem dksX3_processBlock_17 : cX3_processBlock.data.toList.drop 401 = dktX3_processBlock_17 := dk_seg dksX3_processBlock_16 24 rfl rfl
theorem dksX3_processBlock_18 : cX3_processBlock.data.toList.drop 424 = dktX3_processBlock_18 := dk_seg dksX3_processBlock_17 23 rfl rfl
theorem dksX3_processBlock_19 : cX3_processBlock.data.toList.drop 447 = dktX3_processBlock_19 := dk_seg dksX3_processBlock_18 23 rfl rfl
theorem dksX3_processBlock_20 : cX3_processBlock.data.toList.drop 471 = dktX3_processBlock_20 := dk_seg dksX3_processBlock_19 24 rfl rfl
theorem dksX3_processBlock_21 : cX3_processBlock.data.toList.drop 494 = dktX3_processBlock_21 := dk_seg dksX3_processBlock_20 23 rfl rfl
theorem dksX3_processBlock_22 : cX3_processBlock.data.toList.drop 518 = dktX3_processBlock_22 := dk_seg dksX3_processBlock_21 24 rfl rfl
theorem dksX3_processBlock_23 : cX3_processBlock.data.toList.drop 542 = dktX3_processBlock_23 := dk_seg dksX3_processBlock_22 24 rfl rfl
theorem dksX3_processBlock_24 : cX3_processBlock.data.toList.drop 566 = dktX3_processBlock_24 := dk_seg dksX3_processBlock_23 24 rfl rfl
theorem dksX3_processBlock_25 : cX3_processBlock.data.toList.drop 590 = dktX3_processBlock_25 := dk_seg dksX3_processBlock_24 24 rfl rfl
theorem dksX3_processBlock_26 : cX3_processBlock.data.toList.drop 614 = dktX3_processBlock_26 := dk_seg dksX3_processBlock_25 24 rfl rfl
theorem dX3_processBlock_0 : decode cX3_processBlock 0 = .ok (.iconst 0, 1) := dk_3 (dk_at dksX3_processBlock_0 0 rfl rfl)
theorem dX3_processBlock_1 : decode cX3_processBlock 1 = .ok (.istore_n 1, 1) := dk_60 (dk_at dksX3_processBlock_0 1 rfl rfl)
theorem dX3_processBlock_2 : decode cX3_processBlock 2 = .ok (.iload_n 1, 1) := dk_27 (dk_at dksX3_processBlock_0 2 rfl rfl)
theorem dX3_processBlock_3 : decode cX3_processBlock 3 = .ok (.bipush 16, 2) := dk_16 16 (dk_at dksX3_processBlock_0 3 rfl rfl)
theorem dX3_processBlock_5 : decode cX3_processBlock 5 = .ok (.if_icmp .ge 21, 3) := dk_162 0 21 (dk_at dksX3_processBlock_0 5 rfl rfl)
theorem dX3_processBlock_8 : decode cX3_processBlock 8 = .ok (.aload_n 0, 1) := dk_42 (dk_at dksX3_processBlock_0 8 rfl rfl)
theorem dX3_processBlock_9 : decode cX3_processBlock 9 = .ok (.getfield 23, 3) := dk_180 0 23 (dk_at dksX3_processBlock_0 9 rfl rfl)
theorem dX3_processBlock_12 : decode cX3_processBlock 12 = .ok (.iload_n 1, 1) := dk_27 (dk_at dksX3_processBlock_0 12 rfl rfl)
theorem dX3_processBlock_13 : decode cX3_processBlock 13 = .ok (.aload_n 0, 1) := dk_42 (dk_at dksX3_processBlock_0 13 rfl rfl)
theorem dX3_processBlock_14 : decode cX3_processBlock 14 = .ok (.getfield 20, 3) := dk_180 0 20 (dk_at dksX3_processBlock_0 14 rfl rfl)
theorem dX3_processBlock_17 : decode cX3_processBlock 17 = .ok (.iload_n 1, 1) := dk_27 (dk_at dksX3_processBlock_0 17 rfl rfl)
theorem dX3_processBlock_18 : decode cX3_processBlock 18 = .ok (.iaload, 1) := dk_46 (dk_at dksX3_processBlock_0 18 rfl rfl)
theorem dX3_processBlock_19 : decode cX3_processBlock 19 = .ok (.iastore, 1) := dk_79 (dk_at dksX3_processBlock_0 19 rfl rfl)
theorem dX3_processBlock_20 : decode cX3_processBlock 20 = .ok (.iinc 1 1, 3) := dk_132 1 1 (dk_at dksX3_processBlock_0 20 rfl rfl)
theorem dX3_processBlock_23 : decode cX3_processBlock 23 = .ok (.goto (-21), 3) := dk_167 255 235 (dk_at dksX3_processBlock_1 0 rfl rfl)
theorem dX3_processBlock_26 : decode cX3_processBlock 26 = .ok (.bipush 16, 2) := dk_16 16 (dk_at dksX3_processBlock_1 3 rfl rfl)
theorem dX3_processBlock_28 : decode cX3_processBlock 28 = .ok (.istore_n 1, 1) := dk_60 (dk_at dksX3_processBlock_1 5 rfl rfl)
theorem dX3_processBlock_29 : decode cX3_processBlock 29 = .ok (.iload_n 1, 1) := dk_27 (dk_at dksX3_processBlock_1 6 rfl rfl)
theorem dX3_processBlock_30 : decode cX3_processBlock 30 = .ok (.bipush 68, 2) := dk_16 68 (dk_at dksX3_processBlock_1 7 rfl rfl)
theorem dX3_processBlock_32 : decode cX3_processBlock 32 = .ok (.if_icmp .ge 96, 3) := dk_162 0 96 (dk_at dksX3_processBlock_1 9 rfl rfl)
theorem dX3_processBlock_35 : decode cX3_processBlock 35 = .ok (.aload_n 0, 1) := dk_42 (dk_at dksX3_processBlock_1 12 rfl rfl)
theorem dX3_processBlock_36 : decode cX3_processBlock 36 = .ok (.getfield 23, 3) := dk_180 0 23 (dk_at dksX3_processBlock_1 13 rfl rfl)
theorem dX3_processBlock_39 : decode cX3_processBlock 39 = .ok (.iload_n 1, 1) := dk_27 (dk_at dksX3_processBlock_1 16 rfl rfl)
theorem dX3_processBlock_40 : decode cX3_processBlock 40 = .ok (.iconst 3, 1) := dk_6 (dk_at dksX3_processBlock_1 17 rfl rfl)
theorem dX3_processBlock_41 : decode cX3_processBlock 41 = .ok (.isub, 1) := dk_100 (dk_at dksX3_processBlock_1 18 rfl rfl)
theorem dX3_processBlock_42 : decode cX3_processBlock 42 = .ok (.iaload, 1) := dk_46 (dk_at dksX3_processBlock_1 19 rfl rfl)
theorem dX3_processBlock_43 : decode cX3_processBlock 43 = .ok (.istore_n 2, 1) := dk_61 (dk_at dksX3_processBlock_1 20 rfl rfl)
theorem dX3_processBlock_44 : decode cX3_processBlock 44 = .ok (.iload_n 2, 1) := dk_28 (dk_at dksX3_processBlock_1 21 rfl rfl)
theorem dX3_processBlock_45 : decode cX3_processBlock 45 = .ok (.bipush 15, 2) := dk_16 15 (dk_at dksX3_processBlock_1 22 rfl rfl)
theorem dX3_processBlock_47 : decode cX3_processBlock 47 = .ok (.ishl, 1) := dk_120 (dk_at dksX3_processBlock_2 0 rfl rfl)
theorem dX3_processBlock_48 : decode cX3_processBlock 48 = .ok (.iload_n 2, 1) := dk_28 (dk_at dksX3_processBlock_2 1 rfl rfl)
theorem dX3_processBlock_49 : decode cX3_processBlock 49 = .ok (.bipush 17, 2) := dk_16 17 (dk_at dksX3_processBlock_2 2 rfl rfl)
theorem dX3_processBlock_51 : decode cX3_processBlock 51 = .ok (.iushr, 1) := dk_124 (dk_at dksX3_processBlock_2 4 rfl rfl)
theorem dX3_processBlock_52 : decode cX3_processBlock 52 = .ok (.ior, 1) := dk_128 (dk_at dksX3_processBlock_2 5 rfl rfl)
theorem dX3_processBlock_53 : decode cX3_processBlock 53 = .ok (.istore_n 3, 1) := dk_62 (dk_at dksX3_processBlock_2 6 rfl rfl)
theorem dX3_processBlock_54 : decode cX3_processBlock 54 = .ok (.aload_n 0, 1) := dk_42 (dk_at dksX3_processBlock_2 7 rfl rfl)
theorem dX3_processBlock_55 : decode cX3_processBlock 55 = .ok (.getfield 23, 3) := dk_180 0 23 (dk_at dksX3_processBlock_2 8 rfl rfl)
theorem dX3_processBlock_58 : decode cX3_processBlock 58 = .ok (.iload_n 1, 1) := dk_27 (dk_at dksX3_processBlock_2 11 rfl rfl)
theorem dX3_processBlock_59 : decode cX3_processBlock 59 = .ok (.bipush 13, 2) := dk_16 13 (dk_at dksX3_processBlock_2 12 rfl rfl)
theorem dX3_processBlock_61 : decode cX3_processBlock 61 = .ok (.isub, 1) := dk_100 (dk_at dksX3_processBlock_2 14 rfl rfl)
theorem dX3_processBlock_62 : decode cX3_processBlock 62 = .ok (.iaload, 1) := dk_46 (dk_at dksX3_processBlock_2 15 rfl rfl)
theorem dX3_processBlock_63 : decode cX3_processBlock 63 = .ok (.istore 4, 2) := dk_54 4 (dk_at dksX3_processBlock_2 16 rfl rfl)
theorem dX3_processBlock_65 : decode cX3_processBlock 65 = .ok (.iload 4, 2) := dk_21 4 (dk_at dksX3_processBlock_2 18 rfl rfl)
theorem dX3_processBlock_67 : decode cX3_processBlock 67 = .ok (.bipush 7, 2) := dk_16 7 (dk_at dksX3_processBlock_2 20 rfl rfl)
theorem dX3_processBlock_69 : decode cX3_processBlock 69 = .ok (.ishl, 1) := dk_120 (dk_at dksX3_processBlock_2 22 rfl rfl)
theorem dX3_processBlock_70 : decode cX3_processBlock 70 = .ok (.iload 4, 2) := dk_21 4 (dk_at dksX3_processBlock_3 0 rfl rfl)
theorem dX3_processBlock_72 : decode cX3_processBlock 72 = .ok (.bipush 25, 2) := dk_16 25 (dk_at dksX3_processBlock_3 2 rfl rfl)
theorem dX3_processBlock_74 : decode cX3_processBlock 74 = .ok (.iushr, 1) := dk_124 (dk_at dksX3_processBlock_3 4 rfl rfl)
theorem dX3_processBlock_75 : decode cX3_processBlock 75 = .ok (.ior, 1) := dk_128 (dk_at dksX3_processBlock_3 5 rfl rfl)
theorem dX3_processBlock_76 : decode cX3_processBlock 76 = .ok (.istore 5, 2) := dk_54 5 (dk_at dksX3_processBlock_3 6 rfl rfl)
theorem dX3_processBlock_78 : decode cX3_processBlock 78 = .ok (.aload_n 0, 1) := dk_42 (dk_at dksX3_processBlock_3 8 rfl rfl)
theorem dX3_processBlock_79 : decode cX3_processBlock 79 = .ok (.getfield 23, 3) := dk_180 0 23 (dk_at dksX3_processBlock_3 9 rfl rfl)
theorem dX3_processBlock_82 : decode cX3_processBlock 82 = .ok (.iload_n 1, 1) := dk_27 (dk_at dksX3_processBlock_3 12 rfl rfl)
theorem dX3_processBlock_83 : decode cX3_processBlock 83 = .ok (.aload_n 0, 1) := dk_42 (dk_at dksX3_processBlock_3 13 rfl rfl)
theorem dX3_processBlock_84 : decode cX3_processBlock 84 = .ok (.aload_n 0, 1) := dk_42 (dk_at dksX3_processBlock_3 14 rfl rfl)
theorem dX3_processBlock_85 : decode cX3_processBlock 85 = .ok (.getfield 23, 3) := dk_180 0 23 (dk_at dksX3_processBlock_3 15 rfl rfl)
theorem dX3_processBlock_88 : decode cX3_processBlock 88 = .ok (.iload_n 1, 1) := dk_27 (dk_at dksX3_processBlock_3 18 rfl rfl)
theorem dX3_processBlock_89 : decode cX3_processBlock 89 = .ok (.bipush 16, 2) := dk_16 16 (dk_at dksX3_processBlock_3 19 rfl rfl)
theorem dX3_processBlock_91 : decode cX3_processBlock 91 = .ok (.isub, 1) := dk_100 (dk_at dksX3_processBlock_3 21 rfl rfl)
theorem dX3_processBlock_92 : decode cX3_processBlock 92 = .ok (.iaload, 1) := dk_46 (dk_at dksX3_processBlock_3 22 rfl rfl)
theorem dX3_processBlock_93 : decode cX3_processBlock 93 = .ok (.aload_n 0, 1) := dk_42 (dk_at dksX3_processBlock_3 23 rfl rfl)
theorem dX3_processBlock_94 : decode cX3_processBlock 94 = .ok (.getfield 23, 3) := dk_180 0 23 (dk_at dksX3_processBlock_4 0 rfl rfl)
theorem dX3_processBlock_97 : decode cX3_processBlock 97 = .ok (.iload_n 1, 1) := dk_27 (dk_at dksX3_processBlock_4 3 rfl rfl)
theorem dX3_processBlock_98 : decode cX3_processBlock 98 = .ok (.bipush 9, 2) := dk_16 9 (dk_at dksX3_processBlock_4 4 rfl rfl)
theorem dX3_processBlock_100 : decode cX3_processBlock 100 = .ok (.isub, 1) := dk_100 (dk_at dksX3_processBlock_4 6 rfl rfl)
theorem dX3_processBlock_101 : decode cX3_processBlock 101 = .ok (.iaload, 1) := dk_46 (dk_at dksX3_processBlock_4 7 rfl rfl)
theorem dX3_processBlock_102 : decode cX3_processBlock 102 = .ok (.ixor, 1) := dk_130 (dk_at dksX3_processBlock_4 8 rfl rfl)
theorem dX3_processBlock_103 : decode cX3_processBlock 103 = .ok (.iload_n 3, 1) := dk_29 (dk_at dksX3_processBlock_4 9 rfl rfl)
theorem dX3_processBlock_104 : decode cX3_processBlock 104 = .ok (.ixor, 1) := dk_130 (dk_at dksX3_processBlock_4 10 rfl rfl)
theorem dX3_processBlock_105 : decode cX3_processBlock 105 = .ok (.invokevirtual 59, 3) := dk_182 0 59 (dk_at dksX3_processBlock_4 11 rfl rfl)
theorem dX3_processBlock_108 : decode cX3_processBlock 108 = .ok (.iload 5, 2) := dk_21 5 (dk_at dksX3_processBlock_4 14 rfl rfl)
theorem dX3_processBlock_110 : decode cX3_processBlock 110 = .ok (.ixor, 1) := dk_130 (dk_at dksX3_processBlock_4 16 rfl rfl)
theorem dX3_processBlock_111 : decode cX3_processBlock 111 = .ok (.aload_n 0, 1) := dk_42 (dk_at dksX3_processBlock_4 17 rfl rfl)
theorem dX3_processBlock_112 : decode cX3_processBlock 112 = .ok (.getfield 23, 3) := dk_180 0 23 (dk_at dksX3_processBlock_4 18 rfl rfl)
theorem dX3_processBlock_115 : decode cX3_processBlock 115 = .ok (.iload_n 1, 1) := dk_27 (dk_at dksX3_processBlock_4 21 rfl rfl)
theorem dX3_processBlock_116 : decode cX3_processBlock 116 = .ok (.bipush 6, 2) := dk_16 6 (dk_at dksX3_processBlock_4 22 rfl rfl)
theorem dX3_processBlock_118 : decode cX3_processBlock 118 = .ok (.isub, 1) := dk_100 (dk_at dksX3_processBlock_5 0 rfl rfl)
theorem dX3_processBlock_119 : decode cX3_processBlock 119 = .ok (.iaload, 1) := dk_46 (dk_at dksX3_processBlock_5 1 rfl rfl)
theorem dX3_processBlock_120 : decode cX3_processBlock 120 = .ok (.ixor, 1) := dk_130 (dk_at dksX3_processBlock_5 2 rfl rfl)
theorem dX3_processBlock_121 : decode cX3_processBlock 121 = .ok (.iastore, 1) := dk_79 (dk_at dksX3_processBlock_5 3 rfl rfl)
theorem dX3_processBlock_122 : decode cX3_processBlock 122 = .ok (.iinc 1 1, 3) := dk_132 1 1 (dk_at dksX3_processBlock_5 4 rfl rfl)
theorem dX3_processBlock_125 : decode cX3_processBlock 125 = .ok (.goto (-96), 3) := dk_167 255 160 (dk_at dksX3_processBlock_5 7 rfl rfl)
theorem dX3_processBlock_128 : decode cX3_processBlock 128 = .ok (.aload_n 0, 1) := dk_42 (dk_at dksX3_processBlock_5 10 rfl rfl)
theorem dX3_processBlock_129 : decode cX3_processBlock 129 = .ok (.getfield 16, 3) := dk_180 0 16 (dk_at dksX3_processBlock_5 11 rfl rfl)
theorem dX3_processBlock_132 : decode cX3_processBlock 132 = .ok (.iconst 0, 1) := dk_3 (dk_at dksX3_processBlock_5 14 rfl rfl)
theorem dX3_processBlock_133 : decode cX3_processBlock 133 = .ok (.iaload, 1) := dk_46 (dk_at dksX3_processBlock_5 15 rfl rfl)
theorem dX3_processBlock_134 : decode cX3_processBlock 134 = .ok (.istore_n 1, 1) := dk_60 (dk_at dksX3_processBlock_5 16 rfl rfl)
theorem dX3_processBlock_135 : decode cX3_processBlock 135 = .ok (.aload_n 0, 1) := dk_42 (dk_at dksX3_processBlock_5 17 rfl rfl)
theorem dX3_processBlock_136 : decode cX3_processBlock 136 = .ok (.getfield 16, 3) := dk_180 0 16 (dk_at dksX3_processBlock_5 18 rfl rfl)
theorem dX3_processBlock_139 : decode cX3_processBlock 139 = .ok (.iconst 1, 1) := dk_4 (dk_at dksX3_processBlock_5 21 rfl rfl)
theorem dX3_processBlock_140 : decode cX3_processBlock 140 = .ok (.iaload, 1) := dk_46 (dk_at dksX3_processBlock_5 22 rfl rfl)
theorem dX3_processBlock_141 : decode cX3_processBlock 141 = .ok (.istore_n 2, 1) := dk_61 (dk_at dksX3_processBlock_5 23 rfl rfl)
theorem dX3_processBlock_142 : decode cX3_processBlock 142 = .ok (.aload_n 0, 1) := dk_42 (dk_at dksX3_processBlock_6 0 rfl rfl)
theorem dX3_processBlock_143 : decode cX3_processBlock 143 = .ok (.getfield 16, 3) := dk_180 0 16 (dk_at dksX3_processBlock_6 1 rfl rfl)
theorem dX3_processBlock_146 : decode cX3_processBlock 146 = .ok (.iconst 2, 1) := dk_5 (dk_at dksX3_processBlock_6 4 rfl rfl)
theorem dX3_processBlock_147 : decode cX3_processBlock 147 = .ok (.iaload, 1) := dk_46 (dk_at dksX3_processBlock_6 5 rfl rfl)
theorem dX3_processBlock_148 : decode cX3_processBlock 148 = .ok (.istore_n 3, 1) := dk_62 (dk_at dksX3_processBlock_6 6 rfl rfl)
theorem dX3_processBlock_149 : decode cX3_processBlock 149 = .ok (.aload_n 0, 1) := dk_42 (dk_at dksX3_processBlock_6 7 rfl rfl)
theorem dX3_processBlock_150 : decode cX3_processBlock 150 = .ok (.getfield 16, 3) := dk_180 0 16 (dk_at dksX3_processBlock_6 8 rfl rfl)
theorem dX3_processBlock_153 : decode cX3_processBlock 153 = .ok (.iconst 3, 1) := dk_6 (dk_at dksX3_processBlock_6 11 rfl rfl)
theorem dX3_processBlock_154 : decode cX3_processBlock 154 = .ok (.iaload, 1) := dk_46 (dk_at dksX3_processBlock_6 12 rfl rfl)
theorem dX3_processBlock_155 : decode cX3_processBlock 155 = .ok (.istore 4, 2) := dk_54 4 (dk_at dksX3_processBlock_6 13 rfl rfl)
theorem dX3_processBlock_157 : decode cX3_processBlock 157 = .ok (.aload_n 0, 1) := dk_42 (dk_at dksX3_processBlock_6 15 rfl rfl)
theorem dX3_processBlock_158 : decode cX3_processBlock 158 = .ok (.getfield 16, 3) := dk_180 0 16 (dk_at dksX3_processBlock_6 16 rfl rfl)
theorem dX3_processBlock_161 : decode cX3_processBlock 161 = .ok (.iconst 4, 1) := dk_7 (dk_at dksX3_processBlock_6 19 rfl rfl)
theorem dX3_processBlock_162 : decode cX3_processBlock 162 = .ok (.iaload, 1) := dk_46 (dk_at dksX3_processBlock_6 20 rfl rfl)
theorem dX3_processBlock_163 : decode cX3_processBlock 163 = .ok (.istore 5, 2) := dk_54 5 (dk_at dksX3_processBlock_6 21 rfl rfl)
theorem dX3_processBlock_165 : decode cX3_processBlock 165 = .ok (.aload_n 0, 1) := dk_42 (dk_at dksX3_processBlock_6 23 rfl rfl)
theorem dX3_processBlock_166 : decode cX3_processBlock 166 = .ok (.getfield 16, 3) := dk_180 0 16 (dk_at dksX3_processBlock_7 0 rfl rfl)
theorem dX3_processBlock_169 : decode cX3_processBlock 169 = .ok (.iconst 5, 1) := dk_8 (dk_at dksX3_processBlock_7 3 rfl rfl)
theorem dX3_processBlock_170 : decode cX3_processBlock 170 = .ok (.iaload, 1) := dk_46 (dk_at dksX3_processBlock_7 4 rfl rfl)
theorem dX3_processBlock_171 : decode cX3_processBlock 171 = .ok (.istore 6, 2) := dk_54 6 (dk_at dksX3_processBlock_7 5 rfl rfl)
theorem dX3_processBlock_173 : decode cX3_processBlock 173 = .ok (.aload_n 0, 1) := dk_42 (dk_at dksX3_processBlock_7 7 rfl rfl)
theorem dX3_processBlock_174 : decode cX3_processBlock 174 = .ok (.getfield 16, 3) := dk_180 0 16 (dk_at dksX3_processBlock_7 8 rfl rfl)
theorem dX3_processBlock_177 : decode cX3_processBlock 177 = .ok (.bipush 6, 2) := dk_16 6 (dk_at dksX3_processBlock_7 11 rfl rfl)
theorem dX3_processBlock_179 : decode cX3_processBlock 179 = .ok (.iaload, 1) := dk_46 (dk_at dksX3_processBlock_7 13 rfl rfl)
theorem dX3_processBlock_180 : decode cX3_processBlock 180 = .ok (.istore 7, 2) := dk_54 7 (dk_at dksX3_processBlock_7 14 rfl rfl)
theorem dX3_processBlock_182 : decode cX3_processBlock 182 = .ok (.aload_n 0, 1) := dk_42 (dk_at dksX3_processBlock_7 16 rfl rfl)
theorem dX3_processBlock_183 : decode cX3_processBlock 183 = .ok (.getfield 16, 3) := dk_180 0 16 (dk_at dksX3_processBlock_7 17 rfl rfl)
theorem dX3_processBlock_186 : decode cX3_processBlock 186 = .ok (.bipush 7, 2) := dk_16 7 (dk_at dksX3_processBlock_7 20 rfl rfl)
theorem dX3_processBlock_188 : decode cX3_processBlock 188 = .ok (.iaload, 1) := dk_46 (dk_at dksX3_processBlock_7 22 rfl rfl)
theorem dX3_processBlock_189 : decode cX3_processBlock 189 = .ok (.istore 8, 2) := dk_54 8 (dk_at dksX3_processBlock_8 0 rfl rfl)
theorem dX3_processBlock_191 : decode cX3_processBlock 191 = .ok (.iconst 0, 1) := dk_3 (dk_at dksX3_processBlock_8 2 rfl rfl)
theorem dX3_processBlock_192 : decode cX3_processBlock 192 = .ok (.istore 9, 2) := dk_54 9 (dk_at dksX3_processBlock_8 3 rfl rfl)
theorem dX3_processBlock_194 : decode cX3_processBlock 194 = .ok (.iload 9, 2) := dk_21 9 (dk_at dksX3_processBlock_8 5 rfl rfl)
theorem dX3_processBlock_196 : decode cX3_processBlock 196 = .ok (.bipush 16, 2) := dk_16 16 (dk_at dksX3_processBlock_8 7 rfl rfl)
theorem dX3_processBlock_198 : decode cX3_processBlock 198 = .ok (.if_icmp .ge 163, 3) := dk_162 0 163 (dk_at dksX3_processBlock_8 9 rfl rfl)
theorem dX3_processBlock_201 : decode cX3_processBlock 201 = .ok (.iload_n 1, 1) := dk_27 (dk_at dksX3_processBlock_8 12 rfl rfl)
theorem dX3_processBlock_202 : decode cX3_processBlock 202 = .ok (.bipush 12, 2) := dk_16 12 (dk_at dksX3_processBlock_8 13 rfl rfl)
theorem dX3_processBlock_204 : decode cX3_processBlock 204 = .ok (.ishl, 1) := dk_120 (dk_at dksX3_processBlock_8 15 rfl rfl)
theorem dX3_processBlock_205 : decode cX3_processBlock 205 = .ok (.iload_n 1, 1) := dk_27 (dk_at dksX3_processBlock_8 16 rfl rfl)
theorem dX3_processBlock_206 : decode cX3_processBlock 206 = .ok (.bipush 20, 2) := dk_16 20 (dk_at dksX3_processBlock_8 17 rfl rfl)
theorem dX3_processBlock_208 : decode cX3_processBlock 208 = .ok (.iushr, 1) := dk_124 (dk_at dksX3_processBlock_8 19 rfl rfl)
theorem dX3_processBlock_209 : decode cX3_processBlock 209 = .ok (.ior, 1) := dk_128 (dk_at dksX3_processBlock_8 20 rfl rfl)
theorem dX3_processBlock_210 : decode cX3_processBlock 210 = .ok (.istore 10, 2) := dk_54 10 (dk_at dksX3_processBlock_8 21 rfl rfl)
theorem dX3_processBlock_212 : decode cX3_processBlock 212 = .ok (.iload 10, 2) := dk_21 10 (dk_at dksX3_processBlock_9 0 rfl rfl)
theorem dX3_processBlock_214 : decode cX3_processBlock 214 = .ok (.iload 5, 2) := dk_21 5 (dk_at dksX3_processBlock_9 2 rfl rfl)
theorem dX3_processBlock_216 : decode cX3_processBlock 216 = .ok (.iadd, 1) := dk_96 (dk_at dksX3_processBlock_9 4 rfl rfl)
theorem dX3_processBlock_217 : decode cX3_processBlock 217 = .ok (.getstatic 63, 3) := dk_178 0 63 (dk_at dksX3_processBlock_9 5 rfl rfl)
theorem dX3_processBlock_220 : decode cX3_processBlock 220 = .ok (.iload 9, 2) := dk_21 9 (dk_at dksX3_processBlock_9 8 rfl rfl)
theorem dX3_processBlock_222 : decode cX3_processBlock 222 = .ok (.iaload, 1) := dk_46 (dk_at dksX3_processBlock_9 10 rfl rfl)
theorem dX3_processBlock_223 : decode cX3_processBlock 223 = .ok (.iadd, 1) := dk_96 (dk_at dksX3_processBlock_9 11 rfl rfl)
theorem dX3_processBlock_224 : decode cX3_processBlock 224 = .ok (.istore 11, 2) := dk_54 11 (dk_at dksX3_processBlock_9 12 rfl rfl)
theorem dX3_processBlock_226 : decode cX3_processBlock 226 = .ok (.iload 11, 2) := dk_21 11 (dk_at dksX3_processBlock_9 14 rfl rfl)
theorem dX3_processBlock_228 : decode cX3_processBlock 228 = .ok (.bipush 7, 2) := dk_16 7 (dk_at dksX3_processBlock_9 16 rfl rfl)
theorem dX3_processBlock_230 : decode cX3_processBlock 230 = .ok (.ishl, 1) := dk_120 (dk_at dksX3_processBlock_9 18 rfl rfl)
theorem dX3_processBlock_231 : decode cX3_processBlock 231 = .ok (.iload 11, 2) := dk_21 11 (dk_at dksX3_processBlock_9 19 rfl rfl)
theorem dX3_processBlock_233 : decode cX3_processBlock 233 = .ok (.bipush 25, 2) := dk_16 25 (dk_at dksX3_processBlock_9 21 rfl rfl)
theorem dX3_processBlock_235 : decode cX3_processBlock 235 = .ok (.iushr, 1) := dk_124 (dk_at dksX3_processBlock_9 23 rfl rfl)
theorem dX3_processBlock_236 : decode cX3_processBlock 236 = .ok (.ior, 1) := dk_128 (dk_at dksX3_processBlock_10 0 rfl rfl)
theorem dX3_processBlock_237 : decode cX3_processBlock 237 = .ok (.istore 12, 2) := dk_54 12 (dk_at dksX3_processBlock_10 1 rfl rfl)
theorem dX3_processBlock_239 : decode cX3_processBlock 239 = .ok (.iload 12, 2) := dk_21 12 (dk_at dksX3_processBlock_10 3 rfl rfl)
theorem dX3_processBlock_241 : decode cX3_processBlock 241 = .ok (.iload 10, 2) := dk_21 10 (dk_at dksX3_processBlock_10 5 rfl rfl)
theorem dX3_processBlock_243 : decode cX3_processBlock 243 = .ok (.ixor, 1) := dk_130 (dk_at dksX3_processBlock_10 7 rfl rfl)
theorem dX3_processBlock_244 : decode cX3_processBlock 244 = .ok (.istore 13, 2) := dk_54 13 (dk_at dksX3_processBlock_10 8 rfl rfl)
theorem dX3_processBlock_246 : decode cX3_processBlock 246 = .ok (.aload_n 0, 1) := dk_42 (dk_at dksX3_processBlock_10 10 rfl rfl)
theorem dX3_processBlock_247 : decode cX3_processBlock 247 = .ok (.getfield 23, 3) := dk_180 0 23 (dk_at dksX3_processBlock_10 11 rfl rfl)
theorem dX3_processBlock_250 : decode cX3_processBlock 250 = .ok (.iload 9, 2) := dk_21 9 (dk_at dksX3_processBlock_10 14 rfl rfl)
theorem dX3_processBlock_252 : decode cX3_processBlock 252 = .ok (.iaload, 1) := dk_46 (dk_at dksX3_processBlock_10 16 rfl rfl)
theorem dX3_processBlock_253 : decode cX3_processBlock 253 = .ok (.istore 14, 2) := dk_54 14 (dk_at dksX3_processBlock_10 17 rfl rfl)
theorem dX3_processBlock_255 : decode cX3_processBlock 255 = .ok (.iload 14, 2) := dk_21 14 (dk_at dksX3_processBlock_10 19 rfl rfl)
theorem dX3_processBlock_257 : decode cX3_processBlock 257 = .ok (.aload_n 0, 1) := dk_42 (dk_at dksX3_processBlock_10 21 rfl rfl)
theorem dX3_processBlock_258 : decode cX3_processBlock 258 = .ok (.getfield 23, 3) := dk_180 0 23 (dk_at dksX3_processBlock_11 0 rfl rfl)
theorem dX3_processBlock_261 : decode cX3_processBlock 261 = .ok (.iload 9, 2) := dk_21 9 (dk_at dksX3_processBlock_11 3 rfl rfl)
theorem dX3_processBlock_263 : decode cX3_processBlock 263 = .ok (.iconst 4, 1) := dk_7 (dk_at dksX3_processBlock_11 5 rfl rfl)
theorem dX3_processBlock_264 : decode cX3_processBlock 264 = .ok (.iadd, 1) := dk_96 (dk_at dksX3_processBlock_11 6 rfl rfl)
theorem dX3_processBlock_265 : decode cX3_processBlock 265 = .ok (.iaload, 1) := dk_46 (dk_at dksX3_processBlock_11 7 rfl rfl)
theorem dX3_processBlock_266 : decode cX3_processBlock 266 = .ok (.ixor, 1) := dk_130 (dk_at dksX3_processBlock_11 8 rfl rfl)
theorem dX3_processBlock_267 : decode cX3_processBlock 267 = .ok (.istore 15, 2) := dk_54 15 (dk_at dksX3_processBlock_11 9 rfl rfl)
theorem dX3_processBlock_269 : decode cX3_processBlock 269 = .ok (.aload_n 0, 1) := dk_42 (dk_at dksX3_processBlock_11 11 rfl rfl)
theorem dX3_processBlock_270 : decode cX3_processBlock 270 = .ok (.iload_n 1, 1) := dk_27 (dk_at dksX3_processBlock_11 12 rfl rfl)
theorem dX3_processBlock_271 : decode cX3_processBlock 271 = .ok (.iload_n 2, 1) := dk_28 (dk_at dksX3_processBlock_11 13 rfl rfl)
theorem dX3_processBlock_272 : decode cX3_processBlock 272 = .ok (.iload_n 3, 1) := dk_29 (dk_at dksX3_processBlock_11 14 rfl rfl)
theorem dX3_processBlock_273 : decode cX3_processBlock 273 = .ok (.invokevirtual 66, 3) := dk_182 0 66 (dk_at dksX3_processBlock_11 15 rfl rfl)
theorem dX3_processBlock_276 : decode cX3_processBlock 276 = .ok (.iload 4, 2) := dk_21 4 (dk_at dksX3_processBlock_11 18 rfl rfl)
theorem dX3_processBlock_278 : decode cX3_processBlock 278 = .ok (.iadd, 1) := dk_96 (dk_at dksX3_processBlock_11 20 rfl rfl)
theorem dX3_processBlock_279 : decode cX3_processBlock 279 = .ok (.iload 13, 2) := dk_21 13 (dk_at dksX3_processBlock_11 21 rfl rfl)
theorem dX3_processBlock_281 : decode cX3_processBlock 281 = .ok (.iadd, 1) := dk_96 (dk_at dksX3_processBlock_11 23 rfl rfl)
theorem dX3_processBlock_282 : decode cX3_processBlock 282 = .ok (.iload 15, 2) := dk_21 15 (dk_at dksX3_processBlock_12 0 rfl rfl)
theorem dX3_processBlock_284 : decode cX3_processBlock 284 = .ok (.iadd, 1) := dk_96 (dk_at dksX3_processBlock_12 2 rfl rfl)
theorem dX3_processBlock_285 : decode cX3_processBlock 285 = .ok (.istore 16, 2) := dk_54 16 (dk_at dksX3_processBlock_12 3 rfl rfl)
theorem dX3_processBlock_287 : decode cX3_processBlock 287 = .ok (.aload_n 0, 1) := dk_42 (dk_at dksX3_processBlock_12 5 rfl rfl)
theorem dX3_processBlock_288 : decode cX3_processBlock 288 = .ok (.iload 5, 2) := dk_21 5 (dk_at dksX3_processBlock_12 6 rfl rfl)
theorem dX3_processBlock_290 : decode cX3_processBlock 290 = .ok (.iload 6, 2) := dk_21 6 (dk_at dksX3_processBlock_12 8 rfl rfl)
theorem dX3_processBlock_292 : decode cX3_processBlock 292 = .ok (.iload 7, 2) := dk_21 7 (dk_at dksX3_processBlock_12 10 rfl rfl)
theorem dX3_processBlock_294 : decode cX3_processBlock 294 = .ok (.invokevirtual 70, 3) := dk_182 0 70 (dk_at dksX3_processBlock_12 12 rfl rfl)
theorem dX3_processBlock_297 : decode cX3_processBlock 297 = .ok (.iload 8, 2) := dk_21 8 (dk_at dksX3_processBlock_12 15 rfl rfl)
theorem dX3_processBlock_299 : decode cX3_processBlock 299 = .ok (.iadd, 1) := dk_96 (dk_at dksX3_processBlock_12 17 rfl rfl)
theorem dX3_processBlock_300 : decode cX3_processBlock 300 = .ok (.iload 12, 2) := dk_21 12 (dk_at dksX3_processBlock_12 18 rfl rfl)
theorem dX3_processBlock_302 : decode cX3_processBlock 302 = .ok (.iadd, 1) := dk_96 (dk_at dksX3_processBlock_12 20 rfl rfl)
theorem dX3_processBlock_303 : decode cX3_processBlock 303 = .ok (.iload 14, 2) := dk_21 14 (dk_at dksX3_processBlock_12 21 rfl rfl)
theorem dX3_processBlock_305 : decode cX3_processBlock 305 = .ok (.iadd, 1) := dk_96 (dk_at dksX3_processBlock_12 23 rfl rfl)
theorem dX3_processBlock_306 : decode cX3_processBlock 306 = .ok (.istore 17, 2) := dk_54 17 (dk_at dksX3_processBlock_13 0 rfl rfl)
theorem dX3_processBlock_308 : decode cX3_processBlock 308 = .ok (.iload_n 3, 1) := dk_29 (dk_at dksX3_processBlock_13 2 rfl rfl)
theorem dX3_processBlock_309 : decode cX3_processBlock 309 = .ok (.istore 4, 2) := dk_54 4 (dk_at dksX3_processBlock_13 3 rfl rfl)
theorem dX3_processBlock_311 : decode cX3_processBlock 311 = .ok (.iload_n 2, 1) := dk_28 (dk_at dksX3_processBlock_13 5 rfl rfl)
theorem dX3_processBlock_312 : decode cX3_processBlock 312 = .ok (.bipush 9, 2) := dk_16 9 (dk_at dksX3_processBlock_13 6 rfl rfl)
theorem dX3_processBlock_314 : decode cX3_processBlock 314 = .ok (.ishl, 1) := dk_120 (dk_at dksX3_processBlock_13 8 rfl rfl)
theorem dX3_processBlock_315 : decode cX3_processBlock 315 = .ok (.iload_n 2, 1) := dk_28 (dk_at dksX3_processBlock_13 9 rfl rfl)
theorem dX3_processBlock_316 : decode cX3_processBlock 316 = .ok (.bipush 23, 2) := dk_16 23 (dk_at dksX3_processBlock_13 10 rfl rfl)
theorem dX3_processBlock_318 : decode cX3_processBlock 318 = .ok (.iushr, 1) := dk_124 (dk_at dksX3_processBlock_13 12 rfl rfl)
theorem dX3_processBlock_319 : decode cX3_processBlock 319 = .ok (.ior, 1) := dk_128 (dk_at dksX3_processBlock_13 13 rfl rfl)
theorem dX3_processBlock_320 : decode cX3_processBlock 320 = .ok (.istore_n 3, 1) := dk_62 (dk_at dksX3_processBlock_13 14 rfl rfl)
theorem dX3_processBlock_321 : decode cX3_processBlock 321 = .ok (.iload_n 1, 1) := dk_27 (dk_at dksX3_processBlock_13 15 rfl rfl)
theorem dX3_processBlock_322 : decode cX3_processBlock 322 = .ok (.istore_n 2, 1) := dk_61 (dk_at dksX3_processBlock_13 16 rfl rfl)
theorem dX3_processBlock_323 : decode cX3_processBlock 323 = .ok (.iload 16, 2) := dk_21 16 (dk_at dksX3_processBlock_13 17 rfl rfl)
theorem dX3_processBlock_325 : decode cX3_processBlock 325 = .ok (.istore_n 1, 1) := dk_60 (dk_at dksX3_processBlock_13 19 rfl rfl)
theorem dX3_processBlock_326 : decode cX3_processBlock 326 = .ok (.iload 7, 2) := dk_21 7 (dk_at dksX3_processBlock_13 20 rfl rfl)
theorem dX3_processBlock_328 : decode cX3_processBlock 328 = .ok (.istore 8, 2) := dk_54 8 (dk_at dksX3_processBlock_13 22 rfl rfl)
theorem dX3_processBlock_330 : decode cX3_processBlock 330 = .ok (.iload 6, 2) := dk_21 6 (dk_at dksX3_processBlock_14 0 rfl rfl)
theorem dX3_processBlock_332 : decode cX3_processBlock 332 = .ok (.bipush 19, 2) := dk_16 19 (dk_at dksX3_processBlock_14 2 rfl rfl)
theorem dX3_processBlock_334 : decode cX3_processBlock 334 = .ok (.ishl, 1) := dk_120 (dk_at dksX3_processBlock_14 4 rfl rfl)
theorem dX3_processBlock_335 : decode cX3_processBlock 335 = .ok (.iload 6, 2) := dk_21 6 (dk_at dksX3_processBlock_14 5 rfl rfl)
theorem dX3_processBlock_337 : decode cX3_processBlock 337 = .ok (.bipush 13, 2) := dk_16 13 (dk_at dksX3_processBlock_14 7 rfl rfl)
theorem dX3_processBlock_339 : decode cX3_processBlock 339 = .ok (.iushr, 1) := dk_124 (dk_at dksX3_processBlock_14 9 rfl rfl)
theorem dX3_processBlock_340 : decode cX3_processBlock 340 = .ok (.ior, 1) := dk_128 (dk_at dksX3_processBlock_14 10 rfl rfl)
theorem dX3_processBlock_341 : decode cX3_processBlock 341 = .ok (.istore 7, 2) := dk_54 7 (dk_at dksX3_processBlock_14 11 rfl rfl)
theorem dX3_processBlock_343 : decode cX3_processBlock 343 = .ok (.iload 5, 2) := dk_21 5 (dk_at dksX3_processBlock_14 13 rfl rfl)
theorem dX3_processBlock_345 : decode cX3_processBlock 345 = .ok (.istore 6, 2) := dk_54 6 (dk_at dksX3_processBlock_14 15 rfl rfl)
theorem dX3_processBlock_347 : decode cX3_processBlock 347 = .ok (.aload_n 0, 1) := dk_42 (dk_at dksX3_processBlock_14 17 rfl rfl)
theorem dX3_processBlock_348 : decode cX3_processBlock 348 = .ok (.iload 17, 2) := dk_21 17 (dk_at dksX3_processBlock_14 18 rfl rfl)
theorem dX3_processBlock_350 : decode cX3_processBlock 350 = .ok (.invokevirtual 73, 3) := dk_182 0 73 (dk_at dksX3_processBlock_14 20 rfl rfl)
theorem dX3_processBlock_353 : decode cX3_processBlock 353 = .ok (.istore 5, 2) := dk_54 5 (dk_at dksX3_processBlock_15 0 rfl rfl)
theorem dX3_processBlock_355 : decode cX3_processBlock 355 = .ok (.iinc 9 1, 3) := dk_132 9 1 (dk_at dksX3_processBlock_15 2 rfl rfl)
theorem dX3_processBlock_358 : decode cX3_processBlock 358 = .ok (.goto (-164), 3) := dk_167 255 92 (dk_at dksX3_processBlock_15 5 rfl rfl)
theorem dX3_processBlock_361 : decode cX3_processBlock 361 = .ok (.bipush 16, 2) := dk_16 16 (dk_at dksX3_processBlock_15 8 rfl rfl)
theorem dX3_processBlock_363 : decode cX3_processBlock 363 = .ok (.istore 9, 2) := dk_54 9 (dk_at dksX3_processBlock_15 10 rfl rfl)
theorem dX3_processBlock_365 : decode cX3_processBlock 365 = .ok (.iload 9, 2) := dk_21 9 (dk_at dksX3_processBlock_15 12 rfl rfl)
theorem dX3_processBlock_367 : decode cX3_processBlock 367 = .ok (.bipush 64, 2) := dk_16 64 (dk_at dksX3_processBlock_15 14 rfl rfl)
theorem dX3_processBlock_369 : decode cX3_processBlock 369 = .ok (.if_icmp .ge 163, 3) := dk_162 0 163 (dk_at dksX3_processBlock_15 16 rfl rfl)
theorem dX3_processBlock_372 : decode cX3_processBlock 372 = .ok (.iload_n 1, 1) := dk_27 (dk_at dksX3_processBlock_15 19 rfl rfl)
theorem dX3_processBlock_373 : decode cX3_processBlock 373 = .ok (.bipush 12, 2) := dk_16 12 (dk_at dksX3_processBlock_15 20 rfl rfl)
theorem dX3_processBlock_375 : decode cX3_processBlock 375 = .ok (.ishl, 1) := dk_120 (dk_at dksX3_processBlock_15 22 rfl rfl)
theorem dX3_processBlock_376 : decode cX3_processBlock 376 = .ok (.iload_n 1, 1) := dk_27 (dk_at dksX3_processBlock_15 23 rfl rfl)
theorem dX3_processBlock_377 : decode cX3_processBlock 377 = .ok (.bipush 20, 2) := dk_16 20 (dk_at dksX3_processBlock_16 0 rfl rfl)
theorem dX3_processBlock_379 : decode cX3_processBlock 379 = .ok (.iushr, 1) := dk_124 (dk_at dksX3_processBlock_16 2 rfl rfl)
theorem dX3_processBlock_380 : decode cX3_processBlock 380 = .ok (.ior, 1) := dk_128 (dk_at dksX3_processBlock_16 3 rfl rfl)
theorem dX3_processBlock_381 : decode cX3_processBlock 381 = .ok (.istore 10, 2) := dk_54 10 (dk_at dksX3_processBlock_16 4 rfl rfl)
theorem dX3_processBlock_383 : decode cX3_processBlock 383 = .ok (.iload 10, 2) := dk_21 10 (dk_at dksX3_processBlock_16 6 rfl rfl)
theorem dX3_processBlock_385 : decode cX3_processBlock 385 = .ok (.iload 5, 2) := dk_21 5 (dk_at dksX3_processBlock_16 8 rfl rfl)
theorem dX3_processBlock_387 : decode cX3_processBlock 387 = .ok (.iadd, 1) := dk_96 (dk_at dksX3_processBlock_16 10 rfl rfl)
theorem dX3_processBlock_388 : decode cX3_processBlock 388 = .ok (.getstatic 63, 3) := dk_178 0 63 (dk_at dksX3_processBlock_16 11 rfl rfl)
theorem dX3_processBlock_391 : decode cX3_processBlock 391 = .ok (.iload 9, 2) := dk_21 9 (dk_at dksX3_processBlock_16 14 rfl rfl)
theorem dX3_processBlock_393 : decode cX3_processBlock 393 = .ok (.iaload, 1) := dk_46 (dk_at dksX3_processBlock_16 16 rfl rfl)
theorem dX3_processBlock_394 : decode cX3_processBlock 394 = .ok (.iadd, 1) := dk_96 (dk_at dksX3_processBlock_16 17 rfl rfl)
theorem dX3_processBlock_395 : decode cX3_processBlock 395 = .ok (.istore 11, 2) := dk_54 11 (dk_at dksX3_processBlock_16 18 rfl rfl)
theorem dX3_processBlock_397 : decode cX3_processBlock 397 = .ok (.iload 11, 2) := dk_21 11 (dk_at dksX3_processBlock_16 20 rfl rfl)
theorem dX3_processBlock_399 : decode cX3_processBlock 399 = .ok (.bipush 7, 2) := dk_16 7 (dk_at dksX3_processBlock_16 22 rfl rfl)
theorem dX3_processBlock_401 : decode cX3_processBlock 401 = .ok (.ishl, 1) := dk_120 (dk_at dksX3_processBlock_17 0 rfl rfl)
theorem dX3_processBlock_402 : decode cX3_processBlock 402 = .ok (.iload 11, 2) := dk_21 11 (dk_at dksX3_processBlock_17 1 rfl rfl)
theorem dX3_processBlock_404 : decode cX3_processBlock 404 = .ok (.bipush 25, 2) := dk_16 25 (dk_at dksX3_processBlock_17 3 rfl rfl)
theorem dX3_processBlock_406 : decode cX3_processBlock 406 = .ok (.iushr, 1) := dk_124 (dk_at dksX3_processBlock_17 5 rfl rfl)
theorem dX3_processBlock_407 : decode cX3_processBlock 407 = .ok (.ior, 1) := dk_128 (dk_at dksX3_processBlock_17 6 rfl rfl)
theorem dX3_processBlock_408 : decode cX3_processBlock 408 = .ok (.istore 12, 2) := dk_54 12 (dk_at dksX3_processBlock_17 7 rfl rfl)
theorem dX3_processBlock_410 : decode cX3_processBlock 410 = .ok (.iload 12, 2) := dk_21 12 (dk_at dksX3_processBlock_17 9 rfl rfl)
theorem dX3_processBlock_412 : decode cX3_processBlock 412 = .ok (.iload 10, 2) := dk_21 10 (dk_at dksX3_processBlock_17 11 rfl rfl)
theorem dX3_processBlock_414 : decode cX3_processBlock 414 = .ok (.ixor, 1) := dk_130 (dk_at dksX3_processBlock_17 13 rfl rfl)
theorem dX3_processBlock_415 : decode cX3_processBlock 415 = .ok (.istore 13, 2) := dk_54 13 (dk_at dksX3_processBlock_17 14 rfl rfl)
theorem dX3_processBlock_417 : decode cX3_processBlock 417 = .ok (.aload_n 0, 1) := dk_42 (dk_at dksX3_processBlock_17 16 rfl rfl)
theorem dX3_processBlock_418 : decode cX3_processBlock 418 = .ok (.getfield 23, 3) := dk_180 0 23 (dk_at dksX3_processBlock_17 17 rfl rfl)
theorem dX3_processBlock_421 : decode cX3_processBlock 421 = .ok (.iload 9, 2) := dk_21 9 (dk_at dksX3_processBlock_17 20 rfl rfl)
theorem dX3_processBlock_423 : decode cX3_processBlock 423 = .ok (.iaload, 1) := dk_46 (dk_at dksX3_processBlock_17 22 rfl rfl)
theorem dX3_processBlock_424 : decode cX3_processBlock 424 = .ok (.istore 14, 2) := dk_54 14 (dk_at dksX3_processBlock_18 0 rfl rfl)
theorem dX3_processBlock_426 : decode cX3_processBlock 426 = .ok (.iload 14, 2) := dk_21 14 (dk_at dksX3_processBlock_18 2 rfl rfl)
theorem dX3_processBlock_428 : decode cX3_processBlock 428 = .ok (.aload_n 0, 1) := dk_42 (dk_at dksX3_processBlock_18 4 rfl rfl)
theorem dX3_processBlock_429 : decode cX3_processBlock 429 = .ok (.getfield 23, 3) := dk_180 0 23 (dk_at dksX3_processBlock_18 5 rfl rfl)
theorem dX3_processBlock_432 : decode cX3_processBlock 432 = .ok (.iload 9, 2) := dk_21 9 (dk_at dksX3_processBlock_18 8 rfl rfl)
theorem dX3_processBlock_434 : decode cX3_processBlock 434 = .ok (.iconst 4, 1) := dk_7 (dk_at dksX3_processBlock_18 10 rfl rfl)
theorem dX3_processBlock_435 : decode cX3_processBlock 435 = .ok (.iadd, 1) := dk_96 (dk_at dksX3_processBlock_18 11 rfl rfl)
theorem dX3_processBlock_436 : decode cX3_processBlock 436 = .ok (.iaload, 1) := dk_46 (dk_at dksX3_processBlock_18 12 rfl rfl)
theorem dX3_processBlock_437 : decode cX3_processBlock 437 = .ok (.ixor, 1) := dk_130 (dk_at dksX3_processBlock_18 13 rfl rfl)
theorem dX3_processBlock_438 : decode cX3_processBlock 438 = .ok (.istore 15, 2) := dk_54 15 (dk_at dksX3_processBlock_18 14 rfl rfl)
theorem dX3_processBlock_440 : decode cX3_processBlock 440 = .ok (.aload_n 0, 1) := dk_42 (dk_at dksX3_processBlock_18 16 rfl rfl)
theorem dX3_processBlock_441 : decode cX3_processBlock 441 = .ok (.iload_n 1, 1) := dk_27 (dk_at dksX3_processBlock_18 17 rfl rfl)
theorem dX3_processBlock_442 : decode cX3_processBlock 442 = .ok (.iload_n 2, 1) := dk_28 (dk_at dksX3_processBlock_18 18 rfl rfl)
theorem dX3_processBlock_443 : decode cX3_processBlock 443 = .ok (.iload_n 3, 1) := dk_29 (dk_at dksX3_processBlock_18 19 rfl rfl)
theorem dX3_processBlock_444 : decode cX3_processBlock 444 = .ok (.invokevirtual 76, 3) := dk_182 0 76 (dk_at dksX3_processBlock_18 20 rfl rfl)
theorem dX3_processBlock_447 : decode cX3_processBlock 447 = .ok (.iload 4, 2) := dk_21 4 (dk_at dksX3_processBlock_19 0 rfl rfl)
theorem dX3_processBlock_449 : decode cX3_processBlock 449 = .ok (.iadd, 1) := dk_96 (dk_at dksX3_processBlock_19 2 rfl rfl)
theorem dX3_processBlock_450 : decode cX3_processBlock 450 = .ok (.iload 13, 2) := dk_21 13 (dk_at dksX3_processBlock_19 3 rfl rfl)
theorem dX3_processBlock_452 : decode cX3_processBlock 452 = .ok (.iadd, 1) := dk_96 (dk_at dksX3_processBlock_19 5 rfl rfl)
theorem dX3_processBlock_453 : decode cX3_processBlock 453 = .ok (.iload 15, 2) := dk_21 15 (dk_at dksX3_processBlock_19 6 rfl rfl)
theorem dX3_processBlock_455 : decode cX3_processBlock 455 = .ok (.iadd, 1) := dk_96 (dk_at dksX3_processBlock_19 8 rfl rfl)
theorem dX3_processBlock_456 : decode cX3_processBlock 456 = .ok (.istore 16, 2) := dk_54 16 (dk_at dksX3_processBlock_19 9 rfl rfl)
theorem dX3_processBlock_458 : decode cX3_processBlock 458 = .ok (.aload_n 0, 1) := dk_42 (dk_at dksX3_processBlock_19 11 rfl rfl)
theorem dX3_processBlock_459 : decode cX3_processBlock 459 = .ok (.iload 5, 2) := dk_21 5 (dk_at dksX3_processBlock_19 12 rfl rfl)
theorem dX3_processBlock_461 : decode cX3_processBlock 461 = .ok (.iload 6, 2) := dk_21 6 (dk_at dksX3_processBlock_19 14 rfl rfl)
theorem dX3_processBlock_463 : decode cX3_processBlock 463 = .ok (.iload 7, 2) := dk_21 7 (dk_at dksX3_processBlock_19 16 rfl rfl)
theorem dX3_processBlock_465 : decode cX3_processBlock 465 = .ok (.invokevirtual 79, 3) := dk_182 0 79 (dk_at dksX3_processBlock_19 18 rfl rfl)
theorem dX3_processBlock_468 : decode cX3_processBlock 468 = .ok (.iload 8, 2) := dk_21 8 (dk_at dksX3_processBlock_19 21 rfl rfl)
theorem dX3_processBlock_470 : decode cX3_processBlock 470 = .ok (.iadd, 1) := dk_96 (dk_at dksX3_processBlock_19 23 rfl rfl)
theorem dX3_processBlock_471 : decode cX3_processBlock 471 = .ok (.iload 12, 2) := dk_21 12 (dk_at dksX3_processBlock_20 0 rfl rfl)
theorem dX3_processBlock_473 : decode cX3_processBlock 473 = .ok (.iadd, 1) := dk_96 (dk_at dksX3_processBlock_20 2 rfl rfl)
theorem dX3_processBlock_474 : decode cX3_processBlock 474 = .ok (.iload 14, 2) := dk_21 14 (dk_at dksX3_processBlock_20 3 rfl rfl)
theorem dX3_processBlock_476 : decode cX3_processBlock 476 = .ok (.iadd, 1) := dk_96 (dk_at dksX3_processBlock_20 5 rfl rfl)
theorem dX3_processBlock_477 : decode cX3_processBlock 477 = .ok (.istore 17, 2) := dk_54 17 (dk_at dksX3_processBlock_20 6 rfl rfl)
theorem dX3_processBlock_479 : decode cX3_processBlock 479 = .ok (.iload_n 3, 1) := dk_29 (dk_at dksX3_processBlock_20 8 rfl rfl)
theorem dX3_processBlock_480 : decode cX3_processBlock 480 = .ok (.istore 4, 2) := dk_54 4 (dk_at dksX3_processBlock_20 9 rfl rfl)
theorem dX3_processBlock_482 : decode cX3_processBlock 482 = .ok (.iload_n 2, 1) := dk_28 (dk_at dksX3_processBlock_20 11 rfl rfl)
theorem dX3_processBlock_483 : decode cX3_processBlock 483 = .ok (.bipush 9, 2) := dk_16 9 (dk_at dksX3_processBlock_20 12 rfl rfl)
theorem dX3_processBlock_485 : decode cX3_processBlock 485 = .ok (.ishl, 1) := dk_120 (dk_at dksX3_processBlock_20 14 rfl rfl)
theorem dX3_processBlock_486 : decode cX3_processBlock 486 = .ok (.iload_n 2, 1) := dk_28 (dk_at dksX3_processBlock_20 15 rfl rfl)
theorem dX3_processBlock_487 : decode cX3_processBlock 487 = .ok (.bipush 23, 2) := dk_16 23 (dk_at dksX3_processBlock_20 16 rfl rfl)
theorem dX3_processBlock_489 : decode cX3_processBlock 489 = .ok (.iushr, 1) := dk_124 (dk_at dksX3_processBlock_20 18 rfl rfl)
theorem dX3_processBlock_490 : decode cX3_processBlock 490 = .ok (.ior, 1) := dk_128 (dk_at dksX3_processBlock_20 19 rfl rfl)
theorem dX3_processBlock_491 : decode cX3_processBlock 491 = .ok (.istore_n 3, 1) := dk_62 (dk_at dksX3_processBlock_20 20 rfl rfl)
theorem dX3_processBlock_492 : decode cX3_processBlock 492 = .ok (.iload_n 1, 1) := dk_27 (dk_at dksX3_processBlock_20 21 rfl rfl)
theorem dX3_processBlock_493 : decode cX3_processBlock 493 = .ok (.istore_n 2, 1) := dk_61 (dk_at dksX3_processBlock_20 22 rfl rfl)
theorem dX3_processBlock_494 : decode cX3_processBlock 494 = .ok (.iload 16, 2) := dk_21 16 (dk_at dksX3_processBlock_21 0 rfl rfl)
theorem dX3_processBlock_496 : decode cX3_processBlock 496 = .ok (.istore_n 1, 1) := dk_60 (dk_at dksX3_processBlock_21 2 rfl rfl)
theorem dX3_processBlock_497 : decode cX3_processBlock 497 = .ok (.iload 7, 2) := dk_21 7 (dk_at dksX3_processBlock_21 3 rfl rfl)
theorem dX3_processBlock_499 : decode cX3_processBlock 499 = .ok (.istore 8, 2) := dk_54 8 (dk_at dksX3_processBlock_21 5 rfl rfl)
theorem dX3_processBlock_501 : decode cX3_processBlock 501 = .ok (.iload 6, 2) := dk_21 6 (dk_at dksX3_processBlock_21 7 rfl rfl)
theorem dX3_processBlock_503 : decode cX3_processBlock 503 = .ok (.bipush 19, 2) := dk_16 19 (dk_at dksX3_processBlock_21 9 rfl rfl)
theorem dX3_processBlock_505 : decode cX3_processBlock 505 = .ok (.ishl, 1) := dk_120 (dk_at dksX3_processBlock_21 11 rfl rfl)
theorem dX3_processBlock_506 : decode cX3_processBlock 506 = .ok (.iload 6, 2) := dk_21 6 (dk_at dksX3_processBlock_21 12 rfl rfl)
theorem dX3_processBlock_508 : decode cX3_processBlock 508 = .ok (.bipush 13, 2) := dk_16 13 (dk_at dksX3_processBlock_21 14 rfl rfl)
theorem dX3_processBlock_510 : decode cX3_processBlock 510 = .ok (.iushr, 1) := dk_124 (dk_at dksX3_processBlock_21 16 rfl rfl)
theorem dX3_processBlock_511 : decode cX3_processBlock 511 = .ok (.ior, 1) := dk_128 (dk_at dksX3_processBlock_21 17 rfl rfl)
theorem dX3_processBlock_512 : decode cX3_processBlock 512 = .ok (.istore 7, 2) := dk_54 7 (dk_at dksX3_processBlock_21 18 rfl rfl)
theorem dX3_processBlock_514 : decode cX3_processBlock 514 = .ok (.iload 5, 2) := dk_21 5 (dk_at dksX3_processBlock_21 20 rfl rfl)
theorem dX3_processBlock_516 : decode cX3_processBlock 516 = .ok (.istore 6, 2) := dk_54 6 (dk_at dksX3_processBlock_21 22 rfl rfl)
theorem dX3_processBlock_518 : decode cX3_processBlock 518 = .ok (.aload_n 0, 1) := dk_42 (dk_at dksX3_processBlock_22 0 rfl rfl)
theorem dX3_processBlock_519 : decode cX3_processBlock 519 = .ok (.iload 17, 2) := dk_21 17 (dk_at dksX3_processBlock_22 1 rfl rfl)
theorem dX3_processBlock_521 : decode cX3_processBlock 521 = .ok (.invokevirtual 73, 3) := dk_182 0 73 (dk_at dksX3_processBlock_22 3 rfl rfl)
theorem dX3_processBlock_524 : decode cX3_processBlock 524 = .ok (.istore 5, 2) := dk_54 5 (dk_at dksX3_processBlock_22 6 rfl rfl)
theorem dX3_processBlock_526 : decode cX3_processBlock 526 = .ok (.iinc 9 1, 3) := dk_132 9 1 (dk_at dksX3_processBlock_22 8 rfl rfl)
theorem dX3_processBlock_529 : decode cX3_processBlock 529 = .ok (.goto (-164), 3) := dk_167 255 92 (dk_at dksX3_processBlock_22 11 rfl rfl)
theorem dX3_processBlock_532 : decode cX3_processBlock 532 = .ok (.aload_n 0, 1) := dk_42 (dk_at dksX3_processBlock_22 14 rfl rfl)
theorem dX3_processBlock_533 : decode cX3_processBlock 533 = .ok (.getfield 16, 3) := dk_180 0 16 (dk_at dksX3_processBlock_22 15 rfl rfl)
theorem dX3_processBlock_536 : decode cX3_processBlock 536 = .ok (.iconst 0, 1) := dk_3 (dk_at dksX3_processBlock_22 18 rfl rfl)
theorem dX3_processBlock_537 : decode cX3_processBlock 537 = .ok (.dup2, 1) := dk_92 (dk_at dksX3_processBlock_22 19 rfl rfl)
theorem dX3_processBlock_538 : decode cX3_processBlock 538 = .ok (.iaload, 1) := dk_46 (dk_at dksX3_processBlock_22 20 rfl rfl)
theorem dX3_processBlock_539 : decode cX3_processBlock 539 = .ok (.iload_n 1, 1) := dk_27 (dk_at dksX3_processBlock_22 21 rfl rfl)
theorem dX3_processBlock_540 : decode cX3_processBlock 540 = .ok (.ixor, 1) := dk_130 (dk_at dksX3_processBlock_22 22 rfl rfl)
theorem dX3_processBlock_541 : decode cX3_processBlock 541 = .ok (.iastore, 1) := dk_79 (dk_at dksX3_processBlock_22 23 rfl rfl)
theorem dX3_processBlock_542 : decode cX3_processBlock 542 = .ok (.aload_n 0, 1) := dk_42 (dk_at dksX3_processBlock_23 0 rfl rfl)
theorem dX3_processBlock_543 : decode cX3_processBlock 543 = .ok (.getfield 16, 3) := dk_180 0 16 (dk_at dksX3_processBlock_23 1 rfl rfl)
theorem dX3_processBlock_546 : decode cX3_processBlock 546 = .ok (.iconst 1, 1) := dk_4 (dk_at dksX3_processBlock_23 4 rfl rfl)
theorem dX3_processBlock_547 : decode cX3_processBlock 547 = .ok (.dup2, 1) := dk_92 (dk_at dksX3_processBlock_23 5 rfl rfl)
theorem dX3_processBlock_548 : decode cX3_processBlock 548 = .ok (.iaload, 1) := dk_46 (dk_at dksX3_processBlock_23 6 rfl rfl)
theorem dX3_processBlock_549 : decode cX3_processBlock 549 = .ok (.iload_n 2, 1) := dk_28 (dk_at dksX3_processBlock_23 7 rfl rfl)
theorem dX3_processBlock_550 : decode cX3_processBlock 550 = .ok (.ixor, 1) := dk_130 (dk_at dksX3_processBlock_23 8 rfl rfl)
theorem dX3_processBlock_551 : decode cX3_processBlock 551 = .ok (.iastore, 1) := dk_79 (dk_at dksX3_processBlock_23 9 rfl rfl)
theorem dX3_processBlock_552 : decode cX3_processBlock 552 = .ok (.aload_n 0, 1) := dk_42 (dk_at dksX3_processBlock_23 10 rfl rfl)
theorem dX3_processBlock_553 : decode cX3_processBlock 553 = .ok (.getfield 16, 3) := dk_180 0 16 (dk_at dksX3_processBlock_23 11 rfl rfl)
theorem dX3_processBlock_556 : decode cX3_processBlock 556 = .ok (.iconst 2, 1) := dk_5 (dk_at dksX3_processBlock_23 14 rfl rfl)
theorem dX3_processBlock_557 : decode cX3_processBlock 557 = .ok (.dup2, 1) := dk_92 (dk_at dksX3_processBlock_23 15 rfl rfl)
theorem dX3_processBlock_558 : decode cX3_processBlock 558 = .ok (.iaload, 1) := dk_46 (dk_at dksX3_processBlock_23 16 rfl rfl)
theorem dX3_processBlock_559 : decode cX3_processBlock 559 = .ok (.iload_n 3, 1) := dk_29 (dk_at dksX3_processBlock_23 17 rfl rfl)
theorem dX3_processBlock_560 : decode cX3_processBlock 560 = .ok (.ixor, 1) := dk_130 (dk_at dksX3_processBlock_23 18 rfl rfl)
theorem dX3_processBlock_561 : decode cX3_processBlock 561 = .ok (.iastore, 1) := dk_79 (dk_at dksX3_processBlock_23 19 rfl rfl)
theorem dX3_processBlock_562 : decode cX3_processBlock 562 = .ok (.aload_n 0, 1) := dk_42 (dk_at dksX3_processBlock_23 20 rfl rfl)
theorem dX3_processBlock_563 : decode cX3_processBlock 563 = .ok (.getfield 16, 3) := dk_180 0 16 (dk_at dksX3_processBlock_23 21 rfl rfl)
theorem dX3_processBlock_566 : decode cX3_processBlock 566 = .ok (.iconst 3, 1) := dk_6 (dk_at dksX3_processBlock_24 0 rfl rfl)
theorem dX3_processBlock_567 : decode cX3_processBlock 567 = .ok (.dup2, 1) := dk_92 (dk_at dksX3_processBlock_24 1 rfl rfl)
theorem dX3_processBlock_568 : decode cX3_processBlock 568 = .ok (.iaload, 1) := dk_46 (dk_at dksX3_processBlock_24 2 rfl rfl)
theorem dX3_processBlock_569 : decode cX3_processBlock 569 = .ok (.iload 4, 2) := dk_21 4 (dk_at dksX3_processBlock_24 3 rfl rfl)
theorem dX3_processBlock_571 : decode cX3_processBlock 571 = .ok (.ixor, 1) := dk_130 (dk_at dksX3_processBlock_24 5 rfl rfl)
theorem dX3_processBlock_572 : decode cX3_processBlock 572 = .ok (.iastore, 1) := dk_79 (dk_at dksX3_processBlock_24 6 rfl rfl)
theorem dX3_processBlock_573 : decode cX3_processBlock 573 = .ok (.aload_n 0, 1) := dk_42 (dk_at dksX3_processBlock_24 7 rfl rfl)
theorem dX3_processBlock_574 : decode cX3_processBlock 574 = .ok (.getfield 16, 3) := dk_180 0 16 (dk_at dksX3_processBlock_24 8 rfl rfl)
theorem dX3_processBlock_577 : decode cX3_processBlock 577 = .ok (.iconst 4, 1) := dk_7 (dk_at dksX3_processBlock_24 11 rfl rfl)
theorem dX3_processBlock_578 : decode cX3_processBlock 578 = .ok (.dup2, 1) := dk_92 (dk_at dksX3_processBlock_24 12 rfl rfl)
theorem dX3_processBlock_579 : decode cX3_processBlock 579 = .ok (.iaload, 1) := dk_46 (dk_at dksX3_processBlock_24 13 rfl rfl)
theorem dX3_processBlock_580 : decode cX3_processBlock 580 = .ok (.iload 5, 2) := dk_21 5 (dk_at dksX3_processBlock_24 14 rfl rfl)
theorem dX3_processBlock_582 : decode cX3_processBlock 582 = .ok (.ixor, 1) := dk_130 (dk_at dksX3_processBlock_24 16 rfl rfl)
theorem dX3_processBlock_583 : decode cX3_processBlock 583 = .ok (.iastore, 1) := dk_79 (dk_at dksX3_processBlock_24 17 rfl rfl)
theorem dX3_processBlock_584 : decode cX3_processBlock 584 = .ok (.aload_n 0, 1) := dk_42 (dk_at dksX3_processBlock_24 18 rfl rfl)
theorem dX3_processBlock_585 : decode cX3_processBlock 585 = .ok (.getfield 16, 3) := dk_180 0 16 (dk_at dksX3_processBlock_24 19 rfl rfl)
theorem dX3_processBlock_588 : decode cX3_processBlock 588 = .ok (.iconst 5, 1) := dk_8 (dk_at dksX3_processBlock_24 22 rfl rfl)
theorem dX3_processBlock_589 : decode cX3_processBlock 589 = .ok (.dup2, 1) := dk_92 (dk_at dksX3_processBlock_24 23 rfl rfl)
theorem dX3_processBlock_590 : decode cX3_processBlock 590 = .ok (.iaload, 1) := dk_46 (dk_at dksX3_processBlock_25 0 rfl rfl)
theorem dX3_processBlock_591 : decode cX3_processBlock 591 = .ok (.iload 6, 2) := dk_21 6 (dk_at dksX3_processBlock_25 1 rfl rfl)
theorem dX3_processBlock_593 : decode cX3_processBlock 593 = .ok (.ixor, 1) := dk_130 (dk_at dksX3_processBlock_25 3 rfl rfl)
theorem dX3_processBlock_594 : decode cX3_processBlock 594 = .ok (.iastore, 1) := dk_79 (dk_at dksX3_processBlock_25 4 rfl rfl)
theorem dX3_processBlock_595 : decode cX3_processBlock 595 = .ok (.aload_n 0, 1) := dk_42 (dk_at dksX3_processBlock_25 5 rfl rfl)
theorem dX3_processBlock_596 : decode cX3_processBlock 596 = .ok (.getfield 16, 3) := dk_180 0 16 (dk_at dksX3_processBlock_25 6 rfl rfl)
theorem dX3_processBlock_599 : decode cX3_processBlock 599 = .ok (.bipush 6, 2) := dk_16 6 (dk_at dksX3_processBlock_25 9 rfl rfl)
theorem dX3_processBlock_601 : decode cX3_processBlock 601 = .ok (.dup2, 1) := dk_92 (dk_at dksX3_processBlock_25 11 rfl rfl)
theorem dX3_processBlock_602 : decode cX3_processBlock 602 = .ok (.iaload, 1) := dk_46 (dk_at dksX3_processBlock_25 12 rfl rfl)
theorem dX3_processBlock_603 : decode cX3_processBlock 603 = .ok (.iload 7, 2) := dk_21 7 (dk_at dksX3_processBlock_25 13 rfl rfl)
theorem dX3_processBlock_605 : decode cX3_processBlock 605 = .ok (.ixor, 1) := dk_130 (dk_at dksX3_processBlock_25 15 rfl rfl)
theorem dX3_processBlock_606 : decode cX3_processBlock 606 = .ok (.iastore, 1) := dk_79 (dk_at dksX3_processBlock_25 16 rfl rfl)
theorem dX3_processBlock_607 : decode cX3_processBlock 607 = .ok (.aload_n 0, 1) := dk_42 (dk_at dksX3_processBlock_25 17 rfl rfl)
theorem dX3_processBlock_608 : decode cX3_processBlock 608 = .ok (.getfield 16, 3) := dk_180 0 16 (dk_at dksX3_processBlock_25 18 rfl rfl)
theorem dX3_processBlock_611 : decode cX3_processBlock 611 = .ok (.bipush 7, 2) := dk_16 7 (dk_at dksX3_processBlock_25 21 rfl rfl)
theorem dX3_processBlock_613 : decode cX3_processBlock 613 = .ok (.dup2, 1) := dk_92 (dk_at dksX3_processBlock_25 23 rfl rfl)
theorem dX3_processBlock_614 : decode cX3_processBlock 614 = .ok (.iaload, 1) := dk_46 (dk_at dksX3_processBlock_26 0 rfl rfl)
theorem dX3_processBlock_615 : decode cX3_processBlock 615 = .ok (.iload 8, 2) := dk_21 8 (dk_at dksX3_processBlock_26 1 rfl rfl)
theorem dX3_processBlock_617 : decode cX3_processBlock 617 = .ok (.ixor, 1) := dk_130 (dk_at dksX3_processBlock_26 3 rfl rfl)
theorem dX3_processBlock_618 : decode cX3_processBlock 618 = .ok (.iastore, 1) := dk_79 (dk_at dksX3_processBlock_26 4 rfl rfl)
theorem dX3_processBlock_619 : decode cX3_processBlock 619 = .ok (.aload_n 0, 1) := dk_42 (dk_at dksX3_processBlock_26 5 rfl rfl)
theorem dX3_processBlock_620 : decode cX3_processBlock 620 = .ok (.iconst 0, 1) := dk_3 (dk_at dksX3_processBlock_26 6 rfl rfl)
theorem dX3_processBlock_621 : decode cX3_processBlock 621 = .ok (.putfield 39, 3) := dk_181 0 39 (dk_at dksX3_processBlock_26 7 rfl rfl)
theorem dX3_processBlock_624 : decode cX3_processBlock 624 = .ok (.return_, 1) := dk_177 (dk_at dksX3_processBlock_26 10 rfl rfl)
abbrev cX3_P1 : ByteArray := prog_6_method_8_code
def yX3_P1 : MethodName := ⟨RX3, "P1", "(I)I"⟩
def dkwX3_P1_1 : List UInt8 := [130, 172]
abbrev dktX3_P1_1 : List UInt8 := dkwX3_P1_1 ++ []
def dkwX3_P1_0 : List UInt8 := [27, 16, 15, 120, 27, 16, 17, 124, 128, 61, 27, 16, 23, 120, 27, 16, 9, 124, 128, 62, 27, 28, 130, 29]
abbrev dktX3_P1_0 : List UInt8 := dkwX3_P1_0 ++ dktX3_P1_1
theorem dksX3_P1_0 : cX3_P1.data.toList.drop 0 = dktX3_P1_0 := by decide +kernel
theorem dksX3_P1_1 : cX3_P1.data.toList.drop 24 = dktX3_P1_1 := dk_seg dksX3_P1_0 24 rfl rfl
theorem dX3_P1_0 : decode cX3_P1 0 = .ok (.iload_n 1, 1) := dk_27 (dk_at dksX3_P1_0 0 rfl rfl)
theorem dX3_P1_1 : decode cX3_P1 1 = .ok (.bipush 15, 2) := dk_16 15 (dk_at dksX3_P1_0 1 rfl rfl)
theorem dX3_P1_3 : decode cX3_P1 3 = .ok (.ishl, 1) := dk_120 (dk_at dksX3_P1_0 3 rfl rfl)
theorem dX3_P1_4 : decode cX3_P1 4 = .ok (.iload_n 1, 1) := dk_27 (dk_at dksX3_P1_0 4 rfl rfl)
theorem dX3_P1_5 : decode cX3_P1 5 = .ok (.bipush 17, 2) := dk_16 17 (dk_at dksX3_P1_0 5 rfl rfl)
theorem dX3_P1_7 : decode cX3_P1 7 = .ok (.iushr, 1) := dk_124 (dk_at dksX3_P1_0 7 rfl rfl)
theorem dX3_P1_8 : decode cX3_P1 8 = .ok (.ior, 1) := dk_128 (dk_at dksX3_P1_0 8 rfl rfl)
theorem dX3_P1_9 : decode cX3_P1 9 = .ok (.istore_n 2, 1) := dk_61 (dk_at dksX3_P1_0 9 rfl rfl)
theorem dX3_P1_10 : decode cX3_P1 10 = .ok (.iload_n 1, 1) := dk_27 (dk_at dksX3_P1_0 10 rfl rfl)
theorem dX3_P1_11 : decode cX3_P1 11 = .ok (.bipush 23, 2) := dk_16 23 (dk_at dksX3_P1_0 11 rfl rfl)
theorem dX3_P1_13 : decode cX3_P1 13 = .ok (.ishl, 1) := dk_120 (dk_at dksX3_P1_0 13 rfl rfl)
theorem dX3_P1_14 : decode cX3_P1 14 = .ok (.iload_n 1, 1) := dk_27 (dk_at dksX3_P1_0 14 rfl rfl)
theorem dX3_P1_15 : decode cX3_P1 15 = .ok (.bipush 9, 2) := dk_16 9 (dk_at dksX3_P1_0 15 rfl rfl)
theorem dX3_P1_17 : decode cX3_P1 17 = .ok (.iushr, 1) := dk_124 (dk_at dksX3_P1_0 17 rfl rfl)
theorem dX3_P1_18 : decode cX3_P1 18 = .ok (.ior, 1) := dk_128 (dk_at dksX3_P1_0 18 rfl rfl)
theorem dX3_P1_19 : decode cX3_P1 19 = .ok (.istore_n 3, 1) := dk_62 (dk_at dksX3_P1_0 19 rfl rfl)
theorem dX3_P1_20 : decode cX3_P1 20 = .ok (.iload_n 1, 1) := dk_27 (dk_at dksX3_P1_0 20 rfl rfl)
theorem dX3_P1_21 : decode cX3_P1 21 = .ok (.iload_n 2, 1) := dk_28 (dk_at dksX3_P1_0 21 rfl rfl)
theorem dX3_P1_22 : decode cX3_P1 22 = .ok (.ixor, 1) := dk_130 (dk_at dksX3_P1_0 22 rfl rfl)
theorem dX3_P1_23 : decode cX3_P1 23 = .ok (.iload_n 3, 1) := dk_29 (dk_at dksX3_P1_0 23 rfl rfl)
theorem dX3_P1_24 : decode cX3_P1 24 = .ok (.ixor, 1) := dk_130 (dk_at dksX3_P1_1 0 rfl rfl)
theorem dX3_P1_25 : decode cX3_P1 25 = .ok (.ireturn, 1) := dk_172 (dk_at dksX3_P1_1 1 rfl rfl)
abbrev cX3_FF0 : ByteArray := prog_6_method_9_code
def yX3_FF0 : MethodName := ⟨RX3, "FF0", "(III)I"⟩
def dkwX3_FF0_0 : List UInt8 := [27, 28, 130, 29, 130, 172]
abbrev dktX3_FF0_0 : List UInt8 := dkwX3_FF0_0 ++ []
theorem dksX3_FF0_0 : cX3_FF0.data.toList.drop 0 = dktX3_FF0_0 := by decide +kernel
theorem dX3_FF0_0 : decode cX3_FF0 0 = .ok (.iload_n 1, 1) := dk_27 (dk_at dksX3_FF0_0 0 rfl rfl)
theorem dX3_FF0_1 : decode cX3_FF0 1 = .ok (.iload_n 2, 1) := dk_28 (dk_at dksX3_FF0_0 1 rfl rfl)
theorem dX3_FF0_2 : decode cX3_FF0 2 = .ok (.ixor, 1) := dk_130 (dk_at dksX3_FF0_0 2 rfl rfl)
theorem dX3_FF0_3 : decode cX3_FF0 3 = .ok (.iload_n 3, 1) := dk_29 (dk_at dksX3_FF0_0 3 rfl rfl)
theorem dX3_FF0_4 : decode cX3_FF0 4 = .ok (.ixor, 1) := dk_130 (dk_at dksX3_FF0_0 4 rfl rfl)
theorem dX3_FF0_5 : decode cX3_FF0 5 = .ok (.ireturn, 1) := dk_172 (dk_at dksX3_FF0_0 5 rfl rfl)
abbrev cX3_GG0 : ByteArray := prog_6_method_11_code
def yX3_GG0 : MethodName := ⟨RX3, "GG0", "(III)I"⟩
def dkwX3_GG0_0 : List UInt8 := [27, 28, 130, 29, 130, 172]
abbrev dktX3_GG0_0 : List UInt8 := dkwX3_GG0_0 ++ []
theorem dksX3_GG0_0 : cX3_GG0.data.toList.drop 0 = dktX3_GG0_0 := by decide +kernel
theorem dX3_GG0_0 : decode cX3_GG0 0 = .ok (.iload_n 1, 1) := dk_27 (dk_at dksX3_GG0_0 0 rfl rfl)
theorem dX3_GG0_1 : decode cX3_GG0 1 = .ok (.iload_n 2, 1) := dk_28 (dk_at dksX3_GG0_0 1 rfl rfl)
theorem dX3_GG0_2 : decode cX3_GG0 2 = .ok (.ixor, 1) := dk_130 (dk_at dksX3_GG0_0 2 rfl rfl)
theorem dX3_GG0_3 : decode cX3_GG0 3 = .ok (.iload_n 3, 1) := dk_29 (dk_at dksX3_GG0_0 3 rfl rfl)
theorem dX3_GG0_4 : decode cX3_GG0 4 = .ok (.ixor, 1) := dk_130 (dk_at dksX3_GG0_0 4 rfl rfl)
theorem dX3_GG0_5 : decode cX3_GG0 5 = .ok (.ireturn, 1) := dk_172 (dk_at dksX3_GG0_0 5 rfl rfl)
abbrev cX3_P0 : ByteArray := prog_6_method_7_code
def yX3_P0 : MethodName := ⟨RX3, "P0", "(I)I"⟩
def dkwX3_P0_1 : List UInt8 := [130, 172]
abbrev dktX3_P0_1 : List UInt8 := dkwX3_P0_1 ++ []
def dkwX3_P0_0 : List UInt8 := [27, 16, 9, 120, 27, 16, 23, 124, 128, 61, 27, 16, 17, 120, 27, 16, 15, 124, 128, 62, 27, 28, 130, 29]
abbrev dktX3_P0_0 : List UInt8 := dkwX3_P0_0 ++ dktX3_P0_1
theorem dksX3_P0_0 : cX3_P0.data.toList.drop 0 = dktX3_P0_0 := by decide +kernel
theorem dksX3_P0_1 : cX3_P0.data.toList.drop 24 = dktX3_P0_1 := dk_seg dksX3_P0_0 24 rfl rfl
theorem dX3_P0_0 : decode cX3_P0 0 = .ok (.iload_n 1, 1) := dk_27 (dk_at dksX3_P0_0 0 rfl rfl)
theorem dX3_P0_1 : decode cX3_P0 1 = .ok (.bipush 9, 2) := dk_16 9 (dk_at dksX3_P0_0 1 rfl rfl)
theorem dX3_P0_3 : decode cX3_P0 3 = .ok (.ishl, 1) := dk_120 (dk_at dksX3_P0_0 3 rfl rfl)
theorem dX3_P0_4 : decode cX3_P0 4 = .ok (.iload_n 1, 1) := dk_27 (dk_at dksX3_P0_0 4 rfl rfl)
theorem dX3_P0_5 : decode cX3_P0 5 = .ok (.bipush 23, 2) := dk_16 23 (dk_at dksX3_P0_0 5 rfl rfl)
theorem dX3_P0_7 : decode cX3_P0 7 = .ok (.iushr, 1) := dk_124 (dk_at dksX3_P0_0 7 rfl rfl)
theorem dX3_P0_8 : decode cX3_P0 8 = .ok (.ior, 1) := dk_128 (dk_at dksX3_P0_0 8 rfl rfl)
theorem dX3_P0_9 : decode cX3_P0 9 = .ok (.istore_n 2, 1) := dk_61 (dk_at dksX3_P0_0 9 rfl rfl)
theorem dX3_P0_10 : decode cX3_P0 10 = .ok (.iload_n 1, 1) := dk_27 (dk_at dksX3_P0_0 10 rfl rfl)
theorem dX3_P0_11 : decode cX3_P0 11 = .ok (.bipush 17, 2) := dk_16 17 (dk_at dksX3_P0_0 11 rfl rfl)
theorem dX3_P0_13 : decode cX3_P0 13 = .ok (.ishl, 1) := dk_120 (dk_at dksX3_P0_0 13 rfl rfl)
theorem dX3_P0_14 : decode cX3_P0 14 = .ok (.iload_n 1, 1) := dk_27 (dk_at dksX3_P0_0 14 rfl rfl)
theorem dX3_P0_15 : decode cX3_P0 15 = .ok (.bipush 15, 2) := dk_16 15 (dk_at dksX3_P0_0 15 rfl rfl)
theorem dX3_P0_17 : decode cX3_P0 17 = .ok (.iushr, 1) := dk_124 (dk_at dksX3_P0_0 17 rfl rfl)
theorem dX3_P0_18 : decode cX3_P0 18 = .ok (.ior, 1) := dk_128 (dk_at dksX3_P0_0 18 rfl rfl)
theorem dX3_P0_19 : decode cX3_P0 19 = .ok (.istore_n 3, 1) := dk_62 (dk_at dksX3_P0_0 19 rfl rfl)
theorem dX3_P0_20 : decode cX3_P0 20 = .ok (.iload_n 1, 1) := dk_27 (dk_at dksX3_P0_0 20 rfl rfl)
theorem dX3_P0_21 : decode cX3_P0 21 = .ok (.iload_n 2, 1) := dk_28 (dk_at dksX3_P0_0 21 rfl rfl)
theorem dX3_P0_22 : decode cX3_P0 22 = .ok (.ixor, 1) := dk_130 (dk_at dksX3_P0_0 22 rfl rfl)
theorem dX3_P0_23 : decode cX3_P0 23 = .ok (.iload_n 3, 1) := dk_29 (dk_at dksX3_P0_0 23 rfl rfl)
theorem dX3_P0_24 : decode cX3_P0 24 = .ok (.ixor, 1) := dk_130 (dk_at dksX3_P0_1 0 rfl rfl)
theorem dX3_P0_25 : decode cX3_P0 25 = .ok (.ireturn, 1) := dk_172 (dk_at dksX3_P0_1 1 rfl rfl)
abbrev cX3_FF1 : ByteArray := prog_6_method_10_code
def yX3_FF1 : MethodName := ⟨RX3, "FF1", "(III)I"⟩
def dkwX3_FF1_0 : List UInt8 := [27, 28, 126, 27, 29, 126, 128, 28, 29, 126, 128, 172]
abbrev dktX3_FF1_0 : List UInt8 := dkwX3_FF1_0 ++ []
theorem dksX3_FF1_0 : cX3_FF1.data.toList.drop 0 = dktX3_FF1_0 := by decide +kernel
theorem dX3_FF1_0 : decode cX3_FF1 0 = .ok (.iload_n 1, 1) := dk_27 (dk_at dksX3_FF1_0 0 rfl rfl)
theorem dX3_FF1_1 : decode cX3_FF1 1 = .ok (.iload_n 2, 1) := dk_28 (dk_at dksX3_FF1_0 1 rfl rfl)
theorem dX3_FF1_2 : decode cX3_FF1 2 = .ok (.iand, 1) := dk_126 (dk_at dksX3_FF1_0 2 rfl rfl)
theorem dX3_FF1_3 : decode cX3_FF1 3 = .ok (.iload_n 1, 1) := dk_27 (dk_at dksX3_FF1_0 3 rfl rfl)
theorem dX3_FF1_4 : decode cX3_FF1 4 = .ok (.iload_n 3, 1) := dk_29 (dk_at dksX3_FF1_0 4 rfl rfl)
theorem dX3_FF1_5 : decode cX3_FF1 5 = .ok (.iand, 1) := dk_126 (dk_at dksX3_FF1_0 5 rfl rfl)
theorem dX3_FF1_6 : decode cX3_FF1 6 = .ok (.ior, 1) := dk_128 (dk_at dksX3_FF1_0 6 rfl rfl)
theorem dX3_FF1_7 : decode cX3_FF1 7 = .ok (.iload_n 2, 1) := dk_28 (dk_at dksX3_FF1_0 7 rfl rfl)
theorem dX3_FF1_8 : decode cX3_FF1 8 = .ok (.iload_n 3, 1) := dk_29 (dk_at dksX3_FF1_0 8 rfl rfl)
theorem dX3_FF1_9 : decode cX3_FF1 9 = .ok (.iand, 1) := dk_126 (dk_at dksX3_FF1_0 9 rfl rfl)
theorem dX3_FF1_10 : decode cX3_FF1 10 = .ok (.ior, 1) := dk_128 (dk_at dksX3_FF1_0 10 rfl rfl)
theorem dX3_FF1_11 : decode cX3_FF1 11 = .ok (.ireturn, 1) := dk_172 (dk_at dksX3_FF1_0 11 rfl rfl)
abbrev cX3_GG1 : ByteArray := prog_6_method_12_code
def yX3_GG1 : MethodName := ⟨RX3, "GG1", "(III)I"⟩
def dkwX3_GG1_0 : List UInt8 := [27, 28, 126, 27, 2, 130, 29, 126, 128, 172]
abbrev dktX3_GG1_0 : List UInt8 := dkwX3_GG1_0 ++ []
theorem dksX3_GG1_0 : cX3_GG1.data.toList.drop 0 = dktX3_GG1_0 := by decide +kernel
theorem dX3_GG1_0 : decode cX3_GG1 0 = .ok (.iload_n 1, 1) := dk_27 (dk_at dksX3_GG1_0 0 rfl rfl)
theorem dX3_GG1_1 : decode cX3_GG1 1 = .ok (.iload_n 2, 1) := dk_28 (dk_at dksX3_GG1_0 1 rfl rfl)
theorem dX3_GG1_2 : decode cX3_GG1 2 = .ok (.iand, 1) := dk_126 (dk_at dksX3_GG1_0 2 rfl rfl)
theorem dX3_GG1_3 : decode cX3_GG1 3 = .ok (.iload_n 1, 1) := dk_27 (dk_at dksX3_GG1_0 3 rfl rfl)
theorem dX3_GG1_4 : decode cX3_GG1 4 = .ok (.iconst (-1), 1) := dk_2 (dk_at dksX3_GG1_0 4 rfl rfl)
theorem dX3_GG1_5 : decode cX3_GG1 5 = .ok (.ixor, 1) := dk_130 (dk_at dksX3_GG1_0 5 rfl rfl)
theorem dX3_GG1_6 : decode cX3_GG1 6 = .ok (.iload_n 3, 1) := dk_29 (dk_at dksX3_GG1_0 6 rfl rfl)
theorem dX3_GG1_7 : decode cX3_GG1 7 = .ok (.iand, 1) := dk_126 (dk_at dksX3_GG1_0 7 rfl rfl)
theorem dX3_GG1_8 : decode cX3_GG1 8 = .ok (.ior, 1) := dk_128 (dk_at dksX3_GG1_0 8 rfl rfl)
theorem dX3_GG1_9 : decode cX3_GG1 9 = .ok (.ireturn, 1) := dk_172 (dk_at dksX3_GG1_0 9 rfl rfl)
abbrev cX3_doFinal : ByteArray := prog_6_method_4_code
def yX3_doFinal : MethodName := ⟨RX3, "doFinal", "([BI)I"⟩
def dkwX3_doFinal_0 : List UInt8 := [42, 182, 0, 43, 42, 180, 0, 16, 43, 28, 184, 0, 46, 42, 182, 0, 26, 16, 32, 172]
abbrev dktX3_doFinal_0 : List UInt8 := dkwX3_doFinal_0 ++ []
theorem dksX3_doFinal_0 : cX3_doFinal.data.toList.drop 0 = dktX3_doFinal_0 := by decide +kernel
theorem dX3_doFinal_0 : decode cX3_doFinal 0 = .ok (.aload_n 0, 1) := dk_42 (dk_at dksX3_doFinal_0 0 rfl rfl)
theorem dX3_doFinal_1 : decode cX3_doFinal 1 = .ok (.invokevirtual 43, 3) := dk_182 0 43 (dk_at dksX3_doFinal_0 1 rfl rfl)
theorem dX3_doFinal_4 : decode cX3_doFinal 4 = .ok (.aload_n 0, 1) := dk_42 (dk_at dksX3_doFinal_0 4 rfl rfl)
theorem dX3_doFinal_5 : decode cX3_doFinal 5 = .ok (.getfield 16, 3) := dk_180 0 16 (dk_at dksX3_doFinal_0 5 rfl rfl)
theorem dX3_doFinal_8 : decode cX3_doFinal 8 = .ok (.aload_n 1, 1) := dk_43 (dk_at dksX3_doFinal_0 8 rfl rfl)
theorem dX3_doFinal_9 : decode cX3_doFinal 9 = .ok (.iload_n 2, 1) := dk_28 (dk_at dksX3_doFinal_0 9 rfl rfl)
theorem dX3_doFinal_10 : decode cX3_doFinal 10 = .ok (.invokestatic 46, 3) := dk_184 0 46 (dk_at dksX3_doFinal_0 10 rfl rfl)
theorem dX3_doFinal_13 : decode cX3_doFinal 13 = .ok (.aload_n 0, 1) := dk_42 (dk_at dksX3_doFinal_0 13 rfl rfl)
theorem dX3_doFinal_14 : decode cX3_doFinal 14 = .ok (.invokevirtual 26, 3) := dk_182 0 26 (dk_at dksX3_doFinal_0 14 rfl rfl)
theorem dX3_doFinal_17 : decode cX3_doFinal 17 = .ok (.bipush 32, 2) := dk_16 32 (dk_at dksX3_doFinal_0 17 rfl rfl)
theorem dX3_doFinal_19 : decode cX3_doFinal 19 = .ok (.ireturn, 1) := dk_172 (dk_at dksX3_doFinal_0 19 rfl rfl)
abbrev cX3_processLength : ByteArray := prog_6_method_6_code
def yX3_processLength : MethodName := ⟨RX3, "processLength", "(J)V"⟩
def dkwX3_processLength_4 : List UInt8 := [90, 4, 96, 181, 0, 39, 31, 136, 79, 177]
abbrev dktX3_processLength_4 : List UInt8 := dkwX3_processLength_4 ++ []
def dkwX3_processLength_3 : List UInt8 := [180, 0, 39, 90, 4, 96, 181, 0, 39, 31, 16, 32, 125, 136, 79, 42, 180, 0, 20, 42, 89, 180, 0, 39]
abbrev dktX3_processLength_3 : List UInt8 := dkwX3_processLength_3 ++ dktX3_processLength_4
def dkwX3_processLength_2 : List UInt8 := [180, 0, 39, 3, 79, 42, 89, 180, 0, 39, 4, 96, 181, 0, 39, 167, 255, 227, 42, 180, 0, 20, 42, 89]
abbrev dktX3_processLength_2 : List UInt8 := dkwX3_processLength_2 ++ dktX3_processLength_3
def dkwX3_processLength_1 : List UInt8 := [4, 96, 181, 0, 39, 42, 182, 0, 56, 42, 180, 0, 39, 16, 14, 162, 0, 26, 42, 180, 0, 20, 42]
abbrev dktX3_processLength_1 : List UInt8 := dkwX3_processLength_1 ++ dktX3_processLength_2
def dkwX3_processLength_0 : List UInt8 := [42, 180, 0, 39, 16, 14, 164, 0, 27, 42, 180, 0, 20, 42, 180, 0, 39, 3, 79, 42, 89, 180, 0, 39]
abbrev dktX3_processLength_0 : List UInt8 := dkwX3_processLength_0 ++ dktX3_processLength_1
theorem dksX3_processLength_0 : cX3_processLength.data.toList.drop 0 = dktX3_processLength_0 := by decide +kernel
theorem dksX3_processLength_1 : cX3_processLength.data.toList.drop 24 = dktX3_processLength_1 := dk_seg dksX3_processLength_0 24 rfl rfl
theorem dksX3_processLength_2 : cX3_processLength.data.toList.drop 47 = dktX3_processLength_2 := dk_seg dksX3_processLength_1 23 rfl rfl
theorem dksX3_processLength_3 : cX3_processLength.data.toList.drop 71 = dktX3_processLength_3 := dk_seg dksX3_processLength_2 24 rfl rfl
theorem dksX3_processLength_4 : cX3_processLength.data.toList.drop 95 = dktX3_processLength_4 := dk_seg dksX3_processLength_3 24 rfl rfl
theorem dX3_processLength_0 : decode cX3_processLength 0 = .ok (.aload_n 0, 1) := dk_42 (dk_at dksX3_processLength_0 0 rfl rfl)
theorem dX3_processLength_1 : decode cX3_processLength 1 = .ok (.getfield 39, 3) := dk_180 0 39 (dk_at dksX3_processLength_0 1 rfl rfl)
theorem dX3_processLength_4 : decode cX3_processLength 4 = .ok (.bipush 14, 2) := dk_16 14 (dk_at dksX3_processLength_0 4 rfl rfl)
theorem dX3_processLength_6 : decode cX3_processLength 6 = .ok (.if_icmp .le 27, 3) := dk_164 0 27 (dk_at dksX3_processLength_0 6 rfl rfl)
theorem dX3_processLength_9 : decode cX3_processLength 9 = .ok (.aload_n 0, 1) := dk_42 (dk_at dksX3_processLength_0 9 rfl rfl)
theorem dX3_processLength_10 : decode cX3_processLength 10 = .ok (.getfield 20, 3) := dk_180 0 20 (dk_at dksX3_processLength_0 10 rfl rfl)
theorem dX3_processLength_13 : decode cX3_processLength 13 = .ok (.aload_n 0, 1) := dk_42 (dk_at dksX3_processLength_0 13 rfl rfl)
theorem dX3_processLength_14 : decode cX3_processLength 14 = .ok (.getfield 39, 3) := dk_180 0 39 (dk_at dksX3_processLength_0 14 rfl rfl)
theorem dX3_processLength_17 : decode cX3_processLength 17 = .ok (.iconst 0, 1) := dk_3 (dk_at dksX3_processLength_0 17 rfl rfl)
theorem dX3_processLength_18 : decode cX3_processLength 18 = .ok (.iastore, 1) := dk_79 (dk_at dksX3_processLength_0 18 rfl rfl)
theorem dX3_processLength_19 : decode cX3_processLength 19 = .ok (.aload_n 0, 1) := dk_42 (dk_at dksX3_processLength_0 19 rfl rfl)
theorem dX3_processLength_20 : decode cX3_processLength 20 = .ok (.dup, 1) := dk_89 (dk_at dksX3_processLength_0 20 rfl rfl)
theorem dX3_processLength_21 : decode cX3_processLength 21 = .ok (.getfield 39, 3) := dk_180 0 39 (dk_at dksX3_processLength_0 21 rfl rfl)
theorem dX3_processLength_24 : decode cX3_processLength 24 = .ok (.iconst 1, 1) := dk_4 (dk_at dksX3_processLength_1 0 rfl rfl)
theorem dX3_processLength_25 : decode cX3_processLength 25 = .ok (.iadd, 1) := dk_96 (dk_at dksX3_processLength_1 1 rfl rfl)
theorem dX3_processLength_26 : decode cX3_processLength 26 = .ok (.putfield 39, 3) := dk_181 0 39 (dk_at dksX3_processLength_1 2 rfl rfl)
theorem dX3_processLength_29 : decode cX3_processLength 29 = .ok (.aload_n 0, 1) := dk_42 (dk_at dksX3_processLength_1 5 rfl rfl)
theorem dX3_processLength_30 : decode cX3_processLength 30 = .ok (.invokevirtual 56, 3) := dk_182 0 56 (dk_at dksX3_processLength_1 6 rfl rfl)
theorem dX3_processLength_33 : decode cX3_processLength 33 = .ok (.aload_n 0, 1) := dk_42 (dk_at dksX3_processLength_1 9 rfl rfl)
theorem dX3_processLength_34 : decode cX3_processLength 34 = .ok (.getfield 39, 3) := dk_180 0 39 (dk_at dksX3_processLength_1 10 rfl rfl)
theorem dX3_processLength_37 : decode cX3_processLength 37 = .ok (.bipush 14, 2) := dk_16 14 (dk_at dksX3_processLength_1 13 rfl rfl)
theorem dX3_processLength_39 : decode cX3_processLength 39 = .ok (.if_icmp .ge 26, 3) := dk_162 0 26 (dk_at dksX3_processLength_1 15 rfl rfl)
theorem dX3_processLength_42 : decode cX3_processLength 42 = .ok (.aload_n 0, 1) := dk_42 (dk_at dksX3_processLength_1 18 rfl rfl)
theorem dX3_processLength_43 : decode cX3_processLength 43 = .ok (.getfield 20, 3) := dk_180 0 20 (dk_at dksX3_processLength_1 19 rfl rfl)
theorem dX3_processLength_46 : decode cX3_processLength 46 = .ok (.aload_n 0, 1) := dk_42 (dk_at dksX3_processLength_1 22 rfl rfl)
theorem dX3_processLength_47 : decode cX3_processLength 47 = .ok (.getfield 39, 3) := dk_180 0 39 (dk_at dksX3_processLength_2 0 rfl rfl)
theorem dX3_processLength_50 : decode cX3_processLength 50 = .ok (.iconst 0, 1) := dk_3 (dk_at dksX3_processLength_2 3 rfl rfl)
theorem dX3_processLength_51 : decode cX3_processLength 51 = .ok (.iastore, 1) := dk_79 (dk_at dksX3_processLength_2 4 rfl rfl)
theorem dX3_processLength_52 : decode cX3_processLength 52 = .ok (.aload_n 0, 1) := dk_42 (dk_at dksX3_processLength_2 5 rfl rfl)
theorem dX3_processLength_53 : decode cX3_processLength 53 = .ok (.dup, 1) := dk_89 (dk_at dksX3_processLength_2 6 rfl rfl)
theorem dX3_processLength_54 : decode cX3_processLength 54 = .ok (.getfield 39, 3) := dk_180 0 39 (dk_at dksX3_processLength_2 7 rfl rfl)
theorem dX3_processLength_57 : decode cX3_processLength 57 = .ok (.iconst 1, 1) := dk_4 (dk_at dksX3_processLength_2 10 rfl rfl)
theorem dX3_processLength_58 : decode cX3_processLength 58 = .ok (.iadd, 1) := dk_96 (dk_at dksX3_processLength_2 11 rfl rfl)
theorem dX3_processLength_59 : decode cX3_processLength 59 = .ok (.putfield 39, 3) := dk_181 0 39 (dk_at dksX3_processLength_2 12 rfl rfl)
theorem dX3_processLength_62 : decode cX3_processLength 62 = .ok (.goto (-29), 3) := dk_167 255 227 (dk_at dksX3_processLength_2 15 rfl rfl)
theorem dX3_processLength_65 : decode cX3_processLength 65 = .ok (.aload_n 0, 1) := dk_42 (dk_at dksX3_processLength_2 18 rfl rfl)
theorem dX3_processLength_66 : decode cX3_processLength 66 = .ok (.getfield 20, 3) := dk_180 0 20 (dk_at dksX3_processLength_2 19 rfl rfl)
theorem dX3_processLength_69 : decode cX3_processLength 69 = .ok (.aload_n 0, 1) := dk_42 (dk_at dksX3_processLength_2 22 rfl rfl)
theorem dX3_processLength_70 : decode cX3_processLength 70 = .ok (.dup, 1) := dk_89 (dk_at dksX3_processLength_2 23 rfl rfl)
theorem dX3_processLength_71 : decode cX3_processLength 71 = .ok (.getfield 39, 3) := dk_180 0 39 (dk_at dksX3_processLength_3 0 rfl rfl)
theorem dX3_processLength_74 : decode cX3_processLength 74 = .ok (.dup_x1, 1) := dk_90 (dk_at dksX3_processLength_3 3 rfl rfl)
theorem dX3_processLength_75 : decode cX3_processLength 75 = .ok (.iconst 1, 1) := dk_4 (dk_at dksX3_processLength_3 4 rfl rfl)
theorem dX3_processLength_76 : decode cX3_processLength 76 = .ok (.iadd, 1) := dk_96 (dk_at dksX3_processLength_3 5 rfl rfl)
theorem dX3_processLength_77 : decode cX3_processLength 77 = .ok (.putfield 39, 3) := dk_181 0 39 (dk_at dksX3_processLength_3 6 rfl rfl)
theorem dX3_processLength_80 : decode cX3_processLength 80 = .ok (.lload_n 1, 1) := dk_31 (dk_at dksX3_processLength_3 9 rfl rfl)
theorem dX3_processLength_81 : decode cX3_processLength 81 = .ok (.bipush 32, 2) := dk_16 32 (dk_at dksX3_processLength_3 10 rfl rfl)
theorem dX3_processLength_83 : decode cX3_processLength 83 = .ok (.lushr, 1) := dk_125 (dk_at dksX3_processLength_3 12 rfl rfl)
theorem dX3_processLength_84 : decode cX3_processLength 84 = .ok (.l2i, 1) := dk_136 (dk_at dksX3_processLength_3 13 rfl rfl)
theorem dX3_processLength_85 : decode cX3_processLength 85 = .ok (.iastore, 1) := dk_79 (dk_at dksX3_processLength_3 14 rfl rfl)
theorem dX3_processLength_86 : decode cX3_processLength 86 = .ok (.aload_n 0, 1) := dk_42 (dk_at dksX3_processLength_3 15 rfl rfl)
theorem dX3_processLength_87 : decode cX3_processLength 87 = .ok (.getfield 20, 3) := dk_180 0 20 (dk_at dksX3_processLength_3 16 rfl rfl)
theorem dX3_processLength_90 : decode cX3_processLength 90 = .ok (.aload_n 0, 1) := dk_42 (dk_at dksX3_processLength_3 19 rfl rfl)
theorem dX3_processLength_91 : decode cX3_processLength 91 = .ok (.dup, 1) := dk_89 (dk_at dksX3_processLength_3 20 rfl rfl)
theorem dX3_processLength_92 : decode cX3_processLength 92 = .ok (.getfield 39, 3) := dk_180 0 39 (dk_at dksX3_processLength_3 21 rfl rfl)
theorem dX3_processLength_95 : decode cX3_processLength 95 = .ok (.dup_x1, 1) := dk_90 (dk_at dksX3_processLength_4 0 rfl rfl)
theorem dX3_processLength_96 : decode cX3_processLength 96 = .ok (.iconst 1, 1) := dk_4 (dk_at dksX3_processLength_4 1 rfl rfl)
theorem dX3_processLength_97 : decode cX3_processLength 97 = .ok (.iadd, 1) := dk_96 (dk_at dksX3_processLength_4 2 rfl rfl)
theorem dX3_processLength_98 : decode cX3_processLength 98 = .ok (.putfield 39, 3) := dk_181 0 39 (dk_at dksX3_processLength_4 3 rfl rfl)
theorem dX3_processLength_101 : decode cX3_processLength 101 = .ok (.lload_n 1, 1) := dk_31 (dk_at dksX3_processLength_4 6 rfl rfl)
theorem dX3_processLength_102 : decode cX3_processLength 102 = .ok (.l2i, 1) := dk_136 (dk_at dksX3_processLength_4 7 rfl rfl)
theorem dX3_processLength_103 : decode cX3_processLength 103 = .ok (.iastore, 1) := dk_79 (dk_at dksX3_processLength_4 8 rfl rfl)
theorem dX3_processLength_104 : decode cX3_processLength 104 = .ok (.return_, 1) := dk_177 (dk_at dksX3_processLength_4 9 rfl rfl)
abbrev cX3_reset : ByteArray := prog_6_method_3_code
def yX3_reset : MethodName := ⟨RX3, "reset", "()V"⟩
def dkwX3_reset_3 : List UInt8 := [181, 0, 39, 177]
abbrev dktX3_reset_3 : List UInt8 := dkwX3_reset_3 ++ []
def dkwX3_reset_2 : List UInt8 := [8, 18, 36, 79, 42, 180, 0, 16, 16, 6, 18, 37, 79, 42, 180, 0, 16, 16, 7, 18, 38, 79, 42, 3]
abbrev dktX3_reset_2 : List UInt8 := dkwX3_reset_2 ++ dktX3_reset_3
def dkwX3_reset_1 : List UInt8 := [5, 18, 33, 79, 42, 180, 0, 16, 6, 18, 34, 79, 42, 180, 0, 16, 7, 18, 35, 79, 42, 180, 0, 16]
abbrev dktX3_reset_1 : List UInt8 := dkwX3_reset_1 ++ dktX3_reset_2
def dkwX3_reset_0 : List UInt8 := [42, 183, 0, 30, 42, 180, 0, 16, 3, 18, 31, 79, 42, 180, 0, 16, 4, 18, 32, 79, 42, 180, 0, 16]
abbrev dktX3_reset_0 : List UInt8 := dkwX3_reset_0 ++ dktX3_reset_1
theorem dksX3_reset_0 : cX3_reset.data.toList.drop 0 = dktX3_reset_0 := by decide +kernel
theorem dksX3_reset_1 : cX3_reset.data.toList.drop 24 = dktX3_reset_1 := dk_seg dksX3_reset_0 24 rfl rfl
theorem dksX3_reset_2 : cX3_reset.data.toList.drop 48 = dktX3_reset_2 := dk_seg dksX3_reset_1 24 rfl rfl
theorem dksX3_reset_3 : cX3_reset.data.toList.drop 72 = dktX3_reset_3 := dk_seg dksX3_reset_2 24 rfl rfl
theorem dX3_reset_0 : decode cX3_reset 0 = .ok (.aload_n 0, 1) := dk_42 (dk_at dksX3_reset_0 0 rfl rfl)
theorem dX3_reset_1 : decode cX3_reset 1 = .ok (.invokespecial 30, 3) := dk_183 0 30 (dk_at dksX3_reset_0 1 rfl rfl)
theorem dX3_reset_4 : decode cX3_reset 4 = .ok (.aload_n 0, 1) := dk_42 (dk_at dksX3_reset_0 4 rfl rfl)
theorem dX3_reset_5 : decode cX3_reset 5 = .ok (.getfield 16, 3) := dk_180 0 16 (dk_at dksX3_reset_0 5 rfl rfl)
theorem dX3_reset_8 : decode cX3_reset 8 = .ok (.iconst 0, 1) := dk_3 (dk_at dksX3_reset_0 8 rfl rfl)
theorem dX3_reset_9 : decode cX3_reset 9 = .ok (.ldc 31, 2) := dk_18 31 (dk_at dksX3_reset_0 9 rfl rfl)
theorem dX3_reset_11 : decode cX3_reset 11 = .ok (.iastore, 1) := dk_79 (dk_at dksX3_reset_0 11 rfl rfl)
theorem dX3_reset_12 : decode cX3_reset 12 = .ok (.aload_n 0, 1) := dk_42 (dk_at dksX3_reset_0 12 rfl rfl)
theorem dX3_reset_13 : decode cX3_reset 13 = .ok (.getfield 16, 3) := dk_180 0 16 (dk_at dksX3_reset_0 13 rfl rfl)
theorem dX3_reset_16 : decode cX3_reset 16 = .ok (.iconst 1, 1) := dk_4 (dk_at dksX3_reset_0 16 rfl rfl)
theorem dX3_reset_17 : decode cX3_reset 17 = .ok (.ldc 32, 2) := dk_18 32 (dk_at dksX3_reset_0 17 rfl rfl)
theorem dX3_reset_19 : decode cX3_reset 19 = .ok (.iastore, 1) := dk_79 (dk_at dksX3_reset_0 19 rfl rfl)
theorem dX3_reset_20 : decode cX3_reset 20 = .ok (.aload_n 0, 1) := dk_42 (dk_at dksX3_reset_0 20 rfl rfl)
theorem dX3_reset_21 : decode cX3_reset 21 = .ok (.getfield 16, 3) := dk_180 0 16 (dk_at dksX3_reset_0 21 rfl rfl)
theorem dX3_reset_24 : decode cX3_reset 24 = .ok (.iconst 2, 1) := dk_5 (dk_at dksX3_reset_1 0 rfl rfl)
theorem dX3_reset_25 : decode cX3_reset 25 = .ok (.ldc 33, 2) := dk_18 33 (dk_at dksX3_reset_1 1 rfl rfl)
theorem dX3_reset_27 : decode cX3_reset 27 = .ok (.iastore, 1) := dk_79 (dk_at dksX3_reset_1 3 rfl rfl)
theorem dX3_reset_28 : decode cX3_reset 28 = .ok (.aload_n 0, 1) := dk_42 (dk_at dksX3_reset_1 4 rfl rfl)
theorem dX3_reset_29 : decode cX3_reset 29 = .ok (.getfield 16, 3) := dk_180 0 16 (dk_at dksX3_reset_1 5 rfl rfl)
theorem dX3_reset_32 : decode cX3_reset 32 = .ok (.iconst 3, 1) := dk_6 (dk_at dksX3_reset_1 8 rfl rfl)
theorem dX3_reset_33 : decode cX3_reset 33 = .ok (.ldc 34, 2) := dk_18 34 (dk_at dksX3_reset_1 9 rfl rfl)
theorem dX3_reset_35 : decode cX3_reset 35 = .ok (.iastore, 1) := dk_79 (dk_at dksX3_reset_1 11 rfl rfl)
theorem dX3_reset_36 : decode cX3_reset 36 = .ok (.aload_n 0, 1) := dk_42 (dk_at dksX3_reset_1 12 rfl rfl)
theorem dX3_reset_37 : decode cX3_reset 37 = .ok (.getfield 16, 3) := dk_180 0 16 (dk_at dksX3_reset_1 13 rfl rfl)
theorem dX3_reset_40 : decode cX3_reset 40 = .ok (.iconst 4, 1) := dk_7 (dk_at dksX3_reset_1 16 rfl rfl)
theorem dX3_reset_41 : decode cX3_reset 41 = .ok (.ldc 35, 2) := dk_18 35 (dk_at dksX3_reset_1 17 rfl rfl)
theorem dX3_reset_43 : decode cX3_reset 43 = .ok (.iastore, 1) := dk_79 (dk_at dksX3_reset_1 19 rfl rfl)
theorem dX3_reset_44 : decode cX3_reset 44 = .ok (.aload_n 0, 1) := dk_42 (dk_at dksX3_reset_1 20 rfl rfl)
theorem dX3_reset_45 : decode cX3_reset 45 = .ok (.getfield 16, 3) := dk_180 0 16 (dk_at dksX3_reset_1 21 rfl rfl)
theorem dX3_reset_48 : decode cX3_reset 48 = .ok (.iconst 5, 1) := dk_8 (dk_at dksX3_reset_2 0 rfl rfl)
theorem dX3_reset_49 : decode cX3_reset 49 = .ok (.ldc 36, 2) := dk_18 36 (dk_at dksX3_reset_2 1 rfl rfl)
theorem dX3_reset_51 : decode cX3_reset 51 = .ok (.iastore, 1) := dk_79 (dk_at dksX3_reset_2 3 rfl rfl)
theorem dX3_reset_52 : decode cX3_reset 52 = .ok (.aload_n 0, 1) := dk_42 (dk_at dksX3_reset_2 4 rfl rfl)
theorem dX3_reset_53 : decode cX3_reset 53 = .ok (.getfield 16, 3) := dk_180 0 16 (dk_at dksX3_reset_2 5 rfl rfl)
theorem dX3_reset_56 : decode cX3_reset 56 = .ok (.bipush 6, 2) := dk_16 6 (dk_at dksX3_reset_2 8 rfl rfl)
theorem dX3_reset_58 : decode cX3_reset 58 = .ok (.ldc 37, 2) := dk_18 37 (dk_at dksX3_reset_2 10 rfl rfl)
theorem dX3_reset_60 : decode cX3_reset 60 = .ok (.iastore, 1) := dk_79 (dk_at dksX3_reset_2 12 rfl rfl)
theorem dX3_reset_61 : decode cX3_reset 61 = .ok (.aload_n 0, 1) := dk_42 (dk_at dksX3_reset_2 13 rfl rfl)
theorem dX3_reset_62 : decode cX3_reset 62 = .ok (.getfield 16, 3) := dk_180 0 16 (dk_at dksX3_reset_2 14 rfl rfl)
theorem dX3_reset_65 : decode cX3_reset 65 = .ok (.bipush 7, 2) := dk_16 7 (dk_at dksX3_reset_2 17 rfl rfl)
theorem dX3_reset_67 : decode cX3_reset 67 = .ok (.ldc 38, 2) := dk_18 38 (dk_at dksX3_reset_2 19 rfl rfl)
theorem dX3_reset_69 : decode cX3_reset 69 = .ok (.iastore, 1) := dk_79 (dk_at dksX3_reset_2 21 rfl rfl)
theorem dX3_reset_70 : decode cX3_reset 70 = .ok (.aload_n 0, 1) := dk_42 (dk_at dksX3_reset_2 22 rfl rfl)
theorem dX3_reset_71 : decode cX3_reset 71 = .ok (.iconst 0, 1) := dk_3 (dk_at dksX3_reset_2 23 rfl rfl)
theorem dX3_reset_72 : decode cX3_reset 72 = .ok (.putfield 39, 3) := dk_181 0 39 (dk_at dksX3_reset_3 0 rfl rfl)
theorem dX3_reset_75 : decode cX3_reset 75 = .ok (.return_, 1) := dk_177 (dk_at dksX3_reset_3 3 rfl rfl)
abbrev cX3_init : ByteArray := prog_6_method_1_code
def yX3_init : MethodName := ⟨RX3, "<init>", "()V"⟩
def dkwX3_init_0 : List UInt8 := [42, 178, 0, 1, 183, 0, 7, 177]
abbrev dktX3_init_0 : List UInt8 := dkwX3_init_0 ++ []
theorem dksX3_init_0 : cX3_init.data.toList.drop 0 = dktX3_init_0 := by decide +kernel
theorem dX3_init_0 : decode cX3_init 0 = .ok (.aload_n 0, 1) := dk_42 (dk_at dksX3_init_0 0 rfl rfl)
theorem dX3_init_1 : decode cX3_init 1 = .ok (.getstatic 1, 3) := dk_178 0 1 (dk_at dksX3_init_0 1 rfl rfl)
theorem dX3_init_4 : decode cX3_init 4 = .ok (.invokespecial 7, 3) := dk_183 0 7 (dk_at dksX3_init_0 4 rfl rfl)
theorem dX3_init_7 : decode cX3_init 7 = .ok (.return_, 1) := dk_177 (dk_at dksX3_init_0 7 rfl rfl)
abbrev cX3_init_2 : ByteArray := prog_6_method_2_code
def yX3_init_2 : MethodName := ⟨RX3, "<init>", "(LCryptoServicePurpose;)V"⟩
def dkwX3_init_2_1 : List UInt8 := [188, 10, 181, 0, 23, 42, 182, 0, 26, 177]
abbrev dktX3_init_2_1 : List UInt8 := dkwX3_init_2_1 ++ []
def dkwX3_init_2_0 : List UInt8 := [42, 43, 183, 0, 13, 42, 16, 8, 188, 10, 181, 0, 16, 42, 16, 16, 188, 10, 181, 0, 20, 42, 16, 68]
abbrev dktX3_init_2_0 : List UInt8 := dkwX3_init_2_0 ++ dktX3_init_2_1
theorem dksX3_init_2_0 : cX3_init_2.data.toList.drop 0 = dktX3_init_2_0 := by decide +kernel
theorem dksX3_init_2_1 : cX3_init_2.data.toList.drop 24 = dktX3_init_2_1 := dk_seg dksX3_init_2_0 24 rfl rfl
theorem dX3_init_2_0 : decode cX3_init_2 0 = .ok (.aload_n 0, 1) := dk_42 (dk_at dksX3_init_2_0 0 rfl rfl)
theorem dX3_init_2_1 : decode cX3_init_2 1 = .ok (.aload_n 1, 1) := dk_43 (dk_at dksX3_init_2_0 1 rfl rfl)
theorem dX3_init_2_2 : decode cX3_init_2 2 = .ok (.invokespecial 13, 3) := dk_183 0 13 (dk_at dksX3_init_2_0 2 rfl rfl)
theorem dX3_init_2_5 : decode cX3_init_2 5 = .ok (.aload_n 0, 1) := dk_42 (dk_at dksX3_init_2_0 5 rfl rfl)
theorem dX3_init_2_6 : decode cX3_init_2 6 = .ok (.bipush 8, 2) := dk_16 8 (dk_at dksX3_init_2_0 6 rfl rfl)
theorem dX3_init_2_8 : decode cX3_init_2 8 = .ok (.newarray .int, 2) := dk_188_10 (dk_at dksX3_init_2_0 8 rfl rfl)
theorem dX3_init_2_10 : decode cX3_init_2 10 = .ok (.putfield 16, 3) := dk_181 0 16 (dk_at dksX3_init_2_0 10 rfl rfl)
theorem dX3_init_2_13 : decode cX3_init_2 13 = .ok (.aload_n 0, 1) := dk_42 (dk_at dksX3_init_2_0 13 rfl rfl)
theorem dX3_init_2_14 : decode cX3_init_2 14 = .ok (.bipush 16, 2) := dk_16 16 (dk_at dksX3_init_2_0 14 rfl rfl)
theorem dX3_init_2_16 : decode cX3_init_2 16 = .ok (.newarray .int, 2) := dk_188_10 (dk_at dksX3_init_2_0 16 rfl rfl)
theorem dX3_init_2_18 : decode cX3_init_2 18 = .ok (.putfield 20, 3) := dk_181 0 20 (dk_at dksX3_init_2_0 18 rfl rfl)
theorem dX3_init_2_21 : decode cX3_init_2 21 = .ok (.aload_n 0, 1) := dk_42 (dk_at dksX3_init_2_0 21 rfl rfl)
theorem dX3_init_2_22 : decode cX3_init_2 22 = .ok (.bipush 68, 2) := dk_16 68 (dk_at dksX3_init_2_0 22 rfl rfl)
theorem dX3_init_2_24 : decode cX3_init_2 24 = .ok (.newarray .int, 2) := dk_188_10 (dk_at dksX3_init_2_1 0 rfl rfl)
theorem dX3_init_2_26 : decode cX3_init_2 26 = .ok (.putfield 23, 3) := dk_181 0 23 (dk_at dksX3_init_2_1 2 rfl rfl)
theorem dX3_init_2_29 : decode cX3_init_2 29 = .ok (.aload_n 0, 1) := dk_42 (dk_at dksX3_init_2_1 5 rfl rfl)
theorem dX3_init_2_30 : decode cX3_init_2 30 = .ok (.invokevirtual 26, 3) := dk_182 0 26 (dk_at dksX3_init_2_1 6 rfl rfl)
theorem dX3_init_2_33 : decode cX3_init_2 33 = .ok (.return_, 1) := dk_177 (dk_at dksX3_init_2_1 9 rfl rfl)
theorem q12 : (Jvm.Cond.initialized "SM3Digest") ∈ lw_all := lw_g (lw_at lw_m1 3 rfl) rfl
theorem q35 : (Jvm.Cond.castable "SM3Digest" "Digest") ∈ lw_tbl := lw_at lw_m1 26 rfl
theorem q36 : (Jvm.Cond.selects "SM3Digest" ({ cls := "Digest", name := "update", desc := "([BII)V" } : Jvm.MethodName) ({ cls := "GeneralDigest", name := "update", desc := "([BII)V" } : Jvm.MethodName)) ∈ lw_all := lw_g (lw_at lw_m1 27 rfl) rfl
theorem q37 : (Jvm.Cond.unhidden "SM3Digest" "update" "([BII)V") ∈ lw_tbl := lw_at lw_m1 28 rfl
theorem q47 : (Jvm.Cond.selects "SM3Digest" ({ cls := "GeneralDigest", name := "processWord", desc := "([BI)V" } : Jvm.MethodName) ({ cls := "SM3Digest", name := "processWord", desc := "([BI)V" } : Jvm.MethodName)) ∈ lw_all := lw_g (lw_at lw_m1 38 rfl) rfl
theorem q48 : (Jvm.Cond.instanceMethod ({ cls := "SM3Digest", name := "processWord", desc := "([BI)V" } : Jvm.MethodName)) ∈ lw_all := lw_g (lw_at lw_m1 39 rfl) rfl
theorem q49 : (Jvm.Cond.code ({ cls := "SM3Digest", name := "processWord", desc := "([BI)V" } : Jvm.MethodName) prog_6_method_5_code (3 : Nat) (Option.none : Option Jvm.ClassFile.FieldType)) ∈ lw_all := lw_g (lw_at lw_m1 40 rfl) rfl
theorem q50 : (Jvm.Cond.methodLink "SM3Digest" (52 : Nat) ({ cls := "Pack", name := "bigEndianToInt", desc := "([BI)I" } : Jvm.MethodName)) ∈ lw_all := lw_g (lw_at lw_m1 41 rfl) rfl
theorem q53 : (Jvm.Cond.methodLink "SM3Digest" (56 : Nat) ({ cls := "SM3Digest", name := "processBlock", desc := "()V" } : Jvm.MethodName)) ∈ lw_all := lw_g (lw_at lw_m1 44 rfl) rfl
theorem q54 : (Jvm.Cond.instanceMethod ({ cls := "SM3Digest", name := "processBlock", desc := "()V" } : Jvm.MethodName)) ∈ lw_all := lw_g (lw_at lw_m1 45 rfl) rfl
theorem q55 : (Jvm.Cond.selects "SM3Digest" ({ cls := "SM3Digest", name := "processBlock", desc := "()V" } : Jvm.MethodName) ({ cls := "SM3Digest", name := "processBlock", desc := "()V" } : Jvm.MethodName)) ∈ lw_all := lw_g (lw_at lw_m1 46 rfl) rfl
theorem q56 : (Jvm.Cond.code ({ cls := "SM3Digest", name := "processBlock", desc := "()V" } : Jvm.MethodName) prog_6_method_13_code (18 : Nat) (Option.none : Option Jvm.ClassFile.FieldType)) ∈ lw_all := lw_g (lw_at lw_m1 47 rfl) rfl
theorem q57 : (Jvm.Cond.methodLink "SM3Digest" (59 : Nat) ({ cls := "SM3Digest", name := "P1", desc := "(I)I" } : Jvm.MethodName)) ∈ lw_all := lw_g (lw_at lw_m1 48 rfl) rfl
theorem q58 : (Jvm.Cond.privateMethod ({ cls := "SM3Digest", name := "P1", desc := "(I)I" } : Jvm.MethodName)) ∈ lw_tbl := lw_at lw_m1 49 rfl
theorem q59 : (Jvm.Cond.instanceMethod ({ cls := "SM3Digest", name := "P1", desc := "(I)I" } : Jvm.MethodName)) ∈ lw_all := lw_g (lw_at lw_m1 50 rfl) rfl
theorem q60 : (Jvm.Cond.instantiable "SM3Digest" (8 : Nat)) ∈ lw_all := lw_g (lw_at lw_m1 51 rfl) rfl
theorem q61 : (Jvm.Cond.code ({ cls := "SM3Digest", name := "P1", desc := "(I)I" } : Jvm.MethodName) prog_6_method_8_code (4 : Nat) (Option.some Jvm.ClassFile.FieldType.int)) ∈ lw_all := lw_g (lw_at lw_m1 52 rfl) rfl
theorem q62 : (Jvm.Cond.fieldLink "SM3Digest" (63 : Nat) "SM3Digest" "T" "[I") ∈ lw_all := lw_g (lw_at lw_m1 53 rfl) rfl
theorem q63 : (Jvm.Cond.laysStatic "SM3Digest" "T" "[I") ∈ lw_tbl := lw_at lw_m1 54 rfl
theorem q64 : (Jvm.Cond.methodLink "SM3Digest" (66 : Nat) ({ cls := "SM3Digest", name := "FF0", desc := "(III)I" } : Jvm.MethodName)) ∈ lw_all := lw_g (lw_at lw_m1 55 rfl) rfl
theorem q65 : (Jvm.Cond.privateMethod ({ cls := "SM3Digest", name := "FF0", desc := "(III)I" } : Jvm.MethodName)) ∈ lw_tbl := lw_at lw_m1 56 rfl
theorem q66 : (Jvm.Cond.instanceMethod ({ cls := "SM3Digest", name := "FF0", desc := "(III)I" } : Jvm.MethodName)) ∈ lw_all := lw_g (lw_at lw_m1 57 rfl) rfl
theorem q67 : (Jvm.Cond.code ({ cls := "SM3Digest", name := "FF0", desc := "(III)I" } : Jvm.MethodName) prog_6_method_9_code (4 : Nat) (Option.some Jvm.ClassFile.FieldType.int)) ∈ lw_all := lw_g (lw_at lw_m1 58 rfl) rfl
theorem q68 : (Jvm.Cond.methodLink "SM3Digest" (70 : Nat) ({ cls := "SM3Digest", name := "GG0", desc := "(III)I" } : Jvm.MethodName)) ∈ lw_all := lw_g (lw_at lw_m1 59 rfl) rfl
theorem q69 : (Jvm.Cond.privateMethod ({ cls := "SM3Digest", name := "GG0", desc := "(III)I" } : Jvm.MethodName)) ∈ lw_tbl := lw_at lw_m1 60 rfl
theorem q70 : (Jvm.Cond.instanceMethod ({ cls := "SM3Digest", name := "GG0", desc := "(III)I" } : Jvm.MethodName)) ∈ lw_all := lw_g (lw_at lw_m1 61 rfl) rfl
theorem q71 : (Jvm.Cond.code ({ cls := "SM3Digest", name := "GG0", desc := "(III)I" } : Jvm.MethodName) prog_6_method_11_code (4 : Nat) (Option.some Jvm.ClassFile.FieldType.int)) ∈ lw_all := lw_g (lw_at lw_m1 62 rfl) rfl
theorem q72 : (Jvm.Cond.methodLink "SM3Digest" (73 : Nat) ({ cls := "SM3Digest", name := "P0", desc := "(I)I" } : Jvm.MethodName)) ∈ lw_all := lw_g (lw_at lw_m1 63 rfl) rfl
theorem q73 : (Jvm.Cond.privateMethod ({ cls := "SM3Digest", name := "P0", desc := "(I)I" } : Jvm.MethodName)) ∈ lw_tbl := lw_at lw_m1 64 rfl
theorem q74 : (Jvm.Cond.instanceMethod ({ cls := "SM3Digest", name := "P0", desc := "(I)I" } : Jvm.MethodName)) ∈ lw_all := lw_g (lw_at lw_m1 65 rfl) rfl
theorem q75 : (Jvm.Cond.code ({ cls := "SM3Digest", name := "P0", desc := "(I)I" } : Jvm.MethodName) prog_6_method_7_code (4 : Nat) (Option.some Jvm.ClassFile.FieldType.int)) ∈ lw_all := lw_g (lw_at lw_m1 66 rfl) rfl
theorem q76 : (Jvm.Cond.methodLink "SM3Digest" (76 : Nat) ({ cls := "SM3Digest", name := "FF1", desc := "(III)I" } : Jvm.MethodName)) ∈ lw_all := lw_g (lw_at lw_m1 67 rfl) rfl
theorem q77 : (Jvm.Cond.privateMethod ({ cls := "SM3Digest", name := "FF1", desc := "(III)I" } : Jvm.MethodName)) ∈ lw_tbl := lw_at lw_m1 68 rfl
theorem q78 : (Jvm.Cond.instanceMethod ({ cls := "SM3Digest", name := "FF1", desc := "(III)I" } : Jvm.MethodName)) ∈ lw_all := lw_g (lw_at lw_m1 69 rfl) rfl
theorem q79 : (Jvm.Cond.code ({ cls := "SM3Digest", name := "FF1", desc := "(III)I" } : Jvm.MethodName) prog_6_method_10_code (4 : Nat) (Option.some Jvm.ClassFile.FieldType.int)) ∈ lw_all := lw_g (lw_at lw_m1 70 rfl) rfl
theorem q80 : (Jvm.Cond.methodLink "SM3Digest" (79 : Nat) ({ cls := "SM3Digest", name := "GG1", desc := "(III)I" } : Jvm.MethodName)) ∈ lw_all := lw_g (lw_at lw_m1 71 rfl) rfl
theorem q81 : (Jvm.Cond.privateMethod ({ cls := "SM3Digest", name := "GG1", desc := "(III)I" } : Jvm.MethodName)) ∈ lw_tbl := lw_at lw_m1 72 rfl
theorem q82 : (Jvm.Cond.instanceMethod ({ cls := "SM3Digest", name := "GG1", desc := "(III)I" } : Jvm.MethodName)) ∈ lw_all := lw_g (lw_at lw_m1 73 rfl) rfl
theorem q83 : (Jvm.Cond.code ({ cls := "SM3Digest", name := "GG1", desc := "(III)I" } : Jvm.MethodName) prog_6_method_12_code (4 : Nat) (Option.some Jvm.ClassFile.FieldType.int)) ∈ lw_all := lw_g (lw_at lw_m1 74 rfl) rfl
theorem q92 : (Jvm.Cond.selects "SM3Digest" ({ cls := "Digest", name := "update", desc := "(B)V" } : Jvm.MethodName) ({ cls := "GeneralDigest", name := "update", desc := "(B)V" } : Jvm.MethodName)) ∈ lw_all := lw_g (lw_at lw_m1 83 rfl) rfl
theorem q93 : (Jvm.Cond.unhidden "SM3Digest" "update" "(B)V") ∈ lw_tbl := lw_at lw_m1 84 rfl
theorem q105 : (Jvm.Cond.selects "SM3Digest" ({ cls := "Digest", name := "doFinal", desc := "([BI)I" } : Jvm.MethodName) ({ cls := "SM3Digest", name := "doFinal", desc := "([BI)I" } : Jvm.MethodName)) ∈ lw_all := lw_g (lw_at lw_m1 96 rfl) rfl
theorem q106 : (Jvm.Cond.unhidden "SM3Digest" "doFinal" "([BI)I") ∈ lw_tbl := lw_at lw_m1 97 rfl
theorem q107 : (Jvm.Cond.instanceMethod ({ cls := "SM3Digest", name := "doFinal", desc := "([BI)I" } : Jvm.MethodName)) ∈ lw_all := lw_g (lw_at lw_m1 98 rfl) rfl
theorem q108 : (Jvm.Cond.publicMethod ({ cls := "SM3Digest", name := "doFinal", desc := "([BI)I" } : Jvm.MethodName)) ∈ lw_tbl := lw_at lw_m1 99 rfl
theorem q109 : (Jvm.Cond.code ({ cls := "SM3Digest", name := "doFinal", desc := "([BI)I" } : Jvm.MethodName) prog_6_method_4_code (3 : Nat) (Option.some Jvm.ClassFile.FieldType.int)) ∈ lw_all := lw_g (lw_at lw_m1 100 rfl) rfl
theorem q110 : (Jvm.Cond.methodLink "SM3Digest" (43 : Nat) ({ cls := "SM3Digest", name := "finish", desc := "()V" } : Jvm.MethodName)) ∈ lw_all := lw_g (lw_at lw_m1 101 rfl) rfl
theorem q111 : (Jvm.Cond.sameMethod "SM3Digest" "GeneralDigest" "finish" "()V") ∈ lw_all := lw_g (lw_at lw_m1 102 rfl) rfl
theorem q113 : (Jvm.Cond.selects "SM3Digest" ({ cls := "SM3Digest", name := "finish", desc := "()V" } : Jvm.MethodName) ({ cls := "GeneralDigest", name := "finish", desc := "()V" } : Jvm.MethodName)) ∈ lw_all := lw_g (lw_at lw_m1 104 rfl) rfl
theorem q120 : (Jvm.Cond.selects "SM3Digest" ({ cls := "GeneralDigest", name := "processLength", desc := "(J)V" } : Jvm.MethodName) ({ cls := "SM3Digest", name := "processLength", desc := "(J)V" } : Jvm.MethodName)) ∈ lw_all := lw_g (lw_at lw_m1 111 rfl) rfl
theorem q121 : (Jvm.Cond.instanceMethod ({ cls := "SM3Digest", name := "processLength", desc := "(J)V" } : Jvm.MethodName)) ∈ lw_all := lw_g (lw_at lw_m1 112 rfl) rfl
theorem q122 : (Jvm.Cond.code ({ cls := "SM3Digest", name := "processLength", desc := "(J)V" } : Jvm.MethodName) prog_6_method_6_code (3 : Nat) (Option.none : Option Jvm.ClassFile.FieldType)) ∈ lw_all := lw_g (lw_at lw_m1 113 rfl) rfl
theorem q126 : (Jvm.Cond.selects "SM3Digest" ({ cls := "GeneralDigest", name := "processBlock", desc := "()V" } : Jvm.MethodName) ({ cls := "SM3Digest", name := "processBlock", desc := "()V" } : Jvm.MethodName)) ∈ lw_all := lw_g (lw_at lw_m1 117 rfl) rfl
theorem q127 : (Jvm.Cond.methodLink "SM3Digest" (46 : Nat) ({ cls := "Pack", name := "intToBigEndian", desc := "([I[BI)V" } : Jvm.MethodName)) ∈ lw_all := lw_g (lw_at lw_m1 118 rfl) rfl
theorem q133 : (Jvm.Cond.methodLink "SM3Digest" (26 : Nat) ({ cls := "SM3Digest", name := "reset", desc := "()V" } : Jvm.MethodName)) ∈ lw_all := lw_g (lw_at lw_m1 124 rfl) rfl
theorem q134 : (Jvm.Cond.instanceMethod ({ cls := "SM3Digest", name := "reset", desc := "()V" } : Jvm.MethodName)) ∈ lw_all := lw_g (lw_at lw_m1 125 rfl) rfl
theorem q135 : (Jvm.Cond.selects "SM3Digest" ({ cls := "SM3Digest", name := "reset", desc := "()V" } : Jvm.MethodName) ({ cls := "SM3Digest", name := "reset", desc := "()V" } : Jvm.MethodName)) ∈ lw_all := lw_g (lw_at lw_m1 126 rfl) rfl
theorem q136 : (Jvm.Cond.code ({ cls := "SM3Digest", name := "reset", desc := "()V" } : Jvm.MethodName) prog_6_method_3_code (1 : Nat) (Option.none : Option Jvm.ClassFile.FieldType)) ∈ lw_all := lw_g (lw_at lw_m1 127 rfl) rfl
theorem q137 : (Jvm.Cond.methodLink "SM3Digest" (30 : Nat) ({ cls := "GeneralDigest", name := "reset", desc := "()V" } : Jvm.MethodName)) ∈ lw_all := lw_g (lw_at lw_m1 128 rfl) rfl
theorem q138 : (Jvm.Cond.superclass "SM3Digest" "GeneralDigest") ∈ lw_all := lw_g (lw_at lw_m1 129 rfl) rfl
theorem q141 : (Jvm.Cond.constant "SM3Digest" (31 : Nat) (1937774191 : Int32)) ∈ lw_all := lw_g (lw_at lw_m1 132 rfl) rfl
theorem q142 : (Jvm.Cond.constant "SM3Digest" (32 : Nat) (1226093241 : Int32)) ∈ lw_all := lw_g (lw_at lw_m1 133 rfl) rfl
theorem q143 : (Jvm.Cond.constant "SM3Digest" (33 : Nat) (388252375 : Int32)) ∈ lw_all := lw_g (lw_at lw_m1 134 rfl) rfl
theorem q144 : (Jvm.Cond.constant "SM3Digest" (34 : Nat) (-628488704 : Int32)) ∈ lw_all := lw_g (lw_at lw_m1 135 rfl) rfl
theorem q145 : (Jvm.Cond.constant "SM3Digest" (35 : Nat) (-1452330820 : Int32)) ∈ lw_all := lw_g (lw_at lw_m1 136 rfl) rfl
theorem q146 : (Jvm.Cond.constant "SM3Digest" (36 : Nat) (372324522 : Int32)) ∈ lw_all := lw_g (lw_at lw_m1 137 rfl) rfl
theorem q147 : (Jvm.Cond.constant "SM3Digest" (37 : Nat) (-477237683 : Int32)) ∈ lw_all := lw_g (lw_at lw_m1 138 rfl) rfl
theorem q148 : (Jvm.Cond.constant "SM3Digest" (38 : Nat) (-1325724082 : Int32)) ∈ lw_all := lw_g (lw_at lw_m1 139 rfl) rfl
theorem q157 : (Jvm.Cond.selects "SM3Digest" ({ cls := "Digest", name := "reset", desc := "()V" } : Jvm.MethodName) ({ cls := "SM3Digest", name := "reset", desc := "()V" } : Jvm.MethodName)) ∈ lw_all := lw_g (lw_at lw_m1 148 rfl) rfl
theorem q158 : (Jvm.Cond.unhidden "SM3Digest" "reset" "()V") ∈ lw_tbl := lw_at lw_m1 149 rfl
theorem q159 : (Jvm.Cond.publicMethod ({ cls := "SM3Digest", name := "reset", desc := "()V" } : Jvm.MethodName)) ∈ lw_tbl := lw_at lw_m1 150 rfl
theorem q175 : (Jvm.Cond.instanceMethod ({ cls := "SM3Digest", name := "<init>", desc := "()V" } : Jvm.MethodName)) ∈ lw_all := lw_g (lw_at lw_m1 166 rfl) rfl
theorem q176 : (Jvm.Cond.code ({ cls := "SM3Digest", name := "<init>", desc := "()V" } : Jvm.MethodName) prog_6_method_1_code (1 : Nat) (Option.none : Option Jvm.ClassFile.FieldType)) ∈ lw_all := lw_g (lw_at lw_m1 167 rfl) rfl
theorem q177 : (Jvm.Cond.fieldLink "SM3Digest" (1 : Nat) "CryptoServicePurpose" "ANY" "LCryptoServicePurpose;") ∈ lw_all := lw_g (lw_at lw_m1 168 rfl) rfl
theorem q179 : (Jvm.Cond.methodLink "SM3Digest" (7 : Nat) ({ cls := "SM3Digest", name := "<init>", desc := "(LCryptoServicePurpose;)V" } : Jvm.MethodName)) ∈ lw_all := lw_g (lw_at lw_m1 170 rfl) rfl
theorem q180 : (Jvm.Cond.instanceMethod ({ cls := "SM3Digest", name := "<init>", desc := "(LCryptoServicePurpose;)V" } : Jvm.MethodName)) ∈ lw_all := lw_g (lw_at lw_m1 171 rfl) rfl
theorem q181 : (Jvm.Cond.code ({ cls := "SM3Digest", name := "<init>", desc := "(LCryptoServicePurpose;)V" } : Jvm.MethodName) prog_6_method_2_code (2 : Nat) (Option.none : Option Jvm.ClassFile.FieldType)) ∈ lw_all := lw_g (lw_at lw_m1 172 rfl) rfl
theorem q182 : (Jvm.Cond.methodLink "SM3Digest" (13 : Nat) ({ cls := "GeneralDigest", name := "<init>", desc := "(LCryptoServicePurpose;)V" } : Jvm.MethodName)) ∈ lw_all := lw_g (lw_at lw_m1 173 rfl) rfl
theorem q186 : (Jvm.Cond.fieldLink "SM3Digest" (16 : Nat) "SM3Digest" "V" "[I") ∈ lw_all := lw_g (lw_at lw_m1 177 rfl) rfl
theorem q187 : (Jvm.Cond.fieldLink "SM3Digest" (20 : Nat) "SM3Digest" "inwords" "[I") ∈ lw_all := lw_g (lw_at lw_m1 178 rfl) rfl
theorem q188 : (Jvm.Cond.fieldLink "SM3Digest" (39 : Nat) "SM3Digest" "xOff" "I") ∈ lw_all := lw_g (lw_at lw_m1 179 rfl) rfl
theorem q189 : (Jvm.Cond.fieldLink "SM3Digest" (23 : Nat) "SM3Digest" "W" "[I") ∈ lw_all := lw_g (lw_at lw_m1 180 rfl) rfl
theorem q194 : (Jvm.Cond.lays "SM3Digest" "SM3Digest" "V" "[I") ∈ lw_all := lw_g (lw_at lw_m1 185 rfl) rfl
theorem q195 : (Jvm.Cond.soleField "SM3Digest" "V") ∈ lw_all := lw_g (lw_at lw_m1 186 rfl) rfl
theorem q196 : (Jvm.Cond.lays "SM3Digest" "SM3Digest" "inwords" "[I") ∈ lw_all := lw_g (lw_at lw_m1 187 rfl) rfl
theorem q197 : (Jvm.Cond.soleField "SM3Digest" "inwords") ∈ lw_all := lw_g (lw_at lw_m1 188 rfl) rfl
theorem q198 : (Jvm.Cond.lays "SM3Digest" "SM3Digest" "xOff" "I") ∈ lw_all := lw_g (lw_at lw_m1 189 rfl) rfl
theorem q199 : (Jvm.Cond.soleField "SM3Digest" "xOff") ∈ lw_all := lw_g (lw_at lw_m1 190 rfl) rfl
theorem q200 : (Jvm.Cond.lays "SM3Digest" "SM3Digest" "W" "[I") ∈ lw_all := lw_g (lw_at lw_m1 191 rfl) rfl
theorem q201 : (Jvm.Cond.soleField "SM3Digest" "W") ∈ lw_all := lw_g (lw_at lw_m1 192 rfl) rfl
theorem q202 : (Jvm.Cond.laysFinal "SM3Digest" "GeneralDigest" "purpose" "LCryptoServicePurpose;") ∈ lw_all := lw_g (lw_at lw_m1 193 rfl) rfl
theorem q204 : (Jvm.Cond.laysFinal "SM3Digest" "GeneralDigest" "xBuf" "[B") ∈ lw_all := lw_g (lw_at lw_m1 195 rfl) rfl
theorem q206 : (Jvm.Cond.lays "SM3Digest" "GeneralDigest" "xBufOff" "I") ∈ lw_all := lw_g (lw_at lw_m1 197 rfl) rfl
theorem q208 : (Jvm.Cond.lays "SM3Digest" "GeneralDigest" "byteCount" "J") ∈ lw_all := lw_g (lw_at lw_m1 199 rfl) rfl
theorem q257 : (Jvm.Cond.selects "SM3Digest" ({ cls := "GeneralDigest", name := "update", desc := "(B)V" } : Jvm.MethodName) ({ cls := "GeneralDigest", name := "update", desc := "(B)V" } : Jvm.MethodName)) ∈ lw_all := lw_g (lw_at lw_m2 8 rfl) rfl
theorem in_X3 : ∀ w ∈ wsX30, w ∈ lw_all := lw_in wsX30 [202, 204, 206, 208, 194, 196, 198, 200] (by decide +kernel) (by decide +kernel)
end
section
/-! SmDigestDesk -/
set_option maxRecDepth 100000
def RX1 : String := "SmDigestDesk"
def TX1 : u_T := fun k => match k with
  | 0 => ("SmDigestDesk", "run", "LDigest;", false)
  | 1 => ("SmDigestDesk", "out", "[B", true)
  | 2 => ("SmDigestDesk", "fed", "I", false)
  | 3 => ("SmDigestDesk", "text", "[B", true)
  | _ => ("SmDigestDesk", "size", "I", false)
def tyX1 : Nat → FieldType := fun k => match k with
  | 0 => .object "Digest"
  | 1 => .array .byte
  | 2 => .int
  | 3 => .array .byte
  | _ => .int
abbrev wsX10 : List Cond := u_ws RX1 TX1 5
theorem nmX1 : ∀ a, a < 5 → ∀ b, b < 5 → a ≠ b → (TX1 a).2.1 ≠ (TX1 b).2.1 := by decide +kernel
theorem tyX1_ok : ∀ k, k < 5 → parseFieldDescriptor (TX1 k).2.2.1 = some (tyX1 k) := by decide +kernel
abbrev cX1_feed : ByteArray := prog_7_method_8_code
def yX1_feed : MethodName := ⟨RX1, "feed", "(II)Z"⟩
def dkwX1_feed_2 : List UInt8 := [29, 21, 4, 185, 0, 43, 4, 0, 4, 172]
abbrev dktX1_feed_2 : List UInt8 := dkwX1_feed_2 ++ []
def dkwX1_feed_1 : List UInt8 := [164, 0, 5, 3, 172, 42, 89, 180, 0, 36, 21, 4, 96, 181, 0, 36, 42, 180, 0, 10, 42, 180, 0, 20]
abbrev dktX1_feed_1 : List UInt8 := dkwX1_feed_1 ++ dktX1_feed_2
def dkwX1_feed_0 : List UInt8 := [42, 27, 182, 0, 31, 62, 42, 29, 28, 182, 0, 39, 54, 4, 42, 180, 0, 36, 21, 4, 96, 17, 64, 0]
abbrev dktX1_feed_0 : List UInt8 := dkwX1_feed_0 ++ dktX1_feed_1
theorem dksX1_feed_0 : cX1_feed.data.toList.drop 0 = dktX1_feed_0 := by decide +kernel
theorem dksX1_feed_1 : cX1_feed.data.toList.drop 24 = dktX1_feed_1 := dk_seg dksX1_feed_0 24 rfl rfl
theorem dksX1_feed_2 : cX1_feed.data.toList.drop 48 = dktX1_feed_2 := dk_seg dksX1_feed_1 24 rfl rfl
theorem dX1_feed_0 : decode cX1_feed 0 = .ok (.aload_n 0, 1) := dk_42 (dk_at dksX1_feed_0 0 rfl rfl)
theorem dX1_feed_1 : decode cX1_feed 1 = .ok (.iload_n 1, 1) := dk_27 (dk_at dksX1_feed_0 1 rfl rfl)
theorem dX1_feed_2 : decode cX1_feed 2 = .ok (.invokevirtual 31, 3) := dk_182 0 31 (dk_at dksX1_feed_0 2 rfl rfl)
theorem dX1_feed_5 : decode cX1_feed 5 = .ok (.istore_n 3, 1) := dk_62 (dk_at dksX1_feed_0 5 rfl rfl)
theorem dX1_feed_6 : decode cX1_feed 6 = .ok (.aload_n 0, 1) := dk_42 (dk_at dksX1_feed_0 6 rfl rfl)
theorem dX1_feed_7 : decode cX1_feed 7 = .ok (.iload_n 3, 1) := dk_29 (dk_at dksX1_feed_0 7 rfl rfl)
theorem dX1_feed_8 : decode cX1_feed 8 = .ok (.iload_n 2, 1) := dk_28 (dk_at dksX1_feed_0 8 rfl rfl)
theorem dX1_feed_9 : decode cX1_feed 9 = .ok (.invokevirtual 39, 3) := dk_182 0 39 (dk_at dksX1_feed_0 9 rfl rfl)
theorem dX1_feed_12 : decode cX1_feed 12 = .ok (.istore 4, 2) := dk_54 4 (dk_at dksX1_feed_0 12 rfl rfl)
theorem dX1_feed_14 : decode cX1_feed 14 = .ok (.aload_n 0, 1) := dk_42 (dk_at dksX1_feed_0 14 rfl rfl)
theorem dX1_feed_15 : decode cX1_feed 15 = .ok (.getfield 36, 3) := dk_180 0 36 (dk_at dksX1_feed_0 15 rfl rfl)
theorem dX1_feed_18 : decode cX1_feed 18 = .ok (.iload 4, 2) := dk_21 4 (dk_at dksX1_feed_0 18 rfl rfl)
theorem dX1_feed_20 : decode cX1_feed 20 = .ok (.iadd, 1) := dk_96 (dk_at dksX1_feed_0 20 rfl rfl)
theorem dX1_feed_21 : decode cX1_feed 21 = .ok (.sipush 16384, 3) := dk_17 64 0 (dk_at dksX1_feed_0 21 rfl rfl)
theorem dX1_feed_24 : decode cX1_feed 24 = .ok (.if_icmp .le 5, 3) := dk_164 0 5 (dk_at dksX1_feed_1 0 rfl rfl)
theorem dX1_feed_27 : decode cX1_feed 27 = .ok (.iconst 0, 1) := dk_3 (dk_at dksX1_feed_1 3 rfl rfl)
theorem dX1_feed_28 : decode cX1_feed 28 = .ok (.ireturn, 1) := dk_172 (dk_at dksX1_feed_1 4 rfl rfl)
theorem dX1_feed_29 : decode cX1_feed 29 = .ok (.aload_n 0, 1) := dk_42 (dk_at dksX1_feed_1 5 rfl rfl)
theorem dX1_feed_30 : decode cX1_feed 30 = .ok (.dup, 1) := dk_89 (dk_at dksX1_feed_1 6 rfl rfl)
theorem dX1_feed_31 : decode cX1_feed 31 = .ok (.getfield 36, 3) := dk_180 0 36 (dk_at dksX1_feed_1 7 rfl rfl)
theorem dX1_feed_34 : decode cX1_feed 34 = .ok (.iload 4, 2) := dk_21 4 (dk_at dksX1_feed_1 10 rfl rfl)
theorem dX1_feed_36 : decode cX1_feed 36 = .ok (.iadd, 1) := dk_96 (dk_at dksX1_feed_1 12 rfl rfl)
theorem dX1_feed_37 : decode cX1_feed 37 = .ok (.putfield 36, 3) := dk_181 0 36 (dk_at dksX1_feed_1 13 rfl rfl)
theorem dX1_feed_40 : decode cX1_feed 40 = .ok (.aload_n 0, 1) := dk_42 (dk_at dksX1_feed_1 16 rfl rfl)
theorem dX1_feed_41 : decode cX1_feed 41 = .ok (.getfield 10, 3) := dk_180 0 10 (dk_at dksX1_feed_1 17 rfl rfl)
theorem dX1_feed_44 : decode cX1_feed 44 = .ok (.aload_n 0, 1) := dk_42 (dk_at dksX1_feed_1 20 rfl rfl)
theorem dX1_feed_45 : decode cX1_feed 45 = .ok (.getfield 20, 3) := dk_180 0 20 (dk_at dksX1_feed_1 21 rfl rfl)
theorem dX1_feed_48 : decode cX1_feed 48 = .ok (.iload_n 3, 1) := dk_29 (dk_at dksX1_feed_2 0 rfl rfl)
theorem dX1_feed_49 : decode cX1_feed 49 = .ok (.iload 4, 2) := dk_21 4 (dk_at dksX1_feed_2 1 rfl rfl)
theorem dX1_feed_51 : decode cX1_feed 51 = .ok (.invokeinterface 43 4, 5) := by decide +kernel
theorem dX1_feed_56 : decode cX1_feed 56 = .ok (.iconst 1, 1) := dk_4 (dk_at dksX1_feed_2 8 rfl rfl)
theorem dX1_feed_57 : decode cX1_feed 57 = .ok (.ireturn, 1) := dk_172 (dk_at dksX1_feed_2 9 rfl rfl)
abbrev cX1_from : ByteArray := prog_7_method_5_code
def yX1_from : MethodName := ⟨RX1, "from", "(I)I"⟩
def dkwX1_from_0 : List UInt8 := [27, 18, 35, 126, 42, 180, 0, 23, 4, 96, 112, 172]
abbrev dktX1_from_0 : List UInt8 := dkwX1_from_0 ++ []
theorem dksX1_from_0 : cX1_from.data.toList.drop 0 = dktX1_from_0 := by decide +kernel
theorem dX1_from_0 : decode cX1_from 0 = .ok (.iload_n 1, 1) := dk_27 (dk_at dksX1_from_0 0 rfl rfl)
theorem dX1_from_1 : decode cX1_from 1 = .ok (.ldc 35, 2) := dk_18 35 (dk_at dksX1_from_0 1 rfl rfl)
theorem dX1_from_3 : decode cX1_from 3 = .ok (.iand, 1) := dk_126 (dk_at dksX1_from_0 3 rfl rfl)
theorem dX1_from_4 : decode cX1_from 4 = .ok (.aload_n 0, 1) := dk_42 (dk_at dksX1_from_0 4 rfl rfl)
theorem dX1_from_5 : decode cX1_from 5 = .ok (.getfield 23, 3) := dk_180 0 23 (dk_at dksX1_from_0 5 rfl rfl)
theorem dX1_from_8 : decode cX1_from 8 = .ok (.iconst 1, 1) := dk_4 (dk_at dksX1_from_0 8 rfl rfl)
theorem dX1_from_9 : decode cX1_from 9 = .ok (.iadd, 1) := dk_96 (dk_at dksX1_from_0 9 rfl rfl)
theorem dX1_from_10 : decode cX1_from 10 = .ok (.irem, 1) := dk_112 (dk_at dksX1_from_0 10 rfl rfl)
theorem dX1_from_11 : decode cX1_from 11 = .ok (.ireturn, 1) := dk_172 (dk_at dksX1_from_0 11 rfl rfl)
abbrev cX1_count : ByteArray := prog_7_method_6_code
def yX1_count : MethodName := ⟨RX1, "count", "(II)I"⟩
def dkwX1_count_0 : List UInt8 := [28, 18, 35, 126, 42, 180, 0, 23, 27, 100, 4, 96, 112, 172]
abbrev dktX1_count_0 : List UInt8 := dkwX1_count_0 ++ []
theorem dksX1_count_0 : cX1_count.data.toList.drop 0 = dktX1_count_0 := by decide +kernel
theorem dX1_count_0 : decode cX1_count 0 = .ok (.iload_n 2, 1) := dk_28 (dk_at dksX1_count_0 0 rfl rfl)
theorem dX1_count_1 : decode cX1_count 1 = .ok (.ldc 35, 2) := dk_18 35 (dk_at dksX1_count_0 1 rfl rfl)
theorem dX1_count_3 : decode cX1_count 3 = .ok (.iand, 1) := dk_126 (dk_at dksX1_count_0 3 rfl rfl)
theorem dX1_count_4 : decode cX1_count 4 = .ok (.aload_n 0, 1) := dk_42 (dk_at dksX1_count_0 4 rfl rfl)
theorem dX1_count_5 : decode cX1_count 5 = .ok (.getfield 23, 3) := dk_180 0 23 (dk_at dksX1_count_0 5 rfl rfl)
theorem dX1_count_8 : decode cX1_count 8 = .ok (.iload_n 1, 1) := dk_27 (dk_at dksX1_count_0 8 rfl rfl)
theorem dX1_count_9 : decode cX1_count 9 = .ok (.isub, 1) := dk_100 (dk_at dksX1_count_0 9 rfl rfl)
theorem dX1_count_10 : decode cX1_count 10 = .ok (.iconst 1, 1) := dk_4 (dk_at dksX1_count_0 10 rfl rfl)
theorem dX1_count_11 : decode cX1_count 11 = .ok (.iadd, 1) := dk_96 (dk_at dksX1_count_0 11 rfl rfl)
theorem dX1_count_12 : decode cX1_count 12 = .ok (.irem, 1) := dk_112 (dk_at dksX1_count_0 12 rfl rfl)
theorem dX1_count_13 : decode cX1_count 13 = .ok (.ireturn, 1) := dk_172 (dk_at dksX1_count_0 13 rfl rfl)
abbrev cX1_one : ByteArray := prog_7_method_9_code
def yX1_one : MethodName := ⟨RX1, "one", "(I)Z"⟩
def dkwX1_one_1 : List UInt8 := [180, 0, 10, 27, 145, 185, 0, 49, 2, 0, 4, 172]
abbrev dktX1_one_1 : List UInt8 := dkwX1_one_1 ++ []
def dkwX1_one_0 : List UInt8 := [42, 180, 0, 36, 17, 64, 0, 161, 0, 5, 3, 172, 42, 89, 180, 0, 36, 4, 96, 181, 0, 36, 42]
abbrev dktX1_one_0 : List UInt8 := dkwX1_one_0 ++ dktX1_one_1
theorem dksX1_one_0 : cX1_one.data.toList.drop 0 = dktX1_one_0 := by decide +kernel
theorem dksX1_one_1 : cX1_one.data.toList.drop 23 = dktX1_one_1 := dk_seg dksX1_one_0 23 rfl rfl
theorem dX1_one_0 : decode cX1_one 0 = .ok (.aload_n 0, 1) := dk_42 (dk_at dksX1_one_0 0 rfl rfl)
theorem dX1_one_1 : decode cX1_one 1 = .ok (.getfield 36, 3) := dk_180 0 36 (dk_at dksX1_one_0 1 rfl rfl)
theorem dX1_one_4 : decode cX1_one 4 = .ok (.sipush 16384, 3) := dk_17 64 0 (dk_at dksX1_one_0 4 rfl rfl)
theorem dX1_one_7 : decode cX1_one 7 = .ok (.if_icmp .lt 5, 3) := dk_161 0 5 (dk_at dksX1_one_0 7 rfl rfl)
theorem dX1_one_10 : decode cX1_one 10 = .ok (.iconst 0, 1) := dk_3 (dk_at dksX1_one_0 10 rfl rfl)
theorem dX1_one_11 : decode cX1_one 11 = .ok (.ireturn, 1) := dk_172 (dk_at dksX1_one_0 11 rfl rfl)
theorem dX1_one_12 : decode cX1_one 12 = .ok (.aload_n 0, 1) := dk_42 (dk_at dksX1_one_0 12 rfl rfl)
theorem dX1_one_13 : decode cX1_one 13 = .ok (.dup, 1) := dk_89 (dk_at dksX1_one_0 13 rfl rfl)
theorem dX1_one_14 : decode cX1_one 14 = .ok (.getfield 36, 3) := dk_180 0 36 (dk_at dksX1_one_0 14 rfl rfl)
theorem dX1_one_17 : decode cX1_one 17 = .ok (.iconst 1, 1) := dk_4 (dk_at dksX1_one_0 17 rfl rfl)
theorem dX1_one_18 : decode cX1_one 18 = .ok (.iadd, 1) := dk_96 (dk_at dksX1_one_0 18 rfl rfl)
theorem dX1_one_19 : decode cX1_one 19 = .ok (.putfield 36, 3) := dk_181 0 36 (dk_at dksX1_one_0 19 rfl rfl)
theorem dX1_one_22 : decode cX1_one 22 = .ok (.aload_n 0, 1) := dk_42 (dk_at dksX1_one_0 22 rfl rfl)
theorem dX1_one_23 : decode cX1_one 23 = .ok (.getfield 10, 3) := dk_180 0 10 (dk_at dksX1_one_1 0 rfl rfl)
theorem dX1_one_26 : decode cX1_one 26 = .ok (.iload_n 1, 1) := dk_27 (dk_at dksX1_one_1 3 rfl rfl)
theorem dX1_one_27 : decode cX1_one 27 = .ok (.i2b, 1) := dk_145 (dk_at dksX1_one_1 4 rfl rfl)
theorem dX1_one_28 : decode cX1_one 28 = .ok (.invokeinterface 49 2, 5) := by decide +kernel
theorem dX1_one_33 : decode cX1_one 33 = .ok (.iconst 1, 1) := dk_4 (dk_at dksX1_one_1 10 rfl rfl)
theorem dX1_one_34 : decode cX1_one 34 = .ok (.ireturn, 1) := dk_172 (dk_at dksX1_one_1 11 rfl rfl)
abbrev cX1_close : ByteArray := prog_7_method_10_code
def yX1_close : MethodName := ⟨RX1, "close", "()I"⟩
def dkwX1_close_0 : List UInt8 := [42, 3, 181, 0, 36, 42, 180, 0, 10, 42, 180, 0, 16, 3, 185, 0, 52, 3, 0, 172]
abbrev dktX1_close_0 : List UInt8 := dkwX1_close_0 ++ []
theorem dksX1_close_0 : cX1_close.data.toList.drop 0 = dktX1_close_0 := by decide +kernel
theorem dX1_close_0 : decode cX1_close 0 = .ok (.aload_n 0, 1) := dk_42 (dk_at dksX1_close_0 0 rfl rfl)
theorem dX1_close_1 : decode cX1_close 1 = .ok (.iconst 0, 1) := dk_3 (dk_at dksX1_close_0 1 rfl rfl)
theorem dX1_close_2 : decode cX1_close 2 = .ok (.putfield 36, 3) := dk_181 0 36 (dk_at dksX1_close_0 2 rfl rfl)
theorem dX1_close_5 : decode cX1_close 5 = .ok (.aload_n 0, 1) := dk_42 (dk_at dksX1_close_0 5 rfl rfl)
theorem dX1_close_6 : decode cX1_close 6 = .ok (.getfield 10, 3) := dk_180 0 10 (dk_at dksX1_close_0 6 rfl rfl)
theorem dX1_close_9 : decode cX1_close 9 = .ok (.aload_n 0, 1) := dk_42 (dk_at dksX1_close_0 9 rfl rfl)
theorem dX1_close_10 : decode cX1_close 10 = .ok (.getfield 16, 3) := dk_180 0 16 (dk_at dksX1_close_0 10 rfl rfl)
theorem dX1_close_13 : decode cX1_close 13 = .ok (.iconst 0, 1) := dk_3 (dk_at dksX1_close_0 13 rfl rfl)
theorem dX1_close_14 : decode cX1_close 14 = .ok (.invokeinterface 52 3, 5) := by decide +kernel
theorem dX1_close_19 : decode cX1_close 19 = .ok (.ireturn, 1) := dk_172 (dk_at dksX1_close_0 19 rfl rfl)
abbrev cX1_drop : ByteArray := prog_7_method_11_code
def yX1_drop : MethodName := ⟨RX1, "drop", "()V"⟩
def dkwX1_drop_0 : List UInt8 := [42, 180, 0, 10, 185, 0, 56, 1, 0, 42, 3, 181, 0, 36, 177]
abbrev dktX1_drop_0 : List UInt8 := dkwX1_drop_0 ++ []
theorem dksX1_drop_0 : cX1_drop.data.toList.drop 0 = dktX1_drop_0 := by decide +kernel
theorem dX1_drop_0 : decode cX1_drop 0 = .ok (.aload_n 0, 1) := dk_42 (dk_at dksX1_drop_0 0 rfl rfl)
theorem dX1_drop_1 : decode cX1_drop 1 = .ok (.getfield 10, 3) := dk_180 0 10 (dk_at dksX1_drop_0 1 rfl rfl)
theorem dX1_drop_4 : decode cX1_drop 4 = .ok (.invokeinterface 56 1, 5) := by decide +kernel
theorem dX1_drop_9 : decode cX1_drop 9 = .ok (.aload_n 0, 1) := dk_42 (dk_at dksX1_drop_0 9 rfl rfl)
theorem dX1_drop_10 : decode cX1_drop 10 = .ok (.iconst 0, 1) := dk_3 (dk_at dksX1_drop_0 10 rfl rfl)
theorem dX1_drop_11 : decode cX1_drop 11 = .ok (.putfield 36, 3) := dk_181 0 36 (dk_at dksX1_drop_0 11 rfl rfl)
theorem dX1_drop_14 : decode cX1_drop 14 = .ok (.return_, 1) := dk_177 (dk_at dksX1_drop_0 14 rfl rfl)
abbrev cX1_init : ByteArray := prog_7_method_1_code
def yX1_init : MethodName := ⟨RX1, "<init>", "()V"⟩
def dkwX1_init_1 : List UInt8 := [17, 4, 0, 188, 8, 181, 0, 20, 177]
abbrev dktX1_init_1 : List UInt8 := dkwX1_init_1 ++ []
def dkwX1_init_0 : List UInt8 := [42, 183, 0, 1, 42, 187, 0, 7, 89, 183, 0, 9, 181, 0, 10, 42, 16, 64, 188, 8, 181, 0, 16, 42]
abbrev dktX1_init_0 : List UInt8 := dkwX1_init_0 ++ dktX1_init_1
theorem dksX1_init_0 : cX1_init.data.toList.drop 0 = dktX1_init_0 := by decide +kernel
theorem dksX1_init_1 : cX1_init.data.toList.drop 24 = dktX1_init_1 := dk_seg dksX1_init_0 24 rfl rfl
theorem dX1_init_0 : decode cX1_init 0 = .ok (.aload_n 0, 1) := dk_42 (dk_at dksX1_init_0 0 rfl rfl)
theorem dX1_init_1 : decode cX1_init 1 = .ok (.invokespecial 1, 3) := dk_183 0 1 (dk_at dksX1_init_0 1 rfl rfl)
theorem dX1_init_4 : decode cX1_init 4 = .ok (.aload_n 0, 1) := dk_42 (dk_at dksX1_init_0 4 rfl rfl)
theorem dX1_init_5 : decode cX1_init 5 = .ok (.new 7, 3) := dk_187 0 7 (dk_at dksX1_init_0 5 rfl rfl)
theorem dX1_init_8 : decode cX1_init 8 = .ok (.dup, 1) := dk_89 (dk_at dksX1_init_0 8 rfl rfl)
theorem dX1_init_9 : decode cX1_init 9 = .ok (.invokespecial 9, 3) := dk_183 0 9 (dk_at dksX1_init_0 9 rfl rfl)
theorem dX1_init_12 : decode cX1_init 12 = .ok (.putfield 10, 3) := dk_181 0 10 (dk_at dksX1_init_0 12 rfl rfl)
theorem dX1_init_15 : decode cX1_init 15 = .ok (.aload_n 0, 1) := dk_42 (dk_at dksX1_init_0 15 rfl rfl)
theorem dX1_init_16 : decode cX1_init 16 = .ok (.bipush 64, 2) := dk_16 64 (dk_at dksX1_init_0 16 rfl rfl)
theorem dX1_init_18 : decode cX1_init 18 = .ok (.newarray .byte, 2) := dk_188_8 (dk_at dksX1_init_0 18 rfl rfl)
theorem dX1_init_20 : decode cX1_init 20 = .ok (.putfield 16, 3) := dk_181 0 16 (dk_at dksX1_init_0 20 rfl rfl)
theorem dX1_init_23 : decode cX1_init 23 = .ok (.aload_n 0, 1) := dk_42 (dk_at dksX1_init_0 23 rfl rfl)
theorem dX1_init_24 : decode cX1_init 24 = .ok (.sipush 1024, 3) := dk_17 4 0 (dk_at dksX1_init_1 0 rfl rfl)
theorem dX1_init_27 : decode cX1_init 27 = .ok (.newarray .byte, 2) := dk_188_8 (dk_at dksX1_init_1 3 rfl rfl)
theorem dX1_init_29 : decode cX1_init 29 = .ok (.putfield 20, 3) := dk_181 0 20 (dk_at dksX1_init_1 5 rfl rfl)
theorem dX1_init_32 : decode cX1_init 32 = .ok (.return_, 1) := dk_177 (dk_at dksX1_init_1 8 rfl rfl)
abbrev cX1_put : ByteArray := prog_7_method_2_code
def yX1_put : MethodName := ⟨RX1, "put", "(IIII)Z"⟩
def dkwX1_put_3 : List UInt8 := [181, 0, 23, 4, 172]
abbrev dktX1_put_3 : List UInt8 := dkwX1_put_3 ++ []
def dkwX1_put_2 : List UInt8 := [182, 0, 27, 42, 42, 180, 0, 23, 16, 12, 96, 21, 4, 182, 0, 27, 42, 89, 180, 0, 23, 16, 16, 96]
abbrev dktX1_put_2 : List UInt8 := dkwX1_put_2 ++ dktX1_put_3
def dkwX1_put_1 : List UInt8 := [182, 0, 27, 42, 42, 180, 0, 23, 7, 96, 28, 182, 0, 27, 42, 42, 180, 0, 23, 16, 8, 96, 29]
abbrev dktX1_put_1 : List UInt8 := dkwX1_put_1 ++ dktX1_put_2
def dkwX1_put_0 : List UInt8 := [42, 180, 0, 23, 42, 180, 0, 20, 190, 16, 16, 100, 164, 0, 5, 3, 172, 42, 42, 180, 0, 23, 27]
abbrev dktX1_put_0 : List UInt8 := dkwX1_put_0 ++ dktX1_put_1
theorem dksX1_put_0 : cX1_put.data.toList.drop 0 = dktX1_put_0 := by decide +kernel
theorem dksX1_put_1 : cX1_put.data.toList.drop 23 = dktX1_put_1 := dk_seg dksX1_put_0 23 rfl rfl
theorem dksX1_put_2 : cX1_put.data.toList.drop 46 = dktX1_put_2 := dk_seg dksX1_put_1 23 rfl rfl
theorem dksX1_put_3 : cX1_put.data.toList.drop 70 = dktX1_put_3 := dk_seg dksX1_put_2 24 rfl rfl
theorem dX1_put_0 : decode cX1_put 0 = .ok (.aload_n 0, 1) := dk_42 (dk_at dksX1_put_0 0 rfl rfl)
theorem dX1_put_1 : decode cX1_put 1 = .ok (.getfield 23, 3) := dk_180 0 23 (dk_at dksX1_put_0 1 rfl rfl)
theorem dX1_put_4 : decode cX1_put 4 = .ok (.aload_n 0, 1) := dk_42 (dk_at dksX1_put_0 4 rfl rfl)
theorem dX1_put_5 : decode cX1_put 5 = .ok (.getfield 20, 3) := dk_180 0 20 (dk_at dksX1_put_0 5 rfl rfl)
theorem dX1_put_8 : decode cX1_put 8 = .ok (.arraylength, 1) := dk_190 (dk_at dksX1_put_0 8 rfl rfl)
theorem dX1_put_9 : decode cX1_put 9 = .ok (.bipush 16, 2) := dk_16 16 (dk_at dksX1_put_0 9 rfl rfl)
theorem dX1_put_11 : decode cX1_put 11 = .ok (.isub, 1) := dk_100 (dk_at dksX1_put_0 11 rfl rfl)
theorem dX1_put_12 : decode cX1_put 12 = .ok (.if_icmp .le 5, 3) := dk_164 0 5 (dk_at dksX1_put_0 12 rfl rfl)
theorem dX1_put_15 : decode cX1_put 15 = .ok (.iconst 0, 1) := dk_3 (dk_at dksX1_put_0 15 rfl rfl)
theorem dX1_put_16 : decode cX1_put 16 = .ok (.ireturn, 1) := dk_172 (dk_at dksX1_put_0 16 rfl rfl)
theorem dX1_put_17 : decode cX1_put 17 = .ok (.aload_n 0, 1) := dk_42 (dk_at dksX1_put_0 17 rfl rfl)
theorem dX1_put_18 : decode cX1_put 18 = .ok (.aload_n 0, 1) := dk_42 (dk_at dksX1_put_0 18 rfl rfl)
theorem dX1_put_19 : decode cX1_put 19 = .ok (.getfield 23, 3) := dk_180 0 23 (dk_at dksX1_put_0 19 rfl rfl)
theorem dX1_put_22 : decode cX1_put 22 = .ok (.iload_n 1, 1) := dk_27 (dk_at dksX1_put_0 22 rfl rfl)
theorem dX1_put_23 : decode cX1_put 23 = .ok (.invokevirtual 27, 3) := dk_182 0 27 (dk_at dksX1_put_1 0 rfl rfl)
theorem dX1_put_26 : decode cX1_put 26 = .ok (.aload_n 0, 1) := dk_42 (dk_at dksX1_put_1 3 rfl rfl)
theorem dX1_put_27 : decode cX1_put 27 = .ok (.aload_n 0, 1) := dk_42 (dk_at dksX1_put_1 4 rfl rfl)
theorem dX1_put_28 : decode cX1_put 28 = .ok (.getfield 23, 3) := dk_180 0 23 (dk_at dksX1_put_1 5 rfl rfl)
theorem dX1_put_31 : decode cX1_put 31 = .ok (.iconst 4, 1) := dk_7 (dk_at dksX1_put_1 8 rfl rfl)
theorem dX1_put_32 : decode cX1_put 32 = .ok (.iadd, 1) := dk_96 (dk_at dksX1_put_1 9 rfl rfl)
theorem dX1_put_33 : decode cX1_put 33 = .ok (.iload_n 2, 1) := dk_28 (dk_at dksX1_put_1 10 rfl rfl)
theorem dX1_put_34 : decode cX1_put 34 = .ok (.invokevirtual 27, 3) := dk_182 0 27 (dk_at dksX1_put_1 11 rfl rfl)
theorem dX1_put_37 : decode cX1_put 37 = .ok (.aload_n 0, 1) := dk_42 (dk_at dksX1_put_1 14 rfl rfl)
theorem dX1_put_38 : decode cX1_put 38 = .ok (.aload_n 0, 1) := dk_42 (dk_at dksX1_put_1 15 rfl rfl)
theorem dX1_put_39 : decode cX1_put 39 = .ok (.getfield 23, 3) := dk_180 0 23 (dk_at dksX1_put_1 16 rfl rfl)
theorem dX1_put_42 : decode cX1_put 42 = .ok (.bipush 8, 2) := dk_16 8 (dk_at dksX1_put_1 19 rfl rfl)
theorem dX1_put_44 : decode cX1_put 44 = .ok (.iadd, 1) := dk_96 (dk_at dksX1_put_1 21 rfl rfl)
theorem dX1_put_45 : decode cX1_put 45 = .ok (.iload_n 3, 1) := dk_29 (dk_at dksX1_put_1 22 rfl rfl)
theorem dX1_put_46 : decode cX1_put 46 = .ok (.invokevirtual 27, 3) := dk_182 0 27 (dk_at dksX1_put_2 0 rfl rfl)
theorem dX1_put_49 : decode cX1_put 49 = .ok (.aload_n 0, 1) := dk_42 (dk_at dksX1_put_2 3 rfl rfl)
theorem dX1_put_50 : decode cX1_put 50 = .ok (.aload_n 0, 1) := dk_42 (dk_at dksX1_put_2 4 rfl rfl)
theorem dX1_put_51 : decode cX1_put 51 = .ok (.getfield 23, 3) := dk_180 0 23 (dk_at dksX1_put_2 5 rfl rfl)
theorem dX1_put_54 : decode cX1_put 54 = .ok (.bipush 12, 2) := dk_16 12 (dk_at dksX1_put_2 8 rfl rfl)
theorem dX1_put_56 : decode cX1_put 56 = .ok (.iadd, 1) := dk_96 (dk_at dksX1_put_2 10 rfl rfl)
theorem dX1_put_57 : decode cX1_put 57 = .ok (.iload 4, 2) := dk_21 4 (dk_at dksX1_put_2 11 rfl rfl)
theorem dX1_put_59 : decode cX1_put 59 = .ok (.invokevirtual 27, 3) := dk_182 0 27 (dk_at dksX1_put_2 13 rfl rfl)
theorem dX1_put_62 : decode cX1_put 62 = .ok (.aload_n 0, 1) := dk_42 (dk_at dksX1_put_2 16 rfl rfl)
theorem dX1_put_63 : decode cX1_put 63 = .ok (.dup, 1) := dk_89 (dk_at dksX1_put_2 17 rfl rfl)
theorem dX1_put_64 : decode cX1_put 64 = .ok (.getfield 23, 3) := dk_180 0 23 (dk_at dksX1_put_2 18 rfl rfl)
theorem dX1_put_67 : decode cX1_put 67 = .ok (.bipush 16, 2) := dk_16 16 (dk_at dksX1_put_2 21 rfl rfl)
theorem dX1_put_69 : decode cX1_put 69 = .ok (.iadd, 1) := dk_96 (dk_at dksX1_put_2 23 rfl rfl)
theorem dX1_put_70 : decode cX1_put 70 = .ok (.putfield 23, 3) := dk_181 0 23 (dk_at dksX1_put_3 0 rfl rfl)
theorem dX1_put_73 : decode cX1_put 73 = .ok (.iconst 1, 1) := dk_4 (dk_at dksX1_put_3 3 rfl rfl)
theorem dX1_put_74 : decode cX1_put 74 = .ok (.ireturn, 1) := dk_172 (dk_at dksX1_put_3 4 rfl rfl)
abbrev cX1_word : ByteArray := prog_7_method_3_code
def yX1_word : MethodName := ⟨RX1, "word", "(II)V"⟩
def dkwX1_word_1 : List UInt8 := [42, 180, 0, 20, 27, 5, 96, 28, 16, 8, 122, 145, 84, 42, 180, 0, 20, 27, 6, 96, 28, 145, 84, 177]
abbrev dktX1_word_1 : List UInt8 := dkwX1_word_1 ++ []
def dkwX1_word_0 : List UInt8 := [42, 180, 0, 20, 27, 28, 16, 24, 122, 145, 84, 42, 180, 0, 20, 27, 4, 96, 28, 16, 16, 122, 145, 84]
abbrev dktX1_word_0 : List UInt8 := dkwX1_word_0 ++ dktX1_word_1
theorem dksX1_word_0 : cX1_word.data.toList.drop 0 = dktX1_word_0 := by decide +kernel
theorem dksX1_word_1 : cX1_word.data.toList.drop 24 = dktX1_word_1 := dk_seg dksX1_word_0 24 rfl rfl
theorem dX1_word_0 : decode cX1_word 0 = .ok (.aload_n 0, 1) := dk_42 (dk_at dksX1_word_0 0 rfl rfl)
theorem dX1_word_1 : decode cX1_word 1 = .ok (.getfield 20, 3) := dk_180 0 20 (dk_at dksX1_word_0 1 rfl rfl)
theorem dX1_word_4 : decode cX1_word 4 = .ok (.iload_n 1, 1) := dk_27 (dk_at dksX1_word_0 4 rfl rfl)
theorem dX1_word_5 : decode cX1_word 5 = .ok (.iload_n 2, 1) := dk_28 (dk_at dksX1_word_0 5 rfl rfl)
theorem dX1_word_6 : decode cX1_word 6 = .ok (.bipush 24, 2) := dk_16 24 (dk_at dksX1_word_0 6 rfl rfl)
theorem dX1_word_8 : decode cX1_word 8 = .ok (.ishr, 1) := dk_122 (dk_at dksX1_word_0 8 rfl rfl)
theorem dX1_word_9 : decode cX1_word 9 = .ok (.i2b, 1) := dk_145 (dk_at dksX1_word_0 9 rfl rfl)
theorem dX1_word_10 : decode cX1_word 10 = .ok (.bastore, 1) := dk_84 (dk_at dksX1_word_0 10 rfl rfl)
theorem dX1_word_11 : decode cX1_word 11 = .ok (.aload_n 0, 1) := dk_42 (dk_at dksX1_word_0 11 rfl rfl)
theorem dX1_word_12 : decode cX1_word 12 = .ok (.getfield 20, 3) := dk_180 0 20 (dk_at dksX1_word_0 12 rfl rfl)
theorem dX1_word_15 : decode cX1_word 15 = .ok (.iload_n 1, 1) := dk_27 (dk_at dksX1_word_0 15 rfl rfl)
theorem dX1_word_16 : decode cX1_word 16 = .ok (.iconst 1, 1) := dk_4 (dk_at dksX1_word_0 16 rfl rfl)
theorem dX1_word_17 : decode cX1_word 17 = .ok (.iadd, 1) := dk_96 (dk_at dksX1_word_0 17 rfl rfl)
theorem dX1_word_18 : decode cX1_word 18 = .ok (.iload_n 2, 1) := dk_28 (dk_at dksX1_word_0 18 rfl rfl)
theorem dX1_word_19 : decode cX1_word 19 = .ok (.bipush 16, 2) := dk_16 16 (dk_at dksX1_word_0 19 rfl rfl)
theorem dX1_word_21 : decode cX1_word 21 = .ok (.ishr, 1) := dk_122 (dk_at dksX1_word_0 21 rfl rfl)
theorem dX1_word_22 : decode cX1_word 22 = .ok (.i2b, 1) := dk_145 (dk_at dksX1_word_0 22 rfl rfl)
theorem dX1_word_23 : decode cX1_word 23 = .ok (.bastore, 1) := dk_84 (dk_at dksX1_word_0 23 rfl rfl)
theorem dX1_word_24 : decode cX1_word 24 = .ok (.aload_n 0, 1) := dk_42 (dk_at dksX1_word_1 0 rfl rfl)
theorem dX1_word_25 : decode cX1_word 25 = .ok (.getfield 20, 3) := dk_180 0 20 (dk_at dksX1_word_1 1 rfl rfl)
theorem dX1_word_28 : decode cX1_word 28 = .ok (.iload_n 1, 1) := dk_27 (dk_at dksX1_word_1 4 rfl rfl)
theorem dX1_word_29 : decode cX1_word 29 = .ok (.iconst 2, 1) := dk_5 (dk_at dksX1_word_1 5 rfl rfl)
theorem dX1_word_30 : decode cX1_word 30 = .ok (.iadd, 1) := dk_96 (dk_at dksX1_word_1 6 rfl rfl)
theorem dX1_word_31 : decode cX1_word 31 = .ok (.iload_n 2, 1) := dk_28 (dk_at dksX1_word_1 7 rfl rfl)
theorem dX1_word_32 : decode cX1_word 32 = .ok (.bipush 8, 2) := dk_16 8 (dk_at dksX1_word_1 8 rfl rfl)
theorem dX1_word_34 : decode cX1_word 34 = .ok (.ishr, 1) := dk_122 (dk_at dksX1_word_1 10 rfl rfl)
theorem dX1_word_35 : decode cX1_word 35 = .ok (.i2b, 1) := dk_145 (dk_at dksX1_word_1 11 rfl rfl)
theorem dX1_word_36 : decode cX1_word 36 = .ok (.bastore, 1) := dk_84 (dk_at dksX1_word_1 12 rfl rfl)
theorem dX1_word_37 : decode cX1_word 37 = .ok (.aload_n 0, 1) := dk_42 (dk_at dksX1_word_1 13 rfl rfl)
theorem dX1_word_38 : decode cX1_word 38 = .ok (.getfield 20, 3) := dk_180 0 20 (dk_at dksX1_word_1 14 rfl rfl)
theorem dX1_word_41 : decode cX1_word 41 = .ok (.iload_n 1, 1) := dk_27 (dk_at dksX1_word_1 17 rfl rfl)
theorem dX1_word_42 : decode cX1_word 42 = .ok (.iconst 3, 1) := dk_6 (dk_at dksX1_word_1 18 rfl rfl)
theorem dX1_word_43 : decode cX1_word 43 = .ok (.iadd, 1) := dk_96 (dk_at dksX1_word_1 19 rfl rfl)
theorem dX1_word_44 : decode cX1_word 44 = .ok (.iload_n 2, 1) := dk_28 (dk_at dksX1_word_1 20 rfl rfl)
theorem dX1_word_45 : decode cX1_word 45 = .ok (.i2b, 1) := dk_145 (dk_at dksX1_word_1 21 rfl rfl)
theorem dX1_word_46 : decode cX1_word 46 = .ok (.bastore, 1) := dk_84 (dk_at dksX1_word_1 22 rfl rfl)
theorem dX1_word_47 : decode cX1_word 47 = .ok (.return_, 1) := dk_177 (dk_at dksX1_word_1 23 rfl rfl)
abbrev cX1_trim : ByteArray := prog_7_method_4_code
def yX1_trim : MethodName := ⟨RX1, "trim", "(I)V"⟩
def dkwX1_trim_0 : List UInt8 := [42, 42, 27, 182, 0, 31, 181, 0, 23, 177]
abbrev dktX1_trim_0 : List UInt8 := dkwX1_trim_0 ++ []
theorem dksX1_trim_0 : cX1_trim.data.toList.drop 0 = dktX1_trim_0 := by decide +kernel
theorem dX1_trim_0 : decode cX1_trim 0 = .ok (.aload_n 0, 1) := dk_42 (dk_at dksX1_trim_0 0 rfl rfl)
theorem dX1_trim_1 : decode cX1_trim 1 = .ok (.aload_n 0, 1) := dk_42 (dk_at dksX1_trim_0 1 rfl rfl)
theorem dX1_trim_2 : decode cX1_trim 2 = .ok (.iload_n 1, 1) := dk_27 (dk_at dksX1_trim_0 2 rfl rfl)
theorem dX1_trim_3 : decode cX1_trim 3 = .ok (.invokevirtual 31, 3) := dk_182 0 31 (dk_at dksX1_trim_0 3 rfl rfl)
theorem dX1_trim_6 : decode cX1_trim 6 = .ok (.putfield 23, 3) := dk_181 0 23 (dk_at dksX1_trim_0 6 rfl rfl)
theorem dX1_trim_9 : decode cX1_trim 9 = .ok (.return_, 1) := dk_177 (dk_at dksX1_trim_0 9 rfl rfl)
abbrev cX1_begin : ByteArray := prog_7_method_7_code
def yX1_begin : MethodName := ⟨RX1, "begin", "(I)V"⟩
def dkwX1_begin_0 : List UInt8 := [42, 187, 0, 7, 89, 183, 0, 9, 181, 0, 10, 42, 3, 181, 0, 36, 177]
abbrev dktX1_begin_0 : List UInt8 := dkwX1_begin_0 ++ []
theorem dksX1_begin_0 : cX1_begin.data.toList.drop 0 = dktX1_begin_0 := by decide +kernel
theorem dX1_begin_0 : decode cX1_begin 0 = .ok (.aload_n 0, 1) := dk_42 (dk_at dksX1_begin_0 0 rfl rfl)
theorem dX1_begin_1 : decode cX1_begin 1 = .ok (.new 7, 3) := dk_187 0 7 (dk_at dksX1_begin_0 1 rfl rfl)
theorem dX1_begin_4 : decode cX1_begin 4 = .ok (.dup, 1) := dk_89 (dk_at dksX1_begin_0 4 rfl rfl)
theorem dX1_begin_5 : decode cX1_begin 5 = .ok (.invokespecial 9, 3) := dk_183 0 9 (dk_at dksX1_begin_0 5 rfl rfl)
theorem dX1_begin_8 : decode cX1_begin 8 = .ok (.putfield 10, 3) := dk_181 0 10 (dk_at dksX1_begin_0 8 rfl rfl)
theorem dX1_begin_11 : decode cX1_begin 11 = .ok (.aload_n 0, 1) := dk_42 (dk_at dksX1_begin_0 11 rfl rfl)
theorem dX1_begin_12 : decode cX1_begin 12 = .ok (.iconst 0, 1) := dk_3 (dk_at dksX1_begin_0 12 rfl rfl)
theorem dX1_begin_13 : decode cX1_begin 13 = .ok (.putfield 36, 3) := dk_181 0 36 (dk_at dksX1_begin_0 13 rfl rfl)
theorem dX1_begin_16 : decode cX1_begin 16 = .ok (.return_, 1) := dk_177 (dk_at dksX1_begin_0 16 rfl rfl)
abbrev cX1_out : ByteArray := prog_7_method_12_code
def yX1_out : MethodName := ⟨RX1, "out", "(I)I"⟩
def dkwX1_out_0 : List UInt8 := [42, 180, 0, 16, 27, 18, 35, 126, 16, 64, 112, 51, 17, 0, 255, 126, 172]
abbrev dktX1_out_0 : List UInt8 := dkwX1_out_0 ++ []
theorem dksX1_out_0 : cX1_out.data.toList.drop 0 = dktX1_out_0 := by decide +kernel
theorem dX1_out_0 : decode cX1_out 0 = .ok (.aload_n 0, 1) := dk_42 (dk_at dksX1_out_0 0 rfl rfl)
theorem dX1_out_1 : decode cX1_out 1 = .ok (.getfield 16, 3) := dk_180 0 16 (dk_at dksX1_out_0 1 rfl rfl)
theorem dX1_out_4 : decode cX1_out 4 = .ok (.iload_n 1, 1) := dk_27 (dk_at dksX1_out_0 4 rfl rfl)
theorem dX1_out_5 : decode cX1_out 5 = .ok (.ldc 35, 2) := dk_18 35 (dk_at dksX1_out_0 5 rfl rfl)
theorem dX1_out_7 : decode cX1_out 7 = .ok (.iand, 1) := dk_126 (dk_at dksX1_out_0 7 rfl rfl)
theorem dX1_out_8 : decode cX1_out 8 = .ok (.bipush 64, 2) := dk_16 64 (dk_at dksX1_out_0 8 rfl rfl)
theorem dX1_out_10 : decode cX1_out 10 = .ok (.irem, 1) := dk_112 (dk_at dksX1_out_0 10 rfl rfl)
theorem dX1_out_11 : decode cX1_out 11 = .ok (.baload, 1) := dk_51 (dk_at dksX1_out_0 11 rfl rfl)
theorem dX1_out_12 : decode cX1_out 12 = .ok (.sipush 255, 3) := dk_17 0 255 (dk_at dksX1_out_0 12 rfl rfl)
theorem dX1_out_15 : decode cX1_out 15 = .ok (.iand, 1) := dk_126 (dk_at dksX1_out_0 15 rfl rfl)
theorem dX1_out_16 : decode cX1_out 16 = .ok (.ireturn, 1) := dk_172 (dk_at dksX1_out_0 16 rfl rfl)
theorem q10 : (Jvm.Cond.initialized "SmDigestDesk") ∈ lw_all := lw_g (lw_at lw_m1 1 rfl) rfl
theorem q18 : (Jvm.Cond.instanceMethod ({ cls := "SmDigestDesk", name := "feed", desc := "(II)Z" } : Jvm.MethodName)) ∈ lw_all := lw_g (lw_at lw_m1 9 rfl) rfl
theorem q19 : (Jvm.Cond.selects "SmDigestDesk" ({ cls := "SmDigestDesk", name := "feed", desc := "(II)Z" } : Jvm.MethodName) ({ cls := "SmDigestDesk", name := "feed", desc := "(II)Z" } : Jvm.MethodName)) ∈ lw_all := lw_g (lw_at lw_m1 10 rfl) rfl
theorem q20 : (Jvm.Cond.code ({ cls := "SmDigestDesk", name := "feed", desc := "(II)Z" } : Jvm.MethodName) prog_7_method_8_code (5 : Nat) (Option.some Jvm.ClassFile.FieldType.boolean)) ∈ lw_all := lw_g (lw_at lw_m1 11 rfl) rfl
theorem q21 : (Jvm.Cond.methodLink "SmDigestDesk" (31 : Nat) ({ cls := "SmDigestDesk", name := "from", desc := "(I)I" } : Jvm.MethodName)) ∈ lw_all := lw_g (lw_at lw_m1 12 rfl) rfl
theorem q22 : (Jvm.Cond.privateMethod ({ cls := "SmDigestDesk", name := "from", desc := "(I)I" } : Jvm.MethodName)) ∈ lw_tbl := lw_at lw_m1 13 rfl
theorem q23 : (Jvm.Cond.instanceMethod ({ cls := "SmDigestDesk", name := "from", desc := "(I)I" } : Jvm.MethodName)) ∈ lw_all := lw_g (lw_at lw_m1 14 rfl) rfl
theorem q24 : (Jvm.Cond.instantiable "SmDigestDesk" (5 : Nat)) ∈ lw_all := lw_g (lw_at lw_m1 15 rfl) rfl
theorem q25 : (Jvm.Cond.code ({ cls := "SmDigestDesk", name := "from", desc := "(I)I" } : Jvm.MethodName) prog_7_method_5_code (2 : Nat) (Option.some Jvm.ClassFile.FieldType.int)) ∈ lw_all := lw_g (lw_at lw_m1 16 rfl) rfl
theorem q26 : (Jvm.Cond.constant "SmDigestDesk" (35 : Nat) (2147483647 : Int32)) ∈ lw_all := lw_g (lw_at lw_m1 17 rfl) rfl
theorem q27 : (Jvm.Cond.methodLink "SmDigestDesk" (39 : Nat) ({ cls := "SmDigestDesk", name := "count", desc := "(II)I" } : Jvm.MethodName)) ∈ lw_all := lw_g (lw_at lw_m1 18 rfl) rfl
theorem q28 : (Jvm.Cond.privateMethod ({ cls := "SmDigestDesk", name := "count", desc := "(II)I" } : Jvm.MethodName)) ∈ lw_tbl := lw_at lw_m1 19 rfl
theorem q29 : (Jvm.Cond.instanceMethod ({ cls := "SmDigestDesk", name := "count", desc := "(II)I" } : Jvm.MethodName)) ∈ lw_all := lw_g (lw_at lw_m1 20 rfl) rfl
theorem q30 : (Jvm.Cond.code ({ cls := "SmDigestDesk", name := "count", desc := "(II)I" } : Jvm.MethodName) prog_7_method_6_code (3 : Nat) (Option.some Jvm.ClassFile.FieldType.int)) ∈ lw_all := lw_g (lw_at lw_m1 21 rfl) rfl
theorem q31 : (Jvm.Cond.interfaceEntry "SmDigestDesk" (43 : Nat)) ∈ lw_tbl := lw_at lw_m1 22 rfl
theorem q32 : (Jvm.Cond.methodLink "SmDigestDesk" (43 : Nat) ({ cls := "Digest", name := "update", desc := "([BII)V" } : Jvm.MethodName)) ∈ lw_all := lw_g (lw_at lw_m1 23 rfl) rfl
theorem q85 : (Jvm.Cond.instanceMethod ({ cls := "SmDigestDesk", name := "one", desc := "(I)Z" } : Jvm.MethodName)) ∈ lw_all := lw_g (lw_at lw_m1 76 rfl) rfl
theorem q86 : (Jvm.Cond.selects "SmDigestDesk" ({ cls := "SmDigestDesk", name := "one", desc := "(I)Z" } : Jvm.MethodName) ({ cls := "SmDigestDesk", name := "one", desc := "(I)Z" } : Jvm.MethodName)) ∈ lw_all := lw_g (lw_at lw_m1 77 rfl) rfl
theorem q87 : (Jvm.Cond.code ({ cls := "SmDigestDesk", name := "one", desc := "(I)Z" } : Jvm.MethodName) prog_7_method_9_code (2 : Nat) (Option.some Jvm.ClassFile.FieldType.boolean)) ∈ lw_all := lw_g (lw_at lw_m1 78 rfl) rfl
theorem q88 : (Jvm.Cond.interfaceEntry "SmDigestDesk" (49 : Nat)) ∈ lw_tbl := lw_at lw_m1 79 rfl
theorem q89 : (Jvm.Cond.methodLink "SmDigestDesk" (49 : Nat) ({ cls := "Digest", name := "update", desc := "(B)V" } : Jvm.MethodName)) ∈ lw_all := lw_g (lw_at lw_m1 80 rfl) rfl
theorem q98 : (Jvm.Cond.instanceMethod ({ cls := "SmDigestDesk", name := "close", desc := "()I" } : Jvm.MethodName)) ∈ lw_all := lw_g (lw_at lw_m1 89 rfl) rfl
theorem q99 : (Jvm.Cond.selects "SmDigestDesk" ({ cls := "SmDigestDesk", name := "close", desc := "()I" } : Jvm.MethodName) ({ cls := "SmDigestDesk", name := "close", desc := "()I" } : Jvm.MethodName)) ∈ lw_all := lw_g (lw_at lw_m1 90 rfl) rfl
theorem q100 : (Jvm.Cond.code ({ cls := "SmDigestDesk", name := "close", desc := "()I" } : Jvm.MethodName) prog_7_method_10_code (1 : Nat) (Option.some Jvm.ClassFile.FieldType.int)) ∈ lw_all := lw_g (lw_at lw_m1 91 rfl) rfl
theorem q101 : (Jvm.Cond.interfaceEntry "SmDigestDesk" (52 : Nat)) ∈ lw_tbl := lw_at lw_m1 92 rfl
theorem q102 : (Jvm.Cond.methodLink "SmDigestDesk" (52 : Nat) ({ cls := "Digest", name := "doFinal", desc := "([BI)I" } : Jvm.MethodName)) ∈ lw_all := lw_g (lw_at lw_m1 93 rfl) rfl
theorem q150 : (Jvm.Cond.instanceMethod ({ cls := "SmDigestDesk", name := "drop", desc := "()V" } : Jvm.MethodName)) ∈ lw_all := lw_g (lw_at lw_m1 141 rfl) rfl
theorem q151 : (Jvm.Cond.selects "SmDigestDesk" ({ cls := "SmDigestDesk", name := "drop", desc := "()V" } : Jvm.MethodName) ({ cls := "SmDigestDesk", name := "drop", desc := "()V" } : Jvm.MethodName)) ∈ lw_all := lw_g (lw_at lw_m1 142 rfl) rfl
theorem q152 : (Jvm.Cond.code ({ cls := "SmDigestDesk", name := "drop", desc := "()V" } : Jvm.MethodName) prog_7_method_11_code (1 : Nat) (Option.none : Option Jvm.ClassFile.FieldType)) ∈ lw_all := lw_g (lw_at lw_m1 143 rfl) rfl
theorem q153 : (Jvm.Cond.interfaceEntry "SmDigestDesk" (56 : Nat)) ∈ lw_tbl := lw_at lw_m1 144 rfl
theorem q154 : (Jvm.Cond.methodLink "SmDigestDesk" (56 : Nat) ({ cls := "Digest", name := "reset", desc := "()V" } : Jvm.MethodName)) ∈ lw_all := lw_g (lw_at lw_m1 145 rfl) rfl
theorem q168 : (Jvm.Cond.instanceMethod ({ cls := "SmDigestDesk", name := "<init>", desc := "()V" } : Jvm.MethodName)) ∈ lw_all := lw_g (lw_at lw_m1 159 rfl) rfl
theorem q169 : (Jvm.Cond.code ({ cls := "SmDigestDesk", name := "<init>", desc := "()V" } : Jvm.MethodName) prog_7_method_1_code (1 : Nat) (Option.none : Option Jvm.ClassFile.FieldType)) ∈ lw_all := lw_g (lw_at lw_m1 160 rfl) rfl
theorem q170 : (Jvm.Cond.methodLink "SmDigestDesk" (1 : Nat) ({ cls := "java/lang/Object", name := "<init>", desc := "()V" } : Jvm.MethodName)) ∈ lw_all := lw_g (lw_at lw_m1 161 rfl) rfl
theorem q173 : (Jvm.Cond.classLink "SmDigestDesk" (7 : Nat) "SM3Digest") ∈ lw_all := lw_g (lw_at lw_m1 164 rfl) rfl
theorem q174 : (Jvm.Cond.methodLink "SmDigestDesk" (9 : Nat) ({ cls := "SM3Digest", name := "<init>", desc := "()V" } : Jvm.MethodName)) ∈ lw_all := lw_g (lw_at lw_m1 165 rfl) rfl
theorem q212 : (Jvm.Cond.fieldLink "SmDigestDesk" (10 : Nat) "SmDigestDesk" "run" "LDigest;") ∈ lw_all := lw_g (lw_at lw_m1 203 rfl) rfl
theorem q213 : (Jvm.Cond.fieldLink "SmDigestDesk" (16 : Nat) "SmDigestDesk" "out" "[B") ∈ lw_all := lw_g (lw_at lw_m1 204 rfl) rfl
theorem q214 : (Jvm.Cond.fieldLink "SmDigestDesk" (36 : Nat) "SmDigestDesk" "fed" "I") ∈ lw_all := lw_g (lw_at lw_m1 205 rfl) rfl
theorem q215 : (Jvm.Cond.fieldLink "SmDigestDesk" (20 : Nat) "SmDigestDesk" "text" "[B") ∈ lw_all := lw_g (lw_at lw_m1 206 rfl) rfl
theorem q216 : (Jvm.Cond.fieldLink "SmDigestDesk" (23 : Nat) "SmDigestDesk" "size" "I") ∈ lw_all := lw_g (lw_at lw_m1 207 rfl) rfl
theorem q217 : (Jvm.Cond.lays "SmDigestDesk" "SmDigestDesk" "run" "LDigest;") ∈ lw_all := lw_g (lw_at lw_m1 208 rfl) rfl
theorem q218 : (Jvm.Cond.soleField "SmDigestDesk" "run") ∈ lw_all := lw_g (lw_at lw_m1 209 rfl) rfl
theorem q219 : (Jvm.Cond.laysFinal "SmDigestDesk" "SmDigestDesk" "out" "[B") ∈ lw_all := lw_g (lw_at lw_m1 210 rfl) rfl
theorem q220 : (Jvm.Cond.soleField "SmDigestDesk" "out") ∈ lw_all := lw_g (lw_at lw_m1 211 rfl) rfl
theorem q221 : (Jvm.Cond.lays "SmDigestDesk" "SmDigestDesk" "fed" "I") ∈ lw_all := lw_g (lw_at lw_m1 212 rfl) rfl
theorem q222 : (Jvm.Cond.soleField "SmDigestDesk" "fed") ∈ lw_all := lw_g (lw_at lw_m1 213 rfl) rfl
theorem q223 : (Jvm.Cond.laysFinal "SmDigestDesk" "SmDigestDesk" "text" "[B") ∈ lw_all := lw_g (lw_at lw_m1 214 rfl) rfl
theorem q224 : (Jvm.Cond.soleField "SmDigestDesk" "text") ∈ lw_all := lw_g (lw_at lw_m1 215 rfl) rfl
theorem q225 : (Jvm.Cond.lays "SmDigestDesk" "SmDigestDesk" "size" "I") ∈ lw_all := lw_g (lw_at lw_m1 216 rfl) rfl
theorem q226 : (Jvm.Cond.soleField "SmDigestDesk" "size") ∈ lw_all := lw_g (lw_at lw_m1 217 rfl) rfl
theorem q227 : (Jvm.Cond.superclass "SmDigestDesk" "java/lang/Object") ∈ lw_all := lw_g (lw_at lw_m1 218 rfl) rfl
theorem q229 : (Jvm.Cond.instanceMethod ({ cls := "SmDigestDesk", name := "put", desc := "(IIII)Z" } : Jvm.MethodName)) ∈ lw_all := lw_g (lw_at lw_m1 220 rfl) rfl
theorem q230 : (Jvm.Cond.selects "SmDigestDesk" ({ cls := "SmDigestDesk", name := "put", desc := "(IIII)Z" } : Jvm.MethodName) ({ cls := "SmDigestDesk", name := "put", desc := "(IIII)Z" } : Jvm.MethodName)) ∈ lw_all := lw_g (lw_at lw_m1 221 rfl) rfl
theorem q231 : (Jvm.Cond.code ({ cls := "SmDigestDesk", name := "put", desc := "(IIII)Z" } : Jvm.MethodName) prog_7_method_2_code (5 : Nat) (Option.some Jvm.ClassFile.FieldType.boolean)) ∈ lw_all := lw_g (lw_at lw_m1 222 rfl) rfl
theorem q232 : (Jvm.Cond.methodLink "SmDigestDesk" (27 : Nat) ({ cls := "SmDigestDesk", name := "word", desc := "(II)V" } : Jvm.MethodName)) ∈ lw_all := lw_g (lw_at lw_m1 223 rfl) rfl
theorem q233 : (Jvm.Cond.privateMethod ({ cls := "SmDigestDesk", name := "word", desc := "(II)V" } : Jvm.MethodName)) ∈ lw_tbl := lw_at lw_m1 224 rfl
theorem q234 : (Jvm.Cond.instanceMethod ({ cls := "SmDigestDesk", name := "word", desc := "(II)V" } : Jvm.MethodName)) ∈ lw_all := lw_g (lw_at lw_m1 225 rfl) rfl
theorem q235 : (Jvm.Cond.code ({ cls := "SmDigestDesk", name := "word", desc := "(II)V" } : Jvm.MethodName) prog_7_method_3_code (3 : Nat) (Option.none : Option Jvm.ClassFile.FieldType)) ∈ lw_all := lw_g (lw_at lw_m1 226 rfl) rfl
theorem q237 : (Jvm.Cond.instanceMethod ({ cls := "SmDigestDesk", name := "trim", desc := "(I)V" } : Jvm.MethodName)) ∈ lw_all := lw_g (lw_at lw_m1 228 rfl) rfl
theorem q238 : (Jvm.Cond.selects "SmDigestDesk" ({ cls := "SmDigestDesk", name := "trim", desc := "(I)V" } : Jvm.MethodName) ({ cls := "SmDigestDesk", name := "trim", desc := "(I)V" } : Jvm.MethodName)) ∈ lw_all := lw_g (lw_at lw_m1 229 rfl) rfl
theorem q239 : (Jvm.Cond.code ({ cls := "SmDigestDesk", name := "trim", desc := "(I)V" } : Jvm.MethodName) prog_7_method_4_code (2 : Nat) (Option.none : Option Jvm.ClassFile.FieldType)) ∈ lw_all := lw_g (lw_at lw_m1 230 rfl) rfl
theorem q241 : (Jvm.Cond.instanceMethod ({ cls := "SmDigestDesk", name := "begin", desc := "(I)V" } : Jvm.MethodName)) ∈ lw_all := lw_g (lw_at lw_m1 232 rfl) rfl
theorem q242 : (Jvm.Cond.selects "SmDigestDesk" ({ cls := "SmDigestDesk", name := "begin", desc := "(I)V" } : Jvm.MethodName) ({ cls := "SmDigestDesk", name := "begin", desc := "(I)V" } : Jvm.MethodName)) ∈ lw_all := lw_g (lw_at lw_m1 233 rfl) rfl
theorem q243 : (Jvm.Cond.code ({ cls := "SmDigestDesk", name := "begin", desc := "(I)V" } : Jvm.MethodName) prog_7_method_7_code (2 : Nat) (Option.none : Option Jvm.ClassFile.FieldType)) ∈ lw_all := lw_g (lw_at lw_m1 234 rfl) rfl
theorem q248 : (Jvm.Cond.instanceMethod ({ cls := "SmDigestDesk", name := "out", desc := "(I)I" } : Jvm.MethodName)) ∈ lw_all := lw_g (lw_at lw_m1 239 rfl) rfl
theorem q249 : (Jvm.Cond.selects "SmDigestDesk" ({ cls := "SmDigestDesk", name := "out", desc := "(I)I" } : Jvm.MethodName) ({ cls := "SmDigestDesk", name := "out", desc := "(I)I" } : Jvm.MethodName)) ∈ lw_all := lw_g (lw_at lw_m2 0 rfl) rfl
theorem q250 : (Jvm.Cond.code ({ cls := "SmDigestDesk", name := "out", desc := "(I)I" } : Jvm.MethodName) prog_7_method_12_code (2 : Nat) (Option.some Jvm.ClassFile.FieldType.int)) ∈ lw_all := lw_g (lw_at lw_m2 1 rfl) rfl
theorem in_X1 : ∀ w ∈ wsX10, w ∈ lw_all := lw_in wsX10 [217, 219, 221, 223, 225] (by decide +kernel) (by decide +kernel)
end
section
/-! SmDigestDeskLaw -/
set_option maxRecDepth 100000
def RX0 : String := "SmDigestDeskLaw"
abbrev cX0_cell : ByteArray := method_2_code
def yX0_cell : MethodName := ⟨RX0, "cell", "([II)I"⟩
def dkwX0_cell_0 : List UInt8 := [27, 42, 190, 162, 0, 9, 42, 27, 46, 167, 0, 4, 3, 172]
abbrev dktX0_cell_0 : List UInt8 := dkwX0_cell_0 ++ []
theorem dksX0_cell_0 : cX0_cell.data.toList.drop 0 = dktX0_cell_0 := by decide +kernel
theorem dX0_cell_0 : decode cX0_cell 0 = .ok (.iload_n 1, 1) := dk_27 (dk_at dksX0_cell_0 0 rfl rfl)
theorem dX0_cell_1 : decode cX0_cell 1 = .ok (.aload_n 0, 1) := dk_42 (dk_at dksX0_cell_0 1 rfl rfl)
theorem dX0_cell_2 : decode cX0_cell 2 = .ok (.arraylength, 1) := dk_190 (dk_at dksX0_cell_0 2 rfl rfl)
theorem dX0_cell_3 : decode cX0_cell 3 = .ok (.if_icmp .ge 9, 3) := dk_162 0 9 (dk_at dksX0_cell_0 3 rfl rfl)
theorem dX0_cell_6 : decode cX0_cell 6 = .ok (.aload_n 0, 1) := dk_42 (dk_at dksX0_cell_0 6 rfl rfl)
theorem dX0_cell_7 : decode cX0_cell 7 = .ok (.iload_n 1, 1) := dk_27 (dk_at dksX0_cell_0 7 rfl rfl)
theorem dX0_cell_8 : decode cX0_cell 8 = .ok (.iaload, 1) := dk_46 (dk_at dksX0_cell_0 8 rfl rfl)
theorem dX0_cell_9 : decode cX0_cell 9 = .ok (.goto 4, 3) := dk_167 0 4 (dk_at dksX0_cell_0 9 rfl rfl)
theorem dX0_cell_12 : decode cX0_cell 12 = .ok (.iconst 0, 1) := dk_3 (dk_at dksX0_cell_0 12 rfl rfl)
theorem dX0_cell_13 : decode cX0_cell 13 = .ok (.ireturn, 1) := dk_172 (dk_at dksX0_cell_0 13 rfl rfl)
abbrev cX0_made : ByteArray := method_3_code
def yX0_made : MethodName := ⟨RX0, "made", "([II)LSmDigestDesk;"⟩
def dkwX0_made_2 : List UInt8 := [132, 3, 4, 167, 255, 216, 44, 42, 4, 184, 0, 10, 182, 0, 20, 44, 27, 182, 0, 24, 44, 176]
abbrev dktX0_made_2 : List UInt8 := dkwX0_made_2 ++ []
def dkwX0_made_1 : List UInt8 := [4, 96, 184, 0, 10, 42, 29, 5, 96, 184, 0, 10, 42, 29, 6, 96, 184, 0, 10, 182, 0, 16, 87]
abbrev dktX0_made_1 : List UInt8 := dkwX0_made_1 ++ dktX0_made_2
def dkwX0_made_0 : List UInt8 := [187, 0, 7, 89, 183, 0, 9, 77, 5, 62, 29, 16, 42, 162, 0, 40, 44, 42, 29, 184, 0, 10, 42, 29]
abbrev dktX0_made_0 : List UInt8 := dkwX0_made_0 ++ dktX0_made_1
theorem dksX0_made_0 : cX0_made.data.toList.drop 0 = dktX0_made_0 := by decide +kernel
theorem dksX0_made_1 : cX0_made.data.toList.drop 24 = dktX0_made_1 := dk_seg dksX0_made_0 24 rfl rfl
theorem dksX0_made_2 : cX0_made.data.toList.drop 47 = dktX0_made_2 := dk_seg dksX0_made_1 23 rfl rfl
theorem dX0_made_0 : decode cX0_made 0 = .ok (.new 7, 3) := dk_187 0 7 (dk_at dksX0_made_0 0 rfl rfl)
theorem dX0_made_3 : decode cX0_made 3 = .ok (.dup, 1) := dk_89 (dk_at dksX0_made_0 3 rfl rfl)
theorem dX0_made_4 : decode cX0_made 4 = .ok (.invokespecial 9, 3) := dk_183 0 9 (dk_at dksX0_made_0 4 rfl rfl)
theorem dX0_made_7 : decode cX0_made 7 = .ok (.astore_n 2, 1) := dk_77 (dk_at dksX0_made_0 7 rfl rfl)
theorem dX0_made_8 : decode cX0_made 8 = .ok (.iconst 2, 1) := dk_5 (dk_at dksX0_made_0 8 rfl rfl)
theorem dX0_made_9 : decode cX0_made 9 = .ok (.istore_n 3, 1) := dk_62 (dk_at dksX0_made_0 9 rfl rfl)
theorem dX0_made_10 : decode cX0_made 10 = .ok (.iload_n 3, 1) := dk_29 (dk_at dksX0_made_0 10 rfl rfl)
theorem dX0_made_11 : decode cX0_made 11 = .ok (.bipush 42, 2) := dk_16 42 (dk_at dksX0_made_0 11 rfl rfl)
theorem dX0_made_13 : decode cX0_made 13 = .ok (.if_icmp .ge 40, 3) := dk_162 0 40 (dk_at dksX0_made_0 13 rfl rfl)
theorem dX0_made_16 : decode cX0_made 16 = .ok (.aload_n 2, 1) := dk_44 (dk_at dksX0_made_0 16 rfl rfl)
theorem dX0_made_17 : decode cX0_made 17 = .ok (.aload_n 0, 1) := dk_42 (dk_at dksX0_made_0 17 rfl rfl)
theorem dX0_made_18 : decode cX0_made 18 = .ok (.iload_n 3, 1) := dk_29 (dk_at dksX0_made_0 18 rfl rfl)
theorem dX0_made_19 : decode cX0_made 19 = .ok (.invokestatic 10, 3) := dk_184 0 10 (dk_at dksX0_made_0 19 rfl rfl)
theorem dX0_made_22 : decode cX0_made 22 = .ok (.aload_n 0, 1) := dk_42 (dk_at dksX0_made_0 22 rfl rfl)
theorem dX0_made_23 : decode cX0_made 23 = .ok (.iload_n 3, 1) := dk_29 (dk_at dksX0_made_0 23 rfl rfl)
theorem dX0_made_24 : decode cX0_made 24 = .ok (.iconst 1, 1) := dk_4 (dk_at dksX0_made_1 0 rfl rfl)
theorem dX0_made_25 : decode cX0_made 25 = .ok (.iadd, 1) := dk_96 (dk_at dksX0_made_1 1 rfl rfl)
theorem dX0_made_26 : decode cX0_made 26 = .ok (.invokestatic 10, 3) := dk_184 0 10 (dk_at dksX0_made_1 2 rfl rfl)
theorem dX0_made_29 : decode cX0_made 29 = .ok (.aload_n 0, 1) := dk_42 (dk_at dksX0_made_1 5 rfl rfl)
theorem dX0_made_30 : decode cX0_made 30 = .ok (.iload_n 3, 1) := dk_29 (dk_at dksX0_made_1 6 rfl rfl)
theorem dX0_made_31 : decode cX0_made 31 = .ok (.iconst 2, 1) := dk_5 (dk_at dksX0_made_1 7 rfl rfl)
theorem dX0_made_32 : decode cX0_made 32 = .ok (.iadd, 1) := dk_96 (dk_at dksX0_made_1 8 rfl rfl)
theorem dX0_made_33 : decode cX0_made 33 = .ok (.invokestatic 10, 3) := dk_184 0 10 (dk_at dksX0_made_1 9 rfl rfl)
theorem dX0_made_36 : decode cX0_made 36 = .ok (.aload_n 0, 1) := dk_42 (dk_at dksX0_made_1 12 rfl rfl)
theorem dX0_made_37 : decode cX0_made 37 = .ok (.iload_n 3, 1) := dk_29 (dk_at dksX0_made_1 13 rfl rfl)
theorem dX0_made_38 : decode cX0_made 38 = .ok (.iconst 3, 1) := dk_6 (dk_at dksX0_made_1 14 rfl rfl)
theorem dX0_made_39 : decode cX0_made 39 = .ok (.iadd, 1) := dk_96 (dk_at dksX0_made_1 15 rfl rfl)
theorem dX0_made_40 : decode cX0_made 40 = .ok (.invokestatic 10, 3) := dk_184 0 10 (dk_at dksX0_made_1 16 rfl rfl)
theorem dX0_made_43 : decode cX0_made 43 = .ok (.invokevirtual 16, 3) := dk_182 0 16 (dk_at dksX0_made_1 19 rfl rfl)
theorem dX0_made_46 : decode cX0_made 46 = .ok (.pop, 1) := dk_87 (dk_at dksX0_made_1 22 rfl rfl)
theorem dX0_made_47 : decode cX0_made 47 = .ok (.iinc 3 4, 3) := dk_132 3 4 (dk_at dksX0_made_2 0 rfl rfl)
theorem dX0_made_50 : decode cX0_made 50 = .ok (.goto (-40), 3) := dk_167 255 216 (dk_at dksX0_made_2 3 rfl rfl)
theorem dX0_made_53 : decode cX0_made 53 = .ok (.aload_n 2, 1) := dk_44 (dk_at dksX0_made_2 6 rfl rfl)
theorem dX0_made_54 : decode cX0_made 54 = .ok (.aload_n 0, 1) := dk_42 (dk_at dksX0_made_2 7 rfl rfl)
theorem dX0_made_55 : decode cX0_made 55 = .ok (.iconst 1, 1) := dk_4 (dk_at dksX0_made_2 8 rfl rfl)
theorem dX0_made_56 : decode cX0_made 56 = .ok (.invokestatic 10, 3) := dk_184 0 10 (dk_at dksX0_made_2 9 rfl rfl)
theorem dX0_made_59 : decode cX0_made 59 = .ok (.invokevirtual 20, 3) := dk_182 0 20 (dk_at dksX0_made_2 12 rfl rfl)
theorem dX0_made_62 : decode cX0_made 62 = .ok (.aload_n 2, 1) := dk_44 (dk_at dksX0_made_2 15 rfl rfl)
theorem dX0_made_63 : decode cX0_made 63 = .ok (.iload_n 1, 1) := dk_27 (dk_at dksX0_made_2 16 rfl rfl)
theorem dX0_made_64 : decode cX0_made 64 = .ok (.invokevirtual 24, 3) := dk_182 0 24 (dk_at dksX0_made_2 17 rfl rfl)
theorem dX0_made_67 : decode cX0_made 67 = .ok (.aload_n 2, 1) := dk_44 (dk_at dksX0_made_2 20 rfl rfl)
theorem dX0_made_68 : decode cX0_made 68 = .ok (.areturn, 1) := dk_176 (dk_at dksX0_made_2 21 rfl rfl)
abbrev cX0_same : ByteArray := method_4_code
def yX0_same : MethodName := ⟨RX0, "same", "(LSmDigestDesk;LSmDigestDesk;)Z"⟩
def dkwX0_same_1 : List UInt8 := [132, 2, 1, 167, 255, 232, 4, 172]
abbrev dktX0_same_1 : List UInt8 := dkwX0_same_1 ++ []
def dkwX0_same_0 : List UInt8 := [3, 61, 28, 16, 64, 162, 0, 24, 42, 28, 182, 0, 27, 43, 28, 182, 0, 27, 159, 0, 5, 3, 172]
abbrev dktX0_same_0 : List UInt8 := dkwX0_same_0 ++ dktX0_same_1
theorem dksX0_same_0 : cX0_same.data.toList.drop 0 = dktX0_same_0 := by decide +kernel
theorem dksX0_same_1 : cX0_same.data.toList.drop 23 = dktX0_same_1 := dk_seg dksX0_same_0 23 rfl rfl
theorem dX0_same_0 : decode cX0_same 0 = .ok (.iconst 0, 1) := dk_3 (dk_at dksX0_same_0 0 rfl rfl)
theorem dX0_same_1 : decode cX0_same 1 = .ok (.istore_n 2, 1) := dk_61 (dk_at dksX0_same_0 1 rfl rfl)
theorem dX0_same_2 : decode cX0_same 2 = .ok (.iload_n 2, 1) := dk_28 (dk_at dksX0_same_0 2 rfl rfl)
theorem dX0_same_3 : decode cX0_same 3 = .ok (.bipush 64, 2) := dk_16 64 (dk_at dksX0_same_0 3 rfl rfl)
theorem dX0_same_5 : decode cX0_same 5 = .ok (.if_icmp .ge 24, 3) := dk_162 0 24 (dk_at dksX0_same_0 5 rfl rfl)
theorem dX0_same_8 : decode cX0_same 8 = .ok (.aload_n 0, 1) := dk_42 (dk_at dksX0_same_0 8 rfl rfl)
theorem dX0_same_9 : decode cX0_same 9 = .ok (.iload_n 2, 1) := dk_28 (dk_at dksX0_same_0 9 rfl rfl)
theorem dX0_same_10 : decode cX0_same 10 = .ok (.invokevirtual 27, 3) := dk_182 0 27 (dk_at dksX0_same_0 10 rfl rfl)
theorem dX0_same_13 : decode cX0_same 13 = .ok (.aload_n 1, 1) := dk_43 (dk_at dksX0_same_0 13 rfl rfl)
theorem dX0_same_14 : decode cX0_same 14 = .ok (.iload_n 2, 1) := dk_28 (dk_at dksX0_same_0 14 rfl rfl)
theorem dX0_same_15 : decode cX0_same 15 = .ok (.invokevirtual 27, 3) := dk_182 0 27 (dk_at dksX0_same_0 15 rfl rfl)
theorem dX0_same_18 : decode cX0_same 18 = .ok (.if_icmp .eq 5, 3) := dk_159 0 5 (dk_at dksX0_same_0 18 rfl rfl)
theorem dX0_same_21 : decode cX0_same 21 = .ok (.iconst 0, 1) := dk_3 (dk_at dksX0_same_0 21 rfl rfl)
theorem dX0_same_22 : decode cX0_same 22 = .ok (.ireturn, 1) := dk_172 (dk_at dksX0_same_0 22 rfl rfl)
theorem dX0_same_23 : decode cX0_same 23 = .ok (.iinc 2 1, 3) := dk_132 2 1 (dk_at dksX0_same_1 0 rfl rfl)
theorem dX0_same_26 : decode cX0_same 26 = .ok (.goto (-24), 3) := dk_167 255 232 (dk_at dksX0_same_1 3 rfl rfl)
theorem dX0_same_29 : decode cX0_same 29 = .ok (.iconst 1, 1) := dk_4 (dk_at dksX0_same_1 6 rfl rfl)
theorem dX0_same_30 : decode cX0_same 30 = .ok (.ireturn, 1) := dk_172 (dk_at dksX0_same_1 7 rfl rfl)
abbrev cX0_known : ByteArray := method_5_code
def yX0_known : MethodName := ⟨RX0, "known", "()Z"⟩
def dkwX0_known_23 : List UInt8 := [4, 172]
abbrev dktX0_known_23 : List UInt8 := dkwX0_known_23 ++ []
def dkwX0_known_22 : List UInt8 := [162, 0, 24, 44, 21, 4, 182, 0, 27, 45, 21, 4, 46, 159, 0, 5, 3, 172, 132, 4, 1, 167, 255, 231]
abbrev dktX0_known_22 : List UInt8 := dkwX0_known_22 ++ dktX0_known_23
def dkwX0_known_21 : List UInt8 := [79, 89, 16, 30, 17, 0, 168, 79, 89, 16, 31, 17, 0, 224, 79, 78, 3, 54, 4, 21, 4, 16, 32]
abbrev dktX0_known_21 : List UInt8 := dkwX0_known_21 ++ dktX0_known_22
def dkwX0_known_20 : List UInt8 := [16, 26, 17, 0, 160, 79, 89, 16, 27, 16, 43, 79, 89, 16, 28, 17, 0, 143, 79, 89, 16, 29, 16, 75]
abbrev dktX0_known_20 : List UInt8 := dkwX0_known_20 ++ dktX0_known_21
def dkwX0_known_19 : List UInt8 := [17, 0, 247, 79, 89, 16, 23, 17, 0, 162, 79, 89, 16, 24, 16, 41, 79, 89, 16, 25, 16, 125, 79, 89]
abbrev dktX0_known_19 : List UInt8 := dkwX0_known_19 ++ dktX0_known_20
def dkwX0_known_18 : List UInt8 := [16, 19, 17, 0, 135, 79, 89, 16, 20, 16, 92, 79, 89, 16, 21, 17, 0, 242, 79, 89, 16, 22]
abbrev dktX0_known_18 : List UInt8 := dkwX0_known_18 ++ dktX0_known_19
def dkwX0_known_17 : List UInt8 := [17, 0, 226, 79, 89, 16, 16, 16, 65, 79, 89, 16, 17, 16, 103, 79, 89, 16, 18, 17, 0, 196, 79, 89]
abbrev dktX0_known_17 : List UInt8 := dkwX0_known_17 ++ dktX0_known_18
def dkwX0_known_16 : List UInt8 := [89, 16, 12, 17, 0, 220, 79, 89, 16, 13, 16, 16, 79, 89, 16, 14, 17, 0, 228, 79, 89, 16, 15]
abbrev dktX0_known_16 : List UInt8 := dkwX0_known_16 ++ dktX0_known_17
def dkwX0_known_15 : List UInt8 := [17, 0, 209, 79, 89, 16, 9, 17, 0, 242, 79, 89, 16, 10, 17, 0, 212, 79, 89, 16, 11, 16, 107, 79]
abbrev dktX0_known_15 : List UInt8 := dkwX0_known_15 ++ dktX0_known_16
def dkwX0_known_14 : List UInt8 := [89, 8, 17, 0, 238, 79, 89, 16, 6, 17, 0, 237, 79, 89, 16, 7, 17, 0, 217, 79, 89, 16, 8]
abbrev dktX0_known_14 : List UInt8 := dkwX0_known_14 ++ dktX0_known_15
def dkwX0_known_13 : List UInt8 := [79, 89, 4, 17, 0, 199, 79, 89, 5, 17, 0, 240, 79, 89, 6, 17, 0, 244, 79, 89, 7, 16, 98, 79]
abbrev dktX0_known_13 : List UInt8 := dkwX0_known_13 ++ dktX0_known_14
def dkwX0_known_12 : List UInt8 := [3, 182, 0, 24, 44, 3, 6, 182, 0, 31, 87, 44, 182, 0, 35, 87, 16, 32, 188, 10, 89, 3, 16, 102]
abbrev dktX0_known_12 : List UInt8 := dkwX0_known_12 ++ dktX0_known_13
def dkwX0_known_11 : List UInt8 := [187, 0, 7, 89, 183, 0, 9, 77, 44, 18, 39, 3, 3, 3, 182, 0, 16, 87, 44, 6, 182, 0, 20, 44]
abbrev dktX0_known_11 : List UInt8 := dkwX0_known_11 ++ dktX0_known_12
def dkwX0_known_10 : List UInt8 := [16, 32, 162, 0, 22, 42, 28, 182, 0, 27, 43, 28, 46, 159, 0, 5, 3, 172, 132, 2, 1, 167, 255, 234]
abbrev dktX0_known_10 : List UInt8 := dkwX0_known_10 ++ dktX0_known_11
def dkwX0_known_9 : List UInt8 := [16, 29, 17, 0, 130, 79, 89, 16, 30, 17, 0, 170, 79, 89, 16, 31, 16, 43, 79, 76, 3, 61, 28]
abbrev dktX0_known_9 : List UInt8 := dkwX0_known_9 ++ dktX0_known_10
def dkwX0_known_8 : List UInt8 := [17, 0, 208, 79, 89, 16, 26, 16, 53, 79, 89, 16, 27, 17, 0, 235, 79, 89, 16, 28, 16, 80, 79, 89]
abbrev dktX0_known_8 : List UInt8 := dkwX0_known_8 ++ dktX0_known_9
def dkwX0_known_7 : List UInt8 := [89, 16, 22, 17, 0, 251, 79, 89, 16, 23, 16, 116, 79, 89, 16, 24, 16, 126, 79, 89, 16, 25]
abbrev dktX0_known_7 : List UInt8 := dkwX0_known_7 ++ dktX0_known_8
def dkwX0_known_6 : List UInt8 := [17, 0, 200, 79, 89, 16, 19, 17, 0, 199, 79, 89, 16, 20, 16, 40, 79, 89, 16, 21, 17, 0, 254, 79]
abbrev dktX0_known_6 : List UInt8 := dkwX0_known_6 ++ dktX0_known_7
def dkwX0_known_5 : List UInt8 := [79, 89, 16, 15, 17, 0, 143, 79, 89, 16, 16, 16, 34, 79, 89, 16, 17, 17, 0, 190, 79, 89, 16, 18]
abbrev dktX0_known_5 : List UInt8 := dkwX0_known_5 ++ dktX0_known_6
def dkwX0_known_4 : List UInt8 := [89, 16, 11, 16, 72, 79, 89, 16, 12, 16, 49, 79, 89, 16, 13, 17, 0, 232, 79, 89, 16, 14, 16, 26]
abbrev dktX0_known_4 : List UInt8 := dkwX0_known_4 ++ dktX0_known_5
def dkwX0_known_3 : List UInt8 := [16, 7, 16, 127, 79, 89, 16, 8, 17, 0, 142, 79, 89, 16, 9, 16, 97, 79, 89, 16, 10, 16, 25, 79]
abbrev dktX0_known_3 : List UInt8 := dkwX0_known_3 ++ dktX0_known_4
def dkwX0_known_2 : List UInt8 := [17, 0, 131, 79, 89, 7, 16, 85, 79, 89, 8, 17, 0, 207, 79, 89, 16, 6, 17, 0, 161, 79, 89]
abbrev dktX0_known_2 : List UInt8 := dkwX0_known_2 ++ dktX0_known_3
def dkwX0_known_1 : List UInt8 := [87, 16, 32, 188, 10, 89, 3, 16, 26, 79, 89, 4, 17, 0, 178, 79, 89, 5, 16, 29, 79, 89, 6]
abbrev dktX0_known_1 : List UInt8 := dkwX0_known_1 ++ dktX0_known_2
def dkwX0_known_0 : List UInt8 := [187, 0, 7, 89, 183, 0, 9, 75, 42, 3, 182, 0, 24, 42, 3, 3, 182, 0, 31, 87, 42, 182, 0, 35]
abbrev dktX0_known_0 : List UInt8 := dkwX0_known_0 ++ dktX0_known_1
theorem dksX0_known_0 : cX0_known.data.toList.drop 0 = dktX0_known_0 := by decide +kernel
theorem dksX0_known_1 : cX0_known.data.toList.drop 24 = dktX0_known_1 := dk_seg dksX0_known_0 24 rfl rfl
theorem dksX0_known_2 : cX0_known.data.toList.drop 47 = dktX0_known_2 := dk_seg dksX0_known_1 23 rfl rfl
theorem dksX0_known_3 : cX0_known.data.toList.drop 70 = dktX0_known_3 := dk_seg dksX0_known_2 23 rfl rfl
theorem dksX0_known_4 : cX0_known.data.toList.drop 94 = dktX0_known_4 := dk_seg dksX0_known_3 24 rfl rfl
theorem dksX0_known_5 : cX0_known.data.toList.drop 118 = dktX0_known_5 := dk_seg dksX0_known_4 24 rfl rfl
theorem dksX0_known_6 : cX0_known.data.toList.drop 142 = dktX0_known_6 := dk_seg dksX0_known_5 24 rfl rfl
theorem dksX0_known_7 : cX0_known.data.toList.drop 166 = dktX0_known_7 := dk_seg dksX0_known_6 24 rfl rfl
theorem dksX0_known_8 : cX0_known.data.toList.drop 188 = dktX0_known_8 := dk_seg dksX0_known_7 22 rfl rfl
theorem dksX0_known_9 : cX0_known.data.toList.drop 212 = dktX0_known_9 := dk_seg dksX0_known_8 24 rfl rfl
theorem dksX0_known_10 : cX0_known.data.toList.drop 235 = dktX0_known_10 := dk_seg dksX0_known_9 23 rfl rfl
theorem dksX0_known_11 : cX0_known.data.toList.drop 259 = dktX0_known_11 := dk_seg dksX0_known_10 24 rfl rfl
theorem dksX0_known_12 : cX0_known.data.toList.drop 283 = dktX0_known_12 := dk_seg dksX0_known_11 24 rfl rfl
theorem dksX0_known_13 : cX0_known.data.toList.drop 307 = dktX0_known_13 := dk_seg dksX0_known_12 24 rfl rfl
theorem dksX0_known_14 : cX0_known.data.toList.drop 331 = dktX0_known_14 := dk_seg dksX0_known_13 24 rfl rfl
theorem dksX0_known_15 : cX0_known.data.toList.drop 354 = dktX0_known_15 := dk_seg dksX0_known_14 23 rfl rfl
theorem dksX0_known_16 : cX0_known.data.toList.drop 378 = dktX0_known_16 := dk_seg dksX0_known_15 24 rfl rfl
theorem dksX0_known_17 : cX0_known.data.toList.drop 401 = dktX0_known_17 := dk_seg dksX0_known_16 23 rfl rfl
theorem dksX0_known_18 : cX0_known.data.toList.drop 425 = dktX0_known_18 := dk_seg dksX0_known_17 24 rfl rfl
theorem dksX0_known_19 : cX0_known.data.toList.drop 447 = dktX0_known_19 := dk_seg dksX0_known_18 22 rfl rfl
theorem dksX0_known_20 : cX0_known.data.toList.drop 471 = dktX0_known_20 := dk_seg dksX0_known_19 24 rfl rfl
theorem dksX0_known_21 : cX0_known.data.toList.drop 495 = dktX0_known_21 := dk_seg dksX0_known_20 24 rfl rfl
theorem dksX0_known_22 : cX0_known.data.toList.drop 518 = dktX0_known_22 := dk_seg dksX0_known_21 23 rfl rfl
theorem dksX0_known_23 : cX0_known.data.toList.drop 542 = dktX0_known_23 := dk_seg dksX0_known_22 24 rfl rfl
theorem dX0_known_0 : decode cX0_known 0 = .ok (.new 7, 3) := dk_187 0 7 (dk_at dksX0_known_0 0 rfl rfl)
theorem dX0_known_3 : decode cX0_known 3 = .ok (.dup, 1) := dk_89 (dk_at dksX0_known_0 3 rfl rfl)
theorem dX0_known_4 : decode cX0_known 4 = .ok (.invokespecial 9, 3) := dk_183 0 9 (dk_at dksX0_known_0 4 rfl rfl)
theorem dX0_known_7 : decode cX0_known 7 = .ok (.astore_n 0, 1) := dk_75 (dk_at dksX0_known_0 7 rfl rfl)
theorem dX0_known_8 : decode cX0_known 8 = .ok (.aload_n 0, 1) := dk_42 (dk_at dksX0_known_0 8 rfl rfl)
theorem dX0_known_9 : decode cX0_known 9 = .ok (.iconst 0, 1) := dk_3 (dk_at dksX0_known_0 9 rfl rfl)
theorem dX0_known_10 : decode cX0_known 10 = .ok (.invokevirtual 24, 3) := dk_182 0 24 (dk_at dksX0_known_0 10 rfl rfl)
theorem dX0_known_13 : decode cX0_known 13 = .ok (.aload_n 0, 1) := dk_42 (dk_at dksX0_known_0 13 rfl rfl)
theorem dX0_known_14 : decode cX0_known 14 = .ok (.iconst 0, 1) := dk_3 (dk_at dksX0_known_0 14 rfl rfl)
theorem dX0_known_15 : decode cX0_known 15 = .ok (.iconst 0, 1) := dk_3 (dk_at dksX0_known_0 15 rfl rfl)
theorem dX0_known_16 : decode cX0_known 16 = .ok (.invokevirtual 31, 3) := dk_182 0 31 (dk_at dksX0_known_0 16 rfl rfl)
theorem dX0_known_19 : decode cX0_known 19 = .ok (.pop, 1) := dk_87 (dk_at dksX0_known_0 19 rfl rfl)
theorem dX0_known_20 : decode cX0_known 20 = .ok (.aload_n 0, 1) := dk_42 (dk_at dksX0_known_0 20 rfl rfl)
theorem dX0_known_21 : decode cX0_known 21 = .ok (.invokevirtual 35, 3) := dk_182 0 35 (dk_at dksX0_known_0 21 rfl rfl)
theorem dX0_known_24 : decode cX0_known 24 = .ok (.pop, 1) := dk_87 (dk_at dksX0_known_1 0 rfl rfl)
theorem dX0_known_25 : decode cX0_known 25 = .ok (.bipush 32, 2) := dk_16 32 (dk_at dksX0_known_1 1 rfl rfl)
theorem dX0_known_27 : decode cX0_known 27 = .ok (.newarray .int, 2) := dk_188_10 (dk_at dksX0_known_1 3 rfl rfl)
theorem dX0_known_29 : decode cX0_known 29 = .ok (.dup, 1) := dk_89 (dk_at dksX0_known_1 5 rfl rfl)
theorem dX0_known_30 : decode cX0_known 30 = .ok (.iconst 0, 1) := dk_3 (dk_at dksX0_known_1 6 rfl rfl)
theorem dX0_known_31 : decode cX0_known 31 = .ok (.bipush 26, 2) := dk_16 26 (dk_at dksX0_known_1 7 rfl rfl)
theorem dX0_known_33 : decode cX0_known 33 = .ok (.iastore, 1) := dk_79 (dk_at dksX0_known_1 9 rfl rfl)
theorem dX0_known_34 : decode cX0_known 34 = .ok (.dup, 1) := dk_89 (dk_at dksX0_known_1 10 rfl rfl)
theorem dX0_known_35 : decode cX0_known 35 = .ok (.iconst 1, 1) := dk_4 (dk_at dksX0_known_1 11 rfl rfl)
theorem dX0_known_36 : decode cX0_known 36 = .ok (.sipush 178, 3) := dk_17 0 178 (dk_at dksX0_known_1 12 rfl rfl)
theorem dX0_known_39 : decode cX0_known 39 = .ok (.iastore, 1) := dk_79 (dk_at dksX0_known_1 15 rfl rfl)
theorem dX0_known_40 : decode cX0_known 40 = .ok (.dup, 1) := dk_89 (dk_at dksX0_known_1 16 rfl rfl)
theorem dX0_known_41 : decode cX0_known 41 = .ok (.iconst 2, 1) := dk_5 (dk_at dksX0_known_1 17 rfl rfl)
theorem dX0_known_42 : decode cX0_known 42 = .ok (.bipush 29, 2) := dk_16 29 (dk_at dksX0_known_1 18 rfl rfl)
theorem dX0_known_44 : decode cX0_known 44 = .ok (.iastore, 1) := dk_79 (dk_at dksX0_known_1 20 rfl rfl)
theorem dX0_known_45 : decode cX0_known 45 = .ok (.dup, 1) := dk_89 (dk_at dksX0_known_1 21 rfl rfl)
theorem dX0_known_46 : decode cX0_known 46 = .ok (.iconst 3, 1) := dk_6 (dk_at dksX0_known_1 22 rfl rfl)
theorem dX0_known_47 : decode cX0_known 47 = .ok (.sipush 131, 3) := dk_17 0 131 (dk_at dksX0_known_2 0 rfl rfl)
theorem dX0_known_50 : decode cX0_known 50 = .ok (.iastore, 1) := dk_79 (dk_at dksX0_known_2 3 rfl rfl)
theorem dX0_known_51 : decode cX0_known 51 = .ok (.dup, 1) := dk_89 (dk_at dksX0_known_2 4 rfl rfl)
theorem dX0_known_52 : decode cX0_known 52 = .ok (.iconst 4, 1) := dk_7 (dk_at dksX0_known_2 5 rfl rfl)
theorem dX0_known_53 : decode cX0_known 53 = .ok (.bipush 85, 2) := dk_16 85 (dk_at dksX0_known_2 6 rfl rfl)
theorem dX0_known_55 : decode cX0_known 55 = .ok (.iastore, 1) := dk_79 (dk_at dksX0_known_2 8 rfl rfl)
theorem dX0_known_56 : decode cX0_known 56 = .ok (.dup, 1) := dk_89 (dk_at dksX0_known_2 9 rfl rfl)
theorem dX0_known_57 : decode cX0_known 57 = .ok (.iconst 5, 1) := dk_8 (dk_at dksX0_known_2 10 rfl rfl)
theorem dX0_known_58 : decode cX0_known 58 = .ok (.sipush 207, 3) := dk_17 0 207 (dk_at dksX0_known_2 11 rfl rfl)
theorem dX0_known_61 : decode cX0_known 61 = .ok (.iastore, 1) := dk_79 (dk_at dksX0_known_2 14 rfl rfl)
theorem dX0_known_62 : decode cX0_known 62 = .ok (.dup, 1) := dk_89 (dk_at dksX0_known_2 15 rfl rfl)
theorem dX0_known_63 : decode cX0_known 63 = .ok (.bipush 6, 2) := dk_16 6 (dk_at dksX0_known_2 16 rfl rfl)
theorem dX0_known_65 : decode cX0_known 65 = .ok (.sipush 161, 3) := dk_17 0 161 (dk_at dksX0_known_2 18 rfl rfl)
theorem dX0_known_68 : decode cX0_known 68 = .ok (.iastore, 1) := dk_79 (dk_at dksX0_known_2 21 rfl rfl)
theorem dX0_known_69 : decode cX0_known 69 = .ok (.dup, 1) := dk_89 (dk_at dksX0_known_2 22 rfl rfl)
theorem dX0_known_70 : decode cX0_known 70 = .ok (.bipush 7, 2) := dk_16 7 (dk_at dksX0_known_3 0 rfl rfl)
theorem dX0_known_72 : decode cX0_known 72 = .ok (.bipush 127, 2) := dk_16 127 (dk_at dksX0_known_3 2 rfl rfl)
theorem dX0_known_74 : decode cX0_known 74 = .ok (.iastore, 1) := dk_79 (dk_at dksX0_known_3 4 rfl rfl)
theorem dX0_known_75 : decode cX0_known 75 = .ok (.dup, 1) := dk_89 (dk_at dksX0_known_3 5 rfl rfl)
theorem dX0_known_76 : decode cX0_known 76 = .ok (.bipush 8, 2) := dk_16 8 (dk_at dksX0_known_3 6 rfl rfl)
theorem dX0_known_78 : decode cX0_known 78 = .ok (.sipush 142, 3) := dk_17 0 142 (dk_at dksX0_known_3 8 rfl rfl)
theorem dX0_known_81 : decode cX0_known 81 = .ok (.iastore, 1) := dk_79 (dk_at dksX0_known_3 11 rfl rfl)
theorem dX0_known_82 : decode cX0_known 82 = .ok (.dup, 1) := dk_89 (dk_at dksX0_known_3 12 rfl rfl)
theorem dX0_known_83 : decode cX0_known 83 = .ok (.bipush 9, 2) := dk_16 9 (dk_at dksX0_known_3 13 rfl rfl)
theorem dX0_known_85 : decode cX0_known 85 = .ok (.bipush 97, 2) := dk_16 97 (dk_at dksX0_known_3 15 rfl rfl)
theorem dX0_known_87 : decode cX0_known 87 = .ok (.iastore, 1) := dk_79 (dk_at dksX0_known_3 17 rfl rfl)
theorem dX0_known_88 : decode cX0_known 88 = .ok (.dup, 1) := dk_89 (dk_at dksX0_known_3 18 rfl rfl)
theorem dX0_known_89 : decode cX0_known 89 = .ok (.bipush 10, 2) := dk_16 10 (dk_at dksX0_known_3 19 rfl rfl)
theorem dX0_known_91 : decode cX0_known 91 = .ok (.bipush 25, 2) := dk_16 25 (dk_at dksX0_known_3 21 rfl rfl)
theorem dX0_known_93 : decode cX0_known 93 = .ok (.iastore, 1) := dk_79 (dk_at dksX0_known_3 23 rfl rfl)
theorem dX0_known_94 : decode cX0_known 94 = .ok (.dup, 1) := dk_89 (dk_at dksX0_known_4 0 rfl rfl)
theorem dX0_known_95 : decode cX0_known 95 = .ok (.bipush 11, 2) := dk_16 11 (dk_at dksX0_known_4 1 rfl rfl)
theorem dX0_known_97 : decode cX0_known 97 = .ok (.bipush 72, 2) := dk_16 72 (dk_at dksX0_known_4 3 rfl rfl)
theorem dX0_known_99 : decode cX0_known 99 = .ok (.iastore, 1) := dk_79 (dk_at dksX0_known_4 5 rfl rfl)
theorem dX0_known_100 : decode cX0_known 100 = .ok (.dup, 1) := dk_89 (dk_at dksX0_known_4 6 rfl rfl)
theorem dX0_known_101 : decode cX0_known 101 = .ok (.bipush 12, 2) := dk_16 12 (dk_at dksX0_known_4 7 rfl rfl)
theorem dX0_known_103 : decode cX0_known 103 = .ok (.bipush 49, 2) := dk_16 49 (dk_at dksX0_known_4 9 rfl rfl)
theorem dX0_known_105 : decode cX0_known 105 = .ok (.iastore, 1) := dk_79 (dk_at dksX0_known_4 11 rfl rfl)
theorem dX0_known_106 : decode cX0_known 106 = .ok (.dup, 1) := dk_89 (dk_at dksX0_known_4 12 rfl rfl)
theorem dX0_known_107 : decode cX0_known 107 = .ok (.bipush 13, 2) := dk_16 13 (dk_at dksX0_known_4 13 rfl rfl)
theorem dX0_known_109 : decode cX0_known 109 = .ok (.sipush 232, 3) := dk_17 0 232 (dk_at dksX0_known_4 15 rfl rfl)
theorem dX0_known_112 : decode cX0_known 112 = .ok (.iastore, 1) := dk_79 (dk_at dksX0_known_4 18 rfl rfl)
theorem dX0_known_113 : decode cX0_known 113 = .ok (.dup, 1) := dk_89 (dk_at dksX0_known_4 19 rfl rfl)
theorem dX0_known_114 : decode cX0_known 114 = .ok (.bipush 14, 2) := dk_16 14 (dk_at dksX0_known_4 20 rfl rfl)
theorem dX0_known_116 : decode cX0_known 116 = .ok (.bipush 26, 2) := dk_16 26 (dk_at dksX0_known_4 22 rfl rfl)
theorem dX0_known_118 : decode cX0_known 118 = .ok (.iastore, 1) := dk_79 (dk_at dksX0_known_5 0 rfl rfl)
theorem dX0_known_119 : decode cX0_known 119 = .ok (.dup, 1) := dk_89 (dk_at dksX0_known_5 1 rfl rfl)
theorem dX0_known_120 : decode cX0_known 120 = .ok (.bipush 15, 2) := dk_16 15 (dk_at dksX0_known_5 2 rfl rfl)
theorem dX0_known_122 : decode cX0_known 122 = .ok (.sipush 143, 3) := dk_17 0 143 (dk_at dksX0_known_5 4 rfl rfl)
theorem dX0_known_125 : decode cX0_known 125 = .ok (.iastore, 1) := dk_79 (dk_at dksX0_known_5 7 rfl rfl)
theorem dX0_known_126 : decode cX0_known 126 = .ok (.dup, 1) := dk_89 (dk_at dksX0_known_5 8 rfl rfl)
theorem dX0_known_127 : decode cX0_known 127 = .ok (.bipush 16, 2) := dk_16 16 (dk_at dksX0_known_5 9 rfl rfl)
theorem dX0_known_129 : decode cX0_known 129 = .ok (.bipush 34, 2) := dk_16 34 (dk_at dksX0_known_5 11 rfl rfl)
theorem dX0_known_131 : decode cX0_known 131 = .ok (.iastore, 1) := dk_79 (dk_at dksX0_known_5 13 rfl rfl)
theorem dX0_known_132 : decode cX0_known 132 = .ok (.dup, 1) := dk_89 (dk_at dksX0_known_5 14 rfl rfl)
theorem dX0_known_133 : decode cX0_known 133 = .ok (.bipush 17, 2) := dk_16 17 (dk_at dksX0_known_5 15 rfl rfl)
theorem dX0_known_135 : decode cX0_known 135 = .ok (.sipush 190, 3) := dk_17 0 190 (dk_at dksX0_known_5 17 rfl rfl)
theorem dX0_known_138 : decode cX0_known 138 = .ok (.iastore, 1) := dk_79 (dk_at dksX0_known_5 20 rfl rfl)
theorem dX0_known_139 : decode cX0_known 139 = .ok (.dup, 1) := dk_89 (dk_at dksX0_known_5 21 rfl rfl)
theorem dX0_known_140 : decode cX0_known 140 = .ok (.bipush 18, 2) := dk_16 18 (dk_at dksX0_known_5 22 rfl rfl)
theorem dX0_known_142 : decode cX0_known 142 = .ok (.sipush 200, 3) := dk_17 0 200 (dk_at dksX0_known_6 0 rfl rfl)
theorem dX0_known_145 : decode cX0_known 145 = .ok (.iastore, 1) := dk_79 (dk_at dksX0_known_6 3 rfl rfl)
theorem dX0_known_146 : decode cX0_known 146 = .ok (.dup, 1) := dk_89 (dk_at dksX0_known_6 4 rfl rfl)
theorem dX0_known_147 : decode cX0_known 147 = .ok (.bipush 19, 2) := dk_16 19 (dk_at dksX0_known_6 5 rfl rfl)
theorem dX0_known_149 : decode cX0_known 149 = .ok (.sipush 199, 3) := dk_17 0 199 (dk_at dksX0_known_6 7 rfl rfl)
theorem dX0_known_152 : decode cX0_known 152 = .ok (.iastore, 1) := dk_79 (dk_at dksX0_known_6 10 rfl rfl)
theorem dX0_known_153 : decode cX0_known 153 = .ok (.dup, 1) := dk_89 (dk_at dksX0_known_6 11 rfl rfl)
theorem dX0_known_154 : decode cX0_known 154 = .ok (.bipush 20, 2) := dk_16 20 (dk_at dksX0_known_6 12 rfl rfl)
theorem dX0_known_156 : decode cX0_known 156 = .ok (.bipush 40, 2) := dk_16 40 (dk_at dksX0_known_6 14 rfl rfl)
theorem dX0_known_158 : decode cX0_known 158 = .ok (.iastore, 1) := dk_79 (dk_at dksX0_known_6 16 rfl rfl)
theorem dX0_known_159 : decode cX0_known 159 = .ok (.dup, 1) := dk_89 (dk_at dksX0_known_6 17 rfl rfl)
theorem dX0_known_160 : decode cX0_known 160 = .ok (.bipush 21, 2) := dk_16 21 (dk_at dksX0_known_6 18 rfl rfl)
theorem dX0_known_162 : decode cX0_known 162 = .ok (.sipush 254, 3) := dk_17 0 254 (dk_at dksX0_known_6 20 rfl rfl)
theorem dX0_known_165 : decode cX0_known 165 = .ok (.iastore, 1) := dk_79 (dk_at dksX0_known_6 23 rfl rfl)
theorem dX0_known_166 : decode cX0_known 166 = .ok (.dup, 1) := dk_89 (dk_at dksX0_known_7 0 rfl rfl)
theorem dX0_known_167 : decode cX0_known 167 = .ok (.bipush 22, 2) := dk_16 22 (dk_at dksX0_known_7 1 rfl rfl)
theorem dX0_known_169 : decode cX0_known 169 = .ok (.sipush 251, 3) := dk_17 0 251 (dk_at dksX0_known_7 3 rfl rfl)
theorem dX0_known_172 : decode cX0_known 172 = .ok (.iastore, 1) := dk_79 (dk_at dksX0_known_7 6 rfl rfl)
theorem dX0_known_173 : decode cX0_known 173 = .ok (.dup, 1) := dk_89 (dk_at dksX0_known_7 7 rfl rfl)
theorem dX0_known_174 : decode cX0_known 174 = .ok (.bipush 23, 2) := dk_16 23 (dk_at dksX0_known_7 8 rfl rfl)
theorem dX0_known_176 : decode cX0_known 176 = .ok (.bipush 116, 2) := dk_16 116 (dk_at dksX0_known_7 10 rfl rfl)
theorem dX0_known_178 : decode cX0_known 178 = .ok (.iastore, 1) := dk_79 (dk_at dksX0_known_7 12 rfl rfl)
theorem dX0_known_179 : decode cX0_known 179 = .ok (.dup, 1) := dk_89 (dk_at dksX0_known_7 13 rfl rfl)
theorem dX0_known_180 : decode cX0_known 180 = .ok (.bipush 24, 2) := dk_16 24 (dk_at dksX0_known_7 14 rfl rfl)
theorem dX0_known_182 : decode cX0_known 182 = .ok (.bipush 126, 2) := dk_16 126 (dk_at dksX0_known_7 16 rfl rfl)
theorem dX0_known_184 : decode cX0_known 184 = .ok (.iastore, 1) := dk_79 (dk_at dksX0_known_7 18 rfl rfl)
theorem dX0_known_185 : decode cX0_known 185 = .ok (.dup, 1) := dk_89 (dk_at dksX0_known_7 19 rfl rfl)
theorem dX0_known_186 : decode cX0_known 186 = .ok (.bipush 25, 2) := dk_16 25 (dk_at dksX0_known_7 20 rfl rfl)
theorem dX0_known_188 : decode cX0_known 188 = .ok (.sipush 208, 3) := dk_17 0 208 (dk_at dksX0_known_8 0 rfl rfl)
theorem dX0_known_191 : decode cX0_known 191 = .ok (.iastore, 1) := dk_79 (dk_at dksX0_known_8 3 rfl rfl)
theorem dX0_known_192 : decode cX0_known 192 = .ok (.dup, 1) := dk_89 (dk_at dksX0_known_8 4 rfl rfl)
theorem dX0_known_193 : decode cX0_known 193 = .ok (.bipush 26, 2) := dk_16 26 (dk_at dksX0_known_8 5 rfl rfl)
theorem dX0_known_195 : decode cX0_known 195 = .ok (.bipush 53, 2) := dk_16 53 (dk_at dksX0_known_8 7 rfl rfl)
theorem dX0_known_197 : decode cX0_known 197 = .ok (.iastore, 1) := dk_79 (dk_at dksX0_known_8 9 rfl rfl)
theorem dX0_known_198 : decode cX0_known 198 = .ok (.dup, 1) := dk_89 (dk_at dksX0_known_8 10 rfl rfl)
theorem dX0_known_199 : decode cX0_known 199 = .ok (.bipush 27, 2) := dk_16 27 (dk_at dksX0_known_8 11 rfl rfl)
theorem dX0_known_201 : decode cX0_known 201 = .ok (.sipush 235, 3) := dk_17 0 235 (dk_at dksX0_known_8 13 rfl rfl)
theorem dX0_known_204 : decode cX0_known 204 = .ok (.iastore, 1) := dk_79 (dk_at dksX0_known_8 16 rfl rfl)
theorem dX0_known_205 : decode cX0_known 205 = .ok (.dup, 1) := dk_89 (dk_at dksX0_known_8 17 rfl rfl)
theorem dX0_known_206 : decode cX0_known 206 = .ok (.bipush 28, 2) := dk_16 28 (dk_at dksX0_known_8 18 rfl rfl)
theorem dX0_known_208 : decode cX0_known 208 = .ok (.bipush 80, 2) := dk_16 80 (dk_at dksX0_known_8 20 rfl rfl)
theorem dX0_known_210 : decode cX0_known 210 = .ok (.iastore, 1) := dk_79 (dk_at dksX0_known_8 22 rfl rfl)
theorem dX0_known_211 : decode cX0_known 211 = .ok (.dup, 1) := dk_89 (dk_at dksX0_known_8 23 rfl rfl)
theorem dX0_known_212 : decode cX0_known 212 = .ok (.bipush 29, 2) := dk_16 29 (dk_at dksX0_known_9 0 rfl rfl)
theorem dX0_known_214 : decode cX0_known 214 = .ok (.sipush 130, 3) := dk_17 0 130 (dk_at dksX0_known_9 2 rfl rfl)
theorem dX0_known_217 : decode cX0_known 217 = .ok (.iastore, 1) := dk_79 (dk_at dksX0_known_9 5 rfl rfl)
theorem dX0_known_218 : decode cX0_known 218 = .ok (.dup, 1) := dk_89 (dk_at dksX0_known_9 6 rfl rfl)
theorem dX0_known_219 : decode cX0_known 219 = .ok (.bipush 30, 2) := dk_16 30 (dk_at dksX0_known_9 7 rfl rfl)
theorem dX0_known_221 : decode cX0_known 221 = .ok (.sipush 170, 3) := dk_17 0 170 (dk_at dksX0_known_9 9 rfl rfl)
theorem dX0_known_224 : decode cX0_known 224 = .ok (.iastore, 1) := dk_79 (dk_at dksX0_known_9 12 rfl rfl)
theorem dX0_known_225 : decode cX0_known 225 = .ok (.dup, 1) := dk_89 (dk_at dksX0_known_9 13 rfl rfl)
theorem dX0_known_226 : decode cX0_known 226 = .ok (.bipush 31, 2) := dk_16 31 (dk_at dksX0_known_9 14 rfl rfl)
theorem dX0_known_228 : decode cX0_known 228 = .ok (.bipush 43, 2) := dk_16 43 (dk_at dksX0_known_9 16 rfl rfl)
theorem dX0_known_230 : decode cX0_known 230 = .ok (.iastore, 1) := dk_79 (dk_at dksX0_known_9 18 rfl rfl)
theorem dX0_known_231 : decode cX0_known 231 = .ok (.astore_n 1, 1) := dk_76 (dk_at dksX0_known_9 19 rfl rfl)
theorem dX0_known_232 : decode cX0_known 232 = .ok (.iconst 0, 1) := dk_3 (dk_at dksX0_known_9 20 rfl rfl)
theorem dX0_known_233 : decode cX0_known 233 = .ok (.istore_n 2, 1) := dk_61 (dk_at dksX0_known_9 21 rfl rfl)
theorem dX0_known_234 : decode cX0_known 234 = .ok (.iload_n 2, 1) := dk_28 (dk_at dksX0_known_9 22 rfl rfl)
theorem dX0_known_235 : decode cX0_known 235 = .ok (.bipush 32, 2) := dk_16 32 (dk_at dksX0_known_10 0 rfl rfl)
theorem dX0_known_237 : decode cX0_known 237 = .ok (.if_icmp .ge 22, 3) := dk_162 0 22 (dk_at dksX0_known_10 2 rfl rfl)
theorem dX0_known_240 : decode cX0_known 240 = .ok (.aload_n 0, 1) := dk_42 (dk_at dksX0_known_10 5 rfl rfl)
theorem dX0_known_241 : decode cX0_known 241 = .ok (.iload_n 2, 1) := dk_28 (dk_at dksX0_known_10 6 rfl rfl)
theorem dX0_known_242 : decode cX0_known 242 = .ok (.invokevirtual 27, 3) := dk_182 0 27 (dk_at dksX0_known_10 7 rfl rfl)
theorem dX0_known_245 : decode cX0_known 245 = .ok (.aload_n 1, 1) := dk_43 (dk_at dksX0_known_10 10 rfl rfl)
theorem dX0_known_246 : decode cX0_known 246 = .ok (.iload_n 2, 1) := dk_28 (dk_at dksX0_known_10 11 rfl rfl)
theorem dX0_known_247 : decode cX0_known 247 = .ok (.iaload, 1) := dk_46 (dk_at dksX0_known_10 12 rfl rfl)
theorem dX0_known_248 : decode cX0_known 248 = .ok (.if_icmp .eq 5, 3) := dk_159 0 5 (dk_at dksX0_known_10 13 rfl rfl)
theorem dX0_known_251 : decode cX0_known 251 = .ok (.iconst 0, 1) := dk_3 (dk_at dksX0_known_10 16 rfl rfl)
theorem dX0_known_252 : decode cX0_known 252 = .ok (.ireturn, 1) := dk_172 (dk_at dksX0_known_10 17 rfl rfl)
theorem dX0_known_253 : decode cX0_known 253 = .ok (.iinc 2 1, 3) := dk_132 2 1 (dk_at dksX0_known_10 18 rfl rfl)
theorem dX0_known_256 : decode cX0_known 256 = .ok (.goto (-22), 3) := dk_167 255 234 (dk_at dksX0_known_10 21 rfl rfl)
theorem dX0_known_259 : decode cX0_known 259 = .ok (.new 7, 3) := dk_187 0 7 (dk_at dksX0_known_11 0 rfl rfl)
theorem dX0_known_262 : decode cX0_known 262 = .ok (.dup, 1) := dk_89 (dk_at dksX0_known_11 3 rfl rfl)
theorem dX0_known_263 : decode cX0_known 263 = .ok (.invokespecial 9, 3) := dk_183 0 9 (dk_at dksX0_known_11 4 rfl rfl)
theorem dX0_known_266 : decode cX0_known 266 = .ok (.astore_n 2, 1) := dk_77 (dk_at dksX0_known_11 7 rfl rfl)
theorem dX0_known_267 : decode cX0_known 267 = .ok (.aload_n 2, 1) := dk_44 (dk_at dksX0_known_11 8 rfl rfl)
theorem dX0_known_268 : decode cX0_known 268 = .ok (.ldc 39, 2) := dk_18 39 (dk_at dksX0_known_11 9 rfl rfl)
theorem dX0_known_270 : decode cX0_known 270 = .ok (.iconst 0, 1) := dk_3 (dk_at dksX0_known_11 11 rfl rfl)
theorem dX0_known_271 : decode cX0_known 271 = .ok (.iconst 0, 1) := dk_3 (dk_at dksX0_known_11 12 rfl rfl)
theorem dX0_known_272 : decode cX0_known 272 = .ok (.iconst 0, 1) := dk_3 (dk_at dksX0_known_11 13 rfl rfl)
theorem dX0_known_273 : decode cX0_known 273 = .ok (.invokevirtual 16, 3) := dk_182 0 16 (dk_at dksX0_known_11 14 rfl rfl)
theorem dX0_known_276 : decode cX0_known 276 = .ok (.pop, 1) := dk_87 (dk_at dksX0_known_11 17 rfl rfl)
theorem dX0_known_277 : decode cX0_known 277 = .ok (.aload_n 2, 1) := dk_44 (dk_at dksX0_known_11 18 rfl rfl)
theorem dX0_known_278 : decode cX0_known 278 = .ok (.iconst 3, 1) := dk_6 (dk_at dksX0_known_11 19 rfl rfl)
theorem dX0_known_279 : decode cX0_known 279 = .ok (.invokevirtual 20, 3) := dk_182 0 20 (dk_at dksX0_known_11 20 rfl rfl)
theorem dX0_known_282 : decode cX0_known 282 = .ok (.aload_n 2, 1) := dk_44 (dk_at dksX0_known_11 23 rfl rfl)
theorem dX0_known_283 : decode cX0_known 283 = .ok (.iconst 0, 1) := dk_3 (dk_at dksX0_known_12 0 rfl rfl)
theorem dX0_known_284 : decode cX0_known 284 = .ok (.invokevirtual 24, 3) := dk_182 0 24 (dk_at dksX0_known_12 1 rfl rfl)
theorem dX0_known_287 : decode cX0_known 287 = .ok (.aload_n 2, 1) := dk_44 (dk_at dksX0_known_12 4 rfl rfl)
theorem dX0_known_288 : decode cX0_known 288 = .ok (.iconst 0, 1) := dk_3 (dk_at dksX0_known_12 5 rfl rfl)
theorem dX0_known_289 : decode cX0_known 289 = .ok (.iconst 3, 1) := dk_6 (dk_at dksX0_known_12 6 rfl rfl)
theorem dX0_known_290 : decode cX0_known 290 = .ok (.invokevirtual 31, 3) := dk_182 0 31 (dk_at dksX0_known_12 7 rfl rfl)
theorem dX0_known_293 : decode cX0_known 293 = .ok (.pop, 1) := dk_87 (dk_at dksX0_known_12 10 rfl rfl)
theorem dX0_known_294 : decode cX0_known 294 = .ok (.aload_n 2, 1) := dk_44 (dk_at dksX0_known_12 11 rfl rfl)
theorem dX0_known_295 : decode cX0_known 295 = .ok (.invokevirtual 35, 3) := dk_182 0 35 (dk_at dksX0_known_12 12 rfl rfl)
theorem dX0_known_298 : decode cX0_known 298 = .ok (.pop, 1) := dk_87 (dk_at dksX0_known_12 15 rfl rfl)
theorem dX0_known_299 : decode cX0_known 299 = .ok (.bipush 32, 2) := dk_16 32 (dk_at dksX0_known_12 16 rfl rfl)
theorem dX0_known_301 : decode cX0_known 301 = .ok (.newarray .int, 2) := dk_188_10 (dk_at dksX0_known_12 18 rfl rfl)
theorem dX0_known_303 : decode cX0_known 303 = .ok (.dup, 1) := dk_89 (dk_at dksX0_known_12 20 rfl rfl)
theorem dX0_known_304 : decode cX0_known 304 = .ok (.iconst 0, 1) := dk_3 (dk_at dksX0_known_12 21 rfl rfl)
theorem dX0_known_305 : decode cX0_known 305 = .ok (.bipush 102, 2) := dk_16 102 (dk_at dksX0_known_12 22 rfl rfl)
theorem dX0_known_307 : decode cX0_known 307 = .ok (.iastore, 1) := dk_79 (dk_at dksX0_known_13 0 rfl rfl)
theorem dX0_known_308 : decode cX0_known 308 = .ok (.dup, 1) := dk_89 (dk_at dksX0_known_13 1 rfl rfl)
theorem dX0_known_309 : decode cX0_known 309 = .ok (.iconst 1, 1) := dk_4 (dk_at dksX0_known_13 2 rfl rfl)
theorem dX0_known_310 : decode cX0_known 310 = .ok (.sipush 199, 3) := dk_17 0 199 (dk_at dksX0_known_13 3 rfl rfl)
theorem dX0_known_313 : decode cX0_known 313 = .ok (.iastore, 1) := dk_79 (dk_at dksX0_known_13 6 rfl rfl)
theorem dX0_known_314 : decode cX0_known 314 = .ok (.dup, 1) := dk_89 (dk_at dksX0_known_13 7 rfl rfl)
theorem dX0_known_315 : decode cX0_known 315 = .ok (.iconst 2, 1) := dk_5 (dk_at dksX0_known_13 8 rfl rfl)
theorem dX0_known_316 : decode cX0_known 316 = .ok (.sipush 240, 3) := dk_17 0 240 (dk_at dksX0_known_13 9 rfl rfl)
theorem dX0_known_319 : decode cX0_known 319 = .ok (.iastore, 1) := dk_79 (dk_at dksX0_known_13 12 rfl rfl)
theorem dX0_known_320 : decode cX0_known 320 = .ok (.dup, 1) := dk_89 (dk_at dksX0_known_13 13 rfl rfl)
theorem dX0_known_321 : decode cX0_known 321 = .ok (.iconst 3, 1) := dk_6 (dk_at dksX0_known_13 14 rfl rfl)
theorem dX0_known_322 : decode cX0_known 322 = .ok (.sipush 244, 3) := dk_17 0 244 (dk_at dksX0_known_13 15 rfl rfl)
theorem dX0_known_325 : decode cX0_known 325 = .ok (.iastore, 1) := dk_79 (dk_at dksX0_known_13 18 rfl rfl)
theorem dX0_known_326 : decode cX0_known 326 = .ok (.dup, 1) := dk_89 (dk_at dksX0_known_13 19 rfl rfl)
theorem dX0_known_327 : decode cX0_known 327 = .ok (.iconst 4, 1) := dk_7 (dk_at dksX0_known_13 20 rfl rfl)
theorem dX0_known_328 : decode cX0_known 328 = .ok (.bipush 98, 2) := dk_16 98 (dk_at dksX0_known_13 21 rfl rfl)
theorem dX0_known_330 : decode cX0_known 330 = .ok (.iastore, 1) := dk_79 (dk_at dksX0_known_13 23 rfl rfl)
theorem dX0_known_331 : decode cX0_known 331 = .ok (.dup, 1) := dk_89 (dk_at dksX0_known_14 0 rfl rfl)
theorem dX0_known_332 : decode cX0_known 332 = .ok (.iconst 5, 1) := dk_8 (dk_at dksX0_known_14 1 rfl rfl)
theorem dX0_known_333 : decode cX0_known 333 = .ok (.sipush 238, 3) := dk_17 0 238 (dk_at dksX0_known_14 2 rfl rfl)
theorem dX0_known_336 : decode cX0_known 336 = .ok (.iastore, 1) := dk_79 (dk_at dksX0_known_14 5 rfl rfl)
theorem dX0_known_337 : decode cX0_known 337 = .ok (.dup, 1) := dk_89 (dk_at dksX0_known_14 6 rfl rfl)
theorem dX0_known_338 : decode cX0_known 338 = .ok (.bipush 6, 2) := dk_16 6 (dk_at dksX0_known_14 7 rfl rfl)
theorem dX0_known_340 : decode cX0_known 340 = .ok (.sipush 237, 3) := dk_17 0 237 (dk_at dksX0_known_14 9 rfl rfl)
theorem dX0_known_343 : decode cX0_known 343 = .ok (.iastore, 1) := dk_79 (dk_at dksX0_known_14 12 rfl rfl)
theorem dX0_known_344 : decode cX0_known 344 = .ok (.dup, 1) := dk_89 (dk_at dksX0_known_14 13 rfl rfl)
theorem dX0_known_345 : decode cX0_known 345 = .ok (.bipush 7, 2) := dk_16 7 (dk_at dksX0_known_14 14 rfl rfl)
theorem dX0_known_347 : decode cX0_known 347 = .ok (.sipush 217, 3) := dk_17 0 217 (dk_at dksX0_known_14 16 rfl rfl)
theorem dX0_known_350 : decode cX0_known 350 = .ok (.iastore, 1) := dk_79 (dk_at dksX0_known_14 19 rfl rfl)
theorem dX0_known_351 : decode cX0_known 351 = .ok (.dup, 1) := dk_89 (dk_at dksX0_known_14 20 rfl rfl)
theorem dX0_known_352 : decode cX0_known 352 = .ok (.bipush 8, 2) := dk_16 8 (dk_at dksX0_known_14 21 rfl rfl)
theorem dX0_known_354 : decode cX0_known 354 = .ok (.sipush 209, 3) := dk_17 0 209 (dk_at dksX0_known_15 0 rfl rfl)
theorem dX0_known_357 : decode cX0_known 357 = .ok (.iastore, 1) := dk_79 (dk_at dksX0_known_15 3 rfl rfl)
theorem dX0_known_358 : decode cX0_known 358 = .ok (.dup, 1) := dk_89 (dk_at dksX0_known_15 4 rfl rfl)
theorem dX0_known_359 : decode cX0_known 359 = .ok (.bipush 9, 2) := dk_16 9 (dk_at dksX0_known_15 5 rfl rfl)
theorem dX0_known_361 : decode cX0_known 361 = .ok (.sipush 242, 3) := dk_17 0 242 (dk_at dksX0_known_15 7 rfl rfl)
theorem dX0_known_364 : decode cX0_known 364 = .ok (.iastore, 1) := dk_79 (dk_at dksX0_known_15 10 rfl rfl)
theorem dX0_known_365 : decode cX0_known 365 = .ok (.dup, 1) := dk_89 (dk_at dksX0_known_15 11 rfl rfl)
theorem dX0_known_366 : decode cX0_known 366 = .ok (.bipush 10, 2) := dk_16 10 (dk_at dksX0_known_15 12 rfl rfl)
theorem dX0_known_368 : decode cX0_known 368 = .ok (.sipush 212, 3) := dk_17 0 212 (dk_at dksX0_known_15 14 rfl rfl)
theorem dX0_known_371 : decode cX0_known 371 = .ok (.iastore, 1) := dk_79 (dk_at dksX0_known_15 17 rfl rfl)
theorem dX0_known_372 : decode cX0_known 372 = .ok (.dup, 1) := dk_89 (dk_at dksX0_known_15 18 rfl rfl)
theorem dX0_known_373 : decode cX0_known 373 = .ok (.bipush 11, 2) := dk_16 11 (dk_at dksX0_known_15 19 rfl rfl)
theorem dX0_known_375 : decode cX0_known 375 = .ok (.bipush 107, 2) := dk_16 107 (dk_at dksX0_known_15 21 rfl rfl)
theorem dX0_known_377 : decode cX0_known 377 = .ok (.iastore, 1) := dk_79 (dk_at dksX0_known_15 23 rfl rfl)
theorem dX0_known_378 : decode cX0_known 378 = .ok (.dup, 1) := dk_89 (dk_at dksX0_known_16 0 rfl rfl)
theorem dX0_known_379 : decode cX0_known 379 = .ok (.bipush 12, 2) := dk_16 12 (dk_at dksX0_known_16 1 rfl rfl)
theorem dX0_known_381 : decode cX0_known 381 = .ok (.sipush 220, 3) := dk_17 0 220 (dk_at dksX0_known_16 3 rfl rfl)
theorem dX0_known_384 : decode cX0_known 384 = .ok (.iastore, 1) := dk_79 (dk_at dksX0_known_16 6 rfl rfl)
theorem dX0_known_385 : decode cX0_known 385 = .ok (.dup, 1) := dk_89 (dk_at dksX0_known_16 7 rfl rfl)
theorem dX0_known_386 : decode cX0_known 386 = .ok (.bipush 13, 2) := dk_16 13 (dk_at dksX0_known_16 8 rfl rfl)
theorem dX0_known_388 : decode cX0_known 388 = .ok (.bipush 16, 2) := dk_16 16 (dk_at dksX0_known_16 10 rfl rfl)
theorem dX0_known_390 : decode cX0_known 390 = .ok (.iastore, 1) := dk_79 (dk_at dksX0_known_16 12 rfl rfl)
theorem dX0_known_391 : decode cX0_known 391 = .ok (.dup, 1) := dk_89 (dk_at dksX0_known_16 13 rfl rfl)
theorem dX0_known_392 : decode cX0_known 392 = .ok (.bipush 14, 2) := dk_16 14 (dk_at dksX0_known_16 14 rfl rfl)
theorem dX0_known_394 : decode cX0_known 394 = .ok (.sipush 228, 3) := dk_17 0 228 (dk_at dksX0_known_16 16 rfl rfl)
theorem dX0_known_397 : decode cX0_known 397 = .ok (.iastore, 1) := dk_79 (dk_at dksX0_known_16 19 rfl rfl)
theorem dX0_known_398 : decode cX0_known 398 = .ok (.dup, 1) := dk_89 (dk_at dksX0_known_16 20 rfl rfl)
theorem dX0_known_399 : decode cX0_known 399 = .ok (.bipush 15, 2) := dk_16 15 (dk_at dksX0_known_16 21 rfl rfl)
theorem dX0_known_401 : decode cX0_known 401 = .ok (.sipush 226, 3) := dk_17 0 226 (dk_at dksX0_known_17 0 rfl rfl)
theorem dX0_known_404 : decode cX0_known 404 = .ok (.iastore, 1) := dk_79 (dk_at dksX0_known_17 3 rfl rfl)
theorem dX0_known_405 : decode cX0_known 405 = .ok (.dup, 1) := dk_89 (dk_at dksX0_known_17 4 rfl rfl)
theorem dX0_known_406 : decode cX0_known 406 = .ok (.bipush 16, 2) := dk_16 16 (dk_at dksX0_known_17 5 rfl rfl)
theorem dX0_known_408 : decode cX0_known 408 = .ok (.bipush 65, 2) := dk_16 65 (dk_at dksX0_known_17 7 rfl rfl)
theorem dX0_known_410 : decode cX0_known 410 = .ok (.iastore, 1) := dk_79 (dk_at dksX0_known_17 9 rfl rfl)
theorem dX0_known_411 : decode cX0_known 411 = .ok (.dup, 1) := dk_89 (dk_at dksX0_known_17 10 rfl rfl)
theorem dX0_known_412 : decode cX0_known 412 = .ok (.bipush 17, 2) := dk_16 17 (dk_at dksX0_known_17 11 rfl rfl)
theorem dX0_known_414 : decode cX0_known 414 = .ok (.bipush 103, 2) := dk_16 103 (dk_at dksX0_known_17 13 rfl rfl)
theorem dX0_known_416 : decode cX0_known 416 = .ok (.iastore, 1) := dk_79 (dk_at dksX0_known_17 15 rfl rfl)
theorem dX0_known_417 : decode cX0_known 417 = .ok (.dup, 1) := dk_89 (dk_at dksX0_known_17 16 rfl rfl)
theorem dX0_known_418 : decode cX0_known 418 = .ok (.bipush 18, 2) := dk_16 18 (dk_at dksX0_known_17 17 rfl rfl)
theorem dX0_known_420 : decode cX0_known 420 = .ok (.sipush 196, 3) := dk_17 0 196 (dk_at dksX0_known_17 19 rfl rfl)
theorem dX0_known_423 : decode cX0_known 423 = .ok (.iastore, 1) := dk_79 (dk_at dksX0_known_17 22 rfl rfl)
theorem dX0_known_424 : decode cX0_known 424 = .ok (.dup, 1) := dk_89 (dk_at dksX0_known_17 23 rfl rfl)
theorem dX0_known_425 : decode cX0_known 425 = .ok (.bipush 19, 2) := dk_16 19 (dk_at dksX0_known_18 0 rfl rfl)
theorem dX0_known_427 : decode cX0_known 427 = .ok (.sipush 135, 3) := dk_17 0 135 (dk_at dksX0_known_18 2 rfl rfl)
theorem dX0_known_430 : decode cX0_known 430 = .ok (.iastore, 1) := dk_79 (dk_at dksX0_known_18 5 rfl rfl)
theorem dX0_known_431 : decode cX0_known 431 = .ok (.dup, 1) := dk_89 (dk_at dksX0_known_18 6 rfl rfl)
theorem dX0_known_432 : decode cX0_known 432 = .ok (.bipush 20, 2) := dk_16 20 (dk_at dksX0_known_18 7 rfl rfl)
theorem dX0_known_434 : decode cX0_known 434 = .ok (.bipush 92, 2) := dk_16 92 (dk_at dksX0_known_18 9 rfl rfl)
theorem dX0_known_436 : decode cX0_known 436 = .ok (.iastore, 1) := dk_79 (dk_at dksX0_known_18 11 rfl rfl)
theorem dX0_known_437 : decode cX0_known 437 = .ok (.dup, 1) := dk_89 (dk_at dksX0_known_18 12 rfl rfl)
theorem dX0_known_438 : decode cX0_known 438 = .ok (.bipush 21, 2) := dk_16 21 (dk_at dksX0_known_18 13 rfl rfl)
theorem dX0_known_440 : decode cX0_known 440 = .ok (.sipush 242, 3) := dk_17 0 242 (dk_at dksX0_known_18 15 rfl rfl)
theorem dX0_known_443 : decode cX0_known 443 = .ok (.iastore, 1) := dk_79 (dk_at dksX0_known_18 18 rfl rfl)
theorem dX0_known_444 : decode cX0_known 444 = .ok (.dup, 1) := dk_89 (dk_at dksX0_known_18 19 rfl rfl)
theorem dX0_known_445 : decode cX0_known 445 = .ok (.bipush 22, 2) := dk_16 22 (dk_at dksX0_known_18 20 rfl rfl)
theorem dX0_known_447 : decode cX0_known 447 = .ok (.sipush 247, 3) := dk_17 0 247 (dk_at dksX0_known_19 0 rfl rfl)
theorem dX0_known_450 : decode cX0_known 450 = .ok (.iastore, 1) := dk_79 (dk_at dksX0_known_19 3 rfl rfl)
theorem dX0_known_451 : decode cX0_known 451 = .ok (.dup, 1) := dk_89 (dk_at dksX0_known_19 4 rfl rfl)
theorem dX0_known_452 : decode cX0_known 452 = .ok (.bipush 23, 2) := dk_16 23 (dk_at dksX0_known_19 5 rfl rfl)
theorem dX0_known_454 : decode cX0_known 454 = .ok (.sipush 162, 3) := dk_17 0 162 (dk_at dksX0_known_19 7 rfl rfl)
theorem dX0_known_457 : decode cX0_known 457 = .ok (.iastore, 1) := dk_79 (dk_at dksX0_known_19 10 rfl rfl)
theorem dX0_known_458 : decode cX0_known 458 = .ok (.dup, 1) := dk_89 (dk_at dksX0_known_19 11 rfl rfl)
theorem dX0_known_459 : decode cX0_known 459 = .ok (.bipush 24, 2) := dk_16 24 (dk_at dksX0_known_19 12 rfl rfl)
theorem dX0_known_461 : decode cX0_known 461 = .ok (.bipush 41, 2) := dk_16 41 (dk_at dksX0_known_19 14 rfl rfl)
theorem dX0_known_463 : decode cX0_known 463 = .ok (.iastore, 1) := dk_79 (dk_at dksX0_known_19 16 rfl rfl)
theorem dX0_known_464 : decode cX0_known 464 = .ok (.dup, 1) := dk_89 (dk_at dksX0_known_19 17 rfl rfl)
theorem dX0_known_465 : decode cX0_known 465 = .ok (.bipush 25, 2) := dk_16 25 (dk_at dksX0_known_19 18 rfl rfl)
theorem dX0_known_467 : decode cX0_known 467 = .ok (.bipush 125, 2) := dk_16 125 (dk_at dksX0_known_19 20 rfl rfl)
theorem dX0_known_469 : decode cX0_known 469 = .ok (.iastore, 1) := dk_79 (dk_at dksX0_known_19 22 rfl rfl)
theorem dX0_known_470 : decode cX0_known 470 = .ok (.dup, 1) := dk_89 (dk_at dksX0_known_19 23 rfl rfl)
theorem dX0_known_471 : decode cX0_known 471 = .ok (.bipush 26, 2) := dk_16 26 (dk_at dksX0_known_20 0 rfl rfl)
theorem dX0_known_473 : decode cX0_known 473 = .ok (.sipush 160, 3) := dk_17 0 160 (dk_at dksX0_known_20 2 rfl rfl)
theorem dX0_known_476 : decode cX0_known 476 = .ok (.iastore, 1) := dk_79 (dk_at dksX0_known_20 5 rfl rfl)
theorem dX0_known_477 : decode cX0_known 477 = .ok (.dup, 1) := dk_89 (dk_at dksX0_known_20 6 rfl rfl)
theorem dX0_known_478 : decode cX0_known 478 = .ok (.bipush 27, 2) := dk_16 27 (dk_at dksX0_known_20 7 rfl rfl)
theorem dX0_known_480 : decode cX0_known 480 = .ok (.bipush 43, 2) := dk_16 43 (dk_at dksX0_known_20 9 rfl rfl)
theorem dX0_known_482 : decode cX0_known 482 = .ok (.iastore, 1) := dk_79 (dk_at dksX0_known_20 11 rfl rfl)
theorem dX0_known_483 : decode cX0_known 483 = .ok (.dup, 1) := dk_89 (dk_at dksX0_known_20 12 rfl rfl)
theorem dX0_known_484 : decode cX0_known 484 = .ok (.bipush 28, 2) := dk_16 28 (dk_at dksX0_known_20 13 rfl rfl)
theorem dX0_known_486 : decode cX0_known 486 = .ok (.sipush 143, 3) := dk_17 0 143 (dk_at dksX0_known_20 15 rfl rfl)
theorem dX0_known_489 : decode cX0_known 489 = .ok (.iastore, 1) := dk_79 (dk_at dksX0_known_20 18 rfl rfl)
theorem dX0_known_490 : decode cX0_known 490 = .ok (.dup, 1) := dk_89 (dk_at dksX0_known_20 19 rfl rfl)
theorem dX0_known_491 : decode cX0_known 491 = .ok (.bipush 29, 2) := dk_16 29 (dk_at dksX0_known_20 20 rfl rfl)
theorem dX0_known_493 : decode cX0_known 493 = .ok (.bipush 75, 2) := dk_16 75 (dk_at dksX0_known_20 22 rfl rfl)
theorem dX0_known_495 : decode cX0_known 495 = .ok (.iastore, 1) := dk_79 (dk_at dksX0_known_21 0 rfl rfl)
theorem dX0_known_496 : decode cX0_known 496 = .ok (.dup, 1) := dk_89 (dk_at dksX0_known_21 1 rfl rfl)
theorem dX0_known_497 : decode cX0_known 497 = .ok (.bipush 30, 2) := dk_16 30 (dk_at dksX0_known_21 2 rfl rfl)
theorem dX0_known_499 : decode cX0_known 499 = .ok (.sipush 168, 3) := dk_17 0 168 (dk_at dksX0_known_21 4 rfl rfl)
theorem dX0_known_502 : decode cX0_known 502 = .ok (.iastore, 1) := dk_79 (dk_at dksX0_known_21 7 rfl rfl)
theorem dX0_known_503 : decode cX0_known 503 = .ok (.dup, 1) := dk_89 (dk_at dksX0_known_21 8 rfl rfl)
theorem dX0_known_504 : decode cX0_known 504 = .ok (.bipush 31, 2) := dk_16 31 (dk_at dksX0_known_21 9 rfl rfl)
theorem dX0_known_506 : decode cX0_known 506 = .ok (.sipush 224, 3) := dk_17 0 224 (dk_at dksX0_known_21 11 rfl rfl)
theorem dX0_known_509 : decode cX0_known 509 = .ok (.iastore, 1) := dk_79 (dk_at dksX0_known_21 14 rfl rfl)
theorem dX0_known_510 : decode cX0_known 510 = .ok (.astore_n 3, 1) := dk_78 (dk_at dksX0_known_21 15 rfl rfl)
theorem dX0_known_511 : decode cX0_known 511 = .ok (.iconst 0, 1) := dk_3 (dk_at dksX0_known_21 16 rfl rfl)
theorem dX0_known_512 : decode cX0_known 512 = .ok (.istore 4, 2) := dk_54 4 (dk_at dksX0_known_21 17 rfl rfl)
theorem dX0_known_514 : decode cX0_known 514 = .ok (.iload 4, 2) := dk_21 4 (dk_at dksX0_known_21 19 rfl rfl)
theorem dX0_known_516 : decode cX0_known 516 = .ok (.bipush 32, 2) := dk_16 32 (dk_at dksX0_known_21 21 rfl rfl)
theorem dX0_known_518 : decode cX0_known 518 = .ok (.if_icmp .ge 24, 3) := dk_162 0 24 (dk_at dksX0_known_22 0 rfl rfl)
theorem dX0_known_521 : decode cX0_known 521 = .ok (.aload_n 2, 1) := dk_44 (dk_at dksX0_known_22 3 rfl rfl)
theorem dX0_known_522 : decode cX0_known 522 = .ok (.iload 4, 2) := dk_21 4 (dk_at dksX0_known_22 4 rfl rfl)
theorem dX0_known_524 : decode cX0_known 524 = .ok (.invokevirtual 27, 3) := dk_182 0 27 (dk_at dksX0_known_22 6 rfl rfl)
theorem dX0_known_527 : decode cX0_known 527 = .ok (.aload_n 3, 1) := dk_45 (dk_at dksX0_known_22 9 rfl rfl)
theorem dX0_known_528 : decode cX0_known 528 = .ok (.iload 4, 2) := dk_21 4 (dk_at dksX0_known_22 10 rfl rfl)
theorem dX0_known_530 : decode cX0_known 530 = .ok (.iaload, 1) := dk_46 (dk_at dksX0_known_22 12 rfl rfl)
theorem dX0_known_531 : decode cX0_known 531 = .ok (.if_icmp .eq 5, 3) := dk_159 0 5 (dk_at dksX0_known_22 13 rfl rfl)
theorem dX0_known_534 : decode cX0_known 534 = .ok (.iconst 0, 1) := dk_3 (dk_at dksX0_known_22 16 rfl rfl)
theorem dX0_known_535 : decode cX0_known 535 = .ok (.ireturn, 1) := dk_172 (dk_at dksX0_known_22 17 rfl rfl)
theorem dX0_known_536 : decode cX0_known 536 = .ok (.iinc 4 1, 3) := dk_132 4 1 (dk_at dksX0_known_22 18 rfl rfl)
theorem dX0_known_539 : decode cX0_known 539 = .ok (.goto (-25), 3) := dk_167 255 231 (dk_at dksX0_known_22 21 rfl rfl)
theorem dX0_known_542 : decode cX0_known 542 = .ok (.iconst 1, 1) := dk_4 (dk_at dksX0_known_23 0 rfl rfl)
theorem dX0_known_543 : decode cX0_known 543 = .ok (.ireturn, 1) := dk_172 (dk_at dksX0_known_23 1 rfl rfl)
theorem q9 : (Jvm.Cond.initialized "SmDigestDeskLaw") ∈ lw_all := lw_g (lw_at lw_m1 0 rfl) rfl
theorem q17 : (Jvm.Cond.methodLink "SmDigestDeskLaw" (31 : Nat) ({ cls := "SmDigestDesk", name := "feed", desc := "(II)Z" } : Jvm.MethodName)) ∈ lw_all := lw_g (lw_at lw_m1 8 rfl) rfl
theorem q84 : (Jvm.Cond.methodLink "SmDigestDeskLaw" (49 : Nat) ({ cls := "SmDigestDesk", name := "one", desc := "(I)Z" } : Jvm.MethodName)) ∈ lw_all := lw_g (lw_at lw_m1 75 rfl) rfl
theorem q97 : (Jvm.Cond.methodLink "SmDigestDeskLaw" (35 : Nat) ({ cls := "SmDigestDesk", name := "close", desc := "()I" } : Jvm.MethodName)) ∈ lw_all := lw_g (lw_at lw_m1 88 rfl) rfl
theorem q149 : (Jvm.Cond.methodLink "SmDigestDeskLaw" (53 : Nat) ({ cls := "SmDigestDesk", name := "drop", desc := "()V" } : Jvm.MethodName)) ∈ lw_all := lw_g (lw_at lw_m1 140 rfl) rfl
theorem q160 : (Jvm.Cond.methodLink "SmDigestDeskLaw" (10 : Nat) ({ cls := "SmDigestDeskLaw", name := "cell", desc := "([II)I" } : Jvm.MethodName)) ∈ lw_all := lw_g (lw_at lw_m1 151 rfl) rfl
theorem q161 : (Jvm.Cond.static ({ cls := "SmDigestDeskLaw", name := "cell", desc := "([II)I" } : Jvm.MethodName)) ∈ lw_all := lw_g (lw_at lw_m1 152 rfl) rfl
theorem q162 : (Jvm.Cond.code ({ cls := "SmDigestDeskLaw", name := "cell", desc := "([II)I" } : Jvm.MethodName) method_2_code (2 : Nat) (Option.some Jvm.ClassFile.FieldType.int)) ∈ lw_all := lw_g (lw_at lw_m1 153 rfl) rfl
theorem q163 : (Jvm.Cond.methodLink "SmDigestDeskLaw" (45 : Nat) ({ cls := "SmDigestDeskLaw", name := "made", desc := "([II)LSmDigestDesk;" } : Jvm.MethodName)) ∈ lw_all := lw_g (lw_at lw_m1 154 rfl) rfl
theorem q164 : (Jvm.Cond.static ({ cls := "SmDigestDeskLaw", name := "made", desc := "([II)LSmDigestDesk;" } : Jvm.MethodName)) ∈ lw_all := lw_g (lw_at lw_m1 155 rfl) rfl
theorem q165 : (Jvm.Cond.code ({ cls := "SmDigestDeskLaw", name := "made", desc := "([II)LSmDigestDesk;" } : Jvm.MethodName) method_3_code (4 : Nat) (Option.some (Jvm.ClassFile.FieldType.object "SmDigestDesk"))) ∈ lw_all := lw_g (lw_at lw_m1 156 rfl) rfl
theorem q166 : (Jvm.Cond.classLink "SmDigestDeskLaw" (7 : Nat) "SmDigestDesk") ∈ lw_all := lw_g (lw_at lw_m1 157 rfl) rfl
theorem q167 : (Jvm.Cond.methodLink "SmDigestDeskLaw" (9 : Nat) ({ cls := "SmDigestDesk", name := "<init>", desc := "()V" } : Jvm.MethodName)) ∈ lw_all := lw_g (lw_at lw_m1 158 rfl) rfl
theorem q228 : (Jvm.Cond.methodLink "SmDigestDeskLaw" (16 : Nat) ({ cls := "SmDigestDesk", name := "put", desc := "(IIII)Z" } : Jvm.MethodName)) ∈ lw_all := lw_g (lw_at lw_m1 219 rfl) rfl
theorem q236 : (Jvm.Cond.methodLink "SmDigestDeskLaw" (20 : Nat) ({ cls := "SmDigestDesk", name := "trim", desc := "(I)V" } : Jvm.MethodName)) ∈ lw_all := lw_g (lw_at lw_m1 227 rfl) rfl
theorem q240 : (Jvm.Cond.methodLink "SmDigestDeskLaw" (24 : Nat) ({ cls := "SmDigestDesk", name := "begin", desc := "(I)V" } : Jvm.MethodName)) ∈ lw_all := lw_g (lw_at lw_m1 231 rfl) rfl
theorem q244 : (Jvm.Cond.methodLink "SmDigestDeskLaw" (56 : Nat) ({ cls := "SmDigestDeskLaw", name := "same", desc := "(LSmDigestDesk;LSmDigestDesk;)Z" } : Jvm.MethodName)) ∈ lw_all := lw_g (lw_at lw_m1 235 rfl) rfl
theorem q245 : (Jvm.Cond.static ({ cls := "SmDigestDeskLaw", name := "same", desc := "(LSmDigestDesk;LSmDigestDesk;)Z" } : Jvm.MethodName)) ∈ lw_all := lw_g (lw_at lw_m1 236 rfl) rfl
theorem q246 : (Jvm.Cond.code ({ cls := "SmDigestDeskLaw", name := "same", desc := "(LSmDigestDesk;LSmDigestDesk;)Z" } : Jvm.MethodName) method_4_code (3 : Nat) (Option.some Jvm.ClassFile.FieldType.boolean)) ∈ lw_all := lw_g (lw_at lw_m1 237 rfl) rfl
theorem q247 : (Jvm.Cond.methodLink "SmDigestDeskLaw" (27 : Nat) ({ cls := "SmDigestDesk", name := "out", desc := "(I)I" } : Jvm.MethodName)) ∈ lw_all := lw_g (lw_at lw_m1 238 rfl) rfl
theorem q251 : (Jvm.Cond.methodLink "SmDigestDeskLaw" (40 : Nat) ({ cls := "SmDigestDeskLaw", name := "known", desc := "()Z" } : Jvm.MethodName)) ∈ lw_all := lw_g (lw_at lw_m2 2 rfl) rfl
theorem q252 : (Jvm.Cond.static ({ cls := "SmDigestDeskLaw", name := "known", desc := "()Z" } : Jvm.MethodName)) ∈ lw_all := lw_g (lw_at lw_m2 3 rfl) rfl
theorem q253 : (Jvm.Cond.code ({ cls := "SmDigestDeskLaw", name := "known", desc := "()Z" } : Jvm.MethodName) method_5_code (5 : Nat) (Option.some Jvm.ClassFile.FieldType.boolean)) ∈ lw_all := lw_g (lw_at lw_m2 4 rfl) rfl
theorem q254 : (Jvm.Cond.constant "SmDigestDeskLaw" (39 : Nat) (1633837824 : Int32)) ∈ lw_all := lw_g (lw_at lw_m2 5 rfl) rfl
theorem q255 : (Jvm.Cond.constant "SmDigestDeskLaw" (44 : Nat) (2147483647 : Int32)) ∈ lw_all := lw_g (lw_at lw_m2 6 rfl) rfl
/-! the law's own entry -/
set_option maxRecDepth 100000
abbrev cL_law : ByteArray := code
def dkwL_law_13 : List UInt8 := [132, 2, 1, 167, 254, 228, 4, 172]
abbrev dktL_law_13 : List UInt8 := dkwL_law_13 ++ []
def dkwL_law_12 : List UInt8 := [3, 27, 182, 0, 31, 87, 45, 182, 0, 35, 87, 45, 25, 4, 184, 0, 56, 154, 0, 5, 3, 172]
abbrev dktL_law_12 : List UInt8 := dkwL_law_12 ++ dktL_law_13
def dkwL_law_11 : List UInt8 := [153, 0, 21, 45, 25, 5, 184, 0, 56, 153, 0, 12, 45, 25, 6, 184, 0, 56, 154, 0, 5, 3, 172, 45]
abbrev dktL_law_11 : List UInt8 := dkwL_law_11 ++ dktL_law_12
def dkwL_law_10 : List UInt8 := [182, 0, 35, 21, 8, 160, 0, 40, 25, 6, 182, 0, 35, 21, 8, 160, 0, 30, 45, 25, 4, 184, 0, 56]
abbrev dktL_law_10 : List UInt8 := dkwL_law_10 ++ dktL_law_11
def dkwL_law_9 : List UInt8 := [182, 0, 31, 87, 45, 182, 0, 35, 54, 8, 25, 4, 182, 0, 35, 21, 8, 160, 0, 50, 25, 5]
abbrev dktL_law_9 : List UInt8 := dkwL_law_9 ++ dktL_law_10
def dkwL_law_8 : List UInt8 := [184, 0, 10, 42, 16, 51, 184, 0, 10, 182, 0, 31, 87, 25, 6, 182, 0, 53, 25, 6, 3, 27]
abbrev dktL_law_8 : List UInt8 := dkwL_law_8 ++ dktL_law_9
def dkwL_law_7 : List UInt8 := [7, 112, 104, 100, 122, 182, 0, 49, 154, 0, 5, 3, 172, 132, 8, 1, 167, 255, 216, 25, 6, 42, 16, 50]
abbrev dktL_law_7 : List UInt8 := dkwL_law_7 ++ dktL_law_8
def dkwL_law_6 : List UInt8 := [21, 8, 27, 162, 0, 40, 25, 5, 42, 5, 21, 8, 7, 108, 96, 184, 0, 10, 16, 24, 16, 8, 21, 8]
abbrev dktL_law_6 : List UInt8 := dkwL_law_6 ++ dktL_law_7
def dkwL_law_5 : List UInt8 := [182, 0, 31, 154, 0, 5, 3, 172, 21, 7, 21, 9, 96, 54, 7, 132, 8, 1, 167, 255, 193, 3, 54, 8]
abbrev dktL_law_5 : List UInt8 := dkwL_law_5 ++ dktL_law_6
def dkwL_law_4 : List UInt8 := [21, 8, 184, 0, 10, 18, 44, 126, 27, 21, 7, 100, 4, 96, 112, 54, 9, 25, 4, 21, 7, 21, 9]
abbrev dktL_law_4 : List UInt8 := dkwL_law_4 ++ dktL_law_5
def dkwL_law_3 : List UInt8 := [54, 8, 21, 8, 16, 51, 162, 0, 62, 21, 8, 16, 50, 160, 0, 10, 27, 21, 7, 100, 167, 0, 19, 42]
abbrev dktL_law_3 : List UInt8 := dkwL_law_3 ++ dktL_law_4
def dkwL_law_2 : List UInt8 := [42, 28, 184, 0, 45, 58, 6, 45, 3, 27, 182, 0, 31, 154, 0, 5, 3, 172, 3, 54, 7, 16, 42]
abbrev dktL_law_2 : List UInt8 := dkwL_law_2 ++ dktL_law_3
def dkwL_law_1 : List UInt8 := [4, 162, 1, 29, 42, 28, 184, 0, 45, 78, 42, 28, 184, 0, 45, 58, 4, 42, 28, 184, 0, 45, 58, 5]
abbrev dktL_law_1 : List UInt8 := dkwL_law_1 ++ dktL_law_2
def dkwL_law_0 : List UInt8 := [184, 0, 40, 154, 0, 5, 3, 172, 42, 4, 184, 0, 10, 18, 44, 126, 17, 0, 161, 112, 60, 3, 61, 28]
abbrev dktL_law_0 : List UInt8 := dkwL_law_0 ++ dktL_law_1
theorem dksL_law_0 : cL_law.data.toList.drop 0 = dktL_law_0 := by decide +kernel
theorem dksL_law_1 : cL_law.data.toList.drop 24 = dktL_law_1 := dk_seg dksL_law_0 24 rfl rfl
theorem dksL_law_2 : cL_law.data.toList.drop 48 = dktL_law_2 := dk_seg dksL_law_1 24 rfl rfl
theorem dksL_law_3 : cL_law.data.toList.drop 71 = dktL_law_3 := dk_seg dksL_law_2 23 rfl rfl
theorem dksL_law_4 : cL_law.data.toList.drop 95 = dktL_law_4 := dk_seg dksL_law_3 24 rfl rfl
theorem dksL_law_5 : cL_law.data.toList.drop 118 = dktL_law_5 := dk_seg dksL_law_4 23 rfl rfl
theorem dksL_law_6 : cL_law.data.toList.drop 142 = dktL_law_6 := dk_seg dksL_law_5 24 rfl rfl
theorem dksL_law_7 : cL_law.data.toList.drop 166 = dktL_law_7 := dk_seg dksL_law_6 24 rfl rfl
theorem dksL_law_8 : cL_law.data.toList.drop 190 = dktL_law_8 := dk_seg dksL_law_7 24 rfl rfl
theorem dksL_law_9 : cL_law.data.toList.drop 212 = dktL_law_9 := dk_seg dksL_law_8 22 rfl rfl
theorem dksL_law_10 : cL_law.data.toList.drop 234 = dktL_law_10 := dk_seg dksL_law_9 22 rfl rfl
theorem dksL_law_11 : cL_law.data.toList.drop 258 = dktL_law_11 := dk_seg dksL_law_10 24 rfl rfl
theorem dksL_law_12 : cL_law.data.toList.drop 282 = dktL_law_12 := dk_seg dksL_law_11 24 rfl rfl
theorem dksL_law_13 : cL_law.data.toList.drop 304 = dktL_law_13 := dk_seg dksL_law_12 22 rfl rfl
theorem dL_law_0 : decode cL_law 0 = .ok (.invokestatic 40, 3) := dk_184 0 40 (dk_at dksL_law_0 0 rfl rfl)
theorem dL_law_3 : decode cL_law 3 = .ok (.ifCond .ne 5, 3) := dk_154 0 5 (dk_at dksL_law_0 3 rfl rfl)
theorem dL_law_6 : decode cL_law 6 = .ok (.iconst 0, 1) := dk_3 (dk_at dksL_law_0 6 rfl rfl)
theorem dL_law_7 : decode cL_law 7 = .ok (.ireturn, 1) := dk_172 (dk_at dksL_law_0 7 rfl rfl)
theorem dL_law_8 : decode cL_law 8 = .ok (.aload_n 0, 1) := dk_42 (dk_at dksL_law_0 8 rfl rfl)
theorem dL_law_9 : decode cL_law 9 = .ok (.iconst 1, 1) := dk_4 (dk_at dksL_law_0 9 rfl rfl)
theorem dL_law_10 : decode cL_law 10 = .ok (.invokestatic 10, 3) := dk_184 0 10 (dk_at dksL_law_0 10 rfl rfl)
theorem dL_law_13 : decode cL_law 13 = .ok (.ldc 44, 2) := dk_18 44 (dk_at dksL_law_0 13 rfl rfl)
theorem dL_law_15 : decode cL_law 15 = .ok (.iand, 1) := dk_126 (dk_at dksL_law_0 15 rfl rfl)
theorem dL_law_16 : decode cL_law 16 = .ok (.sipush 161, 3) := dk_17 0 161 (dk_at dksL_law_0 16 rfl rfl)
theorem dL_law_19 : decode cL_law 19 = .ok (.irem, 1) := dk_112 (dk_at dksL_law_0 19 rfl rfl)
theorem dL_law_20 : decode cL_law 20 = .ok (.istore_n 1, 1) := dk_60 (dk_at dksL_law_0 20 rfl rfl)
theorem dL_law_21 : decode cL_law 21 = .ok (.iconst 0, 1) := dk_3 (dk_at dksL_law_0 21 rfl rfl)
theorem dL_law_22 : decode cL_law 22 = .ok (.istore_n 2, 1) := dk_61 (dk_at dksL_law_0 22 rfl rfl)
theorem dL_law_23 : decode cL_law 23 = .ok (.iload_n 2, 1) := dk_28 (dk_at dksL_law_0 23 rfl rfl)
theorem dL_law_24 : decode cL_law 24 = .ok (.iconst 1, 1) := dk_4 (dk_at dksL_law_1 0 rfl rfl)
theorem dL_law_25 : decode cL_law 25 = .ok (.if_icmp .ge 285, 3) := dk_162 1 29 (dk_at dksL_law_1 1 rfl rfl)
theorem dL_law_28 : decode cL_law 28 = .ok (.aload_n 0, 1) := dk_42 (dk_at dksL_law_1 4 rfl rfl)
theorem dL_law_29 : decode cL_law 29 = .ok (.iload_n 2, 1) := dk_28 (dk_at dksL_law_1 5 rfl rfl)
theorem dL_law_30 : decode cL_law 30 = .ok (.invokestatic 45, 3) := dk_184 0 45 (dk_at dksL_law_1 6 rfl rfl)
theorem dL_law_33 : decode cL_law 33 = .ok (.astore_n 3, 1) := dk_78 (dk_at dksL_law_1 9 rfl rfl)
theorem dL_law_34 : decode cL_law 34 = .ok (.aload_n 0, 1) := dk_42 (dk_at dksL_law_1 10 rfl rfl)
theorem dL_law_35 : decode cL_law 35 = .ok (.iload_n 2, 1) := dk_28 (dk_at dksL_law_1 11 rfl rfl)
theorem dL_law_36 : decode cL_law 36 = .ok (.invokestatic 45, 3) := dk_184 0 45 (dk_at dksL_law_1 12 rfl rfl)
theorem dL_law_39 : decode cL_law 39 = .ok (.astore 4, 2) := dk_58 4 (dk_at dksL_law_1 15 rfl rfl)
theorem dL_law_41 : decode cL_law 41 = .ok (.aload_n 0, 1) := dk_42 (dk_at dksL_law_1 17 rfl rfl)
theorem dL_law_42 : decode cL_law 42 = .ok (.iload_n 2, 1) := dk_28 (dk_at dksL_law_1 18 rfl rfl)
theorem dL_law_43 : decode cL_law 43 = .ok (.invokestatic 45, 3) := dk_184 0 45 (dk_at dksL_law_1 19 rfl rfl)
theorem dL_law_46 : decode cL_law 46 = .ok (.astore 5, 2) := dk_58 5 (dk_at dksL_law_1 22 rfl rfl)
theorem dL_law_48 : decode cL_law 48 = .ok (.aload_n 0, 1) := dk_42 (dk_at dksL_law_2 0 rfl rfl)
theorem dL_law_49 : decode cL_law 49 = .ok (.iload_n 2, 1) := dk_28 (dk_at dksL_law_2 1 rfl rfl)
theorem dL_law_50 : decode cL_law 50 = .ok (.invokestatic 45, 3) := dk_184 0 45 (dk_at dksL_law_2 2 rfl rfl)
theorem dL_law_53 : decode cL_law 53 = .ok (.astore 6, 2) := dk_58 6 (dk_at dksL_law_2 5 rfl rfl)
theorem dL_law_55 : decode cL_law 55 = .ok (.aload_n 3, 1) := dk_45 (dk_at dksL_law_2 7 rfl rfl)
theorem dL_law_56 : decode cL_law 56 = .ok (.iconst 0, 1) := dk_3 (dk_at dksL_law_2 8 rfl rfl)
theorem dL_law_57 : decode cL_law 57 = .ok (.iload_n 1, 1) := dk_27 (dk_at dksL_law_2 9 rfl rfl)
theorem dL_law_58 : decode cL_law 58 = .ok (.invokevirtual 31, 3) := dk_182 0 31 (dk_at dksL_law_2 10 rfl rfl)
theorem dL_law_61 : decode cL_law 61 = .ok (.ifCond .ne 5, 3) := dk_154 0 5 (dk_at dksL_law_2 13 rfl rfl)
theorem dL_law_64 : decode cL_law 64 = .ok (.iconst 0, 1) := dk_3 (dk_at dksL_law_2 16 rfl rfl)
theorem dL_law_65 : decode cL_law 65 = .ok (.ireturn, 1) := dk_172 (dk_at dksL_law_2 17 rfl rfl)
theorem dL_law_66 : decode cL_law 66 = .ok (.iconst 0, 1) := dk_3 (dk_at dksL_law_2 18 rfl rfl)
theorem dL_law_67 : decode cL_law 67 = .ok (.istore 7, 2) := dk_54 7 (dk_at dksL_law_2 19 rfl rfl)
theorem dL_law_69 : decode cL_law 69 = .ok (.bipush 42, 2) := dk_16 42 (dk_at dksL_law_2 21 rfl rfl)
theorem dL_law_71 : decode cL_law 71 = .ok (.istore 8, 2) := dk_54 8 (dk_at dksL_law_3 0 rfl rfl)
theorem dL_law_73 : decode cL_law 73 = .ok (.iload 8, 2) := dk_21 8 (dk_at dksL_law_3 2 rfl rfl)
theorem dL_law_75 : decode cL_law 75 = .ok (.bipush 51, 2) := dk_16 51 (dk_at dksL_law_3 4 rfl rfl)
theorem dL_law_77 : decode cL_law 77 = .ok (.if_icmp .ge 62, 3) := dk_162 0 62 (dk_at dksL_law_3 6 rfl rfl)
theorem dL_law_80 : decode cL_law 80 = .ok (.iload 8, 2) := dk_21 8 (dk_at dksL_law_3 9 rfl rfl)
theorem dL_law_82 : decode cL_law 82 = .ok (.bipush 50, 2) := dk_16 50 (dk_at dksL_law_3 11 rfl rfl)
theorem dL_law_84 : decode cL_law 84 = .ok (.if_icmp .ne 10, 3) := dk_160 0 10 (dk_at dksL_law_3 13 rfl rfl)
theorem dL_law_87 : decode cL_law 87 = .ok (.iload_n 1, 1) := dk_27 (dk_at dksL_law_3 16 rfl rfl)
theorem dL_law_88 : decode cL_law 88 = .ok (.iload 7, 2) := dk_21 7 (dk_at dksL_law_3 17 rfl rfl)
theorem dL_law_90 : decode cL_law 90 = .ok (.isub, 1) := dk_100 (dk_at dksL_law_3 19 rfl rfl)
theorem dL_law_91 : decode cL_law 91 = .ok (.goto 19, 3) := dk_167 0 19 (dk_at dksL_law_3 20 rfl rfl)
theorem dL_law_94 : decode cL_law 94 = .ok (.aload_n 0, 1) := dk_42 (dk_at dksL_law_3 23 rfl rfl)
theorem dL_law_95 : decode cL_law 95 = .ok (.iload 8, 2) := dk_21 8 (dk_at dksL_law_4 0 rfl rfl)
theorem dL_law_97 : decode cL_law 97 = .ok (.invokestatic 10, 3) := dk_184 0 10 (dk_at dksL_law_4 2 rfl rfl)
theorem dL_law_100 : decode cL_law 100 = .ok (.ldc 44, 2) := dk_18 44 (dk_at dksL_law_4 5 rfl rfl)
theorem dL_law_102 : decode cL_law 102 = .ok (.iand, 1) := dk_126 (dk_at dksL_law_4 7 rfl rfl)
theorem dL_law_103 : decode cL_law 103 = .ok (.iload_n 1, 1) := dk_27 (dk_at dksL_law_4 8 rfl rfl)
theorem dL_law_104 : decode cL_law 104 = .ok (.iload 7, 2) := dk_21 7 (dk_at dksL_law_4 9 rfl rfl)
theorem dL_law_106 : decode cL_law 106 = .ok (.isub, 1) := dk_100 (dk_at dksL_law_4 11 rfl rfl)
theorem dL_law_107 : decode cL_law 107 = .ok (.iconst 1, 1) := dk_4 (dk_at dksL_law_4 12 rfl rfl)
theorem dL_law_108 : decode cL_law 108 = .ok (.iadd, 1) := dk_96 (dk_at dksL_law_4 13 rfl rfl)
theorem dL_law_109 : decode cL_law 109 = .ok (.irem, 1) := dk_112 (dk_at dksL_law_4 14 rfl rfl)
theorem dL_law_110 : decode cL_law 110 = .ok (.istore 9, 2) := dk_54 9 (dk_at dksL_law_4 15 rfl rfl)
theorem dL_law_112 : decode cL_law 112 = .ok (.aload 4, 2) := dk_25 4 (dk_at dksL_law_4 17 rfl rfl)
theorem dL_law_114 : decode cL_law 114 = .ok (.iload 7, 2) := dk_21 7 (dk_at dksL_law_4 19 rfl rfl)
theorem dL_law_116 : decode cL_law 116 = .ok (.iload 9, 2) := dk_21 9 (dk_at dksL_law_4 21 rfl rfl)
theorem dL_law_118 : decode cL_law 118 = .ok (.invokevirtual 31, 3) := dk_182 0 31 (dk_at dksL_law_5 0 rfl rfl)
theorem dL_law_121 : decode cL_law 121 = .ok (.ifCond .ne 5, 3) := dk_154 0 5 (dk_at dksL_law_5 3 rfl rfl)
theorem dL_law_124 : decode cL_law 124 = .ok (.iconst 0, 1) := dk_3 (dk_at dksL_law_5 6 rfl rfl)
theorem dL_law_125 : decode cL_law 125 = .ok (.ireturn, 1) := dk_172 (dk_at dksL_law_5 7 rfl rfl)
theorem dL_law_126 : decode cL_law 126 = .ok (.iload 7, 2) := dk_21 7 (dk_at dksL_law_5 8 rfl rfl)
theorem dL_law_128 : decode cL_law 128 = .ok (.iload 9, 2) := dk_21 9 (dk_at dksL_law_5 10 rfl rfl)
theorem dL_law_130 : decode cL_law 130 = .ok (.iadd, 1) := dk_96 (dk_at dksL_law_5 12 rfl rfl)
theorem dL_law_131 : decode cL_law 131 = .ok (.istore 7, 2) := dk_54 7 (dk_at dksL_law_5 13 rfl rfl)
theorem dL_law_133 : decode cL_law 133 = .ok (.iinc 8 1, 3) := dk_132 8 1 (dk_at dksL_law_5 15 rfl rfl)
theorem dL_law_136 : decode cL_law 136 = .ok (.goto (-63), 3) := dk_167 255 193 (dk_at dksL_law_5 18 rfl rfl)
theorem dL_law_139 : decode cL_law 139 = .ok (.iconst 0, 1) := dk_3 (dk_at dksL_law_5 21 rfl rfl)
theorem dL_law_140 : decode cL_law 140 = .ok (.istore 8, 2) := dk_54 8 (dk_at dksL_law_5 22 rfl rfl)
theorem dL_law_142 : decode cL_law 142 = .ok (.iload 8, 2) := dk_21 8 (dk_at dksL_law_6 0 rfl rfl)
theorem dL_law_144 : decode cL_law 144 = .ok (.iload_n 1, 1) := dk_27 (dk_at dksL_law_6 2 rfl rfl)
theorem dL_law_145 : decode cL_law 145 = .ok (.if_icmp .ge 40, 3) := dk_162 0 40 (dk_at dksL_law_6 3 rfl rfl)
theorem dL_law_148 : decode cL_law 148 = .ok (.aload 5, 2) := dk_25 5 (dk_at dksL_law_6 6 rfl rfl)
theorem dL_law_150 : decode cL_law 150 = .ok (.aload_n 0, 1) := dk_42 (dk_at dksL_law_6 8 rfl rfl)
theorem dL_law_151 : decode cL_law 151 = .ok (.iconst 2, 1) := dk_5 (dk_at dksL_law_6 9 rfl rfl)
theorem dL_law_152 : decode cL_law 152 = .ok (.iload 8, 2) := dk_21 8 (dk_at dksL_law_6 10 rfl rfl)
theorem dL_law_154 : decode cL_law 154 = .ok (.iconst 4, 1) := dk_7 (dk_at dksL_law_6 12 rfl rfl)
theorem dL_law_155 : decode cL_law 155 = .ok (.idiv, 1) := dk_108 (dk_at dksL_law_6 13 rfl rfl)
theorem dL_law_156 : decode cL_law 156 = .ok (.iadd, 1) := dk_96 (dk_at dksL_law_6 14 rfl rfl)
theorem dL_law_157 : decode cL_law 157 = .ok (.invokestatic 10, 3) := dk_184 0 10 (dk_at dksL_law_6 15 rfl rfl)
theorem dL_law_160 : decode cL_law 160 = .ok (.bipush 24, 2) := dk_16 24 (dk_at dksL_law_6 18 rfl rfl)
theorem dL_law_162 : decode cL_law 162 = .ok (.bipush 8, 2) := dk_16 8 (dk_at dksL_law_6 20 rfl rfl)
theorem dL_law_164 : decode cL_law 164 = .ok (.iload 8, 2) := dk_21 8 (dk_at dksL_law_6 22 rfl rfl)
theorem dL_law_166 : decode cL_law 166 = .ok (.iconst 4, 1) := dk_7 (dk_at dksL_law_7 0 rfl rfl)
theorem dL_law_167 : decode cL_law 167 = .ok (.irem, 1) := dk_112 (dk_at dksL_law_7 1 rfl rfl)
theorem dL_law_168 : decode cL_law 168 = .ok (.imul, 1) := dk_104 (dk_at dksL_law_7 2 rfl rfl)
theorem dL_law_169 : decode cL_law 169 = .ok (.isub, 1) := dk_100 (dk_at dksL_law_7 3 rfl rfl)
theorem dL_law_170 : decode cL_law 170 = .ok (.ishr, 1) := dk_122 (dk_at dksL_law_7 4 rfl rfl)
theorem dL_law_171 : decode cL_law 171 = .ok (.invokevirtual 49, 3) := dk_182 0 49 (dk_at dksL_law_7 5 rfl rfl)
theorem dL_law_174 : decode cL_law 174 = .ok (.ifCond .ne 5, 3) := dk_154 0 5 (dk_at dksL_law_7 8 rfl rfl)
theorem dL_law_177 : decode cL_law 177 = .ok (.iconst 0, 1) := dk_3 (dk_at dksL_law_7 11 rfl rfl)
theorem dL_law_178 : decode cL_law 178 = .ok (.ireturn, 1) := dk_172 (dk_at dksL_law_7 12 rfl rfl)
theorem dL_law_179 : decode cL_law 179 = .ok (.iinc 8 1, 3) := dk_132 8 1 (dk_at dksL_law_7 13 rfl rfl)
theorem dL_law_182 : decode cL_law 182 = .ok (.goto (-40), 3) := dk_167 255 216 (dk_at dksL_law_7 16 rfl rfl)
theorem dL_law_185 : decode cL_law 185 = .ok (.aload 6, 2) := dk_25 6 (dk_at dksL_law_7 19 rfl rfl)
theorem dL_law_187 : decode cL_law 187 = .ok (.aload_n 0, 1) := dk_42 (dk_at dksL_law_7 21 rfl rfl)
theorem dL_law_188 : decode cL_law 188 = .ok (.bipush 50, 2) := dk_16 50 (dk_at dksL_law_7 22 rfl rfl)
theorem dL_law_190 : decode cL_law 190 = .ok (.invokestatic 10, 3) := dk_184 0 10 (dk_at dksL_law_8 0 rfl rfl)
theorem dL_law_193 : decode cL_law 193 = .ok (.aload_n 0, 1) := dk_42 (dk_at dksL_law_8 3 rfl rfl)
theorem dL_law_194 : decode cL_law 194 = .ok (.bipush 51, 2) := dk_16 51 (dk_at dksL_law_8 4 rfl rfl)
theorem dL_law_196 : decode cL_law 196 = .ok (.invokestatic 10, 3) := dk_184 0 10 (dk_at dksL_law_8 6 rfl rfl)
theorem dL_law_199 : decode cL_law 199 = .ok (.invokevirtual 31, 3) := dk_182 0 31 (dk_at dksL_law_8 9 rfl rfl)
theorem dL_law_202 : decode cL_law 202 = .ok (.pop, 1) := dk_87 (dk_at dksL_law_8 12 rfl rfl)
theorem dL_law_203 : decode cL_law 203 = .ok (.aload 6, 2) := dk_25 6 (dk_at dksL_law_8 13 rfl rfl)
theorem dL_law_205 : decode cL_law 205 = .ok (.invokevirtual 53, 3) := dk_182 0 53 (dk_at dksL_law_8 15 rfl rfl)
theorem dL_law_208 : decode cL_law 208 = .ok (.aload 6, 2) := dk_25 6 (dk_at dksL_law_8 18 rfl rfl)
theorem dL_law_210 : decode cL_law 210 = .ok (.iconst 0, 1) := dk_3 (dk_at dksL_law_8 20 rfl rfl)
theorem dL_law_211 : decode cL_law 211 = .ok (.iload_n 1, 1) := dk_27 (dk_at dksL_law_8 21 rfl rfl)
theorem dL_law_212 : decode cL_law 212 = .ok (.invokevirtual 31, 3) := dk_182 0 31 (dk_at dksL_law_9 0 rfl rfl)
theorem dL_law_215 : decode cL_law 215 = .ok (.pop, 1) := dk_87 (dk_at dksL_law_9 3 rfl rfl)
theorem dL_law_216 : decode cL_law 216 = .ok (.aload_n 3, 1) := dk_45 (dk_at dksL_law_9 4 rfl rfl)
theorem dL_law_217 : decode cL_law 217 = .ok (.invokevirtual 35, 3) := dk_182 0 35 (dk_at dksL_law_9 5 rfl rfl)
theorem dL_law_220 : decode cL_law 220 = .ok (.istore 8, 2) := dk_54 8 (dk_at dksL_law_9 8 rfl rfl)
theorem dL_law_222 : decode cL_law 222 = .ok (.aload 4, 2) := dk_25 4 (dk_at dksL_law_9 10 rfl rfl)
theorem dL_law_224 : decode cL_law 224 = .ok (.invokevirtual 35, 3) := dk_182 0 35 (dk_at dksL_law_9 12 rfl rfl)
theorem dL_law_227 : decode cL_law 227 = .ok (.iload 8, 2) := dk_21 8 (dk_at dksL_law_9 15 rfl rfl)
theorem dL_law_229 : decode cL_law 229 = .ok (.if_icmp .ne 50, 3) := dk_160 0 50 (dk_at dksL_law_9 17 rfl rfl)
theorem dL_law_232 : decode cL_law 232 = .ok (.aload 5, 2) := dk_25 5 (dk_at dksL_law_9 20 rfl rfl)
theorem dL_law_234 : decode cL_law 234 = .ok (.invokevirtual 35, 3) := dk_182 0 35 (dk_at dksL_law_10 0 rfl rfl)
theorem dL_law_237 : decode cL_law 237 = .ok (.iload 8, 2) := dk_21 8 (dk_at dksL_law_10 3 rfl rfl)
theorem dL_law_239 : decode cL_law 239 = .ok (.if_icmp .ne 40, 3) := dk_160 0 40 (dk_at dksL_law_10 5 rfl rfl)
theorem dL_law_242 : decode cL_law 242 = .ok (.aload 6, 2) := dk_25 6 (dk_at dksL_law_10 8 rfl rfl)
theorem dL_law_244 : decode cL_law 244 = .ok (.invokevirtual 35, 3) := dk_182 0 35 (dk_at dksL_law_10 10 rfl rfl)
theorem dL_law_247 : decode cL_law 247 = .ok (.iload 8, 2) := dk_21 8 (dk_at dksL_law_10 13 rfl rfl)
theorem dL_law_249 : decode cL_law 249 = .ok (.if_icmp .ne 30, 3) := dk_160 0 30 (dk_at dksL_law_10 15 rfl rfl)
theorem dL_law_252 : decode cL_law 252 = .ok (.aload_n 3, 1) := dk_45 (dk_at dksL_law_10 18 rfl rfl)
theorem dL_law_253 : decode cL_law 253 = .ok (.aload 4, 2) := dk_25 4 (dk_at dksL_law_10 19 rfl rfl)
theorem dL_law_255 : decode cL_law 255 = .ok (.invokestatic 56, 3) := dk_184 0 56 (dk_at dksL_law_10 21 rfl rfl)
theorem dL_law_258 : decode cL_law 258 = .ok (.ifCond .eq 21, 3) := dk_153 0 21 (dk_at dksL_law_11 0 rfl rfl)
theorem dL_law_261 : decode cL_law 261 = .ok (.aload_n 3, 1) := dk_45 (dk_at dksL_law_11 3 rfl rfl)
theorem dL_law_262 : decode cL_law 262 = .ok (.aload 5, 2) := dk_25 5 (dk_at dksL_law_11 4 rfl rfl)
theorem dL_law_264 : decode cL_law 264 = .ok (.invokestatic 56, 3) := dk_184 0 56 (dk_at dksL_law_11 6 rfl rfl)
theorem dL_law_267 : decode cL_law 267 = .ok (.ifCond .eq 12, 3) := dk_153 0 12 (dk_at dksL_law_11 9 rfl rfl)
theorem dL_law_270 : decode cL_law 270 = .ok (.aload_n 3, 1) := dk_45 (dk_at dksL_law_11 12 rfl rfl)
theorem dL_law_271 : decode cL_law 271 = .ok (.aload 6, 2) := dk_25 6 (dk_at dksL_law_11 13 rfl rfl)
theorem dL_law_273 : decode cL_law 273 = .ok (.invokestatic 56, 3) := dk_184 0 56 (dk_at dksL_law_11 15 rfl rfl)
theorem dL_law_276 : decode cL_law 276 = .ok (.ifCond .ne 5, 3) := dk_154 0 5 (dk_at dksL_law_11 18 rfl rfl)
theorem dL_law_279 : decode cL_law 279 = .ok (.iconst 0, 1) := dk_3 (dk_at dksL_law_11 21 rfl rfl)
theorem dL_law_280 : decode cL_law 280 = .ok (.ireturn, 1) := dk_172 (dk_at dksL_law_11 22 rfl rfl)
theorem dL_law_281 : decode cL_law 281 = .ok (.aload_n 3, 1) := dk_45 (dk_at dksL_law_11 23 rfl rfl)
theorem dL_law_282 : decode cL_law 282 = .ok (.iconst 0, 1) := dk_3 (dk_at dksL_law_12 0 rfl rfl)
theorem dL_law_283 : decode cL_law 283 = .ok (.iload_n 1, 1) := dk_27 (dk_at dksL_law_12 1 rfl rfl)
theorem dL_law_284 : decode cL_law 284 = .ok (.invokevirtual 31, 3) := dk_182 0 31 (dk_at dksL_law_12 2 rfl rfl)
theorem dL_law_287 : decode cL_law 287 = .ok (.pop, 1) := dk_87 (dk_at dksL_law_12 5 rfl rfl)
theorem dL_law_288 : decode cL_law 288 = .ok (.aload_n 3, 1) := dk_45 (dk_at dksL_law_12 6 rfl rfl)
theorem dL_law_289 : decode cL_law 289 = .ok (.invokevirtual 35, 3) := dk_182 0 35 (dk_at dksL_law_12 7 rfl rfl)
theorem dL_law_292 : decode cL_law 292 = .ok (.pop, 1) := dk_87 (dk_at dksL_law_12 10 rfl rfl)
theorem dL_law_293 : decode cL_law 293 = .ok (.aload_n 3, 1) := dk_45 (dk_at dksL_law_12 11 rfl rfl)
theorem dL_law_294 : decode cL_law 294 = .ok (.aload 4, 2) := dk_25 4 (dk_at dksL_law_12 12 rfl rfl)
theorem dL_law_296 : decode cL_law 296 = .ok (.invokestatic 56, 3) := dk_184 0 56 (dk_at dksL_law_12 14 rfl rfl)
theorem dL_law_299 : decode cL_law 299 = .ok (.ifCond .ne 5, 3) := dk_154 0 5 (dk_at dksL_law_12 17 rfl rfl)
theorem dL_law_302 : decode cL_law 302 = .ok (.iconst 0, 1) := dk_3 (dk_at dksL_law_12 20 rfl rfl)
theorem dL_law_303 : decode cL_law 303 = .ok (.ireturn, 1) := dk_172 (dk_at dksL_law_12 21 rfl rfl)
theorem dL_law_304 : decode cL_law 304 = .ok (.iinc 2 1, 3) := dk_132 2 1 (dk_at dksL_law_13 0 rfl rfl)
theorem dL_law_307 : decode cL_law 307 = .ok (.goto (-284), 3) := dk_167 254 228 (dk_at dksL_law_13 3 rfl rfl)
theorem dL_law_310 : decode cL_law 310 = .ok (.iconst 1, 1) := dk_4 (dk_at dksL_law_13 6 rfl rfl)
theorem dL_law_311 : decode cL_law 311 = .ok (.ireturn, 1) := dk_172 (dk_at dksL_law_13 7 rfl rfl)
end
section
/-! PURE: SM3 as the bytecode computes it -/
set_option maxRecDepth 100000
def sm_rl (x a b : Int32) : Int32 := (x <<< (a &&& 31)) ||| (x.toUInt32 >>> (b.toUInt32 &&& Int32.toUInt32 31)).toInt32
def sm_P0 (x : Int32) : Int32 := (x ^^^ sm_rl x 9 23) ^^^ sm_rl x 17 15
def sm_P1 (x : Int32) : Int32 := (x ^^^ sm_rl x 15 17) ^^^ sm_rl x 23 9
def sm_FF0 (x y z : Int32) : Int32 := (x ^^^ y) ^^^ z
def sm_FF1 (x y z : Int32) : Int32 := ((x &&& y) ||| (x &&& z)) ||| (y &&& z)
def sm_GG1 (x y z : Int32) : Int32 := (x &&& y) ||| ((x ^^^ (-1)) &&& z)
/-- the next word of the expansion, out of those before it -/
def sm_st (g : Nat → Int32) (j : Nat) : Int32 := (sm_P1 ((g (j - 16) ^^^ g (j - 9)) ^^^ sm_rl (g (j - 3)) 15 17) ^^^ sm_rl (g (j - 13)) 7 25) ^^^ g (j - 6)
def sm_wl (f : Nat → Int32) : Nat → Nat → Int32
  | 0 => f
  | t + 1 => upd (sm_wl f t) (16 + t) (sm_st (sm_wl f t) (16 + t))
abbrev sm_R8 : Type := Int32 × Int32 × Int32 × Int32 × Int32 × Int32 × Int32 × Int32
def sm_rd (ff gg : Int32 → Int32 → Int32 → Int32) (T Wj W4 : Int32) (r : sm_R8) : sm_R8 :=
  match r with
  | (a, b, c, d, e, f, g, h) =>
    (((ff a b c + d) + (sm_rl ((sm_rl a 12 20 + e) + T) 7 25 ^^^ sm_rl a 12 20)) + (Wj ^^^ W4), a, sm_rl b 9 23, c,
      sm_P0 (((gg e f g + h) + sm_rl ((sm_rl a 12 20 + e) + T) 7 25) + Wj), e, sm_rl f 19 13, g)
def sm_TL : List Int32 := [2043430169, (-208106958), (-416213915), (-832427829), (-1664855657), 965255983, 1930511966, (-433943364), (-867886727), (-1735773453), 823420391, 1646840782, (-1001285732), (-2002571463), 289824371, 579648742, (-1651869049), 991229199, 1982458398, (-330050500), (-660100999), (-1320201997), 1654563303, (-985840690), (-1971681379), 351604539, 703209078, 1406418156, (-1482130984), 1330705329, (-1633556638), 1027854021, 2055708042, (-183551212), (-367102423), (-734204845), (-1468409689), 1358147919, (-1578671458), 1137624381, (-2019718534), 255530229, 511060458, 1022120916, 2044241832, (-206483632), (-412967263), (-825934525), (-1651869049), 991229199, 1982458398, (-330050500), (-660100999), (-1320201997), 1654563303, (-985840690), (-1971681379), 351604539, 703209078, 1406418156, (-1482130984), 1330705329, (-1633556638), 1027854021]
def sm_T (j : Nat) : Int32 := sm_TL.getD j 0
def sm_IVL : List Int32 := [1937774191, 1226093241, 388252375, (-628488704), (-1452330820), 372324522, (-477237683), (-1325724082)]
def sm_iv (j : Nat) : Int32 := sm_IVL.getD j 0
def sm_rs (w : Nat → Int32) (r : sm_R8) : Nat → sm_R8
  | 0 => r
  | t + 1 => if t < 16 then sm_rd sm_FF0 sm_FF0 (sm_T t) (w t) (w (t + 4)) (sm_rs w r t) else sm_rd sm_FF1 sm_GG1 (sm_T t) (w t) (w (t + 4)) (sm_rs w r t)
def sm_8 (f : Nat → Int32) : sm_R8 := (f 0, f 1, f 2, f 3, f 4, f 5, f 6, f 7)
def sm_nth (r : sm_R8) (j : Nat) : Int32 := match j with
  | 0 => r.1
  | 1 => r.2.1
  | 2 => r.2.2.1
  | 3 => r.2.2.2.1
  | 4 => r.2.2.2.2.1
  | 5 => r.2.2.2.2.2.1
  | 6 => r.2.2.2.2.2.2.1
  | _ => r.2.2.2.2.2.2.2
/-- one block: V and the sixteen words give the new V -/
def sm_cmp (fv fi : Nat → Int32) (j : Nat) : Int32 := fv j ^^^ sm_nth (sm_rs (sm_wl fi 52) (sm_8 fv) 64) j
def sm_be (a b c d : Int32) : Int32 := (((a <<< ((24 : Int32) &&& 31)) ||| ((b &&& 255) <<< ((16 : Int32) &&& 31))) ||| ((c &&& 255) <<< ((8 : Int32) &&& 31))) ||| (d &&& 255)
def sm_wd (msg : Nat → Int32) (i : Nat) : Int32 := sm_be (msg (4 * i)) (msg (4 * i + 1)) (msg (4 * i + 2)) (msg (4 * i + 3))
/-- V behind b blocks of the message -/
def sm_hV (msg : Nat → Int32) : Nat → Nat → Int32
  | 0 => sm_iv
  | b + 1 => sm_cmp (sm_hV msg b) (fun j => sm_wd msg (16 * b + j))
/-- the state behind q words -/
def sm_AW (msg : Nat → Int32) (q : Nat) (fv fi : Nat → Int32) : Prop := (∀ j, j < 8 → fv j = sm_hV msg (q / 16) j) ∧ ∀ j, j < q % 16 → fi j = sm_wd msg (16 * (q / 16) + j)
/-- the state behind n bytes -/
def sm_Ab (msg : Nat → Int32) (n : Nat) (fv fi fx : Nat → Int32) : Prop := sm_AW msg (n / 4) fv fi ∧ ∀ j, j < n % 4 → fx j = msg (4 * (n / 4) + j)
theorem sm_st_c {g h : Nat → Int32} {j : Nat} (hj : 16 ≤ j) (e : ∀ i, i < j → g i = h i) : sm_st g j = sm_st h j := by
  unfold sm_st
  rw [e (j - 16) (by omega), e (j - 9) (by omega), e (j - 3) (by omega), e (j - 13) (by omega), e (j - 6) (by omega)]
theorem sm_wl_c {f g : Nat → Int32} (e : ∀ i, i < 16 → f i = g i) : ∀ t j, j < 16 + t → sm_wl f t j = sm_wl g t j := by
  intro t
  induction t with
  | zero => intro j hj; exact e j hj
  | succ t ih =>
    intro j hj
    show upd (sm_wl f t) (16 + t) (sm_st (sm_wl f t) (16 + t)) j = upd (sm_wl g t) (16 + t) (sm_st (sm_wl g t) (16 + t)) j
    rw [sm_st_c (g := sm_wl f t) (h := sm_wl g t) (by omega) ih]
    by_cases hc : j = 16 + t
    · rw [hc, pk_us, pk_us]
    · rw [pk_un hc, pk_un hc]
      exact ih j (by omega)
/-- a step of the expansion leaves what stands -/
theorem sm_wl_old (f : Nat → Int32) (t j : Nat) (h : j < 16 + t) : sm_wl f (t + 1) j = sm_wl f t j := by
  show upd (sm_wl f t) (16 + t) _ j = _
  rw [pk_un (by omega)]
theorem sm_rs_c {w v : Nat → Int32} (e : ∀ i, i < 68 → w i = v i) (r : sm_R8) : ∀ t, t ≤ 64 → sm_rs w r t = sm_rs v r t := by
  intro t
  induction t with
  | zero => intro _; rfl
  | succ t ih =>
    intro ht
    unfold sm_rs
    rw [ih (by omega), e t (by omega), e (t + 4) (by omega)]
theorem sm_8_c {f g : Nat → Int32} (e : ∀ j, j < 8 → f j = g j) : sm_8 f = sm_8 g := by
  unfold sm_8
  rw [e 0 (by decide), e 1 (by decide), e 2 (by decide), e 3 (by decide), e 4 (by decide), e 5 (by decide), e 6 (by decide), e 7 (by decide)]
theorem sm_cmp_c {fv gv fi gi : Nat → Int32} (ev : ∀ j, j < 8 → fv j = gv j) (ei : ∀ j, j < 16 → fi j = gi j) : ∀ j, j < 8 → sm_cmp fv fi j = sm_cmp gv gi j := by
  intro j hj
  unfold sm_cmp
  rw [ev j hj, sm_8_c ev, sm_rs_c (w := sm_wl fi 52) (v := sm_wl gi 52) (fun i hi => sm_wl_c ei 52 i (by omega)) (sm_8 gv) 64 (by decide)]
theorem sm_wd_c {f g : Nat → Int32} {i : Nat} (e : ∀ j, j < 4 * i + 4 → f j = g j) : sm_wd f i = sm_wd g i := by
  unfold sm_wd
  rw [e (4 * i) (by omega), e (4 * i + 1) (by omega), e (4 * i + 2) (by omega), e (4 * i + 3) (by omega)]
theorem sm_hV_c {f g : Nat → Int32} : ∀ b, (∀ j, j < 64 * b → f j = g j) → ∀ j, j < 8 → sm_hV f b j = sm_hV g b j := by
  intro b
  induction b with
  | zero => intro _ j _; rfl
  | succ b ih =>
    intro e j hj
    exact sm_cmp_c (ih (fun i hi => e i (by omega))) (fun i hi => sm_wd_c (fun k hk => e k (by omega))) j hj
theorem sm_AW_c {f g : Nat → Int32} {q : Nat} {fv fi : Nat → Int32} (e : ∀ j, j < 4 * q → f j = g j) (h : sm_AW f q fv fi) : sm_AW g q fv fi :=
  ⟨fun j hj => (h.1 j hj).trans (sm_hV_c (q / 16) (fun i hi => e i (by omega)) j hj), fun j hj => (h.2 j hj).trans (sm_wd_c (fun k hk => e k (by omega)))⟩
theorem sm_Ab_c {f g : Nat → Int32} {n : Nat} {fv fi fx : Nat → Int32} (e : ∀ j, j < n → f j = g j) (h : sm_Ab f n fv fi fx) : sm_Ab g n fv fi fx :=
  ⟨sm_AW_c (fun j hj => e j (by omega)) h.1, fun j hj => (h.2 j hj).trans (e _ (by omega))⟩
theorem sm_AW_0 (msg : Nat → Int32) {fv fi : Nat → Int32} (h : ∀ j, j < 8 → fv j = sm_iv j) : sm_AW msg 0 fv fi := ⟨h, fun j hj => absurd hj (by omega)⟩
theorem sm_Ab_0 (msg : Nat → Int32) {fv fi fx : Nat → Int32} (h : ∀ j, j < 8 → fv j = sm_iv j) : sm_Ab msg 0 fv fi fx := ⟨sm_AW_0 msg h, fun j hj => absurd hj (by omega)⟩
/-- one more word, the block isn't full -/
theorem sm_AW_lt {msg : Nat → Int32} {q : Nat} {fv fi : Nat → Int32} {x : Int32} (h : sm_AW msg q fv fi) (hq : q % 16 < 15) (hx : x = sm_wd msg q) : sm_AW msg (q + 1) fv (upd fi (q % 16) x) := by
  have e : (q + 1) / 16 = q / 16 := by omega
  have e2 : (q + 1) % 16 = q % 16 + 1 := by omega
  refine ⟨fun j hj => by rw [e]; exact h.1 j hj, fun j hj => ?_⟩
  rw [e]
  rw [e2] at hj
  by_cases hc : j = q % 16
  · rw [hc, pk_us, hx]
    congr 1
    omega
  · rw [pk_un hc]
    exact h.2 j (by omega)
/-- one more word, and the block is full -/
theorem sm_AW_eq {msg : Nat → Int32} {q : Nat} {fv fi gv gi : Nat → Int32} {x : Int32} (h : sm_AW msg q fv fi) (hq : q % 16 = 15) (hx : x = sm_wd msg q) (hg : ∀ j, j < 8 → gv j = sm_cmp fv (upd fi (q % 16) x) j) : sm_AW msg (q + 1) gv gi := by
  have e : (q + 1) / 16 = q / 16 + 1 := by omega
  have e2 : (q + 1) % 16 = 0 := by omega
  refine ⟨fun j hj => ?_, fun j hj => absurd hj (by omega)⟩
  rw [e, hg j hj]
  show _ = sm_cmp (sm_hV msg (q / 16)) (fun j => sm_wd msg (16 * (q / 16) + j)) j
  refine sm_cmp_c h.1 (fun i hi => ?_) j hj
  by_cases hc : i = q % 16
  · rw [hc, pk_us, hx]
    congr 1
    omega
  · rw [pk_un hc]
    exact h.2 i (by omega)
/-- the padded message -/
def sm_pm (msg : Nat → Int32) (n : Nat) : Nat → Int32 := fun j => if j < n then msg j else if j = n then -128 else 0
theorem sm_pm_lt {msg : Nat → Int32} {n j : Nat} (h : j < n) : sm_pm msg n j = msg j := if_pos h
theorem sm_pm_n (msg : Nat → Int32) (n : Nat) : sm_pm msg n n = -128 := by
  unfold sm_pm
  rw [if_neg (Nat.lt_irrefl n), if_pos rfl]
theorem sm_pm_gt {msg : Nat → Int32} {n j : Nat} (h : n < j) : sm_pm msg n j = 0 := by
  unfold sm_pm
  rw [if_neg (by omega), if_neg (by omega)]
def sm_hi (bl : Int64) : Int32 := (bl.toUInt64 >>> ((32 : Int32).toInt64.toUInt64 &&& Int64.toUInt64 63)).toInt64.toInt32
/-- the last block's words and the V in front of it, behind processLength -/
def sm_plV (msg : Nat → Int32) (q : Nat) : Nat → Int32 := if q % 16 = 15 then sm_cmp (sm_hV msg (q / 16)) (fun j => if j < 15 then sm_wd msg (16 * (q / 16) + j) else 0) else sm_hV msg (q / 16)
def sm_plI (msg : Nat → Int32) (q : Nat) (bl : Int64) : Nat → Int32 := fun j => if j = 14 then sm_hi bl else if j = 15 then bl.toInt32 else if q % 16 = 15 then 0 else if j < q % 16 then sm_wd msg (16 * (q / 16) + j) else 0
/-- the digest's eight words -/
def sm_F (msg : Nat → Int32) (n : Nat) : Nat → Int32 := sm_cmp (sm_plV (sm_pm msg n) (n / 4 + 1)) (sm_plI (sm_pm msg n) (n / 4 + 1) (lN n <<< ((3 : Int32).toInt64 &&& 63)))
/-- byte k of a word, as it is written out -/
def sm_ob (x : Int32) (k : Nat) : Int32 := match k with
  | 0 => (x.toUInt32 >>> ((24 : Int32).toUInt32 &&& Int32.toUInt32 31)).toInt32.toInt8.toInt32
  | 1 => (x.toUInt32 >>> ((16 : Int32).toUInt32 &&& Int32.toUInt32 31)).toInt32.toInt8.toInt32
  | 2 => (x.toUInt32 >>> ((8 : Int32).toUInt32 &&& Int32.toUInt32 31)).toInt32.toInt8.toInt32
  | _ => x.toInt8.toInt32
/-- an output array holds the digest of n bytes of msg, zeros behind it -/
def sm_Out (msg : Nat → Int32) (n : Nat) (fo : Nat → Int32) : Prop := ∀ j, j < 64 → fo j = if j < 32 then sm_ob (sm_F msg n (j / 4)) (j % 4) else 0
end
section
/-! BASE: the classes of the worlds, what rides beside them (statics, words), rows for arrays by a plain index -/
set_option maxRecDepth 100000
abbrev vwCl : List vw_C := [(RX3, TX3, 8), (RX1, TX1, 5)]
abbrev sm_ty (dB dN : ClassId) : List (ClassId × FieldType) := [(dB, .byte), (dN, .int)]
def sm_dW : MethodName := ⟨"GeneralDigest", "processWord", "([BI)V"⟩
def sm_dL : MethodName := ⟨"GeneralDigest", "processLength", "(J)V"⟩
def sm_dB : MethodName := ⟨"GeneralDigest", "processBlock", "()V"⟩
def sm_iU : MethodName := ⟨"Digest", "update", "([BII)V"⟩
def sm_iO : MethodName := ⟨"Digest", "update", "(B)V"⟩
def sm_iF : MethodName := ⟨"Digest", "doFinal", "([BI)I"⟩
def sm_iR : MethodName := ⟨"Digest", "reset", "()V"⟩
/-- the words that ride: abstract methods, the interface's -/
def sm_N (U : State) : Prop := va_Nw (.declares sm_dW) U ∧ va_Nw (.declares sm_dL) U ∧ va_Nw (.declares sm_dB) U ∧ va_Fw RX3 sm_iU yX2_update U ∧ va_Fw RX3 sm_iO yX2_update_2 U ∧ va_Fw RX3 sm_iF yX3_doFinal U ∧ va_Fw RX3 sm_iR yX3_reset U
theorem sm_Nd {x : MethodName} {u U : State} (hvm : u.vm.Alike U.vm) (h : va_Nw (.declares x) u) : va_Nw (.declares x) U := va_tabs rfl (rfl : (u.setVm U.vm).vm = U.vm) (by rw [Cond.declares_setVm hvm]; exact h)
theorem sm_N.moved {u U : State} (hvm : u.vm.Alike U.vm) (h : sm_N u) : sm_N U :=
  ⟨sm_Nd hvm h.1, sm_Nd hvm h.2.1, sm_Nd hvm h.2.2.1, va_Fw.moved (by decide) hvm h.2.2.2.1, va_Fw.moved (by decide) hvm h.2.2.2.2.1, va_Fw.moved (by decide) hvm h.2.2.2.2.2.1, va_Fw.moved (by decide) hvm h.2.2.2.2.2.2⟩
/-- statics: the table T at tA, the constant ANY at pA; no one writes them -/
def sm_E (A : Nat → Prop) (tA pA : Nat) (U : State) (H : Heap) : Prop :=
  va_Z "SM3Digest" "T" "[I" (.ref tA) A U H ∧ va_T .int tA 64 (fun j => .int (sm_T j)) A U H ∧ va_Z "CryptoServicePurpose" "ANY" "LCryptoServicePurpose;" (.ref pA) A U H ∧ sm_N U
theorem sm_E.moved {A : Nat → Prop} {tA pA : Nat} {u U : State} {H : Heap} (hvm : u.vm.Alike U.vm) (h : sm_E A tA pA u H) : sm_E A tA pA U H :=
  ⟨h.1.moved hvm, h.2.1.moved hvm, h.2.2.1.moved hvm, h.2.2.2.moved hvm⟩
theorem sm_E.kept {A : Nat → Prop} {tA pA : Nat} {U : State} {H H1 : Heap} (h : sm_E A tA pA U H) (hq : ∀ a : Nat, a < H.size → ¬ A a → H1[a]? = H[a]?) : sm_E A tA pA U H1 :=
  ⟨h.1.kept hq, h.2.1.kept hq, h.2.2.1.kept hq, h.2.2.2⟩
theorem sm_E.narrow {A B : Nat → Prop} {tA pA : Nat} {U : State} {H : Heap} (h : sm_E A tA pA U H) (hAB : ∀ q, B q → A q) : sm_E B tA pA U H :=
  ⟨h.1.narrow hAB, h.2.1.narrow hAB, h.2.2.1.narrow hAB, h.2.2.2⟩
/-- a contract's start: the cells, the tables, what rides -/
def sm_pre (D : va_G) (dB dN : ClassId) (W0 : va_W) (sz tA pA : Nat) (U : State) : Prop := U.heap.size = sz ∧ va_P D vwCl W0 U.heap ∧ va_K D vwCl (sm_ty dB dN) U ∧ va_D (fun _ => True) W0 ∧ sm_E (va_A W0 sz) tA pA U U.heap
theorem sm_blind {av : List Value} {D : va_G} {dB dN : ClassId} {W0 : va_W} {sz tA pA : Nat} : FrameBlind (va_Pc av (sm_pre D dB dN W0 sz tA pA)) := fun a U g mk q => by
  obtain ⟨q0, q1, qP, qK, qD, qE⟩ := q
  exact ⟨q0, q1, qP, va_K.moved (u := U) (U := U.calling g mk a) (Vm.Alike.refl U.vm) qK, qD, sm_E.moved (u := U) (U := U.calling g mk a) (Vm.Alike.refl U.vm) qE⟩
theorem sm_go {A : Nat → Prop} {s : State} {H : Heap} {locs : List Loc} {D : va_G} {dB dN : ClassId} {wc : va_W} {tA pA : Nat} (hK : va_K D vwCl (sm_ty dB dN) s) (hP : va_P D vwCl wc H) (hD : va_D A wc) (hE : sm_E A tA pA s s.heap) (hS : va_S A s.heap H locs) (hF : ∀ q, va_A wc H.size q → A q) (av : List Value) :
    ∀ U : State, U.heap = H → s.WarmedH U.vm → va_Pc av (sm_pre D dB dN wc H.size tA pA) av.toArray U := by
  intro U hU hW
  refine ⟨rfl, by rw [hU], by rw [hU]; exact hP, va_K.moved hW.alike hK, hD.weaken (fun _ _ _ _ => trivial), ?_⟩
  rw [hU]
  exact ((hE.kept hS.2.1).narrow hF).moved hW.alike
/-- a reader's start: the cells and the tables -/
def sm_pr0 (D : va_G) (dB dN : ClassId) (W0 : va_W) (U : State) : Prop := va_P D vwCl W0 U.heap ∧ va_K D vwCl (sm_ty dB dN) U
theorem sm_blind0 {av : List Value} {D : va_G} {dB dN : ClassId} {W0 : va_W} : FrameBlind (va_Pc av (sm_pr0 D dB dN W0)) := fun a U g mk q => by
  obtain ⟨q0, qP, qK⟩ := q
  exact ⟨q0, qP, va_K.moved (u := U) (U := U.calling g mk a) (Vm.Alike.refl U.vm) qK⟩
theorem sm_go0 {s : State} {H : Heap} {D : va_G} {dB dN : ClassId} {wc : va_W} (hK : va_K D vwCl (sm_ty dB dN) s) (hP : va_P D vwCl wc H) (av : List Value) :
    ∀ U : State, U.heap = H → s.WarmedH U.vm → va_Pc av (sm_pr0 D dB dN wc) av.toArray U := by
  intro U hU hW
  exact ⟨rfl, by rw [hU]; exact hP, va_K.moved hW.alike hK⟩
/-- a pure method's start -/
theorem sm_blindT {av : List Value} : FrameBlind (va_Pc av (fun _ => True)) := fun _ _ _ _ q => q
theorem sm_goT {s : State} {H : Heap} (av : List Value) : ∀ U : State, U.heap = H → s.WarmedH U.vm → va_Pc av (fun _ => True) av.toArray U := fun _ _ _ => ⟨rfl, trivial⟩
section Arrays
variable {p : Program} {l : Launch} {e : Env} {R : Room} {s : State} {m : MethodId} {args : Array Value} {below : List Frame} {meth : Method} {c : Code} {H : Heap} {locs : List Loc} {cells slots : Nat} {Q : State → Prop}
variable {cc : ByteArray} {pc : Nat} {ls : Array Slot} {rest : List Value} {D : va_G} {cl : List vw_C} {tys : List (ClassId × FieldType)} {ws : va_W} {A : Nat → Prop} {H0 : Heap} {a : Nat}
theorem sm_ild (hx : p.tables.exec = Jvm.exec) (hb : c.code = cc) (hK : va_K D cl tys s) (hP : va_P D cl ws H) (q0 t0 : Nat) {cA : ClassId} {n : Nat} {f : Nat → Int32} (ha : ws[q0]? = some (a, .inl (cA, n, .inl f))) (ht : tys[t0]? = some (cA, .int)) {i : Int32} (k : Nat) (hi : i = nI k) (hk : k < n) (hn : n < 2 ^ 31) (hdg : decode cc pc = .ok (.iaload, 1)) (kk : W p l e R s m args below meth c H locs cells slots Q (F0 m (pc + 1) ls (.int (f k) :: rest))) : W p l e R s m args below meth c H locs cells slots Q (F0 m pc ls (.int i :: .ref a :: rest)) := by
  subst hi
  refine va_iald hx hb hK hP q0 t0 ha ht (vp_in_nI hk hn) hdg ?_
  rw [nI_clamp (by omega)]
  exact kk
theorem sm_bld (hx : p.tables.exec = Jvm.exec) (hb : c.code = cc) (hK : va_K D cl tys s) (hP : va_P D cl ws H) (q0 t0 : Nat) {cA : ClassId} {n : Nat} {f : Nat → Int32} (ha : ws[q0]? = some (a, .inl (cA, n, .inl f))) (ht : tys[t0]? = some (cA, .byte)) {i : Int32} (k : Nat) (hi : i = nI k) (hk : k < n) (hn : n < 2 ^ 31) (hdg : decode cc pc = .ok (.baload, 1)) (kk : W p l e R s m args below meth c H locs cells slots Q (F0 m (pc + 1) ls (.int (f k) :: rest))) : W p l e R s m args below meth c H locs cells slots Q (F0 m pc ls (.int i :: .ref a :: rest)) := by
  subst hi
  refine va_bald hx hb hK hP q0 t0 ha ht (vp_in_nI hk hn) hdg ?_
  rw [nI_clamp (by omega)]
  exact kk
theorem sm_ist (hx : p.tables.exec = Jvm.exec) (hb : c.code = cc) (hK : va_K D cl tys s) (hP : va_P D cl ws H) (hD : va_D A ws) (hS : va_S A H0 H locs) (q0 t0 : Nat) {cA : ClassId} {n : Nat} {f : Nat → Int32} (ha : ws[q0]? = some (a, .inl (cA, n, .inl f))) (ht : tys[t0]? = some (cA, .int)) {i x : Int32} (k : Nat) (hi : i = nI k) (hk : k < n) (hn : n < 2 ^ 31) (hdg : decode cc pc = .ok (.iastore, 1)) (kk : ∀ (H1 : Heap) (locs1 : List Loc), va_P D cl (ws.set q0 (a, .inl (cA, n, .inl (upd f k x)))) H1 → va_D A (ws.set q0 (a, .inl (cA, n, .inl (upd f k x)))) → va_S A H0 H1 locs1 → W p l e R s m args below meth c H1 locs1 cells slots Q (F0 m (pc + 1) ls rest)) : W p l e R s m args below meth c H locs cells slots Q (F0 m pc ls (.int x :: .int i :: .ref a :: rest)) := by
  subst hi
  refine va_iast hx hb hK hP hD hS q0 t0 ha ht (vp_in_nI hk hn) hdg ?_
  rw [nI_clamp (by omega)]
  exact kk
theorem sm_bst (hx : p.tables.exec = Jvm.exec) (hb : c.code = cc) (hK : va_K D cl tys s) (hP : va_P D cl ws H) (hD : va_D A ws) (hS : va_S A H0 H locs) (q0 t0 : Nat) {cA : ClassId} {n : Nat} {f : Nat → Int32} (ha : ws[q0]? = some (a, .inl (cA, n, .inl f))) (ht : tys[t0]? = some (cA, .byte)) {i x : Int32} (y : Int32) (k : Nat) (hi : i = nI k) (hk : k < n) (hn : n < 2 ^ 31) (hy : vp_nar .byte x = y) (hdg : decode cc pc = .ok (.bastore, 1)) (kk : ∀ (H1 : Heap) (locs1 : List Loc), va_P D cl (ws.set q0 (a, .inl (cA, n, .inl (upd f k y)))) H1 → va_D A (ws.set q0 (a, .inl (cA, n, .inl (upd f k y)))) → va_S A H0 H1 locs1 → W p l e R s m args below meth c H1 locs1 cells slots Q (F0 m (pc + 1) ls rest)) : W p l e R s m args below meth c H locs cells slots Q (F0 m pc ls (.int x :: .int i :: .ref a :: rest)) := by
  subst hi
  subst hy
  refine va_bast hx hb hK hP hD hS q0 t0 ha ht (vp_in_nI hk hn) hdg ?_
  rw [nI_clamp (by omega)]
  exact kk
end Arrays
theorem sm_sub {x y : Int32} {a b c : Nat} (hx : x = nI a) (hy : y = nI b) (h : b ≤ a) (e : a - b = c) : x - y = nI c := by rw [hx, hy, pk_sub h, e]
theorem sm_add {x y : Int32} {a b c : Nat} (hx : x = nI a) (hy : y = nI b) (e : a + b = c) : x + y = nI c := by rw [hx, hy, nI_add, e]
/-- bytes that are bytes -/
def sm_By (msg : Nat → Int32) : Prop := ∀ j, vp_nar .byte (msg j) = msg j
theorem sm_By_pm {msg : Nat → Int32} (h : sm_By msg) (n : Nat) : sm_By (sm_pm msg n) := by
  intro j
  unfold sm_pm
  by_cases h1 : j < n
  · rw [if_pos h1]; exact h j
  · rw [if_neg h1]
    by_cases h2 : j = n
    · rw [if_pos h2]; rfl
    · rw [if_neg h2]; rfl
end
section
/-! CALLS: contracts in one form; calls in a world of listed cells (by places), or of blocks -/
set_option maxRecDepth 100000
theorem sm_RAeq {U : State} {c1 c2 : ClassId} {ty : FieldType} (h1 : va_RA U c1 ty) (h2 : va_RA U c2 ty) : c1 = c2 := by
  cases ty with
  | object C =>
    obtain ⟨_, _, _, _, _, a⟩ := h1
    obtain ⟨_, _, _, _, _, b⟩ := h2
    exact Option.some.inj (a.symm.trans b)
  | _ => exact Option.some.inj (Eq.trans (Eq.symm h1) h2)
theorem sm_i1 (a : Nat) : nI a + Int32.ofInt 1 = nI (a + 1) := nI_1 a
theorem sm_i4 (a : Nat) : nI a + Int32.ofInt 4 = nI (a + 4) := nI_add a 4
/-- worlds of blocks -/
theorem sm_Psp {D : va_G} {cl : List vw_C} {a b : va_W} {H : Heap} (h : va_P D cl (a ++ b) H) : va_P D cl a H ∧ va_P D cl b H := by
  refine ⟨fun k q hk => h k q ?_, fun k q hk => h (a.length + k) q ?_⟩
  · rw [List.getElem?_append_left (List.getElem?_eq_some_iff.mp hk).1]
    exact hk
  · rw [List.getElem?_append_right (by omega), Nat.add_sub_cancel_left]
    exact hk
theorem sm_Dsp {A : Nat → Prop} {a b : va_W} (h : va_D A (a ++ b)) : va_D A a ∧ va_D A b ∧ ∀ (i j : Nat) (p q : Nat × va_E), a[i]? = some p → b[j]? = some q → p.1 ≠ q.1 := by
  have hl : ∀ {k : Nat} {q : Nat × va_E}, a[k]? = some q → (a ++ b)[k]? = some q := fun {k q} hk => by
    rw [List.getElem?_append_left (List.getElem?_eq_some_iff.mp hk).1]
    exact hk
  have hr : ∀ {k : Nat} {q : Nat × va_E}, b[k]? = some q → (a ++ b)[a.length + k]? = some q := fun {k q} hk => by
    rw [List.getElem?_append_right (by omega), Nat.add_sub_cancel_left]
    exact hk
  refine ⟨⟨fun i j p q hi hj e => h.1 i j p q (hl hi) (hl hj) e, fun k q hk => h.2 k q (hl hk)⟩, ⟨fun i j p q hi hj e => ?_, fun k q hk => h.2 _ q (hr hk)⟩, fun i j p q hi hj e => ?_⟩
  · have := h.1 _ _ p q (hr hi) (hr hj) e
    omega
  · have h1 := h.1 _ _ p q (hl hi) (hr hj) e
    have h2 := (List.getElem?_eq_some_iff.mp hi).1
    omega
theorem sm_join {A0 : Nat → Prop} {D : va_G} {cl : List vw_C} {wa wc wb w1 : va_W} {H H1 : Heap} (hP : va_P D cl (wa ++ (wc ++ wb)) H) (hD : va_D A0 (wa ++ (wc ++ wb)))
    (hk : ∀ q : Nat, q < H.size → ¬ va_A wc H.size q → H1[q]? = H[q]?) (hF : ∀ q, va_A wc H.size q → A0 q) (hP1 : va_P D cl w1 H1) (hD1 : va_D (va_A wc H.size) w1) : va_P D cl (wa ++ (w1 ++ wb)) H1 ∧ va_D A0 (wa ++ (w1 ++ wb)) := by
  obtain ⟨hPa, hPcb⟩ := sm_Psp hP
  obtain ⟨hPc, hPb⟩ := sm_Psp hPcb
  obtain ⟨hDa, hDcb, hx1⟩ := sm_Dsp hD
  obtain ⟨hDc, hDb, hx2⟩ := sm_Dsp hDcb
  have na : ∀ (k : Nat) (q : Nat × va_E), wa[k]? = some q → q.1 < H.size ∧ ¬ va_A wc H.size q.1 := by
    intro k q hq
    have hl := (hPa k q hq).lt
    refine ⟨hl, fun h => ?_⟩
    rcases h with ⟨j, e, h⟩ | h
    · refine hx1 k j q (q.1, e) hq ?_ rfl
      rw [List.getElem?_append_left (List.getElem?_eq_some_iff.mp h).1]
      exact h
    · omega
  have nb : ∀ (k : Nat) (q : Nat × va_E), wb[k]? = some q → q.1 < H.size ∧ ¬ va_A wc H.size q.1 := by
    intro k q hq
    have hl := (hPb k q hq).lt
    refine ⟨hl, fun h => ?_⟩
    rcases h with ⟨j, e, h⟩ | h
    · exact hx2 j k (q.1, e) q h hq rfl
    · omega
  have nx : ∀ (i j : Nat) (p q : Nat × va_E), wa[i]? = some p → wb[j]? = some q → p.1 ≠ q.1 := fun i j p q hi hj => hx1 i (wc.length + j) p q hi (by rw [List.getElem?_append_right (by omega), Nat.add_sub_cancel_left]; exact hj)
  refine ⟨(hPa.kept fun k q hq => hk q.1 (na k q hq).1 (na k q hq).2).app (hP1.app (hPb.kept fun k q hq => hk q.1 (nb k q hq).1 (nb k q hq).2)), hDa.app ((hD1.weaken fun k q _ h => hF q.1 h).app hDb ?_) ?_⟩
  · intro i j p q hi hj e
    exact (nb j q hj).2 (by rw [← e]; exact hD1.2 i p hi)
  · intro i j p q hi hj e
    rcases List.mem_append.mp (List.mem_of_getElem? hj) with h | h
    · obtain ⟨j2, h2⟩ := List.getElem?_of_mem h
      exact (na i p hi).2 (by rw [e]; exact hD1.2 j2 q h2)
    · obtain ⟨j2, h2⟩ := List.getElem?_of_mem h
      exact nx i j2 p q hi h2 e
theorem sm_freeB {A0 : Nat → Prop} {wa wc wb : va_W} {H0 H : Heap} {locs : List Loc} (hD : va_D A0 (wa ++ (wc ++ wb))) (hS : va_S A0 H0 H locs) (hA : ∀ q, H0.size ≤ q → A0 q) : ∀ q, va_A wc H.size q → A0 q := by
  intro q h
  rcases h with ⟨k, e, h⟩ | h
  · exact (sm_Dsp (sm_Dsp hD).2.1).1.2 k (q, e) h
  · exact hA q (Nat.le_trans hS.1 h)
/-- what holds all through a method's body -/
def sm_Cx (p : Program) (s : State) (m : MethodId) (meth : Method) (c : Code) (av : Array Value) (cc : ByteArray) (nL : Nat) (own : String) (ret : Option FieldType) : Prop :=
  p.tables.exec = Jvm.exec ∧ c.code = cc ∧ meth.sig.returnType = ret ∧ meth.locks = false ∧ c.maxLocals = nL ∧ s.vm.findClass own = some m.cls ∧ ∀ w ∈ lw_all, w.before av s = true
theorem sm_enter {l : Launch} {y : MethodName} {cc : ByteArray} {nL : Nat} {ret : Option FieldType} {rm : Room} {av : List Value} {Pb : State → Prop} {Qc : Array Value → State → Outcome → State → Prop} {mc ms : Nat} {free : Addr → Prop} (own : String) (hy : plainName y.cls = true) (ho : y.cls = own) (hn : (lg_sl av).length ≤ nL)
    (kk : ∀ (p : Program) (e : Env) (s : State) (m : MethodId) (below : List Frame) (meth : Method) (c : Code) (ls : Array Slot), sm_Cx p s m meth c av.toArray cc nL own ret → meth.name = y.name → Pb s → lv_has ls nL (lv_args 0 av) →
      W p l e (headSpec (ws_ y cc nL ret) rm).room s m av.toArray below meth c s.heap [] 0 0 (MQ below Qc av.toArray s mc ms free) (F0 m 0 ls [])) : Met l y (ws_ y cc nL ret) rm (va_Pc av Pb) Qc mc ms free := by
  refine Met.ofW (cc := cc) (maxL := nL) (ret := ret) hy rfl ?_
  intro p e s m args below meth c s₁ B hml hv
  obtain ⟨rfl, hPb⟩ := hv
  have hts := atoms_spec (ws := ws_ y cc nL ret) B.pre
  rw [lg_entry_eq]
  exact kk p e s m below meth c _ ⟨B.exec, B.bytes, B.returns, B.notSynchronized, hml, by rw [← ho]; exact findClass_of_methodNamed B.named, fun w h => hts w (List.mem_cons_of_mem _ h)⟩ (name_of_methodNamed B.named B.method).1 hPb (lv_entry av hn)
/-- a method that writes: its world, the statics -/
theorem sm_met {l : Launch} {y : MethodName} {cc : ByteArray} {nL : Nat} {ret : Option FieldType} {rm : Room} {av : List Value} {D : va_G} {dB dN : ClassId} {W0 : va_W} {sz tA pA : Nat} {mc ms : Nat} (own : String) (Qf : (Nat → Prop) → Array Value → State → Outcome → State → Prop) (hy : plainName y.cls = true) (ho : y.cls = own) (hn : (lg_sl av).length ≤ nL)
    (kk : ∀ (p : Program) (e : Env) (s : State) (m : MethodId) (below : List Frame) (meth : Method) (c : Code) (ls : Array Slot) (A : Nat → Prop), sm_Cx p s m meth c av.toArray cc nL own ret → meth.name = y.name → va_P D vwCl W0 s.heap → va_K D vwCl (sm_ty dB dN) s → va_D A W0 → sm_E A tA pA s s.heap → (∀ q, s.heap.size ≤ q → A q) → va_S A s.heap s.heap [] → lv_has ls nL (lv_args 0 av) →
      W p l e (headSpec (ws_ y cc nL ret) rm).room s m av.toArray below meth c s.heap [] 0 0 (MQ below (Qf A) av.toArray s mc ms A) (F0 m 0 ls [])) : Met l y (ws_ y cc nL ret) rm (va_Pc av (sm_pre D dB dN W0 sz tA pA)) (Qf (va_A W0 sz)) mc ms (va_A W0 sz) := by
  refine sm_enter own hy ho hn ?_
  intro p e s m below meth c ls cx hnm hpre hl
  obtain ⟨rfl, hP, hK, hD0, hE⟩ := hpre
  exact kk p e s m below meth c ls _ cx hnm hP hK hD0.self hE (fun q h => Or.inr h) va_S.rf hl
/-- the world behind a method -/
def sm_B (D : va_G) (A : Nat → Prop) (w1 : va_W) (t : State) : Prop := va_P D vwCl w1 t.heap ∧ va_D A w1
/-- the contract's end: void, int -/
def sm_Qv (D : va_G) (post : va_W → Prop) (A : Nat → Prop) : Array Value → State → Outcome → State → Prop := va_Qv post (sm_B D A) A
def sm_Qi (D : va_G) (post : Int32 → va_W → Prop) (A : Nat → Prop) : Array Value → State → Outcome → State → Prop := va_Qi post (sm_B D A) A
def sm_Qr (D : va_G) (post : Nat → va_W → Prop) (A : Nat → Prop) : Array Value → State → Outcome → State → Prop := va_Qr (fun _ : va_W => True) (fun w a t => post a w ∧ sm_B D A w t) A
theorem sm_endv {D : va_G} {post : va_W → Prop} {A : Nat → Prop} {av : Array Value} {s : State} {H : Heap} {locs : List Loc} (w1 : va_W) (hp : post w1) (hP : va_P D vwCl w1 H) (hD : va_D A w1) (hS : va_S A s.heap H locs) : ∀ t : State, t.heap = H → s.WarmedH t.vm → sm_Qv D post A av s (.returned none) t :=
  fun t ht _ => ⟨⟨w1, rfl, hp, by rw [ht]; exact hP, hD⟩, hS.F ht⟩
theorem sm_endi {D : va_G} {post : Int32 → va_W → Prop} {A : Nat → Prop} {av : Array Value} {s : State} {H : Heap} {locs : List Loc} {v : Int32} (w1 : va_W) (hp : post v w1) (hP : va_P D vwCl w1 H) (hD : va_D A w1) (hS : va_S A s.heap H locs) : ∀ t : State, t.heap = H → s.WarmedH t.vm → sm_Qi D post A av s (.returned (some (.int v))) t :=
  fun t ht _ => ⟨⟨v, w1, rfl, hp, by rw [ht]; exact hP, hD⟩, hS.F ht⟩
theorem sm_endr {D : va_G} {post : Nat → va_W → Prop} {A : Nat → Prop} {av : Array Value} {s : State} {H : Heap} {locs : List Loc} {v : Nat} (w1 : va_W) (hp : post v w1) (hP : va_P D vwCl w1 H) (hD : va_D A w1) (hS : va_S A s.heap H locs) : ∀ t : State, t.heap = H → s.WarmedH t.vm → sm_Qr D post A av s (.returned (some (.ref v))) t :=
  fun t ht _ => ⟨⟨w1, v, rfl, trivial, hp, by rw [ht]; exact hP, hD⟩, hS.F ht⟩
/-- the words of a call of an abstract or inherited method, of super, of an interface's method -/
theorem sm_gU {own C owner : String} {idx : Nat} {x y : MethodName} {b : ByteArray} {L : Nat} {r : Option FieldType} (h1 : Cond.methodLink own idx x ∈ lw_all) (h2 : Cond.sameMethod x.cls owner x.name x.desc ∈ lw_all) (h3 : Cond.selects C x y ∈ lw_all) (h4 : Cond.instanceMethod y ∈ lw_all) (h5 : Cond.initialized y.cls ∈ lw_all) (h6 : Cond.code y b L r ∈ lw_all) : GoodIn lw_all (va_wsU own idx C owner x y (ws_ y b L r)) := by
  refine lw_app ?_ (lw_meth h6)
  intro w hw
  simp only [List.mem_cons, List.not_mem_nil, or_false] at hw
  rcases hw with e | e | e | e | e
  · rw [e]; exact h1
  · rw [e]; exact h2
  · rw [e]; exact h3
  · rw [e]; exact h4
  · rw [e]; exact h5
theorem sm_gSU {own : String} {idx : Nat} {y : MethodName} {b : ByteArray} {L : Nat} {r : Option FieldType} (h1 : Cond.methodLink own idx y ∈ lw_all) (h2 : Cond.sameMethod y.cls y.cls y.name y.desc ∈ lw_all) (h3 : Cond.superclass own y.cls ∈ lw_all) (h4 : Cond.instanceMethod y ∈ lw_all) (h5 : Cond.initialized y.cls ∈ lw_all) (h6 : Cond.code y b L r ∈ lw_all) : GoodIn lw_all (va_wsSU own idx y (ws_ y b L r)) := by
  refine lw_app ?_ (lw_meth h6)
  intro w hw
  simp only [List.mem_cons, List.not_mem_nil, or_false] at hw
  rcases hw with e | e | e | e | e
  · rw [e]; exact h1
  · rw [e]; exact h2
  · rw [e]; exact h3
  · rw [e]; exact h4
  · rw [e]; exact h5
theorem sm_gF {own C : String} {idx : Nat} {x y : MethodName} {b : ByteArray} {L : Nat} {r : Option FieldType} (h1 : Cond.methodLink own idx x ∈ lw_all) (h3 : Cond.selects C x y ∈ lw_all) (h4 : Cond.instanceMethod y ∈ lw_all) (h5 : Cond.initialized y.cls ∈ lw_all) (h6 : Cond.code y b L r ∈ lw_all) : GoodIn lw_all (va_wsF own idx C x y (ws_ y b L r)) := by
  refine lw_app ?_ (lw_meth h6)
  intro w hw
  simp only [List.mem_cons, List.not_mem_nil, or_false] at hw
  rcases hw with e | e | e | e
  · rw [e]; exact h1
  · rw [e]; exact h3
  · rw [e]; exact h4
  · rw [e]; exact h5
def sm_xF : MethodName := ⟨"SM3Digest", "finish", "()V"⟩
section Calls
variable {p : Program} {l : Launch} {e : Env} {R : Room} {s : State} {m : MethodId} {args : Array Value} {below : List Frame} {meth : Method} {c : Code} {H : Heap} {locs : List Loc} {cells slots : Nat} {Q : State → Prop}
variable {cc : ByteArray} {pc : Nat} {ls : Array Slot} {rest st0 : List Value} {a : Array Value} {A : Nat → Prop} {mc ms : Nat} {D : va_G} {ws wc wr wa wb : va_W} {dB dN : ClassId} {tA pA : Nat}
theorem sm_backv {post : va_W → Prop} (hr : va_Run p l e R s m args below meth c H locs cells slots mc ms (F0 m pc ls st0) rest (sm_Qv D post (va_A wc H.size) a) (va_A wc H.size)) (hP : va_P D vwCl ws H) (hD : va_D A ws) (hS : va_S A s.heap H locs) (hF : ∀ q, va_A wc H.size q → A q) (isC isR : List Nat) (hC : isC.map (fun i => ws[i]?) = wc.map some) (hR : isR.map (fun i => ws[i]?) = wr.map some) (hn : va_nd isR = true) (hdis : ∀ i ∈ isR, i ∉ isC)
    (kk : ∀ (w1 : va_W) (H1 : Heap) (locs1 : List Loc), post w1 → va_P D vwCl (wr ++ w1) H1 → va_D A (wr ++ w1) → va_S A s.heap H1 locs1 → W p l e R s m args below meth c H1 locs1 (cells + mc) (slots + ms) Q (F0 m (pc + 3) ls rest)) : W p l e R s m args below meth c H locs cells slots Q (F0 m pc ls st0) :=
  va_callv hr hS (fun q _ h => hF q h) hF (fun u t H1 locs1 ht _ hp hB _ hk hS => by
    obtain ⟨hP1, hD1⟩ := hB
    rw [ht] at hP1
    obtain ⟨hP, hD⟩ := va_join hP hD isC isR hC hR hn hdis hk hF hP1 hD1
    exact kk u H1 locs1 hp hP hD hS)
theorem sm_backi {post : Int32 → va_W → Prop} (hr : va_Run p l e R s m args below meth c H locs cells slots mc ms (F0 m pc ls st0) rest (sm_Qi D post (va_A wc H.size) a) (va_A wc H.size)) (hP : va_P D vwCl ws H) (hD : va_D A ws) (hS : va_S A s.heap H locs) (hF : ∀ q, va_A wc H.size q → A q) (isC isR : List Nat) (hC : isC.map (fun i => ws[i]?) = wc.map some) (hR : isR.map (fun i => ws[i]?) = wr.map some) (hn : va_nd isR = true) (hdis : ∀ i ∈ isR, i ∉ isC)
    (kk : ∀ (r : Int32) (w1 : va_W) (H1 : Heap) (locs1 : List Loc), post r w1 → va_P D vwCl (wr ++ w1) H1 → va_D A (wr ++ w1) → va_S A s.heap H1 locs1 → W p l e R s m args below meth c H1 locs1 (cells + mc) (slots + ms) Q (F0 m (pc + 3) ls (.int r :: rest))) : W p l e R s m args below meth c H locs cells slots Q (F0 m pc ls st0) :=
  va_calli hr hS (fun q _ h => hF q h) hF (fun r u t H1 locs1 ht _ hp hB _ hk hS => by
    obtain ⟨hP1, hD1⟩ := hB
    rw [ht] at hP1
    obtain ⟨hP, hD⟩ := va_join hP hD isC isR hC hR hn hdis hk hF hP1 hD1
    exact kk r u H1 locs1 hp hP hD hS)
theorem sm_back5v {post : va_W → Prop} (hr : va_Run5 p l e R s m args below meth c H locs cells slots mc ms (F0 m pc ls st0) rest (sm_Qv D post (va_A wc H.size) a) (va_A wc H.size)) (hP : va_P D vwCl ws H) (hD : va_D A ws) (hS : va_S A s.heap H locs) (hF : ∀ q, va_A wc H.size q → A q) (isC isR : List Nat) (hC : isC.map (fun i => ws[i]?) = wc.map some) (hR : isR.map (fun i => ws[i]?) = wr.map some) (hn : va_nd isR = true) (hdis : ∀ i ∈ isR, i ∉ isC)
    (kk : ∀ (w1 : va_W) (H1 : Heap) (locs1 : List Loc), post w1 → va_P D vwCl (wr ++ w1) H1 → va_D A (wr ++ w1) → va_S A s.heap H1 locs1 → W p l e R s m args below meth c H1 locs1 (cells + mc) (slots + ms) Q (F0 m (pc + 5) ls rest)) : W p l e R s m args below meth c H locs cells slots Q (F0 m pc ls st0) :=
  va_callFv hr hS (fun q _ h => hF q h) hF (fun u t H1 locs1 ht _ hp hB _ hk hS => by
    obtain ⟨hP1, hD1⟩ := hB
    rw [ht] at hP1
    obtain ⟨hP, hD⟩ := va_join hP hD isC isR hC hR hn hdis hk hF hP1 hD1
    exact kk u H1 locs1 hp hP hD hS)
theorem sm_back5i {post : Int32 → va_W → Prop} (hr : va_Run5 p l e R s m args below meth c H locs cells slots mc ms (F0 m pc ls st0) rest (sm_Qi D post (va_A wc H.size) a) (va_A wc H.size)) (hP : va_P D vwCl ws H) (hD : va_D A ws) (hS : va_S A s.heap H locs) (hF : ∀ q, va_A wc H.size q → A q) (isC isR : List Nat) (hC : isC.map (fun i => ws[i]?) = wc.map some) (hR : isR.map (fun i => ws[i]?) = wr.map some) (hn : va_nd isR = true) (hdis : ∀ i ∈ isR, i ∉ isC)
    (kk : ∀ (r : Int32) (w1 : va_W) (H1 : Heap) (locs1 : List Loc), post r w1 → va_P D vwCl (wr ++ w1) H1 → va_D A (wr ++ w1) → va_S A s.heap H1 locs1 → W p l e R s m args below meth c H1 locs1 (cells + mc) (slots + ms) Q (F0 m (pc + 5) ls (.int r :: rest))) : W p l e R s m args below meth c H locs cells slots Q (F0 m pc ls st0) :=
  va_callFi hr hS (fun q _ h => hF q h) hF (fun r u t H1 locs1 ht _ hp hB _ hk hS => by
    obtain ⟨hP1, hD1⟩ := hB
    rw [ht] at hP1
    obtain ⟨hP, hD⟩ := va_join hP hD isC isR hC hR hn hdis hk hF hP1 hD1
    exact kk r u H1 locs1 hp hP hD hS)
/-- the same, in a world of blocks -/
theorem sm_bbv {post : va_W → Prop} (hr : va_Run p l e R s m args below meth c H locs cells slots mc ms (F0 m pc ls st0) rest (sm_Qv D post (va_A wc H.size) a) (va_A wc H.size)) (hP : va_P D vwCl (wa ++ (wc ++ wb)) H) (hD : va_D A (wa ++ (wc ++ wb))) (hS : va_S A s.heap H locs) (hF : ∀ q, va_A wc H.size q → A q)
    (kk : ∀ (w1 : va_W) (H1 : Heap) (locs1 : List Loc), post w1 → va_P D vwCl (wa ++ (w1 ++ wb)) H1 → va_D A (wa ++ (w1 ++ wb)) → va_S A s.heap H1 locs1 → W p l e R s m args below meth c H1 locs1 (cells + mc) (slots + ms) Q (F0 m (pc + 3) ls rest)) : W p l e R s m args below meth c H locs cells slots Q (F0 m pc ls st0) :=
  va_callv hr hS (fun q _ h => hF q h) hF (fun u t H1 locs1 ht _ hp hB _ hk hS => by
    obtain ⟨hP1, hD1⟩ := hB
    rw [ht] at hP1
    obtain ⟨hP, hD⟩ := sm_join hP hD hk hF hP1 hD1
    exact kk u H1 locs1 hp hP hD hS)
theorem sm_bbi {post : Int32 → va_W → Prop} (hr : va_Run p l e R s m args below meth c H locs cells slots mc ms (F0 m pc ls st0) rest (sm_Qi D post (va_A wc H.size) a) (va_A wc H.size)) (hP : va_P D vwCl (wa ++ (wc ++ wb)) H) (hD : va_D A (wa ++ (wc ++ wb))) (hS : va_S A s.heap H locs) (hF : ∀ q, va_A wc H.size q → A q)
    (kk : ∀ (r : Int32) (w1 : va_W) (H1 : Heap) (locs1 : List Loc), post r w1 → va_P D vwCl (wa ++ (w1 ++ wb)) H1 → va_D A (wa ++ (w1 ++ wb)) → va_S A s.heap H1 locs1 → W p l e R s m args below meth c H1 locs1 (cells + mc) (slots + ms) Q (F0 m (pc + 3) ls (.int r :: rest))) : W p l e R s m args below meth c H locs cells slots Q (F0 m pc ls st0) :=
  va_calli hr hS (fun q _ h => hF q h) hF (fun r u t H1 locs1 ht _ hp hB _ hk hS => by
    obtain ⟨hP1, hD1⟩ := hB
    rw [ht] at hP1
    obtain ⟨hP, hD⟩ := sm_join hP hD hk hF hP1 hD1
    exact kk r u H1 locs1 hp hP hD hS)
theorem sm_bbr {post : Nat → va_W → Prop} (hr : va_Run p l e R s m args below meth c H locs cells slots mc ms (F0 m pc ls st0) rest (sm_Qr D post (va_A wc H.size) a) (va_A wc H.size)) (hP : va_P D vwCl (wa ++ (wc ++ wb)) H) (hD : va_D A (wa ++ (wc ++ wb))) (hS : va_S A s.heap H locs) (hF : ∀ q, va_A wc H.size q → A q)
    (kk : ∀ (r : Nat) (w1 : va_W) (H1 : Heap) (locs1 : List Loc), post r w1 → va_P D vwCl (wa ++ (w1 ++ wb)) H1 → va_D A (wa ++ (w1 ++ wb)) → va_S A s.heap H1 locs1 → W p l e R s m args below meth c H1 locs1 (cells + mc) (slots + ms) Q (F0 m (pc + 3) ls (.ref r :: rest))) : W p l e R s m args below meth c H locs cells slots Q (F0 m pc ls st0) :=
  va_callr hr hS (fun q _ h => hF q h) hF (fun u r t H1 locs1 ht _ _ hB _ hk hS => by
    obtain ⟨hp, hP1, hD1⟩ := hB
    rw [ht] at hP1
    obtain ⟨hP, hD⟩ := sm_join hP hD hk hF hP1 hD1
    exact kk r u H1 locs1 hp hP hD hS)
/-- a new array of bytes or ints -/
theorem sm_newa (hx : p.tables.exec = Jvm.exec) (hb : c.code = cc) {atype : ArrayType} (harr : (Cond.arrayClass (newarray.typeOf atype)).before args s = true) {ty : FieldType} (hty : newarray.typeOf atype = ty) (hK : va_K D vwCl (sm_ty dB dN) s) (hP : va_P D vwCl ws H) (hD : va_D A ws) {H0 : Heap} (hS : va_S A H0 H locs) (hA : ∀ q, H0.size ≤ q → A q)
    (t0 : Nat) {cB : ClassId} (ht : (sm_ty dB dN)[t0]? = some (cB, ty)) {n : Int32} (N : Nat) (ha : ∀ cA : ClassId, vp_cell cA (N, .inl (fun _ => 0)) = arrV cA N (fun _ => defaultValue ty)) (hn : n = nI N) (hN : N < 2 ^ 31) (hbytes : N * componentBytes ty ≤ 536870912) (hcells : cells + 1 ≤ R.cells) (hslots : slots + N ≤ R.slots) (hdg : decode cc pc = .ok (.newarray atype, 2))
    (kk : ∀ (q : Nat) (H1 : Heap), va_P D vwCl (ws ++ [(q, .inl (cB, (N, .inl (fun _ => 0))))]) H1 → va_D A (ws ++ [(q, .inl (cB, (N, .inl (fun _ => 0))))]) → va_S A H0 H1 locs →
      W p l e R s m args below meth c H1 locs (cells + 1) (slots + N) Q (F0 m (pc + 2) ls (.ref q :: rest))) : W p l e R s m args below meth c H locs cells slots Q (F0 m pc ls (.int n :: rest)) := by
  subst hn
  refine va_newa hx hb harr hty hK hP hD hS hA (a0 := (N, .inl (fun _ => 0))) ha (nI_pos hN) (nI_clamp hN) hbytes hcells hslots hdg (fun q cA H1 hK1 hP1 hD1 hS1 => ?_)
  have e : cA = cB := sm_RAeq (hK1.2 2 (cA, ty) rfl).2 (hK.2 t0 _ ht).2
  subst e
  exact kk q H1 hP1 hD1 hS1
/-- the table T -/
theorem sm_tld (hx : p.tables.exec = Jvm.exec) (hb : c.code = cc) (hE : sm_E A tA pA s s.heap) (hS : va_S A s.heap H locs) {i : Int32} (k : Nat) (hi : i = nI k) (hk : k < 64) (hdg : decode cc pc = .ok (.iaload, 1))
    (kk : W p l e R s m args below meth c H locs cells slots Q (F0 m (pc + 1) ls (.int (sm_T k) :: rest))) : W p l e R s m args below meth c H locs cells slots Q (F0 m pc ls (.int i :: .ref tA :: rest)) := by
  subst hi
  exact va_ti hx hb hE.2.1 hS (vp_in_nI hk (by decide)) (by rw [nI_clamp (by omega)]) hdg kk
/-- an old int array that nobody writes: the script -/
theorem sm_sld (hx : p.tables.exec = Jvm.exec) (hb : c.code = cc) {b L : Nat} {xs : Nat → Int32} (hT : va_T .int b L (fun j => .int (xs j)) A s s.heap) (hS : va_S A s.heap H locs) {i : Int32} (k : Nat) (hi : i = nI k) (hk : k < L) (hL : L < 2 ^ 31) (hdg : decode cc pc = .ok (.iaload, 1))
    (kk : W p l e R s m args below meth c H locs cells slots Q (F0 m (pc + 1) ls (.int (xs k) :: rest))) : W p l e R s m args below meth c H locs cells slots Q (F0 m pc ls (.int i :: .ref b :: rest)) := by
  subst hi
  exact va_ti hx hb hT hS (vp_in_nI hk hL) (by rw [nI_clamp (by omega)]) hdg kk
end Calls
end
section
/-! LEAVES: Pack, P0 .. GG1 -/
set_option maxRecDepth 100000
set_option maxHeartbeats 4000000 in
set_option maxRecDepth 100000 in
/-- Pack.bigEndianToInt(bs, off): four bytes as an int; nothing is written -/
theorem met_be (l : Launch) (D : va_G) (dB dN : ClassId) (ha n : Nat) (f : Nat → Int32) (k : Nat) (hk : k + 3 < n) (hn : n < 2 ^ 31) : Met l yX4_bigEndianToInt (ws_ yX4_bigEndianToInt cX4_bigEndianToInt 3 (some .int)) ({ frames := 0, cells := 0, slots := 0, locals := 0 }) (va_Pc [.ref ha, .int (nI k)] (sm_pr0 D dB dN [(ha, .inl (dB, n, .inl f))])) (vp_Si (fun r => r = sm_be (f k) (f (k + 1)) (f (k + 2)) (f (k + 3)))) 0 0 (fun _ => False) := by
  refine sm_enter RX4 (by decide) rfl (Nat.le_of_ble_eq_true rfl) ?_
  intro p e s m below meth c ls cx hnm hpre hl
  obtain ⟨hx, hb, hr, hlk, hml, hown, hts⟩ := cx
  obtain ⟨hP, hK⟩ := hpre
  have hl : lv_has ls 3 [(0, .ref ha), (1, .int (nI k))] := hl
  refine lv_aload_n hx hb dX4_bigEndianToInt_0 rfl (lv_at hl 0 rfl) ?_
  refine lv_iload_n hx hb dX4_bigEndianToInt_1 rfl (lv_at hl 1 rfl) ?_
  refine sm_bld hx hb hK hP 0 0 rfl rfl k rfl (by omega) hn dX4_bigEndianToInt_2 ?_
  refine lv_bipush (v := (24 : Int32)) hx hb dX4_bigEndianToInt_3 (by decide) ?_
  refine lv_ishl hx hb dX4_bigEndianToInt_5 ?_
  refine lv_topi (fun n0 en0 => ?_)
  refine lv_istore_n (lv' := [(2, .int n0), (0, .ref ha), (1, .int (nI k))]) hx hb dX4_bigEndianToInt_6 rfl hl (by decide) rfl (fun ls hl => ?_)
  refine lv_iload_n hx hb dX4_bigEndianToInt_7 rfl (lv_at hl 0 rfl) ?_
  refine lv_aload_n hx hb dX4_bigEndianToInt_8 rfl (lv_at hl 1 rfl) ?_
  refine lv_iinc (v := (nI (k + 1))) (lv' := [(1, .int (nI (k + 1))), (2, .int n0), (0, .ref ha)]) hx hb dX4_bigEndianToInt_9 hl (k := 2) rfl (sm_i1 k) (by decide) rfl (fun ls hl => ?_)
  refine lv_iload_n hx hb dX4_bigEndianToInt_12 rfl (lv_at hl 0 rfl) ?_
  refine sm_bld hx hb hK hP 0 0 rfl rfl (k + 1) rfl (by omega) hn dX4_bigEndianToInt_13 ?_
  refine lv_sipush (v := (255 : Int32)) hx hb dX4_bigEndianToInt_14 (by decide) ?_
  refine lv_iand hx hb dX4_bigEndianToInt_17 ?_
  refine lv_bipush (v := (16 : Int32)) hx hb dX4_bigEndianToInt_18 (by decide) ?_
  refine lv_ishl hx hb dX4_bigEndianToInt_20 ?_
  refine lv_ior hx hb dX4_bigEndianToInt_21 ?_
  refine lv_topi (fun n1 en1 => ?_)
  refine lv_istore_n (lv' := [(2, .int n1), (1, .int (nI (k + 1))), (0, .ref ha)]) hx hb dX4_bigEndianToInt_22 rfl hl (by decide) rfl (fun ls hl => ?_)
  refine lv_iload_n hx hb dX4_bigEndianToInt_23 rfl (lv_at hl 0 rfl) ?_
  refine lv_aload_n hx hb dX4_bigEndianToInt_24 rfl (lv_at hl 2 rfl) ?_
  refine lv_iinc (v := (nI (k + 2))) (lv' := [(1, .int (nI (k + 2))), (2, .int n1), (0, .ref ha)]) hx hb dX4_bigEndianToInt_25 hl (k := 1) rfl (sm_i1 (k + 1)) (by decide) rfl (fun ls hl => ?_)
  refine lv_iload_n hx hb dX4_bigEndianToInt_28 rfl (lv_at hl 0 rfl) ?_
  refine sm_bld hx hb hK hP 0 0 rfl rfl (k + 2) rfl (by omega) hn dX4_bigEndianToInt_29 ?_
  refine lv_sipush (v := (255 : Int32)) hx hb dX4_bigEndianToInt_30 (by decide) ?_
  refine lv_iand hx hb dX4_bigEndianToInt_33 ?_
  refine lv_bipush (v := (8 : Int32)) hx hb dX4_bigEndianToInt_34 (by decide) ?_
  refine lv_ishl hx hb dX4_bigEndianToInt_36 ?_
  refine lv_ior hx hb dX4_bigEndianToInt_37 ?_
  refine lv_topi (fun n2 en2 => ?_)
  refine lv_istore_n (lv' := [(2, .int n2), (1, .int (nI (k + 2))), (0, .ref ha)]) hx hb dX4_bigEndianToInt_38 rfl hl (by decide) rfl (fun ls hl => ?_)
  refine lv_iload_n hx hb dX4_bigEndianToInt_39 rfl (lv_at hl 0 rfl) ?_
  refine lv_aload_n hx hb dX4_bigEndianToInt_40 rfl (lv_at hl 2 rfl) ?_
  refine lv_iinc (v := (nI (k + 3))) (lv' := [(1, .int (nI (k + 3))), (2, .int n2), (0, .ref ha)]) hx hb dX4_bigEndianToInt_41 hl (k := 1) rfl (sm_i1 (k + 2)) (by decide) rfl (fun ls hl => ?_)
  refine lv_iload_n hx hb dX4_bigEndianToInt_44 rfl (lv_at hl 0 rfl) ?_
  refine sm_bld hx hb hK hP 0 0 rfl rfl (k + 3) rfl (by omega) hn dX4_bigEndianToInt_45 ?_
  refine lv_sipush (v := (255 : Int32)) hx hb dX4_bigEndianToInt_46 (by decide) ?_
  refine lv_iand hx hb dX4_bigEndianToInt_49 ?_
  refine lv_ior hx hb dX4_bigEndianToInt_50 ?_
  refine lv_topi (fun n3 en3 => ?_)
  refine lv_istore_n (lv' := [(2, .int n3), (1, .int (nI (k + 3))), (0, .ref ha)]) hx hb dX4_bigEndianToInt_51 rfl hl (by decide) rfl (fun ls hl => ?_)
  refine lv_iload_n hx hb dX4_bigEndianToInt_52 rfl (lv_at hl 0 rfl) ?_
  exact W.iret (v := n3) hx hb hr (fun t ht hW => ⟨_, rfl, by rw [en3, en2, en1, en0]; rfl, ht⟩) (fun _ h => by cases h) dX4_bigEndianToInt_53 hlk
def sm_u4 (f : Nat → Int32) (k : Nat) (x : Int32) : Nat → Int32 := upd (upd (upd (upd f k (sm_ob x 0)) (k + 1) (sm_ob x 1)) (k + 2) (sm_ob x 2)) (k + 3) (sm_ob x 3)
theorem sm_u4_lo {f : Nat → Int32} {k j : Nat} {x : Int32} (h : j < k) : sm_u4 f k x j = f j := by
  unfold sm_u4
  rw [pk_un (by omega), pk_un (by omega), pk_un (by omega), pk_un (by omega)]
theorem sm_u4_hi {f : Nat → Int32} {k j : Nat} {x : Int32} (h : k + 4 ≤ j) : sm_u4 f k x j = f j := by
  unfold sm_u4
  rw [pk_un (by omega), pk_un (by omega), pk_un (by omega), pk_un (by omega)]
theorem sm_u4_in {f : Nat → Int32} {k j : Nat} {x : Int32} (h : j < 4) : sm_u4 f k x (k + j) = sm_ob x j := by
  unfold sm_u4
  match j, h with
  | 0, _ => rw [pk_un (by omega), pk_un (by omega), pk_un (by omega)]; exact pk_us
  | 1, _ => rw [pk_un (by omega), pk_un (by omega), pk_us]
  | 2, _ => rw [pk_un (by omega), pk_us]
  | 3, _ => rw [pk_us]
set_option maxHeartbeats 4000000 in
set_option maxRecDepth 100000 in
/-- Pack.intToBigEndian(x, bs, off): four bytes at off -/
theorem met_i2b (l : Launch) (D : va_G) (dB dN : ClassId) (sz tA pA : Nat) (hb0 n : Nat) (f : Nat → Int32) (k : Nat) (x : Int32) (hk : k + 3 < n) (hn : n < 2 ^ 31) : Met l yX4_intToBigEndian_2 (ws_ yX4_intToBigEndian_2 cX4_intToBigEndian_2 3 none) ({ frames := 0, cells := 0, slots := 0, locals := 0 }) (va_Pc [.int x, .ref hb0, .int (nI k)] (sm_pre D dB dN [(hb0, .inl (dB, n, .inl f))] sz tA pA)) (sm_Qv D (fun w => w = [(hb0, .inl (dB, n, .inl (sm_u4 f k x)))]) (va_A [(hb0, .inl (dB, n, .inl f))] sz)) 0 0 (va_A [(hb0, .inl (dB, n, .inl f))] sz) := by
  refine sm_met RX4 (sm_Qv D _) (by decide) rfl (Nat.le_of_ble_eq_true rfl) ?_
  intro p e s m below meth c ls A cx hnm hP hK hD hE hA hS hl
  obtain ⟨hx, hb, hr, hlk, hml, hown, hts⟩ := cx
  have hl : lv_has ls 3 [(0, .int x), (1, .ref hb0), (2, .int (nI k))] := hl
  refine lv_aload_n hx hb dX4_intToBigEndian_2_0 rfl (lv_at hl 1 rfl) ?_
  refine lv_iload_n hx hb dX4_intToBigEndian_2_1 rfl (lv_at hl 2 rfl) ?_
  refine lv_iload_n hx hb dX4_intToBigEndian_2_2 rfl (lv_at hl 0 rfl) ?_
  refine lv_bipush (v := (24 : Int32)) hx hb dX4_intToBigEndian_2_3 (by decide) ?_
  refine lv_iushr hx hb dX4_intToBigEndian_2_5 rfl ?_
  refine lv_i2b hx hb dX4_intToBigEndian_2_6 rfl ?_
  refine sm_bst hx hb hK hP hD hS 0 0 rfl rfl (sm_ob x 0) k rfl (by omega) hn (pk_vb _) dX4_intToBigEndian_2_7 (fun H locs hP hD hS => ?_)
  have hP : va_P D vwCl [(hb0, .inl (dB, n, .inl (upd f k (sm_ob x 0))))] H := hP
  have hD : va_D A [(hb0, .inl (dB, n, .inl (upd f k (sm_ob x 0))))] := hD
  refine lv_aload_n hx hb dX4_intToBigEndian_2_8 rfl (lv_at hl 1 rfl) ?_
  refine lv_iinc (v := (nI (k + 1))) (lv' := [(2, .int (nI (k + 1))), (0, .int x), (1, .ref hb0)]) hx hb dX4_intToBigEndian_2_9 hl (k := 2) rfl (sm_i1 k) (by decide) rfl (fun ls hl => ?_)
  refine lv_iload_n hx hb dX4_intToBigEndian_2_12 rfl (lv_at hl 0 rfl) ?_
  refine lv_iload_n hx hb dX4_intToBigEndian_2_13 rfl (lv_at hl 1 rfl) ?_
  refine lv_bipush (v := (16 : Int32)) hx hb dX4_intToBigEndian_2_14 (by decide) ?_
  refine lv_iushr hx hb dX4_intToBigEndian_2_16 rfl ?_
  refine lv_i2b hx hb dX4_intToBigEndian_2_17 rfl ?_
  refine sm_bst hx hb hK hP hD hS 0 0 rfl rfl (sm_ob x 1) (k + 1) rfl (by omega) hn (pk_vb _) dX4_intToBigEndian_2_18 (fun H locs hP hD hS => ?_)
  have hP : va_P D vwCl [(hb0, .inl (dB, n, .inl (upd (upd f k (sm_ob x 0)) (k + 1) (sm_ob x 1))))] H := hP
  have hD : va_D A [(hb0, .inl (dB, n, .inl (upd (upd f k (sm_ob x 0)) (k + 1) (sm_ob x 1))))] := hD
  refine lv_aload_n hx hb dX4_intToBigEndian_2_19 rfl (lv_at hl 2 rfl) ?_
  refine lv_iinc (v := (nI (k + 2))) (lv' := [(2, .int (nI (k + 2))), (0, .int x), (1, .ref hb0)]) hx hb dX4_intToBigEndian_2_20 hl (k := 0) rfl (sm_i1 (k + 1)) (by decide) rfl (fun ls hl => ?_)
  refine lv_iload_n hx hb dX4_intToBigEndian_2_23 rfl (lv_at hl 0 rfl) ?_
  refine lv_iload_n hx hb dX4_intToBigEndian_2_24 rfl (lv_at hl 1 rfl) ?_
  refine lv_bipush (v := (8 : Int32)) hx hb dX4_intToBigEndian_2_25 (by decide) ?_
  refine lv_iushr hx hb dX4_intToBigEndian_2_27 rfl ?_
  refine lv_i2b hx hb dX4_intToBigEndian_2_28 rfl ?_
  refine sm_bst hx hb hK hP hD hS 0 0 rfl rfl (sm_ob x 2) (k + 2) rfl (by omega) hn (pk_vb _) dX4_intToBigEndian_2_29 (fun H locs hP hD hS => ?_)
  have hP : va_P D vwCl [(hb0, .inl (dB, n, .inl (upd (upd (upd f k (sm_ob x 0)) (k + 1) (sm_ob x 1)) (k + 2) (sm_ob x 2))))] H := hP
  have hD : va_D A [(hb0, .inl (dB, n, .inl (upd (upd (upd f k (sm_ob x 0)) (k + 1) (sm_ob x 1)) (k + 2) (sm_ob x 2))))] := hD
  refine lv_aload_n hx hb dX4_intToBigEndian_2_30 rfl (lv_at hl 2 rfl) ?_
  refine lv_iinc (v := (nI (k + 3))) (lv' := [(2, .int (nI (k + 3))), (0, .int x), (1, .ref hb0)]) hx hb dX4_intToBigEndian_2_31 hl (k := 0) rfl (sm_i1 (k + 2)) (by decide) rfl (fun ls hl => ?_)
  refine lv_iload_n hx hb dX4_intToBigEndian_2_34 rfl (lv_at hl 0 rfl) ?_
  refine lv_iload_n hx hb dX4_intToBigEndian_2_35 rfl (lv_at hl 1 rfl) ?_
  refine lv_i2b hx hb dX4_intToBigEndian_2_36 rfl ?_
  refine sm_bst hx hb hK hP hD hS 0 0 rfl rfl (sm_ob x 3) (k + 3) rfl (by omega) hn (pk_vb _) dX4_intToBigEndian_2_37 (fun H locs hP hD hS => ?_)
  have hP : va_P D vwCl [(hb0, .inl (dB, n, .inl (upd (upd (upd (upd f k (sm_ob x 0)) (k + 1) (sm_ob x 1)) (k + 2) (sm_ob x 2)) (k + 3) (sm_ob x 3))))] H := hP
  have hD : va_D A [(hb0, .inl (dB, n, .inl (upd (upd (upd (upd f k (sm_ob x 0)) (k + 1) (sm_ob x 1)) (k + 2) (sm_ob x 2)) (k + 3) (sm_ob x 3))))] := hD
  exact W.vret hx hb hr (sm_endv _ (by rfl) hP hD hS) hS.2.2 dX4_intToBigEndian_2_38 hlk
theorem sm_u4_st {fv fo g : Nat → Int32} {i : Nat} (h : ∀ j, j < 64 → g j = if j < 4 * i then sm_ob (fv (j / 4)) (j % 4) else fo j) : ∀ j, j < 64 → sm_u4 g (4 * i) (fv i) j = if j < 4 * (i + 1) then sm_ob (fv (j / 4)) (j % 4) else fo j := by
  intro j hj
  rcases Nat.lt_or_ge j (4 * i) with h1 | h1
  · rw [sm_u4_lo h1, h j hj, if_pos h1, if_pos (by omega)]
  · rcases Nat.lt_or_ge j (4 * i + 4) with h2 | h2
    · have e : j = 4 * i + (j - 4 * i) := by omega
      have e4 : j / 4 = i := by omega
      have e5 : j % 4 = j - 4 * i := by omega
      rw [if_pos (by omega), e4, e5]
      conv => lhs; rw [e]
      rw [sm_u4_in (by omega)]
    · rw [sm_u4_hi h2, h j hj, if_neg (by omega), if_neg (by omega)]
set_option maxHeartbeats 4000000 in
set_option maxRecDepth 100000 in
theorem lp_i2b {p : Program} {l : Launch} {e : Env} {R : Room} {s : State} {m : MethodId} {av : Array Value} {below : List Frame} {meth : Method} {c : Code} {cells slots : Nat} {Q : State → Prop} {D : va_G} {dB dN : ClassId} {tA pA : Nat} {A : Nat → Prop} {hv ho : Nat} {fv fo : Nat → Int32} (cx : sm_Cx p s m meth c av cX4_intToBigEndian 4 RX4 none) (hRf : 1 ≤ R.frames) (hRl : 22 ≤ R.locals) (hf : cells ≤ R.cells ∧ slots ≤ R.slots) (hK : va_K D vwCl (sm_ty dB dN) s) (hE : sm_E A tA pA s s.heap) (hA : ∀ q, s.heap.size ≤ q → A q)
    (kk : ∀ (g : Nat → Int32) (H : Heap) (locs : List Loc) (ls : Array Slot), (∀ j, j < 64 → g j = if j < 32 then sm_ob (fv (j / 4)) (j % 4) else fo j) → va_P D vwCl [(hv, .inl (dN, 8, .inl fv)), (ho, .inl (dB, 64, .inl g))] H → va_D A [(hv, .inl (dN, 8, .inl fv)), (ho, .inl (dB, 64, .inl g))] → va_S A s.heap H locs → W p l e R s m av below meth c H locs cells slots Q (F0 m 25 ls [])) :
    ∀ (n i : Nat) (g : Nat → Int32) (H : Heap) (locs : List Loc) (ls : Array Slot), i + n = 8 → (∀ j, j < 64 → g j = if j < 4 * i then sm_ob (fv (j / 4)) (j % 4) else fo j) → va_P D vwCl [(hv, .inl (dN, 8, .inl fv)), (ho, .inl (dB, 64, .inl g))] H → va_D A [(hv, .inl (dN, 8, .inl fv)), (ho, .inl (dB, 64, .inl g))] → va_S A s.heap H locs → lv_has ls 4 [(0, .ref hv), (1, .ref ho), (2, .int (nI (4 * i))), (3, .int (nI i))] → W p l e R s m av below meth c H locs cells slots Q (F0 m 2 ls []) := by
  obtain ⟨hx, hb, hr, hlk, hml, hown, hts⟩ := cx
  intro n
  induction n with
  | zero =>
    intro i g H locs ls hi hg hP hD hS hl
    have hi8 : i = 8 := by omega
    subst hi8
    refine lv_iload_n hx hb dX4_intToBigEndian_2 rfl (lv_at hl 3 rfl) ?_
    refine lv_aload_n hx hb dX4_intToBigEndian_3 rfl (lv_at hl 0 rfl) ?_
    refine va_alen (v := nI 8) hx hb hK hP 0 1 rfl rfl rfl dX4_intToBigEndian_4 ?_
    refine lv_icmp_ge (tgt := 25) hx hb dX4_intToBigEndian_5 (by decide) (fun _ => ?_) (fun hc => absurd (Int32.le_refl _) hc)
    exact kk g H locs ls hg hP hD hS
  | succ n ih =>
    intro i g H locs ls hi hg hP hD hS hl
    refine lv_iload_n hx hb dX4_intToBigEndian_2 rfl (lv_at hl 3 rfl) ?_
    refine lv_aload_n hx hb dX4_intToBigEndian_3 rfl (lv_at hl 0 rfl) ?_
    refine va_alen (v := nI 8) hx hb hK hP 0 1 rfl rfl rfl dX4_intToBigEndian_4 ?_
    refine lv_icmp_ge (tgt := 25) hx hb dX4_intToBigEndian_5 (by decide) (fun hc => absurd hc (nI_ge (show i < 8 by omega) (by decide))) (fun _ => ?_)
    refine lv_aload_n hx hb dX4_intToBigEndian_8 rfl (lv_at hl 0 rfl) ?_
    refine lv_iload_n hx hb dX4_intToBigEndian_9 rfl (lv_at hl 3 rfl) ?_
    refine sm_ild hx hb hK hP 0 1 rfl rfl i rfl (by omega) (by decide) dX4_intToBigEndian_10 ?_
    refine lv_aload_n hx hb dX4_intToBigEndian_11 rfl (lv_at hl 1 rfl) ?_
    refine lv_iload_n hx hb dX4_intToBigEndian_12 rfl (lv_at hl 2 rfl) ?_
    have hPc := hP.sub (ws' := [(ho, .inl (dB, 64, .inl g))]) [1] rfl
    have hDc := hD.sub (ws' := [(ho, .inl (dB, 64, .inl g))]) [1] (by decide) rfl
    have hFc := va_free (wc := [(ho, .inl (dB, 64, .inl g))]) hD hS hA [1] rfl
    refine sm_backv (wr := [(hv, .inl (dN, 8, .inl fv))]) (va_runS (As := [.int (fv i), .ref ho, .int (nI (4 * i))]) (rest := []) ⟨hx, hb, hml, hown, hts⟩ (met_i2b l D dB dN H.size tA pA ho 64 g (4 * i) (fv i) (by omega) (by decide)) (va_cwS 3 hts (lw_S q130 q131 q16 q132) rfl rfl rfl (by decide +kernel) ⟨hRf, hRl⟩) ⟨sm_blind, sm_go hK hPc hDc hE hS hFc _⟩ rfl rfl hl.1 rfl (lv_room (Nat.le_of_ble_eq_true rfl)) dX4_intToBigEndian_13 hf) hP hD hS hFc [1] [0] rfl rfl (by decide) (by decide) (fun w1 H locs hw hP hD hS => ?_)
    subst hw
    have hP : va_P D vwCl [(hv, .inl (dN, 8, .inl fv)), (ho, .inl (dB, 64, .inl (sm_u4 g (4 * i) (fv i))))] H := hP.sub [0, 1] rfl
    have hD : va_D A [(hv, .inl (dN, 8, .inl fv)), (ho, .inl (dB, 64, .inl (sm_u4 g (4 * i) (fv i))))] := hD.sub [0, 1] (by decide) rfl
    refine lv_iinc (v := (nI (4 * (i + 1)))) (lv' := [(2, .int (nI (4 * (i + 1)))), (0, .ref hv), (1, .ref ho), (3, .int (nI i))]) hx hb dX4_intToBigEndian_16 hl (k := 2) rfl (sm_i4 (4 * i)) (by decide) rfl (fun ls hl => ?_)
    refine lv_iinc (v := (nI (i + 1))) (lv' := [(3, .int (nI (i + 1))), (2, .int (nI (4 * (i + 1)))), (0, .ref hv), (1, .ref ho)]) hx hb dX4_intToBigEndian_19 hl (k := 3) rfl (sm_i1 i) (by decide) rfl (fun ls hl => ?_)
    refine lv_goto (tgt := 2) hx hb dX4_intToBigEndian_22 (by decide) ?_
    exact ih (i + 1) _ _ _ ls (by omega) (sm_u4_st hg) hP hD hS (lv_sub hl [2, 3, 1, 0] rfl)
set_option maxHeartbeats 4000000 in
set_option maxRecDepth 100000 in
/-- Pack.intToBigEndian(V, out, 0): the eight words as 32 bytes -/
theorem met_v2b (l : Launch) (D : va_G) (dB dN : ClassId) (sz tA pA : Nat) (hv ho : Nat) (fv fo : Nat → Int32) : Met l yX4_intToBigEndian (ws_ yX4_intToBigEndian cX4_intToBigEndian 4 none) ({ frames := 1, cells := 0, slots := 0, locals := 22 }) (va_Pc [.ref hv, .ref ho, .int 0] (sm_pre D dB dN [(hv, .inl (dN, 8, .inl fv)), (ho, .inl (dB, 64, .inl fo))] sz tA pA)) (sm_Qv D (fun w => ∃ g : Nat → Int32, w = [(hv, .inl (dN, 8, .inl fv)), (ho, .inl (dB, 64, .inl g))] ∧ ∀ j, j < 64 → g j = if j < 32 then sm_ob (fv (j / 4)) (j % 4) else fo j) (va_A [(hv, .inl (dN, 8, .inl fv)), (ho, .inl (dB, 64, .inl fo))] sz)) 0 0 (va_A [(hv, .inl (dN, 8, .inl fv)), (ho, .inl (dB, 64, .inl fo))] sz) := by
  refine sm_met RX4 (sm_Qv D _) (by decide) rfl (Nat.le_of_ble_eq_true rfl) ?_
  intro p e s m below meth c ls A cx hnm hP hK hD hE hA hS hl
  obtain ⟨hx, hb, hr, hlk, hml, hown, hts⟩ := cx
  have hl : lv_has ls 4 [(0, .ref hv), (1, .ref ho), (2, .int 0)] := hl
  refine lv_iconst (v := (0 : Int32)) hx hb dX4_intToBigEndian_0 (by decide) ?_
  refine lv_istore_n (lv' := [(3, .int (0 : Int32)), (0, .ref hv), (1, .ref ho), (2, .int 0)]) hx hb dX4_intToBigEndian_1 rfl hl (by decide) rfl (fun ls hl => ?_)
  refine lp_i2b (fo := fo) (fv := fv) ⟨hx, hb, hr, hlk, hml, hown, hts⟩ (Nat.le_of_ble_eq_true rfl) (Nat.le_of_ble_eq_true rfl) ⟨Nat.le_of_ble_eq_true rfl, Nat.le_of_ble_eq_true rfl⟩ hK hE hA (fun g H locs ls hg hP hD hS => ?_) 8 0 fo _ _ ls rfl (fun j _ => (if_neg (by omega)).symm) hP hD hS (lv_sub hl [1, 2, 3, 0] rfl)
  exact W.vret hx hb hr (sm_endv _ ⟨g, rfl, hg⟩ hP hD hS) hS.2.2 dX4_intToBigEndian_25 hlk
set_option maxHeartbeats 4000000 in
set_option maxRecDepth 100000 in
theorem met_P0 (l : Launch) (h : Nat) (x : Int32) : Met l yX3_P0 (ws_ yX3_P0 cX3_P0 4 (some .int)) ({ frames := 0, cells := 0, slots := 0, locals := 0 }) (va_Pc [.ref h, .int x] (fun _ => True)) (vp_Si (fun r => r = sm_P0 x)) 0 0 (fun _ => False) := by
  refine sm_enter RX3 (by decide) rfl (Nat.le_of_ble_eq_true rfl) ?_
  intro p e s m below meth c ls cx hnm hpre hl
  obtain ⟨hx, hb, hr, hlk, hml, hown, hts⟩ := cx
  have hl : lv_has ls 4 [(0, .ref h), (1, .int x)] := hl
  refine lv_iload_n hx hb dX3_P0_0 rfl (lv_at hl 1 rfl) ?_
  refine lv_bipush (v := (9 : Int32)) hx hb dX3_P0_1 (by decide) ?_
  refine lv_ishl hx hb dX3_P0_3 ?_
  refine lv_iload_n hx hb dX3_P0_4 rfl (lv_at hl 1 rfl) ?_
  refine lv_bipush (v := (23 : Int32)) hx hb dX3_P0_5 (by decide) ?_
  refine lv_iushr hx hb dX3_P0_7 rfl ?_
  refine lv_ior hx hb dX3_P0_8 ?_
  refine lv_topi (fun n0 en0 => ?_)
  refine lv_istore_n (lv' := [(2, .int n0), (0, .ref h), (1, .int x)]) hx hb dX3_P0_9 rfl hl (by decide) rfl (fun ls hl => ?_)
  refine lv_iload_n hx hb dX3_P0_10 rfl (lv_at hl 2 rfl) ?_
  refine lv_bipush (v := (17 : Int32)) hx hb dX3_P0_11 (by decide) ?_
  refine lv_ishl hx hb dX3_P0_13 ?_
  refine lv_iload_n hx hb dX3_P0_14 rfl (lv_at hl 2 rfl) ?_
  refine lv_bipush (v := (15 : Int32)) hx hb dX3_P0_15 (by decide) ?_
  refine lv_iushr hx hb dX3_P0_17 rfl ?_
  refine lv_ior hx hb dX3_P0_18 ?_
  refine lv_topi (fun n1 en1 => ?_)
  refine lv_istore_n (lv' := [(3, .int n1), (2, .int n0), (0, .ref h), (1, .int x)]) hx hb dX3_P0_19 rfl hl (by decide) rfl (fun ls hl => ?_)
  refine lv_iload_n hx hb dX3_P0_20 rfl (lv_at hl 3 rfl) ?_
  refine lv_iload_n hx hb dX3_P0_21 rfl (lv_at hl 1 rfl) ?_
  refine lv_ixor hx hb dX3_P0_22 ?_
  refine lv_iload_n hx hb dX3_P0_23 rfl (lv_at hl 0 rfl) ?_
  refine lv_ixor hx hb dX3_P0_24 ?_
  exact W.iret (v := (x ^^^ n0) ^^^ n1) hx hb hr (fun t ht hW => ⟨_, rfl, by rw [en0, en1]; rfl, ht⟩) (fun _ h => by cases h) dX3_P0_25 hlk
set_option maxHeartbeats 4000000 in
set_option maxRecDepth 100000 in
theorem met_P1 (l : Launch) (h : Nat) (x : Int32) : Met l yX3_P1 (ws_ yX3_P1 cX3_P1 4 (some .int)) ({ frames := 0, cells := 0, slots := 0, locals := 0 }) (va_Pc [.ref h, .int x] (fun _ => True)) (vp_Si (fun r => r = sm_P1 x)) 0 0 (fun _ => False) := by
  refine sm_enter RX3 (by decide) rfl (Nat.le_of_ble_eq_true rfl) ?_
  intro p e s m below meth c ls cx hnm hpre hl
  obtain ⟨hx, hb, hr, hlk, hml, hown, hts⟩ := cx
  have hl : lv_has ls 4 [(0, .ref h), (1, .int x)] := hl
  refine lv_iload_n hx hb dX3_P1_0 rfl (lv_at hl 1 rfl) ?_
  refine lv_bipush (v := (15 : Int32)) hx hb dX3_P1_1 (by decide) ?_
  refine lv_ishl hx hb dX3_P1_3 ?_
  refine lv_iload_n hx hb dX3_P1_4 rfl (lv_at hl 1 rfl) ?_
  refine lv_bipush (v := (17 : Int32)) hx hb dX3_P1_5 (by decide) ?_
  refine lv_iushr hx hb dX3_P1_7 rfl ?_
  refine lv_ior hx hb dX3_P1_8 ?_
  refine lv_topi (fun n0 en0 => ?_)
  refine lv_istore_n (lv' := [(2, .int n0), (0, .ref h), (1, .int x)]) hx hb dX3_P1_9 rfl hl (by decide) rfl (fun ls hl => ?_)
  refine lv_iload_n hx hb dX3_P1_10 rfl (lv_at hl 2 rfl) ?_
  refine lv_bipush (v := (23 : Int32)) hx hb dX3_P1_11 (by decide) ?_
  refine lv_ishl hx hb dX3_P1_13 ?_
  refine lv_iload_n hx hb dX3_P1_14 rfl (lv_at hl 2 rfl) ?_
  refine lv_bipush (v := (9 : Int32)) hx hb dX3_P1_15 (by decide) ?_
  refine lv_iushr hx hb dX3_P1_17 rfl ?_
  refine lv_ior hx hb dX3_P1_18 ?_
  refine lv_topi (fun n1 en1 => ?_)
  refine lv_istore_n (lv' := [(3, .int n1), (2, .int n0), (0, .ref h), (1, .int x)]) hx hb dX3_P1_19 rfl hl (by decide) rfl (fun ls hl => ?_)
  refine lv_iload_n hx hb dX3_P1_20 rfl (lv_at hl 3 rfl) ?_
  refine lv_iload_n hx hb dX3_P1_21 rfl (lv_at hl 1 rfl) ?_
  refine lv_ixor hx hb dX3_P1_22 ?_
  refine lv_iload_n hx hb dX3_P1_23 rfl (lv_at hl 0 rfl) ?_
  refine lv_ixor hx hb dX3_P1_24 ?_
  exact W.iret (v := (x ^^^ n0) ^^^ n1) hx hb hr (fun t ht hW => ⟨_, rfl, by rw [en0, en1]; rfl, ht⟩) (fun _ h => by cases h) dX3_P1_25 hlk
set_option maxHeartbeats 4000000 in
set_option maxRecDepth 100000 in
theorem met_FF0 (l : Launch) (h : Nat) (x y z : Int32) : Met l yX3_FF0 (ws_ yX3_FF0 cX3_FF0 4 (some .int)) ({ frames := 0, cells := 0, slots := 0, locals := 0 }) (va_Pc [.ref h, .int x, .int y, .int z] (fun _ => True)) (vp_Si (fun r => r = sm_FF0 x y z)) 0 0 (fun _ => False) := by
  refine sm_enter RX3 (by decide) rfl (Nat.le_of_ble_eq_true rfl) ?_
  intro p e s m below meth c ls cx hnm hpre hl
  obtain ⟨hx, hb, hr, hlk, hml, hown, hts⟩ := cx
  have hl : lv_has ls 4 [(0, .ref h), (1, .int x), (2, .int y), (3, .int z)] := hl
  refine lv_iload_n hx hb dX3_FF0_0 rfl (lv_at hl 1 rfl) ?_
  refine lv_iload_n hx hb dX3_FF0_1 rfl (lv_at hl 2 rfl) ?_
  refine lv_ixor hx hb dX3_FF0_2 ?_
  refine lv_iload_n hx hb dX3_FF0_3 rfl (lv_at hl 3 rfl) ?_
  refine lv_ixor hx hb dX3_FF0_4 ?_
  exact W.iret (v := (x ^^^ y) ^^^ z) hx hb hr (fun t ht hW => ⟨_, rfl, rfl, ht⟩) (fun _ h => by cases h) dX3_FF0_5 hlk
set_option maxHeartbeats 4000000 in
set_option maxRecDepth 100000 in
theorem met_FF1 (l : Launch) (h : Nat) (x y z : Int32) : Met l yX3_FF1 (ws_ yX3_FF1 cX3_FF1 4 (some .int)) ({ frames := 0, cells := 0, slots := 0, locals := 0 }) (va_Pc [.ref h, .int x, .int y, .int z] (fun _ => True)) (vp_Si (fun r => r = sm_FF1 x y z)) 0 0 (fun _ => False) := by
  refine sm_enter RX3 (by decide) rfl (Nat.le_of_ble_eq_true rfl) ?_
  intro p e s m below meth c ls cx hnm hpre hl
  obtain ⟨hx, hb, hr, hlk, hml, hown, hts⟩ := cx
  have hl : lv_has ls 4 [(0, .ref h), (1, .int x), (2, .int y), (3, .int z)] := hl
  refine lv_iload_n hx hb dX3_FF1_0 rfl (lv_at hl 1 rfl) ?_
  refine lv_iload_n hx hb dX3_FF1_1 rfl (lv_at hl 2 rfl) ?_
  refine lv_iand hx hb dX3_FF1_2 ?_
  refine lv_iload_n hx hb dX3_FF1_3 rfl (lv_at hl 1 rfl) ?_
  refine lv_iload_n hx hb dX3_FF1_4 rfl (lv_at hl 3 rfl) ?_
  refine lv_iand hx hb dX3_FF1_5 ?_
  refine lv_ior hx hb dX3_FF1_6 ?_
  refine lv_iload_n hx hb dX3_FF1_7 rfl (lv_at hl 2 rfl) ?_
  refine lv_iload_n hx hb dX3_FF1_8 rfl (lv_at hl 3 rfl) ?_
  refine lv_iand hx hb dX3_FF1_9 ?_
  refine lv_ior hx hb dX3_FF1_10 ?_
  exact W.iret (v := ((x &&& y) ||| (x &&& z)) ||| (y &&& z)) hx hb hr (fun t ht hW => ⟨_, rfl, rfl, ht⟩) (fun _ h => by cases h) dX3_FF1_11 hlk
set_option maxHeartbeats 4000000 in
set_option maxRecDepth 100000 in
theorem met_GG0 (l : Launch) (h : Nat) (x y z : Int32) : Met l yX3_GG0 (ws_ yX3_GG0 cX3_GG0 4 (some .int)) ({ frames := 0, cells := 0, slots := 0, locals := 0 }) (va_Pc [.ref h, .int x, .int y, .int z] (fun _ => True)) (vp_Si (fun r => r = sm_FF0 x y z)) 0 0 (fun _ => False) := by
  refine sm_enter RX3 (by decide) rfl (Nat.le_of_ble_eq_true rfl) ?_
  intro p e s m below meth c ls cx hnm hpre hl
  obtain ⟨hx, hb, hr, hlk, hml, hown, hts⟩ := cx
  have hl : lv_has ls 4 [(0, .ref h), (1, .int x), (2, .int y), (3, .int z)] := hl
  refine lv_iload_n hx hb dX3_GG0_0 rfl (lv_at hl 1 rfl) ?_
  refine lv_iload_n hx hb dX3_GG0_1 rfl (lv_at hl 2 rfl) ?_
  refine lv_ixor hx hb dX3_GG0_2 ?_
  refine lv_iload_n hx hb dX3_GG0_3 rfl (lv_at hl 3 rfl) ?_
  refine lv_ixor hx hb dX3_GG0_4 ?_
  exact W.iret (v := (x ^^^ y) ^^^ z) hx hb hr (fun t ht hW => ⟨_, rfl, rfl, ht⟩) (fun _ h => by cases h) dX3_GG0_5 hlk
set_option maxHeartbeats 4000000 in
set_option maxRecDepth 100000 in
theorem met_GG1 (l : Launch) (h : Nat) (x y z : Int32) : Met l yX3_GG1 (ws_ yX3_GG1 cX3_GG1 4 (some .int)) ({ frames := 0, cells := 0, slots := 0, locals := 0 }) (va_Pc [.ref h, .int x, .int y, .int z] (fun _ => True)) (vp_Si (fun r => r = sm_GG1 x y z)) 0 0 (fun _ => False) := by
  refine sm_enter RX3 (by decide) rfl (Nat.le_of_ble_eq_true rfl) ?_
  intro p e s m below meth c ls cx hnm hpre hl
  obtain ⟨hx, hb, hr, hlk, hml, hown, hts⟩ := cx
  have hl : lv_has ls 4 [(0, .ref h), (1, .int x), (2, .int y), (3, .int z)] := hl
  refine lv_iload_n hx hb dX3_GG1_0 rfl (lv_at hl 1 rfl) ?_
  refine lv_iload_n hx hb dX3_GG1_1 rfl (lv_at hl 2 rfl) ?_
  refine lv_iand hx hb dX3_GG1_2 ?_
  refine lv_iload_n hx hb dX3_GG1_3 rfl (lv_at hl 1 rfl) ?_
  refine lv_iconst (v := (-1 : Int32)) hx hb dX3_GG1_4 (by decide) ?_
  refine lv_ixor hx hb dX3_GG1_5 ?_
  refine lv_iload_n hx hb dX3_GG1_6 rfl (lv_at hl 3 rfl) ?_
  refine lv_iand hx hb dX3_GG1_7 ?_
  refine lv_ior hx hb dX3_GG1_8 ?_
  exact W.iret (v := (x &&& y) ||| ((x ^^^ (-1 : Int32)) &&& z)) hx hb hr (fun t ht hW => ⟨_, rfl, rfl, ht⟩) (fun _ h => by cases h) dX3_GG1_9 hlk
end
section
/-! processBlock: the expansion, the rounds, the new V -/
set_option maxRecDepth 100000
/-- the cells of a digest -/
abbrev sm_dg (dB dN : ClassId) (pA h hV hI hW hX : Nat) (fv fi fw fx : Nat → Int32) (xo bo : Int32) (bc : Int64) : va_W := [(h, .inr (0, [.ref pA, .ref hX, .int bo, .long bc, .ref hV, .ref hI, .int xo, .ref hW])), (hV, .inl (dN, 8, .inl fv)), (hI, .inl (dN, 16, .inl fi)), (hW, .inl (dN, 68, .inl fw)), (hX, .inl (dB, 4, .inl fx))]
theorem sm_l1 {fi fw : Nat → Int32} {j : Nat} (h : ∀ i, i < j → fw i = fi i) : ∀ i, i < j + 1 → upd fw j (fi j) i = fi i := by
  intro i hi
  by_cases e : i = j
  · rw [e, pk_us]
  · rw [pk_un e]
    exact h i (by omega)
theorem sm_l2 {fi fw : Nat → Int32} {t : Nat} {x : Int32} (h : ∀ i, i < 16 + t → fw i = sm_wl fi t i) (hx : x = sm_st fw (16 + t)) : ∀ i, i < 16 + (t + 1) → upd fw (16 + t) x i = sm_wl fi (t + 1) i := by
  intro i hi
  show _ = upd (sm_wl fi t) (16 + t) (sm_st (sm_wl fi t) (16 + t)) i
  by_cases e : i = 16 + t
  · rw [e, pk_us, pk_us, hx]
    exact sm_st_c (by omega) h
  · rw [pk_un e, pk_un e]
    exact h i (by omega)
set_option maxHeartbeats 4000000 in
set_option maxRecDepth 100000 in
theorem pb_l1 {p : Program} {l : Launch} {e : Env} {R : Room} {s : State} {m : MethodId} {av : Array Value} {below : List Frame} {meth : Method} {c : Code} {cells slots : Nat} {Q : State → Prop} {D : va_G} {dB dN : ClassId} {tA pA : Nat} {A : Nat → Prop} {h hV hI hW hX : Nat} {fv fi fx : Nat → Int32} {xo bo : Int32} {bc : Int64} (cx : sm_Cx p s m meth c av cX3_processBlock 18 RX3 none) (hK : va_K D vwCl (sm_ty dB dN) s)
    (kk : ∀ (fw : Nat → Int32) (H : Heap) (locs : List Loc) (ls : Array Slot), (∀ i, i < 16 → fw i = fi i) → va_P D vwCl [(h, .inr (0, [.ref pA, .ref hX, .int bo, .long bc, .ref hV, .ref hI, .int xo, .ref hW])), (hV, .inl (dN, 8, .inl fv)), (hI, .inl (dN, 16, .inl fi)), (hW, .inl (dN, 68, .inl fw)), (hX, .inl (dB, 4, .inl fx))] H → va_D A [(h, .inr (0, [.ref pA, .ref hX, .int bo, .long bc, .ref hV, .ref hI, .int xo, .ref hW])), (hV, .inl (dN, 8, .inl fv)), (hI, .inl (dN, 16, .inl fi)), (hW, .inl (dN, 68, .inl fw)), (hX, .inl (dB, 4, .inl fx))] → va_S A s.heap H locs → lv_has ls 18 [(0, .ref h)] → W p l e R s m av below meth c H locs cells slots Q (F0 m 26 ls [])) :
    ∀ (n j : Nat) (fw : Nat → Int32) (H : Heap) (locs : List Loc) (ls : Array Slot), j + n = 16 → (∀ i, i < j → fw i = fi i) → va_P D vwCl [(h, .inr (0, [.ref pA, .ref hX, .int bo, .long bc, .ref hV, .ref hI, .int xo, .ref hW])), (hV, .inl (dN, 8, .inl fv)), (hI, .inl (dN, 16, .inl fi)), (hW, .inl (dN, 68, .inl fw)), (hX, .inl (dB, 4, .inl fx))] H → va_D A [(h, .inr (0, [.ref pA, .ref hX, .int bo, .long bc, .ref hV, .ref hI, .int xo, .ref hW])), (hV, .inl (dN, 8, .inl fv)), (hI, .inl (dN, 16, .inl fi)), (hW, .inl (dN, 68, .inl fw)), (hX, .inl (dB, 4, .inl fx))] → va_S A s.heap H locs → lv_has ls 18 [(0, .ref h), (1, .int (nI j))] → W p l e R s m av below meth c H locs cells slots Q (F0 m 2 ls []) := by
  obtain ⟨hx, hb, hr, hlk, hml, hown, hts⟩ := cx
  intro n
  induction n with
  | zero =>
    intro j fw H locs ls hj hg hP hD hS hl
    have hj16 : j = 16 := by omega
    subst hj16
    refine lv_iload_n hx hb dX3_processBlock_2 rfl (lv_at hl 1 rfl) ?_
    refine lv_bipush (v := (16 : Int32)) hx hb dX3_processBlock_3 (by decide) ?_
    refine lv_icmp_ge (tgt := 26) hx hb dX3_processBlock_5 (by decide) (fun _ => ?_) (fun hc => absurd (Int32.le_refl _) hc)
    exact kk fw H locs ls hg hP hD hS (lv_sub hl [0] rfl)
  | succ n ih =>
    intro j fw H locs ls hj hg hP hD hS hl
    refine lv_iload_n hx hb dX3_processBlock_2 rfl (lv_at hl 1 rfl) ?_
    refine lv_bipush (v := (16 : Int32)) hx hb dX3_processBlock_3 (by decide) ?_
    refine lv_icmp_ge (tgt := 26) hx hb dX3_processBlock_5 (by decide) (fun hc => absurd hc (nI_ge (show j < 16 by omega) (by decide))) (fun _ => ?_)
    refine lv_aload_n hx hb dX3_processBlock_8 rfl (lv_at hl 0 rfl) ?_
    refine va_get (D := D) (ci := 0) (v := .ref hW) (C := RX3) (T := TX3) (N := 8) hx hb hts in_X3 hown hK hP 0 rfl rfl 7 (by decide) (hts _ q189) (fun _ h9 => h9) rfl dX3_processBlock_9 ?_
    refine lv_iload_n hx hb dX3_processBlock_12 rfl (lv_at hl 1 rfl) ?_
    refine lv_aload_n hx hb dX3_processBlock_13 rfl (lv_at hl 0 rfl) ?_
    refine va_get (D := D) (ci := 0) (v := .ref hI) (C := RX3) (T := TX3) (N := 8) hx hb hts in_X3 hown hK hP 0 rfl rfl 5 (by decide) (hts _ q187) (fun _ h9 => h9) rfl dX3_processBlock_14 ?_
    refine lv_iload_n hx hb dX3_processBlock_17 rfl (lv_at hl 1 rfl) ?_
    refine sm_ild hx hb hK hP 2 1 rfl rfl j rfl (by omega) (by decide) dX3_processBlock_18 ?_
    refine sm_ist hx hb hK hP hD hS 3 1 rfl rfl j rfl (by omega) (by decide) dX3_processBlock_19 (fun H locs hP hD hS => ?_)
    have hP : va_P D vwCl [(h, .inr (0, [.ref pA, .ref hX, .int bo, .long bc, .ref hV, .ref hI, .int xo, .ref hW])), (hV, .inl (dN, 8, .inl fv)), (hI, .inl (dN, 16, .inl fi)), (hW, .inl (dN, 68, .inl (upd fw j (fi j)))), (hX, .inl (dB, 4, .inl fx))] H := hP
    have hD : va_D A [(h, .inr (0, [.ref pA, .ref hX, .int bo, .long bc, .ref hV, .ref hI, .int xo, .ref hW])), (hV, .inl (dN, 8, .inl fv)), (hI, .inl (dN, 16, .inl fi)), (hW, .inl (dN, 68, .inl (upd fw j (fi j)))), (hX, .inl (dB, 4, .inl fx))] := hD
    refine lv_iinc (v := (nI (j + 1))) (lv' := [(1, .int (nI (j + 1))), (0, .ref h)]) hx hb dX3_processBlock_20 hl (k := 1) rfl (sm_i1 j) (by decide) rfl (fun ls hl => ?_)
    refine lv_goto (tgt := 2) hx hb dX3_processBlock_23 (by decide) ?_
    exact ih (j + 1) _ _ _ ls (by omega) (sm_l1 hg) hP hD hS (lv_sub hl [1, 0] rfl)
set_option maxHeartbeats 4000000 in
set_option maxRecDepth 100000 in
theorem pb_l2 {p : Program} {l : Launch} {e : Env} {R : Room} {s : State} {m : MethodId} {av : Array Value} {below : List Frame} {meth : Method} {c : Code} {cells slots : Nat} {Q : State → Prop} {D : va_G} {dB dN : ClassId} {tA pA : Nat} {A : Nat → Prop} {h hV hI hW hX : Nat} {fv fi fx : Nat → Int32} {xo bo : Int32} {bc : Int64} (cx : sm_Cx p s m meth c av cX3_processBlock 18 RX3 none) (hRf : 1 ≤ R.frames) (hRl : 23 ≤ R.locals) (hf : cells ≤ R.cells ∧ slots ≤ R.slots) (hK : va_K D vwCl (sm_ty dB dN) s)
    (kk : ∀ (fw : Nat → Int32) (H : Heap) (locs : List Loc) (ls : Array Slot), (∀ i, i < 68 → fw i = sm_wl fi 52 i) → va_P D vwCl [(h, .inr (0, [.ref pA, .ref hX, .int bo, .long bc, .ref hV, .ref hI, .int xo, .ref hW])), (hV, .inl (dN, 8, .inl fv)), (hI, .inl (dN, 16, .inl fi)), (hW, .inl (dN, 68, .inl fw)), (hX, .inl (dB, 4, .inl fx))] H → va_D A [(h, .inr (0, [.ref pA, .ref hX, .int bo, .long bc, .ref hV, .ref hI, .int xo, .ref hW])), (hV, .inl (dN, 8, .inl fv)), (hI, .inl (dN, 16, .inl fi)), (hW, .inl (dN, 68, .inl fw)), (hX, .inl (dB, 4, .inl fx))] → va_S A s.heap H locs → lv_has ls 18 [(0, .ref h)] → W p l e R s m av below meth c H locs cells slots Q (F0 m 128 ls [])) :
    ∀ (n t : Nat) (fw : Nat → Int32) (H : Heap) (locs : List Loc) (ls : Array Slot), t + n = 52 → (∀ i, i < 16 + t → fw i = sm_wl fi t i) → va_P D vwCl [(h, .inr (0, [.ref pA, .ref hX, .int bo, .long bc, .ref hV, .ref hI, .int xo, .ref hW])), (hV, .inl (dN, 8, .inl fv)), (hI, .inl (dN, 16, .inl fi)), (hW, .inl (dN, 68, .inl fw)), (hX, .inl (dB, 4, .inl fx))] H → va_D A [(h, .inr (0, [.ref pA, .ref hX, .int bo, .long bc, .ref hV, .ref hI, .int xo, .ref hW])), (hV, .inl (dN, 8, .inl fv)), (hI, .inl (dN, 16, .inl fi)), (hW, .inl (dN, 68, .inl fw)), (hX, .inl (dB, 4, .inl fx))] → va_S A s.heap H locs → lv_has ls 18 [(0, .ref h), (1, .int (nI (16 + t)))] → W p l e R s m av below meth c H locs cells slots Q (F0 m 29 ls []) := by
  obtain ⟨hx, hb, hr, hlk, hml, hown, hts⟩ := cx
  intro n
  induction n with
  | zero =>
    intro t fw H locs ls hj hg hP hD hS hl
    have ht52 : t = 52 := by omega
    subst ht52
    refine lv_iload_n hx hb dX3_processBlock_29 rfl (lv_at hl 1 rfl) ?_
    refine lv_bipush (v := (68 : Int32)) hx hb dX3_processBlock_30 (by decide) ?_
    refine lv_icmp_ge (tgt := 128) hx hb dX3_processBlock_32 (by decide) (fun _ => ?_) (fun hc => absurd (Int32.le_refl _) hc)
    exact kk fw H locs ls hg hP hD hS (lv_sub hl [0] rfl)
  | succ n ih =>
    intro t fw H locs ls hj hg hP hD hS hl
    refine lv_iload_n hx hb dX3_processBlock_29 rfl (lv_at hl 1 rfl) ?_
    refine lv_bipush (v := (68 : Int32)) hx hb dX3_processBlock_30 (by decide) ?_
    refine lv_icmp_ge (tgt := 128) hx hb dX3_processBlock_32 (by decide) (fun hc => absurd hc (nI_ge (show 16 + t < 68 by omega) (by decide))) (fun _ => ?_)
    refine lv_aload_n hx hb dX3_processBlock_35 rfl (lv_at hl 0 rfl) ?_
    refine va_get (D := D) (ci := 0) (v := .ref hW) (C := RX3) (T := TX3) (N := 8) hx hb hts in_X3 hown hK hP 0 rfl rfl 7 (by decide) (hts _ q189) (fun _ h9 => h9) rfl dX3_processBlock_36 ?_
    refine lv_iload_n hx hb dX3_processBlock_39 rfl (lv_at hl 1 rfl) ?_
    refine lv_iconst (v := (3 : Int32)) hx hb dX3_processBlock_40 (by decide) ?_
    refine lv_isub hx hb dX3_processBlock_41 ?_
    refine sm_ild hx hb hK hP 3 1 rfl rfl (16 + t - 3) (pk_sub (show 3 ≤ 16 + t by omega)) (by omega) (by decide) dX3_processBlock_42 ?_
    refine lv_topi (fun w3 ew3 => ?_)
    refine lv_istore_n (lv' := [(2, .int w3), (0, .ref h), (1, .int (nI (16 + t)))]) hx hb dX3_processBlock_43 rfl hl (by decide) rfl (fun ls hl => ?_)
    refine lv_iload_n hx hb dX3_processBlock_44 rfl (lv_at hl 0 rfl) ?_
    refine lv_bipush (v := (15 : Int32)) hx hb dX3_processBlock_45 (by decide) ?_
    refine lv_ishl hx hb dX3_processBlock_47 ?_
    refine lv_iload_n hx hb dX3_processBlock_48 rfl (lv_at hl 0 rfl) ?_
    refine lv_bipush (v := (17 : Int32)) hx hb dX3_processBlock_49 (by decide) ?_
    refine lv_iushr hx hb dX3_processBlock_51 rfl ?_
    refine lv_ior hx hb dX3_processBlock_52 ?_
    refine lv_topi (fun r15 er15 => ?_)
    refine lv_istore_n (lv' := [(3, .int r15), (2, .int w3), (0, .ref h), (1, .int (nI (16 + t)))]) hx hb dX3_processBlock_53 rfl hl (by decide) rfl (fun ls hl => ?_)
    refine lv_aload_n hx hb dX3_processBlock_54 rfl (lv_at hl 2 rfl) ?_
    refine va_get (D := D) (ci := 0) (v := .ref hW) (C := RX3) (T := TX3) (N := 8) hx hb hts in_X3 hown hK hP 0 rfl rfl 7 (by decide) (hts _ q189) (fun _ h9 => h9) rfl dX3_processBlock_55 ?_
    refine lv_iload_n hx hb dX3_processBlock_58 rfl (lv_at hl 3 rfl) ?_
    refine lv_bipush (v := (13 : Int32)) hx hb dX3_processBlock_59 (by decide) ?_
    refine lv_isub hx hb dX3_processBlock_61 ?_
    refine sm_ild hx hb hK hP 3 1 rfl rfl (16 + t - 13) (pk_sub (show 13 ≤ 16 + t by omega)) (by omega) (by decide) dX3_processBlock_62 ?_
    refine lv_topi (fun w13 ew13 => ?_)
    refine lv_istore (lv' := [(4, .int w13), (3, .int r15), (2, .int w3), (0, .ref h), (1, .int (nI (16 + t)))]) hx hb dX3_processBlock_63 hl (by decide) rfl (fun ls hl => ?_)
    refine lv_iload hx hb dX3_processBlock_65 (lv_at hl 0 rfl) ?_
    refine lv_bipush (v := (7 : Int32)) hx hb dX3_processBlock_67 (by decide) ?_
    refine lv_ishl hx hb dX3_processBlock_69 ?_
    refine lv_iload hx hb dX3_processBlock_70 (lv_at hl 0 rfl) ?_
    refine lv_bipush (v := (25 : Int32)) hx hb dX3_processBlock_72 (by decide) ?_
    refine lv_iushr hx hb dX3_processBlock_74 rfl ?_
    refine lv_ior hx hb dX3_processBlock_75 ?_
    refine lv_topi (fun r7 er7 => ?_)
    refine lv_istore (lv' := [(5, .int r7), (4, .int w13), (3, .int r15), (2, .int w3), (0, .ref h), (1, .int (nI (16 + t)))]) hx hb dX3_processBlock_76 hl (by decide) rfl (fun ls hl => ?_)
    refine lv_aload_n hx hb dX3_processBlock_78 rfl (lv_at hl 4 rfl) ?_
    refine va_get (D := D) (ci := 0) (v := .ref hW) (C := RX3) (T := TX3) (N := 8) hx hb hts in_X3 hown hK hP 0 rfl rfl 7 (by decide) (hts _ q189) (fun _ h9 => h9) rfl dX3_processBlock_79 ?_
    refine lv_iload_n hx hb dX3_processBlock_82 rfl (lv_at hl 5 rfl) ?_
    refine lv_aload_n hx hb dX3_processBlock_83 rfl (lv_at hl 4 rfl) ?_
    refine lv_aload_n hx hb dX3_processBlock_84 rfl (lv_at hl 4 rfl) ?_
    refine va_get (D := D) (ci := 0) (v := .ref hW) (C := RX3) (T := TX3) (N := 8) hx hb hts in_X3 hown hK hP 0 rfl rfl 7 (by decide) (hts _ q189) (fun _ h9 => h9) rfl dX3_processBlock_85 ?_
    refine lv_iload_n hx hb dX3_processBlock_88 rfl (lv_at hl 5 rfl) ?_
    refine lv_bipush (v := (16 : Int32)) hx hb dX3_processBlock_89 (by decide) ?_
    refine lv_isub hx hb dX3_processBlock_91 ?_
    refine sm_ild hx hb hK hP 3 1 rfl rfl (16 + t - 16) (pk_sub (show 16 ≤ 16 + t by omega)) (by omega) (by decide) dX3_processBlock_92 ?_
    refine lv_aload_n hx hb dX3_processBlock_93 rfl (lv_at hl 4 rfl) ?_
    refine va_get (D := D) (ci := 0) (v := .ref hW) (C := RX3) (T := TX3) (N := 8) hx hb hts in_X3 hown hK hP 0 rfl rfl 7 (by decide) (hts _ q189) (fun _ h9 => h9) rfl dX3_processBlock_94 ?_
    refine lv_iload_n hx hb dX3_processBlock_97 rfl (lv_at hl 5 rfl) ?_
    refine lv_bipush (v := (9 : Int32)) hx hb dX3_processBlock_98 (by decide) ?_
    refine lv_isub hx hb dX3_processBlock_100 ?_
    refine sm_ild hx hb hK hP 3 1 rfl rfl (16 + t - 9) (pk_sub (show 9 ≤ 16 + t by omega)) (by omega) (by decide) dX3_processBlock_101 ?_
    refine lv_ixor hx hb dX3_processBlock_102 ?_
    refine lv_iload_n hx hb dX3_processBlock_103 rfl (lv_at hl 2 rfl) ?_
    refine lv_ixor hx hb dX3_processBlock_104 ?_
    refine lv_topi (fun a1 ea1 => ?_)
    refine vp_callSi (W.runV (As := [.int a1]) (rest := [.int (nI (16 + t)), .ref hW]) ⟨hx, hb, hml, hown, hts⟩ (met_P1 l h a1) (cwV 1 hts (lw_V q57 q59 qs2 q12 q61) rfl rfl rfl (by decide +kernel) ⟨hRf, hRl⟩) ⟨sm_blindT, va_recv hK hP (ci := 0) (q0 := 0) rfl rfl, sm_goT _⟩ rfl rfl hl.1 rfl (lv_room (Nat.le_of_ble_eq_true rfl)) dX3_processBlock_105 hf) (fun p1 ep1 => ?_)
    refine lv_iload hx hb dX3_processBlock_108 (lv_at hl 0 rfl) ?_
    refine lv_ixor hx hb dX3_processBlock_110 ?_
    refine lv_aload_n hx hb dX3_processBlock_111 rfl (lv_at hl 4 rfl) ?_
    refine va_get (D := D) (ci := 0) (v := .ref hW) (C := RX3) (T := TX3) (N := 8) hx hb hts in_X3 hown hK hP 0 rfl rfl 7 (by decide) (hts _ q189) (fun _ h9 => h9) rfl dX3_processBlock_112 ?_
    refine lv_iload_n hx hb dX3_processBlock_115 rfl (lv_at hl 5 rfl) ?_
    refine lv_bipush (v := (6 : Int32)) hx hb dX3_processBlock_116 (by decide) ?_
    refine lv_isub hx hb dX3_processBlock_118 ?_
    refine sm_ild hx hb hK hP 3 1 rfl rfl (16 + t - 6) (pk_sub (show 6 ≤ 16 + t by omega)) (by omega) (by decide) dX3_processBlock_119 ?_
    refine lv_ixor hx hb dX3_processBlock_120 ?_
    refine lv_topi (fun z ez => ?_)
    refine sm_ist hx hb hK hP hD hS 3 1 rfl rfl (16 + t) rfl (by omega) (by decide) dX3_processBlock_121 (fun H locs hP hD hS => ?_)
    have hP : va_P D vwCl [(h, .inr (0, [.ref pA, .ref hX, .int bo, .long bc, .ref hV, .ref hI, .int xo, .ref hW])), (hV, .inl (dN, 8, .inl fv)), (hI, .inl (dN, 16, .inl fi)), (hW, .inl (dN, 68, .inl (upd fw (16 + t) z))), (hX, .inl (dB, 4, .inl fx))] H := hP
    have hD : va_D A [(h, .inr (0, [.ref pA, .ref hX, .int bo, .long bc, .ref hV, .ref hI, .int xo, .ref hW])), (hV, .inl (dN, 8, .inl fv)), (hI, .inl (dN, 16, .inl fi)), (hW, .inl (dN, 68, .inl (upd fw (16 + t) z))), (hX, .inl (dB, 4, .inl fx))] := hD
    refine lv_iinc (v := (nI (16 + (t + 1)))) (lv' := [(1, .int (nI (16 + (t + 1)))), (5, .int r7), (4, .int w13), (3, .int r15), (2, .int w3), (0, .ref h)]) hx hb dX3_processBlock_122 hl (k := 5) rfl (sm_i1 (16 + t)) (by decide) rfl (fun ls hl => ?_)
    refine lv_goto (tgt := 29) hx hb dX3_processBlock_125 (by decide) ?_
    exact ih (t + 1) _ _ _ ls (by omega) (sm_l2 hg (by rw [ez, ep1, ea1, er7, ew13, er15, ew3]; rfl)) hP hD hS (lv_sub hl [5, 0] rfl)
set_option maxHeartbeats 4000000 in
set_option maxRecDepth 100000 in
theorem pb_l3 {p : Program} {l : Launch} {e : Env} {R : Room} {s : State} {m : MethodId} {av : Array Value} {below : List Frame} {meth : Method} {c : Code} {cells slots : Nat} {Q : State → Prop} {D : va_G} {dB dN : ClassId} {tA pA : Nat} {A : Nat → Prop} {h hV hI hW hX : Nat} {fv fi fx : Nat → Int32} {xo bo : Int32} {bc : Int64} {fw : Nat → Int32} {w : Nat → Int32} {r0 : sm_R8} (cx : sm_Cx p s m meth c av cX3_processBlock 18 RX3 none) (hRf : 1 ≤ R.frames) (hRl : 23 ≤ R.locals) (hf : cells ≤ R.cells ∧ slots ≤ R.slots) (hK : va_K D vwCl (sm_ty dB dN) s) (hE : sm_E A tA pA s s.heap) {H : Heap} {locs : List Loc} (hP : va_P D vwCl [(h, .inr (0, [.ref pA, .ref hX, .int bo, .long bc, .ref hV, .ref hI, .int xo, .ref hW])), (hV, .inl (dN, 8, .inl fv)), (hI, .inl (dN, 16, .inl fi)), (hW, .inl (dN, 68, .inl fw)), (hX, .inl (dB, 4, .inl fx))] H) (hS : va_S A s.heap H locs) (hw : ∀ i, i < 68 → fw i = w i)
    (kk : ∀ (a b cc d ee f g hh : Int32) (ls : Array Slot), (a, b, cc, d, ee, f, g, hh) = sm_rs w r0 16 → lv_has ls 18 [(0, .ref h), (1, .int a), (2, .int b), (3, .int cc), (4, .int d), (5, .int ee), (6, .int f), (7, .int g), (8, .int hh)] → W p l e R s m av below meth c H locs cells slots Q (F0 m 361 ls [])) :
    ∀ (n t : Nat) (a b cc d ee f g hh : Int32) (ls : Array Slot), 0 ≤ t → t + n = 16 → (a, b, cc, d, ee, f, g, hh) = sm_rs w r0 t → lv_has ls 18 [(0, .ref h), (1, .int a), (2, .int b), (3, .int cc), (4, .int d), (5, .int ee), (6, .int f), (7, .int g), (8, .int hh), (9, .int (nI t))] → W p l e R s m av below meth c H locs cells slots Q (F0 m 194 ls []) := by
  obtain ⟨hx, hb, hr, hlk, hml, hown, hts⟩ := cx
  intro n
  induction n with
  | zero =>
    intro t a b cc d ee f g hh ls hlo hj hr8 hl
    have htt : t = 16 := by omega
    subst htt
    refine lv_iload hx hb dX3_processBlock_194 (lv_at hl 9 rfl) ?_
    refine lv_bipush (v := (16 : Int32)) hx hb dX3_processBlock_196 (by decide) ?_
    refine lv_icmp_ge (tgt := 361) hx hb dX3_processBlock_198 (by decide) (fun _ => ?_) (fun hc => absurd (Int32.le_refl _) hc)
    exact kk a b cc d ee f g hh ls hr8 (lv_sub hl [0, 1, 2, 3, 4, 5, 6, 7, 8] rfl)
  | succ n ih =>
    intro t a b cc d ee f g hh ls hlo hj hr8 hl
    refine lv_iload hx hb dX3_processBlock_194 (lv_at hl 9 rfl) ?_
    refine lv_bipush (v := (16 : Int32)) hx hb dX3_processBlock_196 (by decide) ?_
    refine lv_icmp_ge (tgt := 361) hx hb dX3_processBlock_198 (by decide) (fun hc => absurd hc (nI_ge (show t < 16 by omega) (by decide))) (fun _ => ?_)
    refine lv_iload_n hx hb dX3_processBlock_201 rfl (lv_at hl 1 rfl) ?_
    refine lv_bipush (v := (12 : Int32)) hx hb dX3_processBlock_202 (by decide) ?_
    refine lv_ishl hx hb dX3_processBlock_204 ?_
    refine lv_iload_n hx hb dX3_processBlock_205 rfl (lv_at hl 1 rfl) ?_
    refine lv_bipush (v := (20 : Int32)) hx hb dX3_processBlock_206 (by decide) ?_
    refine lv_iushr hx hb dX3_processBlock_208 rfl ?_
    refine lv_ior hx hb dX3_processBlock_209 ?_
    refine lv_topi (fun a12 ea12 => ?_)
    refine lv_istore (lv' := [(10, .int a12), (0, .ref h), (1, .int a), (2, .int b), (3, .int cc), (4, .int d), (5, .int ee), (6, .int f), (7, .int g), (8, .int hh), (9, .int (nI t))]) hx hb dX3_processBlock_210 hl (by decide) rfl (fun ls hl => ?_)
    refine lv_iload hx hb dX3_processBlock_212 (lv_at hl 0 rfl) ?_
    refine lv_iload hx hb dX3_processBlock_214 (lv_at hl 6 rfl) ?_
    refine lv_iadd hx hb dX3_processBlock_216 ?_
    refine va_gets hx hb hE.1 hS hown (hts _ q62) (fun _ h9 => h9) dX3_processBlock_217 ?_
    refine lv_iload hx hb dX3_processBlock_220 (lv_at hl 10 rfl) ?_
    refine sm_tld hx hb hE hS t rfl (by omega) dX3_processBlock_222 ?_
    refine lv_iadd hx hb dX3_processBlock_223 ?_
    refine lv_topi (fun s1 es1 => ?_)
    refine lv_istore (lv' := [(11, .int s1), (10, .int a12), (0, .ref h), (1, .int a), (2, .int b), (3, .int cc), (4, .int d), (5, .int ee), (6, .int f), (7, .int g), (8, .int hh), (9, .int (nI t))]) hx hb dX3_processBlock_224 hl (by decide) rfl (fun ls hl => ?_)
    refine lv_iload hx hb dX3_processBlock_226 (lv_at hl 0 rfl) ?_
    refine lv_bipush (v := (7 : Int32)) hx hb dX3_processBlock_228 (by decide) ?_
    refine lv_ishl hx hb dX3_processBlock_230 ?_
    refine lv_iload hx hb dX3_processBlock_231 (lv_at hl 0 rfl) ?_
    refine lv_bipush (v := (25 : Int32)) hx hb dX3_processBlock_233 (by decide) ?_
    refine lv_iushr hx hb dX3_processBlock_235 rfl ?_
    refine lv_ior hx hb dX3_processBlock_236 ?_
    refine lv_topi (fun ss1 ess1 => ?_)
    refine lv_istore (lv' := [(12, .int ss1), (11, .int s1), (10, .int a12), (0, .ref h), (1, .int a), (2, .int b), (3, .int cc), (4, .int d), (5, .int ee), (6, .int f), (7, .int g), (8, .int hh), (9, .int (nI t))]) hx hb dX3_processBlock_237 hl (by decide) rfl (fun ls hl => ?_)
    refine lv_iload hx hb dX3_processBlock_239 (lv_at hl 0 rfl) ?_
    refine lv_iload hx hb dX3_processBlock_241 (lv_at hl 2 rfl) ?_
    refine lv_ixor hx hb dX3_processBlock_243 ?_
    refine lv_topi (fun ss2 ess2 => ?_)
    refine lv_istore (lv' := [(13, .int ss2), (12, .int ss1), (11, .int s1), (10, .int a12), (0, .ref h), (1, .int a), (2, .int b), (3, .int cc), (4, .int d), (5, .int ee), (6, .int f), (7, .int g), (8, .int hh), (9, .int (nI t))]) hx hb dX3_processBlock_244 hl (by decide) rfl (fun ls hl => ?_)
    refine lv_aload_n hx hb dX3_processBlock_246 rfl (lv_at hl 4 rfl) ?_
    refine va_get (D := D) (ci := 0) (v := .ref hW) (C := RX3) (T := TX3) (N := 8) hx hb hts in_X3 hown hK hP 0 rfl rfl 7 (by decide) (hts _ q189) (fun _ h9 => h9) rfl dX3_processBlock_247 ?_
    refine lv_iload hx hb dX3_processBlock_250 (lv_at hl 13 rfl) ?_
    refine sm_ild hx hb hK hP 3 1 rfl rfl t rfl (by omega) (by decide) dX3_processBlock_252 ?_
    refine lv_topi (fun wj ewj => ?_)
    refine lv_istore (lv' := [(14, .int wj), (13, .int ss2), (12, .int ss1), (11, .int s1), (10, .int a12), (0, .ref h), (1, .int a), (2, .int b), (3, .int cc), (4, .int d), (5, .int ee), (6, .int f), (7, .int g), (8, .int hh), (9, .int (nI t))]) hx hb dX3_processBlock_253 hl (by decide) rfl (fun ls hl => ?_)
    refine lv_iload hx hb dX3_processBlock_255 (lv_at hl 0 rfl) ?_
    refine lv_aload_n hx hb dX3_processBlock_257 rfl (lv_at hl 5 rfl) ?_
    refine va_get (D := D) (ci := 0) (v := .ref hW) (C := RX3) (T := TX3) (N := 8) hx hb hts in_X3 hown hK hP 0 rfl rfl 7 (by decide) (hts _ q189) (fun _ h9 => h9) rfl dX3_processBlock_258 ?_
    refine lv_iload hx hb dX3_processBlock_261 (lv_at hl 14 rfl) ?_
    refine lv_iconst (v := (4 : Int32)) hx hb dX3_processBlock_263 (by decide) ?_
    refine lv_iadd hx hb dX3_processBlock_264 ?_
    refine sm_ild hx hb hK hP 3 1 rfl rfl (t + 4) (nI_add t 4) (by omega) (by decide) dX3_processBlock_265 ?_
    refine lv_ixor hx hb dX3_processBlock_266 ?_
    refine lv_topi (fun w1j ew1j => ?_)
    refine lv_istore (lv' := [(15, .int w1j), (14, .int wj), (13, .int ss2), (12, .int ss1), (11, .int s1), (10, .int a12), (0, .ref h), (1, .int a), (2, .int b), (3, .int cc), (4, .int d), (5, .int ee), (6, .int f), (7, .int g), (8, .int hh), (9, .int (nI t))]) hx hb dX3_processBlock_267 hl (by decide) rfl (fun ls hl => ?_)
    refine lv_aload_n hx hb dX3_processBlock_269 rfl (lv_at hl 6 rfl) ?_
    refine lv_iload_n hx hb dX3_processBlock_270 rfl (lv_at hl 7 rfl) ?_
    refine lv_iload_n hx hb dX3_processBlock_271 rfl (lv_at hl 8 rfl) ?_
    refine lv_iload_n hx hb dX3_processBlock_272 rfl (lv_at hl 9 rfl) ?_
    refine vp_callSi (W.runV (As := [.int a, .int b, .int cc]) (rest := []) ⟨hx, hb, hml, hown, hts⟩ (met_FF0 l h a b cc) (cwV 3 hts (lw_V q64 q66 qs3 q12 q67) rfl rfl rfl (by decide +kernel) ⟨hRf, hRl⟩) ⟨sm_blindT, va_recv hK hP (ci := 0) (q0 := 0) rfl rfl, sm_goT _⟩ rfl rfl hl.1 rfl (lv_room (Nat.le_of_ble_eq_true rfl)) dX3_processBlock_273 hf) (fun f1 ef1 => ?_)
    refine lv_iload hx hb dX3_processBlock_276 (lv_at hl 10 rfl) ?_
    refine lv_iadd hx hb dX3_processBlock_278 ?_
    refine lv_iload hx hb dX3_processBlock_279 (lv_at hl 2 rfl) ?_
    refine lv_iadd hx hb dX3_processBlock_281 ?_
    refine lv_iload hx hb dX3_processBlock_282 (lv_at hl 0 rfl) ?_
    refine lv_iadd hx hb dX3_processBlock_284 ?_
    refine lv_topi (fun tt1 ett1 => ?_)
    refine lv_istore (lv' := [(16, .int tt1), (15, .int w1j), (14, .int wj), (13, .int ss2), (12, .int ss1), (11, .int s1), (10, .int a12), (0, .ref h), (1, .int a), (2, .int b), (3, .int cc), (4, .int d), (5, .int ee), (6, .int f), (7, .int g), (8, .int hh), (9, .int (nI t))]) hx hb dX3_processBlock_285 hl (by decide) rfl (fun ls hl => ?_)
    refine lv_aload_n hx hb dX3_processBlock_287 rfl (lv_at hl 7 rfl) ?_
    refine lv_iload hx hb dX3_processBlock_288 (lv_at hl 12 rfl) ?_
    refine lv_iload hx hb dX3_processBlock_290 (lv_at hl 13 rfl) ?_
    refine lv_iload hx hb dX3_processBlock_292 (lv_at hl 14 rfl) ?_
    refine vp_callSi (W.runV (As := [.int ee, .int f, .int g]) (rest := []) ⟨hx, hb, hml, hown, hts⟩ (met_GG0 l h ee f g) (cwV 3 hts (lw_V q68 q70 qs4 q12 q71) rfl rfl rfl (by decide +kernel) ⟨hRf, hRl⟩) ⟨sm_blindT, va_recv hK hP (ci := 0) (q0 := 0) rfl rfl, sm_goT _⟩ rfl rfl hl.1 rfl (lv_room (Nat.le_of_ble_eq_true rfl)) dX3_processBlock_294 hf) (fun g1 eg1 => ?_)
    refine lv_iload hx hb dX3_processBlock_297 (lv_at hl 15 rfl) ?_
    refine lv_iadd hx hb dX3_processBlock_299 ?_
    refine lv_iload hx hb dX3_processBlock_300 (lv_at hl 4 rfl) ?_
    refine lv_iadd hx hb dX3_processBlock_302 ?_
    refine lv_iload hx hb dX3_processBlock_303 (lv_at hl 2 rfl) ?_
    refine lv_iadd hx hb dX3_processBlock_305 ?_
    refine lv_topi (fun tt2 ett2 => ?_)
    refine lv_istore (lv' := [(17, .int tt2), (16, .int tt1), (15, .int w1j), (14, .int wj), (13, .int ss2), (12, .int ss1), (11, .int s1), (10, .int a12), (0, .ref h), (1, .int a), (2, .int b), (3, .int cc), (4, .int d), (5, .int ee), (6, .int f), (7, .int g), (8, .int hh), (9, .int (nI t))]) hx hb dX3_processBlock_306 hl (by decide) rfl (fun ls hl => ?_)
    refine lv_iload_n hx hb dX3_processBlock_308 rfl (lv_at hl 11 rfl) ?_
    refine lv_istore (lv' := [(4, .int cc), (17, .int tt2), (16, .int tt1), (15, .int w1j), (14, .int wj), (13, .int ss2), (12, .int ss1), (11, .int s1), (10, .int a12), (0, .ref h), (1, .int a), (2, .int b), (3, .int cc), (5, .int ee), (6, .int f), (7, .int g), (8, .int hh), (9, .int (nI t))]) hx hb dX3_processBlock_309 hl (by decide) rfl (fun ls hl => ?_)
    refine lv_iload_n hx hb dX3_processBlock_311 rfl (lv_at hl 11 rfl) ?_
    refine lv_bipush (v := (9 : Int32)) hx hb dX3_processBlock_312 (by decide) ?_
    refine lv_ishl hx hb dX3_processBlock_314 ?_
    refine lv_iload_n hx hb dX3_processBlock_315 rfl (lv_at hl 11 rfl) ?_
    refine lv_bipush (v := (23 : Int32)) hx hb dX3_processBlock_316 (by decide) ?_
    refine lv_iushr hx hb dX3_processBlock_318 rfl ?_
    refine lv_ior hx hb dX3_processBlock_319 ?_
    refine lv_topi (fun b9 eb9 => ?_)
    refine lv_istore_n (lv' := [(3, .int b9), (4, .int cc), (17, .int tt2), (16, .int tt1), (15, .int w1j), (14, .int wj), (13, .int ss2), (12, .int ss1), (11, .int s1), (10, .int a12), (0, .ref h), (1, .int a), (2, .int b), (5, .int ee), (6, .int f), (7, .int g), (8, .int hh), (9, .int (nI t))]) hx hb dX3_processBlock_320 rfl hl (by decide) rfl (fun ls hl => ?_)
    refine lv_iload_n hx hb dX3_processBlock_321 rfl (lv_at hl 11 rfl) ?_
    refine lv_istore_n (lv' := [(2, .int a), (3, .int b9), (4, .int cc), (17, .int tt2), (16, .int tt1), (15, .int w1j), (14, .int wj), (13, .int ss2), (12, .int ss1), (11, .int s1), (10, .int a12), (0, .ref h), (1, .int a), (5, .int ee), (6, .int f), (7, .int g), (8, .int hh), (9, .int (nI t))]) hx hb dX3_processBlock_322 rfl hl (by decide) rfl (fun ls hl => ?_)
    refine lv_iload hx hb dX3_processBlock_323 (lv_at hl 4 rfl) ?_
    refine lv_istore_n (lv' := [(1, .int tt1), (2, .int a), (3, .int b9), (4, .int cc), (17, .int tt2), (16, .int tt1), (15, .int w1j), (14, .int wj), (13, .int ss2), (12, .int ss1), (11, .int s1), (10, .int a12), (0, .ref h), (5, .int ee), (6, .int f), (7, .int g), (8, .int hh), (9, .int (nI t))]) hx hb dX3_processBlock_325 rfl hl (by decide) rfl (fun ls hl => ?_)
    refine lv_iload hx hb dX3_processBlock_326 (lv_at hl 15 rfl) ?_
    refine lv_istore (lv' := [(8, .int g), (1, .int tt1), (2, .int a), (3, .int b9), (4, .int cc), (17, .int tt2), (16, .int tt1), (15, .int w1j), (14, .int wj), (13, .int ss2), (12, .int ss1), (11, .int s1), (10, .int a12), (0, .ref h), (5, .int ee), (6, .int f), (7, .int g), (9, .int (nI t))]) hx hb dX3_processBlock_328 hl (by decide) rfl (fun ls hl => ?_)
    refine lv_iload hx hb dX3_processBlock_330 (lv_at hl 15 rfl) ?_
    refine lv_bipush (v := (19 : Int32)) hx hb dX3_processBlock_332 (by decide) ?_
    refine lv_ishl hx hb dX3_processBlock_334 ?_
    refine lv_iload hx hb dX3_processBlock_335 (lv_at hl 15 rfl) ?_
    refine lv_bipush (v := (13 : Int32)) hx hb dX3_processBlock_337 (by decide) ?_
    refine lv_iushr hx hb dX3_processBlock_339 rfl ?_
    refine lv_ior hx hb dX3_processBlock_340 ?_
    refine lv_topi (fun f19 ef19 => ?_)
    refine lv_istore (lv' := [(7, .int f19), (8, .int g), (1, .int tt1), (2, .int a), (3, .int b9), (4, .int cc), (17, .int tt2), (16, .int tt1), (15, .int w1j), (14, .int wj), (13, .int ss2), (12, .int ss1), (11, .int s1), (10, .int a12), (0, .ref h), (5, .int ee), (6, .int f), (9, .int (nI t))]) hx hb dX3_processBlock_341 hl (by decide) rfl (fun ls hl => ?_)
    refine lv_iload hx hb dX3_processBlock_343 (lv_at hl 15 rfl) ?_
    refine lv_istore (lv' := [(6, .int ee), (7, .int f19), (8, .int g), (1, .int tt1), (2, .int a), (3, .int b9), (4, .int cc), (17, .int tt2), (16, .int tt1), (15, .int w1j), (14, .int wj), (13, .int ss2), (12, .int ss1), (11, .int s1), (10, .int a12), (0, .ref h), (5, .int ee), (9, .int (nI t))]) hx hb dX3_processBlock_345 hl (by decide) rfl (fun ls hl => ?_)
    refine lv_aload_n hx hb dX3_processBlock_347 rfl (lv_at hl 15 rfl) ?_
    refine lv_iload hx hb dX3_processBlock_348 (lv_at hl 7 rfl) ?_
    refine vp_callSi (W.runV (As := [.int tt2]) (rest := []) ⟨hx, hb, hml, hown, hts⟩ (met_P0 l h tt2) (cwV 1 hts (lw_V q72 q74 qs5 q12 q75) rfl rfl rfl (by decide +kernel) ⟨hRf, hRl⟩) ⟨sm_blindT, va_recv hK hP (ci := 0) (q0 := 0) rfl rfl, sm_goT _⟩ rfl rfl hl.1 rfl (lv_room (Nat.le_of_ble_eq_true rfl)) dX3_processBlock_350 hf) (fun p0 ep0 => ?_)
    refine lv_istore (lv' := [(5, .int p0), (6, .int ee), (7, .int f19), (8, .int g), (1, .int tt1), (2, .int a), (3, .int b9), (4, .int cc), (17, .int tt2), (16, .int tt1), (15, .int w1j), (14, .int wj), (13, .int ss2), (12, .int ss1), (11, .int s1), (10, .int a12), (0, .ref h), (9, .int (nI t))]) hx hb dX3_processBlock_353 hl (by decide) rfl (fun ls hl => ?_)
    refine lv_iinc (v := (nI (t + 1))) (lv' := [(9, .int (nI (t + 1))), (5, .int p0), (6, .int ee), (7, .int f19), (8, .int g), (1, .int tt1), (2, .int a), (3, .int b9), (4, .int cc), (17, .int tt2), (16, .int tt1), (15, .int w1j), (14, .int wj), (13, .int ss2), (12, .int ss1), (11, .int s1), (10, .int a12), (0, .ref h)]) hx hb dX3_processBlock_355 hl (k := 17) rfl (sm_i1 t) (by decide) rfl (fun ls hl => ?_)
    refine lv_goto (tgt := 194) hx hb dX3_processBlock_358 (by decide) ?_
    exact ih (t + 1) tt1 a b9 cc p0 ee f19 g ls (by omega) (by omega) (by
      rw [sm_rs, if_pos (show t < 16 by omega)]
      rw [← hr8]
      unfold sm_rd
      rw [ep0, ett2, eg1, ett1, ef1, ef19, eb9, ew1j, ewj, ess2, ess1, es1, ea12, hw t (by omega), hw (t + 4) (by omega)]
      rfl) (lv_sub hl [17, 5, 6, 7, 8, 1, 2, 3, 4, 0] rfl)
set_option maxHeartbeats 4000000 in
set_option maxRecDepth 100000 in
theorem pb_l4 {p : Program} {l : Launch} {e : Env} {R : Room} {s : State} {m : MethodId} {av : Array Value} {below : List Frame} {meth : Method} {c : Code} {cells slots : Nat} {Q : State → Prop} {D : va_G} {dB dN : ClassId} {tA pA : Nat} {A : Nat → Prop} {h hV hI hW hX : Nat} {fv fi fx : Nat → Int32} {xo bo : Int32} {bc : Int64} {fw : Nat → Int32} {w : Nat → Int32} {r0 : sm_R8} (cx : sm_Cx p s m meth c av cX3_processBlock 18 RX3 none) (hRf : 1 ≤ R.frames) (hRl : 23 ≤ R.locals) (hf : cells ≤ R.cells ∧ slots ≤ R.slots) (hK : va_K D vwCl (sm_ty dB dN) s) (hE : sm_E A tA pA s s.heap) {H : Heap} {locs : List Loc} (hP : va_P D vwCl [(h, .inr (0, [.ref pA, .ref hX, .int bo, .long bc, .ref hV, .ref hI, .int xo, .ref hW])), (hV, .inl (dN, 8, .inl fv)), (hI, .inl (dN, 16, .inl fi)), (hW, .inl (dN, 68, .inl fw)), (hX, .inl (dB, 4, .inl fx))] H) (hS : va_S A s.heap H locs) (hw : ∀ i, i < 68 → fw i = w i)
    (kk : ∀ (a b cc d ee f g hh : Int32) (ls : Array Slot), (a, b, cc, d, ee, f, g, hh) = sm_rs w r0 64 → lv_has ls 18 [(0, .ref h), (1, .int a), (2, .int b), (3, .int cc), (4, .int d), (5, .int ee), (6, .int f), (7, .int g), (8, .int hh)] → W p l e R s m av below meth c H locs cells slots Q (F0 m 532 ls [])) :
    ∀ (n t : Nat) (a b cc d ee f g hh : Int32) (ls : Array Slot), 16 ≤ t → t + n = 64 → (a, b, cc, d, ee, f, g, hh) = sm_rs w r0 t → lv_has ls 18 [(0, .ref h), (1, .int a), (2, .int b), (3, .int cc), (4, .int d), (5, .int ee), (6, .int f), (7, .int g), (8, .int hh), (9, .int (nI t))] → W p l e R s m av below meth c H locs cells slots Q (F0 m 365 ls []) := by
  obtain ⟨hx, hb, hr, hlk, hml, hown, hts⟩ := cx
  intro n
  induction n with
  | zero =>
    intro t a b cc d ee f g hh ls hlo hj hr8 hl
    have htt : t = 64 := by omega
    subst htt
    refine lv_iload hx hb dX3_processBlock_365 (lv_at hl 9 rfl) ?_
    refine lv_bipush (v := (64 : Int32)) hx hb dX3_processBlock_367 (by decide) ?_
    refine lv_icmp_ge (tgt := 532) hx hb dX3_processBlock_369 (by decide) (fun _ => ?_) (fun hc => absurd (Int32.le_refl _) hc)
    exact kk a b cc d ee f g hh ls hr8 (lv_sub hl [0, 1, 2, 3, 4, 5, 6, 7, 8] rfl)
  | succ n ih =>
    intro t a b cc d ee f g hh ls hlo hj hr8 hl
    refine lv_iload hx hb dX3_processBlock_365 (lv_at hl 9 rfl) ?_
    refine lv_bipush (v := (64 : Int32)) hx hb dX3_processBlock_367 (by decide) ?_
    refine lv_icmp_ge (tgt := 532) hx hb dX3_processBlock_369 (by decide) (fun hc => absurd hc (nI_ge (show t < 64 by omega) (by decide))) (fun _ => ?_)
    refine lv_iload_n hx hb dX3_processBlock_372 rfl (lv_at hl 1 rfl) ?_
    refine lv_bipush (v := (12 : Int32)) hx hb dX3_processBlock_373 (by decide) ?_
    refine lv_ishl hx hb dX3_processBlock_375 ?_
    refine lv_iload_n hx hb dX3_processBlock_376 rfl (lv_at hl 1 rfl) ?_
    refine lv_bipush (v := (20 : Int32)) hx hb dX3_processBlock_377 (by decide) ?_
    refine lv_iushr hx hb dX3_processBlock_379 rfl ?_
    refine lv_ior hx hb dX3_processBlock_380 ?_
    refine lv_topi (fun a12 ea12 => ?_)
    refine lv_istore (lv' := [(10, .int a12), (0, .ref h), (1, .int a), (2, .int b), (3, .int cc), (4, .int d), (5, .int ee), (6, .int f), (7, .int g), (8, .int hh), (9, .int (nI t))]) hx hb dX3_processBlock_381 hl (by decide) rfl (fun ls hl => ?_)
    refine lv_iload hx hb dX3_processBlock_383 (lv_at hl 0 rfl) ?_
    refine lv_iload hx hb dX3_processBlock_385 (lv_at hl 6 rfl) ?_
    refine lv_iadd hx hb dX3_processBlock_387 ?_
    refine va_gets hx hb hE.1 hS hown (hts _ q62) (fun _ h9 => h9) dX3_processBlock_388 ?_
    refine lv_iload hx hb dX3_processBlock_391 (lv_at hl 10 rfl) ?_
    refine sm_tld hx hb hE hS t rfl (by omega) dX3_processBlock_393 ?_
    refine lv_iadd hx hb dX3_processBlock_394 ?_
    refine lv_topi (fun s1 es1 => ?_)
    refine lv_istore (lv' := [(11, .int s1), (10, .int a12), (0, .ref h), (1, .int a), (2, .int b), (3, .int cc), (4, .int d), (5, .int ee), (6, .int f), (7, .int g), (8, .int hh), (9, .int (nI t))]) hx hb dX3_processBlock_395 hl (by decide) rfl (fun ls hl => ?_)
    refine lv_iload hx hb dX3_processBlock_397 (lv_at hl 0 rfl) ?_
    refine lv_bipush (v := (7 : Int32)) hx hb dX3_processBlock_399 (by decide) ?_
    refine lv_ishl hx hb dX3_processBlock_401 ?_
    refine lv_iload hx hb dX3_processBlock_402 (lv_at hl 0 rfl) ?_
    refine lv_bipush (v := (25 : Int32)) hx hb dX3_processBlock_404 (by decide) ?_
    refine lv_iushr hx hb dX3_processBlock_406 rfl ?_
    refine lv_ior hx hb dX3_processBlock_407 ?_
    refine lv_topi (fun ss1 ess1 => ?_)
    refine lv_istore (lv' := [(12, .int ss1), (11, .int s1), (10, .int a12), (0, .ref h), (1, .int a), (2, .int b), (3, .int cc), (4, .int d), (5, .int ee), (6, .int f), (7, .int g), (8, .int hh), (9, .int (nI t))]) hx hb dX3_processBlock_408 hl (by decide) rfl (fun ls hl => ?_)
    refine lv_iload hx hb dX3_processBlock_410 (lv_at hl 0 rfl) ?_
    refine lv_iload hx hb dX3_processBlock_412 (lv_at hl 2 rfl) ?_
    refine lv_ixor hx hb dX3_processBlock_414 ?_
    refine lv_topi (fun ss2 ess2 => ?_)
    refine lv_istore (lv' := [(13, .int ss2), (12, .int ss1), (11, .int s1), (10, .int a12), (0, .ref h), (1, .int a), (2, .int b), (3, .int cc), (4, .int d), (5, .int ee), (6, .int f), (7, .int g), (8, .int hh), (9, .int (nI t))]) hx hb dX3_processBlock_415 hl (by decide) rfl (fun ls hl => ?_)
    refine lv_aload_n hx hb dX3_processBlock_417 rfl (lv_at hl 4 rfl) ?_
    refine va_get (D := D) (ci := 0) (v := .ref hW) (C := RX3) (T := TX3) (N := 8) hx hb hts in_X3 hown hK hP 0 rfl rfl 7 (by decide) (hts _ q189) (fun _ h9 => h9) rfl dX3_processBlock_418 ?_
    refine lv_iload hx hb dX3_processBlock_421 (lv_at hl 13 rfl) ?_
    refine sm_ild hx hb hK hP 3 1 rfl rfl t rfl (by omega) (by decide) dX3_processBlock_423 ?_
    refine lv_topi (fun wj ewj => ?_)
    refine lv_istore (lv' := [(14, .int wj), (13, .int ss2), (12, .int ss1), (11, .int s1), (10, .int a12), (0, .ref h), (1, .int a), (2, .int b), (3, .int cc), (4, .int d), (5, .int ee), (6, .int f), (7, .int g), (8, .int hh), (9, .int (nI t))]) hx hb dX3_processBlock_424 hl (by decide) rfl (fun ls hl => ?_)
    refine lv_iload hx hb dX3_processBlock_426 (lv_at hl 0 rfl) ?_
    refine lv_aload_n hx hb dX3_processBlock_428 rfl (lv_at hl 5 rfl) ?_
    refine va_get (D := D) (ci := 0) (v := .ref hW) (C := RX3) (T := TX3) (N := 8) hx hb hts in_X3 hown hK hP 0 rfl rfl 7 (by decide) (hts _ q189) (fun _ h9 => h9) rfl dX3_processBlock_429 ?_
    refine lv_iload hx hb dX3_processBlock_432 (lv_at hl 14 rfl) ?_
    refine lv_iconst (v := (4 : Int32)) hx hb dX3_processBlock_434 (by decide) ?_
    refine lv_iadd hx hb dX3_processBlock_435 ?_
    refine sm_ild hx hb hK hP 3 1 rfl rfl (t + 4) (nI_add t 4) (by omega) (by decide) dX3_processBlock_436 ?_
    refine lv_ixor hx hb dX3_processBlock_437 ?_
    refine lv_topi (fun w1j ew1j => ?_)
    refine lv_istore (lv' := [(15, .int w1j), (14, .int wj), (13, .int ss2), (12, .int ss1), (11, .int s1), (10, .int a12), (0, .ref h), (1, .int a), (2, .int b), (3, .int cc), (4, .int d), (5, .int ee), (6, .int f), (7, .int g), (8, .int hh), (9, .int (nI t))]) hx hb dX3_processBlock_438 hl (by decide) rfl (fun ls hl => ?_)
    refine lv_aload_n hx hb dX3_processBlock_440 rfl (lv_at hl 6 rfl) ?_
    refine lv_iload_n hx hb dX3_processBlock_441 rfl (lv_at hl 7 rfl) ?_
    refine lv_iload_n hx hb dX3_processBlock_442 rfl (lv_at hl 8 rfl) ?_
    refine lv_iload_n hx hb dX3_processBlock_443 rfl (lv_at hl 9 rfl) ?_
    refine vp_callSi (W.runV (As := [.int a, .int b, .int cc]) (rest := []) ⟨hx, hb, hml, hown, hts⟩ (met_FF1 l h a b cc) (cwV 3 hts (lw_V q76 q78 qs6 q12 q79) rfl rfl rfl (by decide +kernel) ⟨hRf, hRl⟩) ⟨sm_blindT, va_recv hK hP (ci := 0) (q0 := 0) rfl rfl, sm_goT _⟩ rfl rfl hl.1 rfl (lv_room (Nat.le_of_ble_eq_true rfl)) dX3_processBlock_444 hf) (fun f1 ef1 => ?_)
    refine lv_iload hx hb dX3_processBlock_447 (lv_at hl 10 rfl) ?_
    refine lv_iadd hx hb dX3_processBlock_449 ?_
    refine lv_iload hx hb dX3_processBlock_450 (lv_at hl 2 rfl) ?_
    refine lv_iadd hx hb dX3_processBlock_452 ?_
    refine lv_iload hx hb dX3_processBlock_453 (lv_at hl 0 rfl) ?_
    refine lv_iadd hx hb dX3_processBlock_455 ?_
    refine lv_topi (fun tt1 ett1 => ?_)
    refine lv_istore (lv' := [(16, .int tt1), (15, .int w1j), (14, .int wj), (13, .int ss2), (12, .int ss1), (11, .int s1), (10, .int a12), (0, .ref h), (1, .int a), (2, .int b), (3, .int cc), (4, .int d), (5, .int ee), (6, .int f), (7, .int g), (8, .int hh), (9, .int (nI t))]) hx hb dX3_processBlock_456 hl (by decide) rfl (fun ls hl => ?_)
    refine lv_aload_n hx hb dX3_processBlock_458 rfl (lv_at hl 7 rfl) ?_
    refine lv_iload hx hb dX3_processBlock_459 (lv_at hl 12 rfl) ?_
    refine lv_iload hx hb dX3_processBlock_461 (lv_at hl 13 rfl) ?_
    refine lv_iload hx hb dX3_processBlock_463 (lv_at hl 14 rfl) ?_
    refine vp_callSi (W.runV (As := [.int ee, .int f, .int g]) (rest := []) ⟨hx, hb, hml, hown, hts⟩ (met_GG1 l h ee f g) (cwV 3 hts (lw_V q80 q82 qs7 q12 q83) rfl rfl rfl (by decide +kernel) ⟨hRf, hRl⟩) ⟨sm_blindT, va_recv hK hP (ci := 0) (q0 := 0) rfl rfl, sm_goT _⟩ rfl rfl hl.1 rfl (lv_room (Nat.le_of_ble_eq_true rfl)) dX3_processBlock_465 hf) (fun g1 eg1 => ?_)
    refine lv_iload hx hb dX3_processBlock_468 (lv_at hl 15 rfl) ?_
    refine lv_iadd hx hb dX3_processBlock_470 ?_
    refine lv_iload hx hb dX3_processBlock_471 (lv_at hl 4 rfl) ?_
    refine lv_iadd hx hb dX3_processBlock_473 ?_
    refine lv_iload hx hb dX3_processBlock_474 (lv_at hl 2 rfl) ?_
    refine lv_iadd hx hb dX3_processBlock_476 ?_
    refine lv_topi (fun tt2 ett2 => ?_)
    refine lv_istore (lv' := [(17, .int tt2), (16, .int tt1), (15, .int w1j), (14, .int wj), (13, .int ss2), (12, .int ss1), (11, .int s1), (10, .int a12), (0, .ref h), (1, .int a), (2, .int b), (3, .int cc), (4, .int d), (5, .int ee), (6, .int f), (7, .int g), (8, .int hh), (9, .int (nI t))]) hx hb dX3_processBlock_477 hl (by decide) rfl (fun ls hl => ?_)
    refine lv_iload_n hx hb dX3_processBlock_479 rfl (lv_at hl 11 rfl) ?_
    refine lv_istore (lv' := [(4, .int cc), (17, .int tt2), (16, .int tt1), (15, .int w1j), (14, .int wj), (13, .int ss2), (12, .int ss1), (11, .int s1), (10, .int a12), (0, .ref h), (1, .int a), (2, .int b), (3, .int cc), (5, .int ee), (6, .int f), (7, .int g), (8, .int hh), (9, .int (nI t))]) hx hb dX3_processBlock_480 hl (by decide) rfl (fun ls hl => ?_)
    refine lv_iload_n hx hb dX3_processBlock_482 rfl (lv_at hl 11 rfl) ?_
    refine lv_bipush (v := (9 : Int32)) hx hb dX3_processBlock_483 (by decide) ?_
    refine lv_ishl hx hb dX3_processBlock_485 ?_
    refine lv_iload_n hx hb dX3_processBlock_486 rfl (lv_at hl 11 rfl) ?_
    refine lv_bipush (v := (23 : Int32)) hx hb dX3_processBlock_487 (by decide) ?_
    refine lv_iushr hx hb dX3_processBlock_489 rfl ?_
    refine lv_ior hx hb dX3_processBlock_490 ?_
    refine lv_topi (fun b9 eb9 => ?_)
    refine lv_istore_n (lv' := [(3, .int b9), (4, .int cc), (17, .int tt2), (16, .int tt1), (15, .int w1j), (14, .int wj), (13, .int ss2), (12, .int ss1), (11, .int s1), (10, .int a12), (0, .ref h), (1, .int a), (2, .int b), (5, .int ee), (6, .int f), (7, .int g), (8, .int hh), (9, .int (nI t))]) hx hb dX3_processBlock_491 rfl hl (by decide) rfl (fun ls hl => ?_)
    refine lv_iload_n hx hb dX3_processBlock_492 rfl (lv_at hl 11 rfl) ?_
    refine lv_istore_n (lv' := [(2, .int a), (3, .int b9), (4, .int cc), (17, .int tt2), (16, .int tt1), (15, .int w1j), (14, .int wj), (13, .int ss2), (12, .int ss1), (11, .int s1), (10, .int a12), (0, .ref h), (1, .int a), (5, .int ee), (6, .int f), (7, .int g), (8, .int hh), (9, .int (nI t))]) hx hb dX3_processBlock_493 rfl hl (by decide) rfl (fun ls hl => ?_)
    refine lv_iload hx hb dX3_processBlock_494 (lv_at hl 4 rfl) ?_
    refine lv_istore_n (lv' := [(1, .int tt1), (2, .int a), (3, .int b9), (4, .int cc), (17, .int tt2), (16, .int tt1), (15, .int w1j), (14, .int wj), (13, .int ss2), (12, .int ss1), (11, .int s1), (10, .int a12), (0, .ref h), (5, .int ee), (6, .int f), (7, .int g), (8, .int hh), (9, .int (nI t))]) hx hb dX3_processBlock_496 rfl hl (by decide) rfl (fun ls hl => ?_)
    refine lv_iload hx hb dX3_processBlock_497 (lv_at hl 15 rfl) ?_
    refine lv_istore (lv' := [(8, .int g), (1, .int tt1), (2, .int a), (3, .int b9), (4, .int cc), (17, .int tt2), (16, .int tt1), (15, .int w1j), (14, .int wj), (13, .int ss2), (12, .int ss1), (11, .int s1), (10, .int a12), (0, .ref h), (5, .int ee), (6, .int f), (7, .int g), (9, .int (nI t))]) hx hb dX3_processBlock_499 hl (by decide) rfl (fun ls hl => ?_)
    refine lv_iload hx hb dX3_processBlock_501 (lv_at hl 15 rfl) ?_
    refine lv_bipush (v := (19 : Int32)) hx hb dX3_processBlock_503 (by decide) ?_
    refine lv_ishl hx hb dX3_processBlock_505 ?_
    refine lv_iload hx hb dX3_processBlock_506 (lv_at hl 15 rfl) ?_
    refine lv_bipush (v := (13 : Int32)) hx hb dX3_processBlock_508 (by decide) ?_
    refine lv_iushr hx hb dX3_processBlock_510 rfl ?_
    refine lv_ior hx hb dX3_processBlock_511 ?_
    refine lv_topi (fun f19 ef19 => ?_)
    refine lv_istore (lv' := [(7, .int f19), (8, .int g), (1, .int tt1), (2, .int a), (3, .int b9), (4, .int cc), (17, .int tt2), (16, .int tt1), (15, .int w1j), (14, .int wj), (13, .int ss2), (12, .int ss1), (11, .int s1), (10, .int a12), (0, .ref h), (5, .int ee), (6, .int f), (9, .int (nI t))]) hx hb dX3_processBlock_512 hl (by decide) rfl (fun ls hl => ?_)
    refine lv_iload hx hb dX3_processBlock_514 (lv_at hl 15 rfl) ?_
    refine lv_istore (lv' := [(6, .int ee), (7, .int f19), (8, .int g), (1, .int tt1), (2, .int a), (3, .int b9), (4, .int cc), (17, .int tt2), (16, .int tt1), (15, .int w1j), (14, .int wj), (13, .int ss2), (12, .int ss1), (11, .int s1), (10, .int a12), (0, .ref h), (5, .int ee), (9, .int (nI t))]) hx hb dX3_processBlock_516 hl (by decide) rfl (fun ls hl => ?_)
    refine lv_aload_n hx hb dX3_processBlock_518 rfl (lv_at hl 15 rfl) ?_
    refine lv_iload hx hb dX3_processBlock_519 (lv_at hl 7 rfl) ?_
    refine vp_callSi (W.runV (As := [.int tt2]) (rest := []) ⟨hx, hb, hml, hown, hts⟩ (met_P0 l h tt2) (cwV 1 hts (lw_V q72 q74 qs5 q12 q75) rfl rfl rfl (by decide +kernel) ⟨hRf, hRl⟩) ⟨sm_blindT, va_recv hK hP (ci := 0) (q0 := 0) rfl rfl, sm_goT _⟩ rfl rfl hl.1 rfl (lv_room (Nat.le_of_ble_eq_true rfl)) dX3_processBlock_521 hf) (fun p0 ep0 => ?_)
    refine lv_istore (lv' := [(5, .int p0), (6, .int ee), (7, .int f19), (8, .int g), (1, .int tt1), (2, .int a), (3, .int b9), (4, .int cc), (17, .int tt2), (16, .int tt1), (15, .int w1j), (14, .int wj), (13, .int ss2), (12, .int ss1), (11, .int s1), (10, .int a12), (0, .ref h), (9, .int (nI t))]) hx hb dX3_processBlock_524 hl (by decide) rfl (fun ls hl => ?_)
    refine lv_iinc (v := (nI (t + 1))) (lv' := [(9, .int (nI (t + 1))), (5, .int p0), (6, .int ee), (7, .int f19), (8, .int g), (1, .int tt1), (2, .int a), (3, .int b9), (4, .int cc), (17, .int tt2), (16, .int tt1), (15, .int w1j), (14, .int wj), (13, .int ss2), (12, .int ss1), (11, .int s1), (10, .int a12), (0, .ref h)]) hx hb dX3_processBlock_526 hl (k := 17) rfl (sm_i1 t) (by decide) rfl (fun ls hl => ?_)
    refine lv_goto (tgt := 365) hx hb dX3_processBlock_529 (by decide) ?_
    exact ih (t + 1) tt1 a b9 cc p0 ee f19 g ls (by omega) (by omega) (by
      rw [sm_rs, if_neg (show ¬ t < 16 by omega)]
      rw [← hr8]
      unfold sm_rd
      rw [ep0, ett2, eg1, ett1, ef1, ef19, eb9, ew1j, ewj, ess2, ess1, es1, ea12, hw t (by omega), hw (t + 4) (by omega)]
      rfl) (lv_sub hl [17, 5, 6, 7, 8, 1, 2, 3, 4, 0] rfl)
theorem sm_v8 {fv fi : Nat → Int32} {a b cc d ee f g hh : Int32} (e : (a, b, cc, d, ee, f, g, hh) = sm_rs (sm_wl fi 52) (sm_8 fv) 64) : ∀ j, j < 8 → upd (upd (upd (upd (upd (upd (upd (upd fv 0 (fv 0 ^^^ a)) 1 (fv 1 ^^^ b)) 2 (fv 2 ^^^ cc)) 3 (fv 3 ^^^ d)) 4 (fv 4 ^^^ ee)) 5 (fv 5 ^^^ f)) 6 (fv 6 ^^^ g)) 7 (fv 7 ^^^ hh) j = sm_cmp fv fi j := by
  intro j hj
  unfold sm_cmp
  rw [← e]
  match j, hj with
  | 0, _ => rfl
  | 1, _ => rfl
  | 2, _ => rfl
  | 3, _ => rfl
  | 4, _ => rfl
  | 5, _ => rfl
  | 6, _ => rfl
  | 7, _ => rfl
set_option maxHeartbeats 4000000 in
set_option maxRecDepth 100000 in
/-- processBlock(): V becomes sm_cmp V inwords, xOff 0, W anything -/
theorem met_pb (l : Launch) (D : va_G) (dB dN : ClassId) (sz tA pA : Nat) (h hV hI hW hX : Nat) (fv fi fw fx : Nat → Int32) (xo bo : Int32) (bc : Int64) : Met l yX3_processBlock (ws_ yX3_processBlock cX3_processBlock 18 none) ({ frames := 1, cells := 0, slots := 0, locals := 23 }) (va_Pc [.ref h] (sm_pre D dB dN (sm_dg dB dN pA h hV hI hW hX fv fi fw fx xo bo bc) sz tA pA)) (sm_Qv D (fun w => ∃ gv gw : Nat → Int32, w = sm_dg dB dN pA h hV hI hW hX gv fi gw fx 0 bo bc ∧ ∀ j, j < 8 → gv j = sm_cmp fv fi j) (va_A (sm_dg dB dN pA h hV hI hW hX fv fi fw fx xo bo bc) sz)) 0 0 (va_A (sm_dg dB dN pA h hV hI hW hX fv fi fw fx xo bo bc) sz) := by
  refine sm_met RX3 (sm_Qv D _) (by decide) rfl (Nat.le_of_ble_eq_true rfl) ?_
  intro p e s m below meth c ls A cx hnm hP hK hD hE hA hS hl
  have hl : lv_has ls 18 [(0, .ref h)] := hl
  obtain ⟨hx, hb, hr, hlk, hml, hown, hts⟩ := cx
  refine lv_iconst (v := (0 : Int32)) hx hb dX3_processBlock_0 (by decide) ?_
  refine lv_istore_n (lv' := [(1, .int (0 : Int32)), (0, .ref h)]) hx hb dX3_processBlock_1 rfl hl (by decide) rfl (fun ls hl => ?_)
  refine pb_l1 (tA := tA) ⟨hx, hb, hr, hlk, hml, hown, hts⟩ hK (fun fw H locs ls hg1 hP hD hS hl => ?_) 16 0 fw _ _ ls rfl (fun i hi => absurd hi (by omega)) hP hD hS (lv_sub hl [1, 0] rfl)
  refine lv_bipush (v := (16 : Int32)) hx hb dX3_processBlock_26 (by decide) ?_
  refine lv_istore_n (lv' := [(1, .int (16 : Int32)), (0, .ref h)]) hx hb dX3_processBlock_28 rfl hl (by decide) rfl (fun ls hl => ?_)
  refine pb_l2 (tA := tA) ⟨hx, hb, hr, hlk, hml, hown, hts⟩ (Nat.le_of_ble_eq_true rfl) (Nat.le_of_ble_eq_true rfl) ⟨Nat.le_of_ble_eq_true rfl, Nat.le_of_ble_eq_true rfl⟩ hK (fun fw H locs ls hg2 hP hD hS hl => ?_) 52 0 fw _ _ ls rfl hg1 hP hD hS (lv_sub hl [1, 0] rfl)
  refine lv_aload_n hx hb dX3_processBlock_128 rfl (lv_at hl 0 rfl) ?_
  refine va_get (D := D) (ci := 0) (v := .ref hV) (C := RX3) (T := TX3) (N := 8) hx hb hts in_X3 hown hK hP 0 rfl rfl 4 (by decide) (hts _ q186) (fun _ h9 => h9) rfl dX3_processBlock_129 ?_
  refine lv_iconst (v := (0 : Int32)) hx hb dX3_processBlock_132 (by decide) ?_
  refine sm_ild hx hb hK hP 1 1 rfl rfl 0 rfl (by decide) (by decide) dX3_processBlock_133 ?_
  refine lv_topi (fun y_ ey_ => ?_)
  have ey_ : y_ = fv 0 := ey_.trans rfl
  subst ey_
  refine lv_istore_n (lv' := [(1, .int (fv 0)), (0, .ref h)]) hx hb dX3_processBlock_134 rfl hl (by decide) rfl (fun ls hl => ?_)
  refine lv_aload_n hx hb dX3_processBlock_135 rfl (lv_at hl 1 rfl) ?_
  refine va_get (D := D) (ci := 0) (v := .ref hV) (C := RX3) (T := TX3) (N := 8) hx hb hts in_X3 hown hK hP 0 rfl rfl 4 (by decide) (hts _ q186) (fun _ h9 => h9) rfl dX3_processBlock_136 ?_
  refine lv_iconst (v := (1 : Int32)) hx hb dX3_processBlock_139 (by decide) ?_
  refine sm_ild hx hb hK hP 1 1 rfl rfl 1 rfl (by decide) (by decide) dX3_processBlock_140 ?_
  refine lv_topi (fun y_ ey_ => ?_)
  have ey_ : y_ = fv 1 := ey_.trans rfl
  subst ey_
  refine lv_istore_n (lv' := [(2, .int (fv 1)), (1, .int (fv 0)), (0, .ref h)]) hx hb dX3_processBlock_141 rfl hl (by decide) rfl (fun ls hl => ?_)
  refine lv_aload_n hx hb dX3_processBlock_142 rfl (lv_at hl 2 rfl) ?_
  refine va_get (D := D) (ci := 0) (v := .ref hV) (C := RX3) (T := TX3) (N := 8) hx hb hts in_X3 hown hK hP 0 rfl rfl 4 (by decide) (hts _ q186) (fun _ h9 => h9) rfl dX3_processBlock_143 ?_
  refine lv_iconst (v := (2 : Int32)) hx hb dX3_processBlock_146 (by decide) ?_
  refine sm_ild hx hb hK hP 1 1 rfl rfl 2 rfl (by decide) (by decide) dX3_processBlock_147 ?_
  refine lv_topi (fun y_ ey_ => ?_)
  have ey_ : y_ = fv 2 := ey_.trans rfl
  subst ey_
  refine lv_istore_n (lv' := [(3, .int (fv 2)), (2, .int (fv 1)), (1, .int (fv 0)), (0, .ref h)]) hx hb dX3_processBlock_148 rfl hl (by decide) rfl (fun ls hl => ?_)
  refine lv_aload_n hx hb dX3_processBlock_149 rfl (lv_at hl 3 rfl) ?_
  refine va_get (D := D) (ci := 0) (v := .ref hV) (C := RX3) (T := TX3) (N := 8) hx hb hts in_X3 hown hK hP 0 rfl rfl 4 (by decide) (hts _ q186) (fun _ h9 => h9) rfl dX3_processBlock_150 ?_
  refine lv_iconst (v := (3 : Int32)) hx hb dX3_processBlock_153 (by decide) ?_
  refine sm_ild hx hb hK hP 1 1 rfl rfl 3 rfl (by decide) (by decide) dX3_processBlock_154 ?_
  refine lv_topi (fun y_ ey_ => ?_)
  have ey_ : y_ = fv 3 := ey_.trans rfl
  subst ey_
  refine lv_istore (lv' := [(4, .int (fv 3)), (3, .int (fv 2)), (2, .int (fv 1)), (1, .int (fv 0)), (0, .ref h)]) hx hb dX3_processBlock_155 hl (by decide) rfl (fun ls hl => ?_)
  refine lv_aload_n hx hb dX3_processBlock_157 rfl (lv_at hl 4 rfl) ?_
  refine va_get (D := D) (ci := 0) (v := .ref hV) (C := RX3) (T := TX3) (N := 8) hx hb hts in_X3 hown hK hP 0 rfl rfl 4 (by decide) (hts _ q186) (fun _ h9 => h9) rfl dX3_processBlock_158 ?_
  refine lv_iconst (v := (4 : Int32)) hx hb dX3_processBlock_161 (by decide) ?_
  refine sm_ild hx hb hK hP 1 1 rfl rfl 4 rfl (by decide) (by decide) dX3_processBlock_162 ?_
  refine lv_topi (fun y_ ey_ => ?_)
  have ey_ : y_ = fv 4 := ey_.trans rfl
  subst ey_
  refine lv_istore (lv' := [(5, .int (fv 4)), (4, .int (fv 3)), (3, .int (fv 2)), (2, .int (fv 1)), (1, .int (fv 0)), (0, .ref h)]) hx hb dX3_processBlock_163 hl (by decide) rfl (fun ls hl => ?_)
  refine lv_aload_n hx hb dX3_processBlock_165 rfl (lv_at hl 5 rfl) ?_
  refine va_get (D := D) (ci := 0) (v := .ref hV) (C := RX3) (T := TX3) (N := 8) hx hb hts in_X3 hown hK hP 0 rfl rfl 4 (by decide) (hts _ q186) (fun _ h9 => h9) rfl dX3_processBlock_166 ?_
  refine lv_iconst (v := (5 : Int32)) hx hb dX3_processBlock_169 (by decide) ?_
  refine sm_ild hx hb hK hP 1 1 rfl rfl 5 rfl (by decide) (by decide) dX3_processBlock_170 ?_
  refine lv_topi (fun y_ ey_ => ?_)
  have ey_ : y_ = fv 5 := ey_.trans rfl
  subst ey_
  refine lv_istore (lv' := [(6, .int (fv 5)), (5, .int (fv 4)), (4, .int (fv 3)), (3, .int (fv 2)), (2, .int (fv 1)), (1, .int (fv 0)), (0, .ref h)]) hx hb dX3_processBlock_171 hl (by decide) rfl (fun ls hl => ?_)
  refine lv_aload_n hx hb dX3_processBlock_173 rfl (lv_at hl 6 rfl) ?_
  refine va_get (D := D) (ci := 0) (v := .ref hV) (C := RX3) (T := TX3) (N := 8) hx hb hts in_X3 hown hK hP 0 rfl rfl 4 (by decide) (hts _ q186) (fun _ h9 => h9) rfl dX3_processBlock_174 ?_
  refine lv_bipush (v := (6 : Int32)) hx hb dX3_processBlock_177 (by decide) ?_
  refine sm_ild hx hb hK hP 1 1 rfl rfl 6 rfl (by decide) (by decide) dX3_processBlock_179 ?_
  refine lv_topi (fun y_ ey_ => ?_)
  have ey_ : y_ = fv 6 := ey_.trans rfl
  subst ey_
  refine lv_istore (lv' := [(7, .int (fv 6)), (6, .int (fv 5)), (5, .int (fv 4)), (4, .int (fv 3)), (3, .int (fv 2)), (2, .int (fv 1)), (1, .int (fv 0)), (0, .ref h)]) hx hb dX3_processBlock_180 hl (by decide) rfl (fun ls hl => ?_)
  refine lv_aload_n hx hb dX3_processBlock_182 rfl (lv_at hl 7 rfl) ?_
  refine va_get (D := D) (ci := 0) (v := .ref hV) (C := RX3) (T := TX3) (N := 8) hx hb hts in_X3 hown hK hP 0 rfl rfl 4 (by decide) (hts _ q186) (fun _ h9 => h9) rfl dX3_processBlock_183 ?_
  refine lv_bipush (v := (7 : Int32)) hx hb dX3_processBlock_186 (by decide) ?_
  refine sm_ild hx hb hK hP 1 1 rfl rfl 7 rfl (by decide) (by decide) dX3_processBlock_188 ?_
  refine lv_topi (fun y_ ey_ => ?_)
  have ey_ : y_ = fv 7 := ey_.trans rfl
  subst ey_
  refine lv_istore (lv' := [(8, .int (fv 7)), (7, .int (fv 6)), (6, .int (fv 5)), (5, .int (fv 4)), (4, .int (fv 3)), (3, .int (fv 2)), (2, .int (fv 1)), (1, .int (fv 0)), (0, .ref h)]) hx hb dX3_processBlock_189 hl (by decide) rfl (fun ls hl => ?_)
  refine lv_iconst (v := (0 : Int32)) hx hb dX3_processBlock_191 (by decide) ?_
  refine lv_istore (lv' := [(9, .int (0 : Int32)), (8, .int (fv 7)), (7, .int (fv 6)), (6, .int (fv 5)), (5, .int (fv 4)), (4, .int (fv 3)), (3, .int (fv 2)), (2, .int (fv 1)), (1, .int (fv 0)), (0, .ref h)]) hx hb dX3_processBlock_192 hl (by decide) rfl (fun ls hl => ?_)
  refine pb_l3 (r0 := sm_8 fv) ⟨hx, hb, hr, hlk, hml, hown, hts⟩ (Nat.le_of_ble_eq_true rfl) (Nat.le_of_ble_eq_true rfl) ⟨Nat.le_of_ble_eq_true rfl, Nat.le_of_ble_eq_true rfl⟩ hK hE hP hS hg2 (fun a b cc d ee f g hh ls hr8 hl => ?_) 16 0 _ _ _ _ _ _ _ _ ls (Nat.le_refl _) rfl rfl (lv_sub hl [9, 8, 7, 6, 5, 4, 3, 2, 1, 0] rfl)
  refine lv_bipush (v := (16 : Int32)) hx hb dX3_processBlock_361 (by decide) ?_
  refine lv_istore (lv' := [(9, .int (16 : Int32)), (0, .ref h), (1, .int a), (2, .int b), (3, .int cc), (4, .int d), (5, .int ee), (6, .int f), (7, .int g), (8, .int hh)]) hx hb dX3_processBlock_363 hl (by decide) rfl (fun ls hl => ?_)
  refine pb_l4 (r0 := sm_8 fv) ⟨hx, hb, hr, hlk, hml, hown, hts⟩ (Nat.le_of_ble_eq_true rfl) (Nat.le_of_ble_eq_true rfl) ⟨Nat.le_of_ble_eq_true rfl, Nat.le_of_ble_eq_true rfl⟩ hK hE hP hS hg2 (fun a b cc d ee f g hh ls hr8 hl => ?_) 48 16 _ _ _ _ _ _ _ _ ls (Nat.le_refl _) rfl hr8 (lv_sub hl [1, 2, 3, 4, 5, 6, 7, 8, 9, 0] rfl)
  refine lv_aload_n hx hb dX3_processBlock_532 rfl (lv_at hl 0 rfl) ?_
  refine va_get (D := D) (ci := 0) (v := .ref hV) (C := RX3) (T := TX3) (N := 8) hx hb hts in_X3 hown hK hP 0 rfl rfl 4 (by decide) (hts _ q186) (fun _ h9 => h9) rfl dX3_processBlock_533 ?_
  refine lv_iconst (v := (0 : Int32)) hx hb dX3_processBlock_536 (by decide) ?_
  refine lv_dup2_11 hx hb dX3_processBlock_537 rfl rfl ?_
  refine sm_ild hx hb hK hP 1 1 rfl rfl 0 rfl (by decide) (by decide) dX3_processBlock_538 ?_
  refine lv_topi (fun y_ ey_ => ?_)
  have ey_ : y_ = fv 0 := ey_.trans rfl
  subst ey_
  refine lv_iload_n hx hb dX3_processBlock_539 rfl (lv_at hl 1 rfl) ?_
  refine lv_ixor hx hb dX3_processBlock_540 ?_
  refine sm_ist hx hb hK hP hD hS 1 1 rfl rfl 0 rfl (by decide) (by decide) dX3_processBlock_541 (fun H locs hP hD hS => ?_)
  have hP : va_P D vwCl [(h, .inr (0, [.ref pA, .ref hX, .int bo, .long bc, .ref hV, .ref hI, .int xo, .ref hW])), (hV, .inl (dN, 8, .inl (upd fv 0 ((fv 0) ^^^ a)))), (hI, .inl (dN, 16, .inl fi)), (hW, .inl (dN, 68, .inl fw)), (hX, .inl (dB, 4, .inl fx))] H := hP
  have hD : va_D A [(h, .inr (0, [.ref pA, .ref hX, .int bo, .long bc, .ref hV, .ref hI, .int xo, .ref hW])), (hV, .inl (dN, 8, .inl (upd fv 0 ((fv 0) ^^^ a)))), (hI, .inl (dN, 16, .inl fi)), (hW, .inl (dN, 68, .inl fw)), (hX, .inl (dB, 4, .inl fx))] := hD
  refine lv_aload_n hx hb dX3_processBlock_542 rfl (lv_at hl 0 rfl) ?_
  refine va_get (D := D) (ci := 0) (v := .ref hV) (C := RX3) (T := TX3) (N := 8) hx hb hts in_X3 hown hK hP 0 rfl rfl 4 (by decide) (hts _ q186) (fun _ h9 => h9) rfl dX3_processBlock_543 ?_
  refine lv_iconst (v := (1 : Int32)) hx hb dX3_processBlock_546 (by decide) ?_
  refine lv_dup2_11 hx hb dX3_processBlock_547 rfl rfl ?_
  refine sm_ild hx hb hK hP 1 1 rfl rfl 1 rfl (by decide) (by decide) dX3_processBlock_548 ?_
  refine lv_topi (fun y_ ey_ => ?_)
  have ey_ : y_ = fv 1 := ey_.trans rfl
  subst ey_
  refine lv_iload_n hx hb dX3_processBlock_549 rfl (lv_at hl 2 rfl) ?_
  refine lv_ixor hx hb dX3_processBlock_550 ?_
  refine sm_ist hx hb hK hP hD hS 1 1 rfl rfl 1 rfl (by decide) (by decide) dX3_processBlock_551 (fun H locs hP hD hS => ?_)
  have hP : va_P D vwCl [(h, .inr (0, [.ref pA, .ref hX, .int bo, .long bc, .ref hV, .ref hI, .int xo, .ref hW])), (hV, .inl (dN, 8, .inl (upd (upd fv 0 ((fv 0) ^^^ a)) 1 ((fv 1) ^^^ b)))), (hI, .inl (dN, 16, .inl fi)), (hW, .inl (dN, 68, .inl fw)), (hX, .inl (dB, 4, .inl fx))] H := hP
  have hD : va_D A [(h, .inr (0, [.ref pA, .ref hX, .int bo, .long bc, .ref hV, .ref hI, .int xo, .ref hW])), (hV, .inl (dN, 8, .inl (upd (upd fv 0 ((fv 0) ^^^ a)) 1 ((fv 1) ^^^ b)))), (hI, .inl (dN, 16, .inl fi)), (hW, .inl (dN, 68, .inl fw)), (hX, .inl (dB, 4, .inl fx))] := hD
  refine lv_aload_n hx hb dX3_processBlock_552 rfl (lv_at hl 0 rfl) ?_
  refine va_get (D := D) (ci := 0) (v := .ref hV) (C := RX3) (T := TX3) (N := 8) hx hb hts in_X3 hown hK hP 0 rfl rfl 4 (by decide) (hts _ q186) (fun _ h9 => h9) rfl dX3_processBlock_553 ?_
  refine lv_iconst (v := (2 : Int32)) hx hb dX3_processBlock_556 (by decide) ?_
  refine lv_dup2_11 hx hb dX3_processBlock_557 rfl rfl ?_
  refine sm_ild hx hb hK hP 1 1 rfl rfl 2 rfl (by decide) (by decide) dX3_processBlock_558 ?_
  refine lv_topi (fun y_ ey_ => ?_)
  have ey_ : y_ = fv 2 := ey_.trans rfl
  subst ey_
  refine lv_iload_n hx hb dX3_processBlock_559 rfl (lv_at hl 3 rfl) ?_
  refine lv_ixor hx hb dX3_processBlock_560 ?_
  refine sm_ist hx hb hK hP hD hS 1 1 rfl rfl 2 rfl (by decide) (by decide) dX3_processBlock_561 (fun H locs hP hD hS => ?_)
  have hP : va_P D vwCl [(h, .inr (0, [.ref pA, .ref hX, .int bo, .long bc, .ref hV, .ref hI, .int xo, .ref hW])), (hV, .inl (dN, 8, .inl (upd (upd (upd fv 0 ((fv 0) ^^^ a)) 1 ((fv 1) ^^^ b)) 2 ((fv 2) ^^^ cc)))), (hI, .inl (dN, 16, .inl fi)), (hW, .inl (dN, 68, .inl fw)), (hX, .inl (dB, 4, .inl fx))] H := hP
  have hD : va_D A [(h, .inr (0, [.ref pA, .ref hX, .int bo, .long bc, .ref hV, .ref hI, .int xo, .ref hW])), (hV, .inl (dN, 8, .inl (upd (upd (upd fv 0 ((fv 0) ^^^ a)) 1 ((fv 1) ^^^ b)) 2 ((fv 2) ^^^ cc)))), (hI, .inl (dN, 16, .inl fi)), (hW, .inl (dN, 68, .inl fw)), (hX, .inl (dB, 4, .inl fx))] := hD
  refine lv_aload_n hx hb dX3_processBlock_562 rfl (lv_at hl 0 rfl) ?_
  refine va_get (D := D) (ci := 0) (v := .ref hV) (C := RX3) (T := TX3) (N := 8) hx hb hts in_X3 hown hK hP 0 rfl rfl 4 (by decide) (hts _ q186) (fun _ h9 => h9) rfl dX3_processBlock_563 ?_
  refine lv_iconst (v := (3 : Int32)) hx hb dX3_processBlock_566 (by decide) ?_
  refine lv_dup2_11 hx hb dX3_processBlock_567 rfl rfl ?_
  refine sm_ild hx hb hK hP 1 1 rfl rfl 3 rfl (by decide) (by decide) dX3_processBlock_568 ?_
  refine lv_topi (fun y_ ey_ => ?_)
  have ey_ : y_ = fv 3 := ey_.trans rfl
  subst ey_
  refine lv_iload hx hb dX3_processBlock_569 (lv_at hl 4 rfl) ?_
  refine lv_ixor hx hb dX3_processBlock_571 ?_
  refine sm_ist hx hb hK hP hD hS 1 1 rfl rfl 3 rfl (by decide) (by decide) dX3_processBlock_572 (fun H locs hP hD hS => ?_)
  have hP : va_P D vwCl [(h, .inr (0, [.ref pA, .ref hX, .int bo, .long bc, .ref hV, .ref hI, .int xo, .ref hW])), (hV, .inl (dN, 8, .inl (upd (upd (upd (upd fv 0 ((fv 0) ^^^ a)) 1 ((fv 1) ^^^ b)) 2 ((fv 2) ^^^ cc)) 3 ((fv 3) ^^^ d)))), (hI, .inl (dN, 16, .inl fi)), (hW, .inl (dN, 68, .inl fw)), (hX, .inl (dB, 4, .inl fx))] H := hP
  have hD : va_D A [(h, .inr (0, [.ref pA, .ref hX, .int bo, .long bc, .ref hV, .ref hI, .int xo, .ref hW])), (hV, .inl (dN, 8, .inl (upd (upd (upd (upd fv 0 ((fv 0) ^^^ a)) 1 ((fv 1) ^^^ b)) 2 ((fv 2) ^^^ cc)) 3 ((fv 3) ^^^ d)))), (hI, .inl (dN, 16, .inl fi)), (hW, .inl (dN, 68, .inl fw)), (hX, .inl (dB, 4, .inl fx))] := hD
  refine lv_aload_n hx hb dX3_processBlock_573 rfl (lv_at hl 0 rfl) ?_
  refine va_get (D := D) (ci := 0) (v := .ref hV) (C := RX3) (T := TX3) (N := 8) hx hb hts in_X3 hown hK hP 0 rfl rfl 4 (by decide) (hts _ q186) (fun _ h9 => h9) rfl dX3_processBlock_574 ?_
  refine lv_iconst (v := (4 : Int32)) hx hb dX3_processBlock_577 (by decide) ?_
  refine lv_dup2_11 hx hb dX3_processBlock_578 rfl rfl ?_
  refine sm_ild hx hb hK hP 1 1 rfl rfl 4 rfl (by decide) (by decide) dX3_processBlock_579 ?_
  refine lv_topi (fun y_ ey_ => ?_)
  have ey_ : y_ = fv 4 := ey_.trans rfl
  subst ey_
  refine lv_iload hx hb dX3_processBlock_580 (lv_at hl 5 rfl) ?_
  refine lv_ixor hx hb dX3_processBlock_582 ?_
  refine sm_ist hx hb hK hP hD hS 1 1 rfl rfl 4 rfl (by decide) (by decide) dX3_processBlock_583 (fun H locs hP hD hS => ?_)
  have hP : va_P D vwCl [(h, .inr (0, [.ref pA, .ref hX, .int bo, .long bc, .ref hV, .ref hI, .int xo, .ref hW])), (hV, .inl (dN, 8, .inl (upd (upd (upd (upd (upd fv 0 ((fv 0) ^^^ a)) 1 ((fv 1) ^^^ b)) 2 ((fv 2) ^^^ cc)) 3 ((fv 3) ^^^ d)) 4 ((fv 4) ^^^ ee)))), (hI, .inl (dN, 16, .inl fi)), (hW, .inl (dN, 68, .inl fw)), (hX, .inl (dB, 4, .inl fx))] H := hP
  have hD : va_D A [(h, .inr (0, [.ref pA, .ref hX, .int bo, .long bc, .ref hV, .ref hI, .int xo, .ref hW])), (hV, .inl (dN, 8, .inl (upd (upd (upd (upd (upd fv 0 ((fv 0) ^^^ a)) 1 ((fv 1) ^^^ b)) 2 ((fv 2) ^^^ cc)) 3 ((fv 3) ^^^ d)) 4 ((fv 4) ^^^ ee)))), (hI, .inl (dN, 16, .inl fi)), (hW, .inl (dN, 68, .inl fw)), (hX, .inl (dB, 4, .inl fx))] := hD
  refine lv_aload_n hx hb dX3_processBlock_584 rfl (lv_at hl 0 rfl) ?_
  refine va_get (D := D) (ci := 0) (v := .ref hV) (C := RX3) (T := TX3) (N := 8) hx hb hts in_X3 hown hK hP 0 rfl rfl 4 (by decide) (hts _ q186) (fun _ h9 => h9) rfl dX3_processBlock_585 ?_
  refine lv_iconst (v := (5 : Int32)) hx hb dX3_processBlock_588 (by decide) ?_
  refine lv_dup2_11 hx hb dX3_processBlock_589 rfl rfl ?_
  refine sm_ild hx hb hK hP 1 1 rfl rfl 5 rfl (by decide) (by decide) dX3_processBlock_590 ?_
  refine lv_topi (fun y_ ey_ => ?_)
  have ey_ : y_ = fv 5 := ey_.trans rfl
  subst ey_
  refine lv_iload hx hb dX3_processBlock_591 (lv_at hl 6 rfl) ?_
  refine lv_ixor hx hb dX3_processBlock_593 ?_
  refine sm_ist hx hb hK hP hD hS 1 1 rfl rfl 5 rfl (by decide) (by decide) dX3_processBlock_594 (fun H locs hP hD hS => ?_)
  have hP : va_P D vwCl [(h, .inr (0, [.ref pA, .ref hX, .int bo, .long bc, .ref hV, .ref hI, .int xo, .ref hW])), (hV, .inl (dN, 8, .inl (upd (upd (upd (upd (upd (upd fv 0 ((fv 0) ^^^ a)) 1 ((fv 1) ^^^ b)) 2 ((fv 2) ^^^ cc)) 3 ((fv 3) ^^^ d)) 4 ((fv 4) ^^^ ee)) 5 ((fv 5) ^^^ f)))), (hI, .inl (dN, 16, .inl fi)), (hW, .inl (dN, 68, .inl fw)), (hX, .inl (dB, 4, .inl fx))] H := hP
  have hD : va_D A [(h, .inr (0, [.ref pA, .ref hX, .int bo, .long bc, .ref hV, .ref hI, .int xo, .ref hW])), (hV, .inl (dN, 8, .inl (upd (upd (upd (upd (upd (upd fv 0 ((fv 0) ^^^ a)) 1 ((fv 1) ^^^ b)) 2 ((fv 2) ^^^ cc)) 3 ((fv 3) ^^^ d)) 4 ((fv 4) ^^^ ee)) 5 ((fv 5) ^^^ f)))), (hI, .inl (dN, 16, .inl fi)), (hW, .inl (dN, 68, .inl fw)), (hX, .inl (dB, 4, .inl fx))] := hD
  refine lv_aload_n hx hb dX3_processBlock_595 rfl (lv_at hl 0 rfl) ?_
  refine va_get (D := D) (ci := 0) (v := .ref hV) (C := RX3) (T := TX3) (N := 8) hx hb hts in_X3 hown hK hP 0 rfl rfl 4 (by decide) (hts _ q186) (fun _ h9 => h9) rfl dX3_processBlock_596 ?_
  refine lv_bipush (v := (6 : Int32)) hx hb dX3_processBlock_599 (by decide) ?_
  refine lv_dup2_11 hx hb dX3_processBlock_601 rfl rfl ?_
  refine sm_ild hx hb hK hP 1 1 rfl rfl 6 rfl (by decide) (by decide) dX3_processBlock_602 ?_
  refine lv_topi (fun y_ ey_ => ?_)
  have ey_ : y_ = fv 6 := ey_.trans rfl
  subst ey_
  refine lv_iload hx hb dX3_processBlock_603 (lv_at hl 7 rfl) ?_
  refine lv_ixor hx hb dX3_processBlock_605 ?_
  refine sm_ist hx hb hK hP hD hS 1 1 rfl rfl 6 rfl (by decide) (by decide) dX3_processBlock_606 (fun H locs hP hD hS => ?_)
  have hP : va_P D vwCl [(h, .inr (0, [.ref pA, .ref hX, .int bo, .long bc, .ref hV, .ref hI, .int xo, .ref hW])), (hV, .inl (dN, 8, .inl (upd (upd (upd (upd (upd (upd (upd fv 0 ((fv 0) ^^^ a)) 1 ((fv 1) ^^^ b)) 2 ((fv 2) ^^^ cc)) 3 ((fv 3) ^^^ d)) 4 ((fv 4) ^^^ ee)) 5 ((fv 5) ^^^ f)) 6 ((fv 6) ^^^ g)))), (hI, .inl (dN, 16, .inl fi)), (hW, .inl (dN, 68, .inl fw)), (hX, .inl (dB, 4, .inl fx))] H := hP
  have hD : va_D A [(h, .inr (0, [.ref pA, .ref hX, .int bo, .long bc, .ref hV, .ref hI, .int xo, .ref hW])), (hV, .inl (dN, 8, .inl (upd (upd (upd (upd (upd (upd (upd fv 0 ((fv 0) ^^^ a)) 1 ((fv 1) ^^^ b)) 2 ((fv 2) ^^^ cc)) 3 ((fv 3) ^^^ d)) 4 ((fv 4) ^^^ ee)) 5 ((fv 5) ^^^ f)) 6 ((fv 6) ^^^ g)))), (hI, .inl (dN, 16, .inl fi)), (hW, .inl (dN, 68, .inl fw)), (hX, .inl (dB, 4, .inl fx))] := hD
  refine lv_aload_n hx hb dX3_processBlock_607 rfl (lv_at hl 0 rfl) ?_
  refine va_get (D := D) (ci := 0) (v := .ref hV) (C := RX3) (T := TX3) (N := 8) hx hb hts in_X3 hown hK hP 0 rfl rfl 4 (by decide) (hts _ q186) (fun _ h9 => h9) rfl dX3_processBlock_608 ?_
  refine lv_bipush (v := (7 : Int32)) hx hb dX3_processBlock_611 (by decide) ?_
  refine lv_dup2_11 hx hb dX3_processBlock_613 rfl rfl ?_
  refine sm_ild hx hb hK hP 1 1 rfl rfl 7 rfl (by decide) (by decide) dX3_processBlock_614 ?_
  refine lv_topi (fun y_ ey_ => ?_)
  have ey_ : y_ = fv 7 := ey_.trans rfl
  subst ey_
  refine lv_iload hx hb dX3_processBlock_615 (lv_at hl 8 rfl) ?_
  refine lv_ixor hx hb dX3_processBlock_617 ?_
  refine sm_ist hx hb hK hP hD hS 1 1 rfl rfl 7 rfl (by decide) (by decide) dX3_processBlock_618 (fun H locs hP hD hS => ?_)
  have hP : va_P D vwCl [(h, .inr (0, [.ref pA, .ref hX, .int bo, .long bc, .ref hV, .ref hI, .int xo, .ref hW])), (hV, .inl (dN, 8, .inl (upd (upd (upd (upd (upd (upd (upd (upd fv 0 ((fv 0) ^^^ a)) 1 ((fv 1) ^^^ b)) 2 ((fv 2) ^^^ cc)) 3 ((fv 3) ^^^ d)) 4 ((fv 4) ^^^ ee)) 5 ((fv 5) ^^^ f)) 6 ((fv 6) ^^^ g)) 7 ((fv 7) ^^^ hh)))), (hI, .inl (dN, 16, .inl fi)), (hW, .inl (dN, 68, .inl fw)), (hX, .inl (dB, 4, .inl fx))] H := hP
  have hD : va_D A [(h, .inr (0, [.ref pA, .ref hX, .int bo, .long bc, .ref hV, .ref hI, .int xo, .ref hW])), (hV, .inl (dN, 8, .inl (upd (upd (upd (upd (upd (upd (upd (upd fv 0 ((fv 0) ^^^ a)) 1 ((fv 1) ^^^ b)) 2 ((fv 2) ^^^ cc)) 3 ((fv 3) ^^^ d)) 4 ((fv 4) ^^^ ee)) 5 ((fv 5) ^^^ f)) 6 ((fv 6) ^^^ g)) 7 ((fv 7) ^^^ hh)))), (hI, .inl (dN, 16, .inl fi)), (hW, .inl (dN, 68, .inl fw)), (hX, .inl (dB, 4, .inl fx))] := hD
  refine lv_aload_n hx hb dX3_processBlock_619 rfl (lv_at hl 0 rfl) ?_
  refine lv_iconst (v := (0 : Int32)) hx hb dX3_processBlock_620 (by decide) ?_
  refine va_put (D := D) (ci := 0) (v := .int (0 : Int32)) (ty := .int) (C := RX3) (T := TX3) (N := 8) hx hb hts in_X3 tyX3 tyX3_ok nmX3 hown hK hP hD hS 0 rfl rfl 6 (by decide) (hts _ q188) (fun _ h9 => h9) rfl (by decide +kernel) rfl rfl (Nat.le_of_ble_eq_true rfl) dX3_processBlock_621 (fun H locs hP hD hS => ?_)
  have hP : va_P D vwCl [(h, .inr (0, [.ref pA, .ref hX, .int bo, .long bc, .ref hV, .ref hI, .int (0 : Int32), .ref hW])), (hV, .inl (dN, 8, .inl (upd (upd (upd (upd (upd (upd (upd (upd fv 0 ((fv 0) ^^^ a)) 1 ((fv 1) ^^^ b)) 2 ((fv 2) ^^^ cc)) 3 ((fv 3) ^^^ d)) 4 ((fv 4) ^^^ ee)) 5 ((fv 5) ^^^ f)) 6 ((fv 6) ^^^ g)) 7 ((fv 7) ^^^ hh)))), (hI, .inl (dN, 16, .inl fi)), (hW, .inl (dN, 68, .inl fw)), (hX, .inl (dB, 4, .inl fx))] H := hP
  have hD : va_D A [(h, .inr (0, [.ref pA, .ref hX, .int bo, .long bc, .ref hV, .ref hI, .int (0 : Int32), .ref hW])), (hV, .inl (dN, 8, .inl (upd (upd (upd (upd (upd (upd (upd (upd fv 0 ((fv 0) ^^^ a)) 1 ((fv 1) ^^^ b)) 2 ((fv 2) ^^^ cc)) 3 ((fv 3) ^^^ d)) 4 ((fv 4) ^^^ ee)) 5 ((fv 5) ^^^ f)) 6 ((fv 6) ^^^ g)) 7 ((fv 7) ^^^ hh)))), (hI, .inl (dN, 16, .inl fi)), (hW, .inl (dN, 68, .inl fw)), (hX, .inl (dB, 4, .inl fx))] := hD
  exact W.vret hx hb hr (sm_endv _ ⟨_, fw, rfl, sm_v8 hr8⟩ hP hD hS) hS.2.2 dX3_processBlock_624 hlk
end
section
/-! processWord, processLength -/
set_option maxRecDepth 100000
set_option maxHeartbeats 4000000 in
set_option maxRecDepth 100000 in
/-- processWord(in, off): the q-th word of the message comes in -/
theorem met_pwX (l : Launch) (D : va_G) (dB dN : ClassId) (sz tA pA : Nat) (h hV hI hW hX : Nat) (fv fi fw fx : Nat → Int32) (bo : Int32) (bc : Int64) (msg : Nat → Int32) (q k : Nat) (hk : k + 3 < 4) (hn : 4 < 2 ^ 31) (hAW : sm_AW msg q fv fi) (hbe : sm_be (fx k) (fx (k + 1)) (fx (k + 2)) (fx (k + 3)) = sm_wd msg q) : Met l yX3_processWord (ws_ yX3_processWord cX3_processWord 3 none) ({ frames := 2, cells := 0, slots := 0, locals := 60 }) (va_Pc [.ref h, .ref hX, .int (nI k)] (sm_pre D dB dN (sm_dg dB dN pA h hV hI hW hX fv fi fw fx (nI (q % 16)) bo bc) sz tA pA)) (sm_Qv D (fun w => ∃ gv gi gw : Nat → Int32, w = sm_dg dB dN pA h hV hI hW hX gv gi gw fx (nI ((q + 1) % 16)) bo bc ∧ sm_AW msg (q + 1) gv gi) (va_A (sm_dg dB dN pA h hV hI hW hX fv fi fw fx (nI (q % 16)) bo bc) sz)) 0 0 (va_A (sm_dg dB dN pA h hV hI hW hX fv fi fw fx (nI (q % 16)) bo bc) sz) := by
  refine sm_met RX3 (sm_Qv D _) (by decide) rfl (Nat.le_of_ble_eq_true rfl) ?_
  intro p e s m below meth c ls A cx hnm hP hK hD hE hA hS hl
  obtain ⟨hx, hb, hr, hlk, hml, hown, hts⟩ := cx
  have hl : lv_has ls 3 [(0, .ref h), (1, .ref hX), (2, .int (nI k))] := hl
  have hP : va_P D vwCl [(h, .inr (0, [.ref pA, .ref hX, .int bo, .long bc, .ref hV, .ref hI, .int (nI (q % 16)), .ref hW])), (hV, .inl (dN, 8, .inl fv)), (hI, .inl (dN, 16, .inl fi)), (hW, .inl (dN, 68, .inl fw)), (hX, .inl (dB, 4, .inl fx))] s.heap := hP
  have hD : va_D A [(h, .inr (0, [.ref pA, .ref hX, .int bo, .long bc, .ref hV, .ref hI, .int (nI (q % 16)), .ref hW])), (hV, .inl (dN, 8, .inl fv)), (hI, .inl (dN, 16, .inl fi)), (hW, .inl (dN, 68, .inl fw)), (hX, .inl (dB, 4, .inl fx))] := hD
  refine lv_aload_n hx hb dX3_processWord_0 rfl (lv_at hl 0 rfl) ?_
  refine va_get (D := D) (ci := 0) (v := .ref hI) (C := RX3) (T := TX3) (N := 8) hx hb hts in_X3 hown hK hP 0 rfl rfl 5 (by decide) (hts _ q187) (fun _ h9 => h9) rfl dX3_processWord_1 ?_
  refine lv_aload_n hx hb dX3_processWord_4 rfl (lv_at hl 0 rfl) ?_
  refine lv_dup hx hb dX3_processWord_5 rfl ?_
  refine va_get (D := D) (ci := 0) (v := .int (nI (q % 16))) (C := RX3) (T := TX3) (N := 8) hx hb hts in_X3 hown hK hP 0 rfl rfl 6 (by decide) (hts _ q188) (fun _ h9 => h9) rfl dX3_processWord_6 ?_
  refine lv_dup_x1 hx hb dX3_processWord_9 rfl rfl ?_
  refine lv_iconst (v := (1 : Int32)) hx hb dX3_processWord_10 (by decide) ?_
  refine lv_iadd hx hb dX3_processWord_11 ?_
  refine lv_topi (fun y_ ey_ => ?_)
  have ey_ : y_ = nI (q % 16 + 1) := ey_.trans (nI_1 _)
  subst ey_
  refine va_put (D := D) (ci := 0) (v := .int (nI (q % 16 + 1))) (ty := .int) (C := RX3) (T := TX3) (N := 8) hx hb hts in_X3 tyX3 tyX3_ok nmX3 hown hK hP hD hS 0 rfl rfl 6 (by decide) (hts _ q188) (fun _ h9 => h9) rfl (by decide +kernel) rfl rfl (Nat.le_of_ble_eq_true rfl) dX3_processWord_12 (fun H locs hP hD hS => ?_)
  have hP : va_P D vwCl [(h, .inr (0, [.ref pA, .ref hX, .int bo, .long bc, .ref hV, .ref hI, .int (nI (q % 16 + 1)), .ref hW])), (hV, .inl (dN, 8, .inl fv)), (hI, .inl (dN, 16, .inl fi)), (hW, .inl (dN, 68, .inl fw)), (hX, .inl (dB, 4, .inl fx))] H := hP
  have hD : va_D A [(h, .inr (0, [.ref pA, .ref hX, .int bo, .long bc, .ref hV, .ref hI, .int (nI (q % 16 + 1)), .ref hW])), (hV, .inl (dN, 8, .inl fv)), (hI, .inl (dN, 16, .inl fi)), (hW, .inl (dN, 68, .inl fw)), (hX, .inl (dB, 4, .inl fx))] := hD
  refine lv_aload_n hx hb dX3_processWord_15 rfl (lv_at hl 1 rfl) ?_
  refine lv_iload_n hx hb dX3_processWord_16 rfl (lv_at hl 2 rfl) ?_
  have hPc := hP.sub (ws' := [(hX, .inl (dB, 4, .inl fx))]) [4] rfl
  refine vp_callSi (W.runS (As := [.ref hX, .int (nI k)]) (rest := [.int (nI (q % 16)), .ref hI]) ⟨hx, hb, hml, hown, hts⟩ (met_be l D dB dN hX 4 fx k hk hn) (va_cwS 2 hts (lw_S q50 q51 q16 q52) rfl rfl rfl (by decide +kernel) ⟨Nat.le_of_ble_eq_true rfl, Nat.le_of_ble_eq_true rfl⟩) ⟨sm_blind0, sm_go0 hK hPc _⟩ rfl rfl hl.1 rfl (lv_room (Nat.le_of_ble_eq_true rfl)) dX3_processWord_17 ⟨Nat.le_of_ble_eq_true rfl, Nat.le_of_ble_eq_true rfl⟩) (fun r hr0 => ?_)
  have hr0 : r = sm_wd msg q := hr0.trans hbe
  refine sm_ist hx hb hK hP hD hS 2 1 rfl rfl (q % 16) rfl (by omega) (by decide) dX3_processWord_20 (fun H locs hP hD hS => ?_)
  have hP : va_P D vwCl [(h, .inr (0, [.ref pA, .ref hX, .int bo, .long bc, .ref hV, .ref hI, .int (nI (q % 16 + 1)), .ref hW])), (hV, .inl (dN, 8, .inl fv)), (hI, .inl (dN, 16, .inl (upd fi (q % 16) r))), (hW, .inl (dN, 68, .inl fw)), (hX, .inl (dB, 4, .inl fx))] H := hP
  have hD : va_D A [(h, .inr (0, [.ref pA, .ref hX, .int bo, .long bc, .ref hV, .ref hI, .int (nI (q % 16 + 1)), .ref hW])), (hV, .inl (dN, 8, .inl fv)), (hI, .inl (dN, 16, .inl (upd fi (q % 16) r))), (hW, .inl (dN, 68, .inl fw)), (hX, .inl (dB, 4, .inl fx))] := hD
  refine lv_aload_n hx hb dX3_processWord_21 rfl (lv_at hl 0 rfl) ?_
  refine va_get (D := D) (ci := 0) (v := .int (nI (q % 16 + 1))) (C := RX3) (T := TX3) (N := 8) hx hb hts in_X3 hown hK hP 0 rfl rfl 6 (by decide) (hts _ q188) (fun _ h9 => h9) rfl dX3_processWord_22 ?_
  refine lv_bipush (v := (16 : Int32)) hx hb dX3_processWord_25 (by decide) ?_
  refine lv_icmp_lt (tgt := 34) hx hb dX3_processWord_27 (by decide) (fun hc => ?_) (fun hc => ?_)
  · have hq := (nI_ltI (a := q % 16 + 1) (b := 16) (by omega) (by decide)).mp hc
    exact W.vret hx hb hr (sm_endv _ ⟨fv, _, fw, by rw [show (q + 1) % 16 = q % 16 + 1 by omega] <;> rfl, sm_AW_lt hAW (by omega) hr0⟩ hP hD hS) hS.2.2 dX3_processWord_34 hlk
  · have hq : q % 16 = 15 := Nat.le_antisymm (by omega) (Nat.not_lt.mp fun z => hc (nI_lt (show q % 16 + 1 < 16 by omega) (by decide)))
    refine lv_aload_n hx hb dX3_processWord_30 rfl (lv_at hl 0 rfl) ?_
    have hPc := hP.sub (ws' := [(h, .inr (0, [.ref pA, .ref hX, .int bo, .long bc, .ref hV, .ref hI, .int (nI (q % 16 + 1)), .ref hW])), (hV, .inl (dN, 8, .inl fv)), (hI, .inl (dN, 16, .inl (upd fi (q % 16) r))), (hW, .inl (dN, 68, .inl fw)), (hX, .inl (dB, 4, .inl fx))]) [0, 1, 2, 3, 4] rfl
    have hDc := hD.sub (ws' := [(h, .inr (0, [.ref pA, .ref hX, .int bo, .long bc, .ref hV, .ref hI, .int (nI (q % 16 + 1)), .ref hW])), (hV, .inl (dN, 8, .inl fv)), (hI, .inl (dN, 16, .inl (upd fi (q % 16) r))), (hW, .inl (dN, 68, .inl fw)), (hX, .inl (dB, 4, .inl fx))]) [0, 1, 2, 3, 4] (by decide) rfl
    have hFc := va_free (wc := [(h, .inr (0, [.ref pA, .ref hX, .int bo, .long bc, .ref hV, .ref hI, .int (nI (q % 16 + 1)), .ref hW])), (hV, .inl (dN, 8, .inl fv)), (hI, .inl (dN, 16, .inl (upd fi (q % 16) r))), (hW, .inl (dN, 68, .inl fw)), (hX, .inl (dB, 4, .inl fx))]) hD hS hA [0, 1, 2, 3, 4] rfl
    refine sm_backv (wr := []) (va_runV (As := []) (rest := []) ⟨hx, hb, hml, hown, hts⟩ (met_pb l D dB dN H.size tA pA h hV hI hW hX fv (upd fi (q % 16) r) fw fx (nI (q % 16 + 1)) bo bc) (cwV 0 hts (lw_V q53 q54 q55 q12 q56) rfl rfl rfl (by decide +kernel) ⟨Nat.le_of_ble_eq_true rfl, Nat.le_of_ble_eq_true rfl⟩) ⟨sm_blind, va_recv hK hP (ci := 0) (q0 := 0) rfl rfl, sm_go hK hPc hDc hE hS hFc _⟩ rfl rfl hl.1 rfl (lv_room (Nat.le_of_ble_eq_true rfl)) dX3_processWord_31 ⟨Nat.le_of_ble_eq_true rfl, Nat.le_of_ble_eq_true rfl⟩) hP hD hS hFc [0, 1, 2, 3, 4] [] rfl rfl (by decide) (by decide) (fun w1 H locs hw hP hD hS => ?_)
    obtain ⟨gv, gw, rfl, hg⟩ := hw
    have hP : va_P D vwCl [(h, .inr (0, [.ref pA, .ref hX, .int bo, .long bc, .ref hV, .ref hI, .int 0, .ref hW])), (hV, .inl (dN, 8, .inl gv)), (hI, .inl (dN, 16, .inl (upd fi (q % 16) r))), (hW, .inl (dN, 68, .inl gw)), (hX, .inl (dB, 4, .inl fx))] H := hP.sub [0, 1, 2, 3, 4] rfl
    have hD : va_D A [(h, .inr (0, [.ref pA, .ref hX, .int bo, .long bc, .ref hV, .ref hI, .int 0, .ref hW])), (hV, .inl (dN, 8, .inl gv)), (hI, .inl (dN, 16, .inl (upd fi (q % 16) r))), (hW, .inl (dN, 68, .inl gw)), (hX, .inl (dB, 4, .inl fx))] := hD.sub [0, 1, 2, 3, 4] (by decide) rfl
    exact W.vret hx hb hr (sm_endv _ ⟨gv, _, gw, by rw [show (q + 1) % 16 = 0 by omega] <;> rfl, sm_AW_eq hAW hq hr0 hg⟩ hP hD hS) hS.2.2 dX3_processWord_34 hlk
set_option maxHeartbeats 4000000 in
set_option maxRecDepth 100000 in
/-- processWord(in, off): the q-th word of the message comes in -/
theorem met_pwT (l : Launch) (D : va_G) (dB dN : ClassId) (sz tA pA : Nat) (h hV hI hW hX : Nat) (fv fi fw fx : Nat → Int32) (bo : Int32) (bc : Int64) (msg : Nat → Int32) (q k : Nat) (ht nt : Nat) (ft : Nat → Int32) (hk : k + 3 < nt) (hn : nt < 2 ^ 31) (hAW : sm_AW msg q fv fi) (hbe : sm_be (ft k) (ft (k + 1)) (ft (k + 2)) (ft (k + 3)) = sm_wd msg q) : Met l yX3_processWord (ws_ yX3_processWord cX3_processWord 3 none) ({ frames := 2, cells := 0, slots := 0, locals := 60 }) (va_Pc [.ref h, .ref ht, .int (nI k)] (sm_pre D dB dN (sm_dg dB dN pA h hV hI hW hX fv fi fw fx (nI (q % 16)) bo bc ++ [(ht, .inl (dB, nt, .inl ft))]) sz tA pA)) (sm_Qv D (fun w => ∃ gv gi gw : Nat → Int32, w = sm_dg dB dN pA h hV hI hW hX gv gi gw fx (nI ((q + 1) % 16)) bo bc ++ [(ht, .inl (dB, nt, .inl ft))] ∧ sm_AW msg (q + 1) gv gi) (va_A (sm_dg dB dN pA h hV hI hW hX fv fi fw fx (nI (q % 16)) bo bc ++ [(ht, .inl (dB, nt, .inl ft))]) sz)) 0 0 (va_A (sm_dg dB dN pA h hV hI hW hX fv fi fw fx (nI (q % 16)) bo bc ++ [(ht, .inl (dB, nt, .inl ft))]) sz) := by
  refine sm_met RX3 (sm_Qv D _) (by decide) rfl (Nat.le_of_ble_eq_true rfl) ?_
  intro p e s m below meth c ls A cx hnm hP hK hD hE hA hS hl
  obtain ⟨hx, hb, hr, hlk, hml, hown, hts⟩ := cx
  have hl : lv_has ls 3 [(0, .ref h), (1, .ref ht), (2, .int (nI k))] := hl
  have hP : va_P D vwCl [(h, .inr (0, [.ref pA, .ref hX, .int bo, .long bc, .ref hV, .ref hI, .int (nI (q % 16)), .ref hW])), (hV, .inl (dN, 8, .inl fv)), (hI, .inl (dN, 16, .inl fi)), (hW, .inl (dN, 68, .inl fw)), (hX, .inl (dB, 4, .inl fx)), (ht, .inl (dB, nt, .inl ft))] s.heap := hP
  have hD : va_D A [(h, .inr (0, [.ref pA, .ref hX, .int bo, .long bc, .ref hV, .ref hI, .int (nI (q % 16)), .ref hW])), (hV, .inl (dN, 8, .inl fv)), (hI, .inl (dN, 16, .inl fi)), (hW, .inl (dN, 68, .inl fw)), (hX, .inl (dB, 4, .inl fx)), (ht, .inl (dB, nt, .inl ft))] := hD
  refine lv_aload_n hx hb dX3_processWord_0 rfl (lv_at hl 0 rfl) ?_
  refine va_get (D := D) (ci := 0) (v := .ref hI) (C := RX3) (T := TX3) (N := 8) hx hb hts in_X3 hown hK hP 0 rfl rfl 5 (by decide) (hts _ q187) (fun _ h9 => h9) rfl dX3_processWord_1 ?_
  refine lv_aload_n hx hb dX3_processWord_4 rfl (lv_at hl 0 rfl) ?_
  refine lv_dup hx hb dX3_processWord_5 rfl ?_
  refine va_get (D := D) (ci := 0) (v := .int (nI (q % 16))) (C := RX3) (T := TX3) (N := 8) hx hb hts in_X3 hown hK hP 0 rfl rfl 6 (by decide) (hts _ q188) (fun _ h9 => h9) rfl dX3_processWord_6 ?_
  refine lv_dup_x1 hx hb dX3_processWord_9 rfl rfl ?_
  refine lv_iconst (v := (1 : Int32)) hx hb dX3_processWord_10 (by decide) ?_
  refine lv_iadd hx hb dX3_processWord_11 ?_
  refine lv_topi (fun y_ ey_ => ?_)
  have ey_ : y_ = nI (q % 16 + 1) := ey_.trans (nI_1 _)
  subst ey_
  refine va_put (D := D) (ci := 0) (v := .int (nI (q % 16 + 1))) (ty := .int) (C := RX3) (T := TX3) (N := 8) hx hb hts in_X3 tyX3 tyX3_ok nmX3 hown hK hP hD hS 0 rfl rfl 6 (by decide) (hts _ q188) (fun _ h9 => h9) rfl (by decide +kernel) rfl rfl (Nat.le_of_ble_eq_true rfl) dX3_processWord_12 (fun H locs hP hD hS => ?_)
  have hP : va_P D vwCl [(h, .inr (0, [.ref pA, .ref hX, .int bo, .long bc, .ref hV, .ref hI, .int (nI (q % 16 + 1)), .ref hW])), (hV, .inl (dN, 8, .inl fv)), (hI, .inl (dN, 16, .inl fi)), (hW, .inl (dN, 68, .inl fw)), (hX, .inl (dB, 4, .inl fx)), (ht, .inl (dB, nt, .inl ft))] H := hP
  have hD : va_D A [(h, .inr (0, [.ref pA, .ref hX, .int bo, .long bc, .ref hV, .ref hI, .int (nI (q % 16 + 1)), .ref hW])), (hV, .inl (dN, 8, .inl fv)), (hI, .inl (dN, 16, .inl fi)), (hW, .inl (dN, 68, .inl fw)), (hX, .inl (dB, 4, .inl fx)), (ht, .inl (dB, nt, .inl ft))] := hD
  refine lv_aload_n hx hb dX3_processWord_15 rfl (lv_at hl 1 rfl) ?_
  refine lv_iload_n hx hb dX3_processWord_16 rfl (lv_at hl 2 rfl) ?_
  have hPc := hP.sub (ws' := [(ht, .inl (dB, nt, .inl ft))]) [5] rfl
  refine vp_callSi (W.runS (As := [.ref ht, .int (nI k)]) (rest := [.int (nI (q % 16)), .ref hI]) ⟨hx, hb, hml, hown, hts⟩ (met_be l D dB dN ht nt ft k hk hn) (va_cwS 2 hts (lw_S q50 q51 q16 q52) rfl rfl rfl (by decide +kernel) ⟨Nat.le_of_ble_eq_true rfl, Nat.le_of_ble_eq_true rfl⟩) ⟨sm_blind0, sm_go0 hK hPc _⟩ rfl rfl hl.1 rfl (lv_room (Nat.le_of_ble_eq_true rfl)) dX3_processWord_17 ⟨Nat.le_of_ble_eq_true rfl, Nat.le_of_ble_eq_true rfl⟩) (fun r hr0 => ?_)
  have hr0 : r = sm_wd msg q := hr0.trans hbe
  refine sm_ist hx hb hK hP hD hS 2 1 rfl rfl (q % 16) rfl (by omega) (by decide) dX3_processWord_20 (fun H locs hP hD hS => ?_)
  have hP : va_P D vwCl [(h, .inr (0, [.ref pA, .ref hX, .int bo, .long bc, .ref hV, .ref hI, .int (nI (q % 16 + 1)), .ref hW])), (hV, .inl (dN, 8, .inl fv)), (hI, .inl (dN, 16, .inl (upd fi (q % 16) r))), (hW, .inl (dN, 68, .inl fw)), (hX, .inl (dB, 4, .inl fx)), (ht, .inl (dB, nt, .inl ft))] H := hP
  have hD : va_D A [(h, .inr (0, [.ref pA, .ref hX, .int bo, .long bc, .ref hV, .ref hI, .int (nI (q % 16 + 1)), .ref hW])), (hV, .inl (dN, 8, .inl fv)), (hI, .inl (dN, 16, .inl (upd fi (q % 16) r))), (hW, .inl (dN, 68, .inl fw)), (hX, .inl (dB, 4, .inl fx)), (ht, .inl (dB, nt, .inl ft))] := hD
  refine lv_aload_n hx hb dX3_processWord_21 rfl (lv_at hl 0 rfl) ?_
  refine va_get (D := D) (ci := 0) (v := .int (nI (q % 16 + 1))) (C := RX3) (T := TX3) (N := 8) hx hb hts in_X3 hown hK hP 0 rfl rfl 6 (by decide) (hts _ q188) (fun _ h9 => h9) rfl dX3_processWord_22 ?_
  refine lv_bipush (v := (16 : Int32)) hx hb dX3_processWord_25 (by decide) ?_
  refine lv_icmp_lt (tgt := 34) hx hb dX3_processWord_27 (by decide) (fun hc => ?_) (fun hc => ?_)
  · have hq := (nI_ltI (a := q % 16 + 1) (b := 16) (by omega) (by decide)).mp hc
    exact W.vret hx hb hr (sm_endv _ ⟨fv, _, fw, by rw [show (q + 1) % 16 = q % 16 + 1 by omega] <;> rfl, sm_AW_lt hAW (by omega) hr0⟩ hP hD hS) hS.2.2 dX3_processWord_34 hlk
  · have hq : q % 16 = 15 := Nat.le_antisymm (by omega) (Nat.not_lt.mp fun z => hc (nI_lt (show q % 16 + 1 < 16 by omega) (by decide)))
    refine lv_aload_n hx hb dX3_processWord_30 rfl (lv_at hl 0 rfl) ?_
    have hPc := hP.sub (ws' := [(h, .inr (0, [.ref pA, .ref hX, .int bo, .long bc, .ref hV, .ref hI, .int (nI (q % 16 + 1)), .ref hW])), (hV, .inl (dN, 8, .inl fv)), (hI, .inl (dN, 16, .inl (upd fi (q % 16) r))), (hW, .inl (dN, 68, .inl fw)), (hX, .inl (dB, 4, .inl fx))]) [0, 1, 2, 3, 4] rfl
    have hDc := hD.sub (ws' := [(h, .inr (0, [.ref pA, .ref hX, .int bo, .long bc, .ref hV, .ref hI, .int (nI (q % 16 + 1)), .ref hW])), (hV, .inl (dN, 8, .inl fv)), (hI, .inl (dN, 16, .inl (upd fi (q % 16) r))), (hW, .inl (dN, 68, .inl fw)), (hX, .inl (dB, 4, .inl fx))]) [0, 1, 2, 3, 4] (by decide) rfl
    have hFc := va_free (wc := [(h, .inr (0, [.ref pA, .ref hX, .int bo, .long bc, .ref hV, .ref hI, .int (nI (q % 16 + 1)), .ref hW])), (hV, .inl (dN, 8, .inl fv)), (hI, .inl (dN, 16, .inl (upd fi (q % 16) r))), (hW, .inl (dN, 68, .inl fw)), (hX, .inl (dB, 4, .inl fx))]) hD hS hA [0, 1, 2, 3, 4] rfl
    refine sm_backv (wr := [(ht, .inl (dB, nt, .inl ft))]) (va_runV (As := []) (rest := []) ⟨hx, hb, hml, hown, hts⟩ (met_pb l D dB dN H.size tA pA h hV hI hW hX fv (upd fi (q % 16) r) fw fx (nI (q % 16 + 1)) bo bc) (cwV 0 hts (lw_V q53 q54 q55 q12 q56) rfl rfl rfl (by decide +kernel) ⟨Nat.le_of_ble_eq_true rfl, Nat.le_of_ble_eq_true rfl⟩) ⟨sm_blind, va_recv hK hP (ci := 0) (q0 := 0) rfl rfl, sm_go hK hPc hDc hE hS hFc _⟩ rfl rfl hl.1 rfl (lv_room (Nat.le_of_ble_eq_true rfl)) dX3_processWord_31 ⟨Nat.le_of_ble_eq_true rfl, Nat.le_of_ble_eq_true rfl⟩) hP hD hS hFc [0, 1, 2, 3, 4] [5] rfl rfl (by decide) (by decide) (fun w1 H locs hw hP hD hS => ?_)
    obtain ⟨gv, gw, rfl, hg⟩ := hw
    have hP : va_P D vwCl [(h, .inr (0, [.ref pA, .ref hX, .int bo, .long bc, .ref hV, .ref hI, .int 0, .ref hW])), (hV, .inl (dN, 8, .inl gv)), (hI, .inl (dN, 16, .inl (upd fi (q % 16) r))), (hW, .inl (dN, 68, .inl gw)), (hX, .inl (dB, 4, .inl fx)), (ht, .inl (dB, nt, .inl ft))] H := hP.sub [1, 2, 3, 4, 5, 0] rfl
    have hD : va_D A [(h, .inr (0, [.ref pA, .ref hX, .int bo, .long bc, .ref hV, .ref hI, .int 0, .ref hW])), (hV, .inl (dN, 8, .inl gv)), (hI, .inl (dN, 16, .inl (upd fi (q % 16) r))), (hW, .inl (dN, 68, .inl gw)), (hX, .inl (dB, 4, .inl fx)), (ht, .inl (dB, nt, .inl ft))] := hD.sub [1, 2, 3, 4, 5, 0] (by decide) rfl
    exact W.vret hx hb hr (sm_endv _ ⟨gv, _, gw, by rw [show (q + 1) % 16 = 0 by omega] <;> rfl, sm_AW_eq hAW hq hr0 hg⟩ hP hD hS) hS.2.2 dX3_processWord_34 hlk
set_option maxHeartbeats 4000000 in
set_option maxRecDepth 100000 in
theorem lp_pl {p : Program} {l : Launch} {e : Env} {R : Room} {s : State} {m : MethodId} {av : Array Value} {below : List Frame} {meth : Method} {c : Code} {cells slots : Nat} {Q : State → Prop} {D : va_G} {dB dN : ClassId} {tA pA : Nat} {A : Nat → Prop} {h hV hI hW hX : Nat} {fv fi fw fx : Nat → Int32} {bo : Int32} {bc bl : Int64} {x0 : Nat} (cx : sm_Cx p s m meth c av cX3_processLength 3 RX3 none) (hK : va_K D vwCl (sm_ty dB dN) s)
    (kk : ∀ (g : Nat → Int32) (H : Heap) (locs : List Loc) (ls : Array Slot), (∀ j, j < x0 → g j = fi j) → (∀ j, x0 ≤ j → j < 14 → g j = 0) → va_P D vwCl [(h, .inr (0, [.ref pA, .ref hX, .int bo, .long bc, .ref hV, .ref hI, .int (nI 14), .ref hW])), (hV, .inl (dN, 8, .inl fv)), (hI, .inl (dN, 16, .inl g)), (hW, .inl (dN, 68, .inl fw)), (hX, .inl (dB, 4, .inl fx))] H → va_D A [(h, .inr (0, [.ref pA, .ref hX, .int bo, .long bc, .ref hV, .ref hI, .int (nI 14), .ref hW])), (hV, .inl (dN, 8, .inl fv)), (hI, .inl (dN, 16, .inl g)), (hW, .inl (dN, 68, .inl fw)), (hX, .inl (dB, 4, .inl fx))] → va_S A s.heap H locs → lv_has ls 3 [(0, .ref h), (1, .long bl)] → W p l e R s m av below meth c H locs cells slots Q (F0 m 65 ls [])) :
    ∀ (n x : Nat) (g : Nat → Int32) (H : Heap) (locs : List Loc) (ls : Array Slot), x + n = 14 → x0 ≤ x → (∀ j, j < x0 → g j = fi j) → (∀ j, x0 ≤ j → j < x → g j = 0) → va_P D vwCl [(h, .inr (0, [.ref pA, .ref hX, .int bo, .long bc, .ref hV, .ref hI, .int (nI x), .ref hW])), (hV, .inl (dN, 8, .inl fv)), (hI, .inl (dN, 16, .inl g)), (hW, .inl (dN, 68, .inl fw)), (hX, .inl (dB, 4, .inl fx))] H → va_D A [(h, .inr (0, [.ref pA, .ref hX, .int bo, .long bc, .ref hV, .ref hI, .int (nI x), .ref hW])), (hV, .inl (dN, 8, .inl fv)), (hI, .inl (dN, 16, .inl g)), (hW, .inl (dN, 68, .inl fw)), (hX, .inl (dB, 4, .inl fx))] → va_S A s.heap H locs → lv_has ls 3 [(0, .ref h), (1, .long bl)] → W p l e R s m av below meth c H locs cells slots Q (F0 m 33 ls []) := by
  obtain ⟨hx, hb, hr, hlk, hml, hown, hts⟩ := cx
  intro n
  induction n with
  | zero =>
    intro x g H locs ls hj h0 hg1 hg2 hP hD hS hl
    have hx14 : x = 14 := by omega
    subst hx14
    refine lv_aload_n hx hb dX3_processLength_33 rfl (lv_at hl 0 rfl) ?_
    refine va_get (D := D) (ci := 0) (v := .int (nI 14)) (C := RX3) (T := TX3) (N := 8) hx hb hts in_X3 hown hK hP 0 rfl rfl 6 (by decide) (hts _ q188) (fun _ h9 => h9) rfl dX3_processLength_34 ?_
    refine lv_bipush (v := (14 : Int32)) hx hb dX3_processLength_37 (by decide) ?_
    refine lv_icmp_ge (tgt := 65) hx hb dX3_processLength_39 (by decide) (fun _ => ?_) (fun hc => absurd (Int32.le_refl _) hc)
    exact kk g H locs ls hg1 hg2 hP hD hS hl
  | succ n ih =>
    intro x g H locs ls hj h0 hg1 hg2 hP hD hS hl
    refine lv_aload_n hx hb dX3_processLength_33 rfl (lv_at hl 0 rfl) ?_
    refine va_get (D := D) (ci := 0) (v := .int (nI x)) (C := RX3) (T := TX3) (N := 8) hx hb hts in_X3 hown hK hP 0 rfl rfl 6 (by decide) (hts _ q188) (fun _ h9 => h9) rfl dX3_processLength_34 ?_
    refine lv_bipush (v := (14 : Int32)) hx hb dX3_processLength_37 (by decide) ?_
    refine lv_icmp_ge (tgt := 65) hx hb dX3_processLength_39 (by decide) (fun hc => absurd hc (nI_ge (show x < 14 by omega) (by decide))) (fun _ => ?_)
    refine lv_aload_n hx hb dX3_processLength_42 rfl (lv_at hl 0 rfl) ?_
    refine va_get (D := D) (ci := 0) (v := .ref hI) (C := RX3) (T := TX3) (N := 8) hx hb hts in_X3 hown hK hP 0 rfl rfl 5 (by decide) (hts _ q187) (fun _ h9 => h9) rfl dX3_processLength_43 ?_
    refine lv_aload_n hx hb dX3_processLength_46 rfl (lv_at hl 0 rfl) ?_
    refine va_get (D := D) (ci := 0) (v := .int (nI x)) (C := RX3) (T := TX3) (N := 8) hx hb hts in_X3 hown hK hP 0 rfl rfl 6 (by decide) (hts _ q188) (fun _ h9 => h9) rfl dX3_processLength_47 ?_
    refine lv_iconst (v := (0 : Int32)) hx hb dX3_processLength_50 (by decide) ?_
    refine sm_ist hx hb hK hP hD hS 2 1 rfl rfl x rfl (by omega) (by decide) dX3_processLength_51 (fun H locs hP hD hS => ?_)
    have hP : va_P D vwCl [(h, .inr (0, [.ref pA, .ref hX, .int bo, .long bc, .ref hV, .ref hI, .int (nI x), .ref hW])), (hV, .inl (dN, 8, .inl fv)), (hI, .inl (dN, 16, .inl (upd g x (0 : Int32)))), (hW, .inl (dN, 68, .inl fw)), (hX, .inl (dB, 4, .inl fx))] H := hP
    have hD : va_D A [(h, .inr (0, [.ref pA, .ref hX, .int bo, .long bc, .ref hV, .ref hI, .int (nI x), .ref hW])), (hV, .inl (dN, 8, .inl fv)), (hI, .inl (dN, 16, .inl (upd g x (0 : Int32)))), (hW, .inl (dN, 68, .inl fw)), (hX, .inl (dB, 4, .inl fx))] := hD
    refine lv_aload_n hx hb dX3_processLength_52 rfl (lv_at hl 0 rfl) ?_
    refine lv_dup hx hb dX3_processLength_53 rfl ?_
    refine va_get (D := D) (ci := 0) (v := .int (nI x)) (C := RX3) (T := TX3) (N := 8) hx hb hts in_X3 hown hK hP 0 rfl rfl 6 (by decide) (hts _ q188) (fun _ h9 => h9) rfl dX3_processLength_54 ?_
    refine lv_iconst (v := (1 : Int32)) hx hb dX3_processLength_57 (by decide) ?_
    refine lv_iadd hx hb dX3_processLength_58 ?_
    refine lv_topi (fun y_ ey_ => ?_)
    have ey_ : y_ = nI (x + 1) := ey_.trans (nI_1 _)
    subst ey_
    refine va_put (D := D) (ci := 0) (v := .int (nI (x + 1))) (ty := .int) (C := RX3) (T := TX3) (N := 8) hx hb hts in_X3 tyX3 tyX3_ok nmX3 hown hK hP hD hS 0 rfl rfl 6 (by decide) (hts _ q188) (fun _ h9 => h9) rfl (by decide +kernel) rfl rfl (Nat.le_of_ble_eq_true rfl) dX3_processLength_59 (fun H locs hP hD hS => ?_)
    have hP : va_P D vwCl [(h, .inr (0, [.ref pA, .ref hX, .int bo, .long bc, .ref hV, .ref hI, .int (nI (x + 1)), .ref hW])), (hV, .inl (dN, 8, .inl fv)), (hI, .inl (dN, 16, .inl (upd g x (0 : Int32)))), (hW, .inl (dN, 68, .inl fw)), (hX, .inl (dB, 4, .inl fx))] H := hP
    have hD : va_D A [(h, .inr (0, [.ref pA, .ref hX, .int bo, .long bc, .ref hV, .ref hI, .int (nI (x + 1)), .ref hW])), (hV, .inl (dN, 8, .inl fv)), (hI, .inl (dN, 16, .inl (upd g x (0 : Int32)))), (hW, .inl (dN, 68, .inl fw)), (hX, .inl (dB, 4, .inl fx))] := hD
    refine lv_goto (tgt := 33) hx hb dX3_processLength_62 (by decide) ?_
    exact ih (x + 1) _ _ _ ls (by omega) (by omega) (fun j hj => by rw [pk_un (by omega)]; exact hg1 j hj) (fun j h1 h2 => by
      by_cases e : j = x
      · rw [e, pk_us]
      · rw [pk_un e]; exact hg2 j h1 (by omega)) hP hD hS hl
theorem sm_pl_n {msg fv fi g : Nat → Int32} {q : Nat} {bl : Int64} (hAW : sm_AW msg q fv fi) (hq : q % 16 < 15) (h1 : ∀ j, j < q % 16 → g j = fi j) (h2 : ∀ j, q % 16 ≤ j → j < 14 → g j = 0) : (∀ j, j < 8 → fv j = sm_plV msg q j) ∧ ∀ j, j < 16 → upd (upd g 14 (sm_hi bl)) 15 bl.toInt32 j = sm_plI msg q bl j := by
  refine ⟨fun j hj => ?_, fun j hj => ?_⟩
  · unfold sm_plV
    rw [if_neg (by omega)]
    exact hAW.1 j hj
  · unfold sm_plI
    by_cases e : j = 14
    · rw [if_pos e, e, pk_un (by omega), pk_us]
    · rw [if_neg e]
      by_cases e5 : j = 15
      · rw [if_pos e5, e5, pk_us]
      · rw [if_neg e5, if_neg (by omega), pk_un e5, pk_un e]
        by_cases h : j < q % 16
        · rw [if_pos h, h1 j h, hAW.2 j h]
        · rw [if_neg h, h2 j (by omega) (by omega)]
theorem sm_pl_f {msg fv fi gv g : Nat → Int32} {q : Nat} {bl : Int64} (hAW : sm_AW msg q fv fi) (hq : q % 16 = 15) (hg : ∀ j, j < 8 → gv j = sm_cmp fv (upd fi 15 0) j) (h2 : ∀ j, 0 ≤ j → j < 14 → g j = 0) : (∀ j, j < 8 → gv j = sm_plV msg q j) ∧ ∀ j, j < 16 → upd (upd g 14 (sm_hi bl)) 15 bl.toInt32 j = sm_plI msg q bl j := by
  refine ⟨fun j hj => ?_, fun j hj => ?_⟩
  · unfold sm_plV
    rw [if_pos hq, hg j hj]
    refine sm_cmp_c hAW.1 (fun i hi => ?_) j hj
    by_cases e : i = 15
    · rw [e, pk_us, if_neg (by omega)]
    · rw [pk_un e, if_pos (by omega)]
      exact hAW.2 i (by omega)
  · unfold sm_plI
    by_cases e : j = 14
    · rw [if_pos e, e, pk_un (by omega), pk_us]
    · rw [if_neg e]
      by_cases e5 : j = 15
      · rw [if_pos e5, e5, pk_us]
      · rw [if_neg e5, if_pos hq, pk_un e5, pk_un e]
        exact h2 j (by omega) (by omega)
set_option maxHeartbeats 4000000 in
set_option maxRecDepth 100000 in
/-- processLength(bitLength): the last block is made ready -/
theorem met_pl (l : Launch) (D : va_G) (dB dN : ClassId) (sz tA pA : Nat) (h hV hI hW hX : Nat) (fv fi fw fx : Nat → Int32) (bo : Int32) (bc bl : Int64) (msg : Nat → Int32) (q : Nat) (hAW : sm_AW msg q fv fi) : Met l yX3_processLength (ws_ yX3_processLength cX3_processLength 3 none) ({ frames := 2, cells := 0, slots := 0, locals := 60 }) (va_Pc [.ref h, .long bl] (sm_pre D dB dN (sm_dg dB dN pA h hV hI hW hX fv fi fw fx (nI (q % 16)) bo bc) sz tA pA)) (sm_Qv D (fun w => ∃ gv gi gw : Nat → Int32, w = sm_dg dB dN pA h hV hI hW hX gv gi gw fx 16 bo bc ∧ (∀ j, j < 8 → gv j = sm_plV msg q j) ∧ ∀ j, j < 16 → gi j = sm_plI msg q bl j) (va_A (sm_dg dB dN pA h hV hI hW hX fv fi fw fx (nI (q % 16)) bo bc) sz)) 0 0 (va_A (sm_dg dB dN pA h hV hI hW hX fv fi fw fx (nI (q % 16)) bo bc) sz) := by
  refine sm_met RX3 (sm_Qv D _) (by decide) rfl (Nat.le_of_ble_eq_true rfl) ?_
  intro p e s m below meth c ls A cx hnm hP hK hD hE hA hS hl
  obtain ⟨hx, hb, hr, hlk, hml, hown, hts⟩ := cx
  have hl : lv_has ls 3 [(0, .ref h), (1, .long bl)] := hl
  have hP : va_P D vwCl [(h, .inr (0, [.ref pA, .ref hX, .int bo, .long bc, .ref hV, .ref hI, .int (nI (q % 16)), .ref hW])), (hV, .inl (dN, 8, .inl fv)), (hI, .inl (dN, 16, .inl fi)), (hW, .inl (dN, 68, .inl fw)), (hX, .inl (dB, 4, .inl fx))] s.heap := hP
  have hD : va_D A [(h, .inr (0, [.ref pA, .ref hX, .int bo, .long bc, .ref hV, .ref hI, .int (nI (q % 16)), .ref hW])), (hV, .inl (dN, 8, .inl fv)), (hI, .inl (dN, 16, .inl fi)), (hW, .inl (dN, 68, .inl fw)), (hX, .inl (dB, 4, .inl fx))] := hD
  refine lv_aload_n hx hb dX3_processLength_0 rfl (lv_at hl 0 rfl) ?_
  refine va_get (D := D) (ci := 0) (v := .int (nI (q % 16))) (C := RX3) (T := TX3) (N := 8) hx hb hts in_X3 hown hK hP 0 rfl rfl 6 (by decide) (hts _ q188) (fun _ h9 => h9) rfl dX3_processLength_1 ?_
  refine lv_bipush (v := (14 : Int32)) hx hb dX3_processLength_4 (by decide) ?_
  refine lv_icmp_le (tgt := 33) hx hb dX3_processLength_6 (by decide) (fun hc => ?_) (fun hc => ?_)
  · have hq := (nI_leI (a := q % 16) (b := 14) (by omega) (by decide)).mp hc
    refine lp_pl (tA := tA) (x0 := q % 16) ⟨hx, hb, hr, hlk, hml, hown, hts⟩ hK (fun g H locs ls hg1 hg2 hP hD hS hl => ?_) (14 - (q % 16)) (q % 16) _ _ _ ls (by omega) (Nat.le_refl _) (fun j _ => rfl) (fun j h1 h2 => absurd h1 (by omega)) hP hD hS hl
    refine lv_aload_n hx hb dX3_processLength_65 rfl (lv_at hl 0 rfl) ?_
    refine va_get (D := D) (ci := 0) (v := .ref hI) (C := RX3) (T := TX3) (N := 8) hx hb hts in_X3 hown hK hP 0 rfl rfl 5 (by decide) (hts _ q187) (fun _ h9 => h9) rfl dX3_processLength_66 ?_
    refine lv_aload_n hx hb dX3_processLength_69 rfl (lv_at hl 0 rfl) ?_
    refine lv_dup hx hb dX3_processLength_70 rfl ?_
    refine va_get (D := D) (ci := 0) (v := .int (nI 14)) (C := RX3) (T := TX3) (N := 8) hx hb hts in_X3 hown hK hP 0 rfl rfl 6 (by decide) (hts _ q188) (fun _ h9 => h9) rfl dX3_processLength_71 ?_
    refine lv_dup_x1 hx hb dX3_processLength_74 rfl rfl ?_
    refine lv_iconst (v := (1 : Int32)) hx hb dX3_processLength_75 (by decide) ?_
    refine lv_iadd hx hb dX3_processLength_76 ?_
    refine lv_topi (fun y_ ey_ => ?_)
    have ey_ : y_ = nI 15 := ey_.trans (nI_1 14)
    subst ey_
    refine va_put (D := D) (ci := 0) (v := .int (nI 15)) (ty := .int) (C := RX3) (T := TX3) (N := 8) hx hb hts in_X3 tyX3 tyX3_ok nmX3 hown hK hP hD hS 0 rfl rfl 6 (by decide) (hts _ q188) (fun _ h9 => h9) rfl (by decide +kernel) rfl rfl (Nat.le_of_ble_eq_true rfl) dX3_processLength_77 (fun H locs hP hD hS => ?_)
    have hP : va_P D vwCl [(h, .inr (0, [.ref pA, .ref hX, .int bo, .long bc, .ref hV, .ref hI, .int (nI 15), .ref hW])), (hV, .inl (dN, 8, .inl fv)), (hI, .inl (dN, 16, .inl g)), (hW, .inl (dN, 68, .inl fw)), (hX, .inl (dB, 4, .inl fx))] H := hP
    have hD : va_D A [(h, .inr (0, [.ref pA, .ref hX, .int bo, .long bc, .ref hV, .ref hI, .int (nI 15), .ref hW])), (hV, .inl (dN, 8, .inl fv)), (hI, .inl (dN, 16, .inl g)), (hW, .inl (dN, 68, .inl fw)), (hX, .inl (dB, 4, .inl fx))] := hD
    refine lv_lload_n hx hb dX3_processLength_80 rfl (lv_at hl 1 rfl) ?_
    refine lv_bipush (v := (32 : Int32)) hx hb dX3_processLength_81 (by decide) ?_
    refine lv_lushr hx hb dX3_processLength_83 rfl ?_
    refine lv_l2i hx hb dX3_processLength_84 rfl ?_
    refine sm_ist hx hb hK hP hD hS 2 1 rfl rfl 14 rfl (by decide) (by decide) dX3_processLength_85 (fun H locs hP hD hS => ?_)
    have hP : va_P D vwCl [(h, .inr (0, [.ref pA, .ref hX, .int bo, .long bc, .ref hV, .ref hI, .int (nI 15), .ref hW])), (hV, .inl (dN, 8, .inl fv)), (hI, .inl (dN, 16, .inl (upd g 14 (((bl.toUInt64 >>> ((32 : Int32).toInt64.toUInt64 &&& Int64.toUInt64 63)).toInt64).toInt32)))), (hW, .inl (dN, 68, .inl fw)), (hX, .inl (dB, 4, .inl fx))] H := hP
    have hD : va_D A [(h, .inr (0, [.ref pA, .ref hX, .int bo, .long bc, .ref hV, .ref hI, .int (nI 15), .ref hW])), (hV, .inl (dN, 8, .inl fv)), (hI, .inl (dN, 16, .inl (upd g 14 (((bl.toUInt64 >>> ((32 : Int32).toInt64.toUInt64 &&& Int64.toUInt64 63)).toInt64).toInt32)))), (hW, .inl (dN, 68, .inl fw)), (hX, .inl (dB, 4, .inl fx))] := hD
    refine lv_aload_n hx hb dX3_processLength_86 rfl (lv_at hl 0 rfl) ?_
    refine va_get (D := D) (ci := 0) (v := .ref hI) (C := RX3) (T := TX3) (N := 8) hx hb hts in_X3 hown hK hP 0 rfl rfl 5 (by decide) (hts _ q187) (fun _ h9 => h9) rfl dX3_processLength_87 ?_
    refine lv_aload_n hx hb dX3_processLength_90 rfl (lv_at hl 0 rfl) ?_
    refine lv_dup hx hb dX3_processLength_91 rfl ?_
    refine va_get (D := D) (ci := 0) (v := .int (nI 15)) (C := RX3) (T := TX3) (N := 8) hx hb hts in_X3 hown hK hP 0 rfl rfl 6 (by decide) (hts _ q188) (fun _ h9 => h9) rfl dX3_processLength_92 ?_
    refine lv_dup_x1 hx hb dX3_processLength_95 rfl rfl ?_
    refine lv_iconst (v := (1 : Int32)) hx hb dX3_processLength_96 (by decide) ?_
    refine lv_iadd hx hb dX3_processLength_97 ?_
    refine lv_topi (fun y_ ey_ => ?_)
    have ey_ : y_ = nI 16 := ey_.trans (nI_1 15)
    subst ey_
    refine va_put (D := D) (ci := 0) (v := .int (nI 16)) (ty := .int) (C := RX3) (T := TX3) (N := 8) hx hb hts in_X3 tyX3 tyX3_ok nmX3 hown hK hP hD hS 0 rfl rfl 6 (by decide) (hts _ q188) (fun _ h9 => h9) rfl (by decide +kernel) rfl rfl (Nat.le_of_ble_eq_true rfl) dX3_processLength_98 (fun H locs hP hD hS => ?_)
    have hP : va_P D vwCl [(h, .inr (0, [.ref pA, .ref hX, .int bo, .long bc, .ref hV, .ref hI, .int (nI 16), .ref hW])), (hV, .inl (dN, 8, .inl fv)), (hI, .inl (dN, 16, .inl (upd g 14 (((bl.toUInt64 >>> ((32 : Int32).toInt64.toUInt64 &&& Int64.toUInt64 63)).toInt64).toInt32)))), (hW, .inl (dN, 68, .inl fw)), (hX, .inl (dB, 4, .inl fx))] H := hP
    have hD : va_D A [(h, .inr (0, [.ref pA, .ref hX, .int bo, .long bc, .ref hV, .ref hI, .int (nI 16), .ref hW])), (hV, .inl (dN, 8, .inl fv)), (hI, .inl (dN, 16, .inl (upd g 14 (((bl.toUInt64 >>> ((32 : Int32).toInt64.toUInt64 &&& Int64.toUInt64 63)).toInt64).toInt32)))), (hW, .inl (dN, 68, .inl fw)), (hX, .inl (dB, 4, .inl fx))] := hD
    refine lv_lload_n hx hb dX3_processLength_101 rfl (lv_at hl 1 rfl) ?_
    refine lv_l2i hx hb dX3_processLength_102 rfl ?_
    refine sm_ist hx hb hK hP hD hS 2 1 rfl rfl 15 rfl (by decide) (by decide) dX3_processLength_103 (fun H locs hP hD hS => ?_)
    have hP : va_P D vwCl [(h, .inr (0, [.ref pA, .ref hX, .int bo, .long bc, .ref hV, .ref hI, .int (nI 16), .ref hW])), (hV, .inl (dN, 8, .inl fv)), (hI, .inl (dN, 16, .inl (upd (upd g 14 (((bl.toUInt64 >>> ((32 : Int32).toInt64.toUInt64 &&& Int64.toUInt64 63)).toInt64).toInt32)) 15 bl.toInt32))), (hW, .inl (dN, 68, .inl fw)), (hX, .inl (dB, 4, .inl fx))] H := hP
    have hD : va_D A [(h, .inr (0, [.ref pA, .ref hX, .int bo, .long bc, .ref hV, .ref hI, .int (nI 16), .ref hW])), (hV, .inl (dN, 8, .inl fv)), (hI, .inl (dN, 16, .inl (upd (upd g 14 (((bl.toUInt64 >>> ((32 : Int32).toInt64.toUInt64 &&& Int64.toUInt64 63)).toInt64).toInt32)) 15 bl.toInt32))), (hW, .inl (dN, 68, .inl fw)), (hX, .inl (dB, 4, .inl fx))] := hD
    exact W.vret hx hb hr (sm_endv _ ⟨fv, _, fw, rfl, sm_pl_n hAW (by omega) hg1 hg2⟩ hP hD hS) hS.2.2 dX3_processLength_104 hlk
  · have hq : q % 16 = 15 := Nat.le_antisymm (by omega) (Nat.not_lt.mp fun z => hc (nI_le (show q % 16 ≤ 14 by omega) (by decide)))
    rw [hq] at hP hD
    have hP : va_P D vwCl [(h, .inr (0, [.ref pA, .ref hX, .int bo, .long bc, .ref hV, .ref hI, .int (nI 15), .ref hW])), (hV, .inl (dN, 8, .inl fv)), (hI, .inl (dN, 16, .inl fi)), (hW, .inl (dN, 68, .inl fw)), (hX, .inl (dB, 4, .inl fx))] s.heap := hP
    have hD : va_D A [(h, .inr (0, [.ref pA, .ref hX, .int bo, .long bc, .ref hV, .ref hI, .int (nI 15), .ref hW])), (hV, .inl (dN, 8, .inl fv)), (hI, .inl (dN, 16, .inl fi)), (hW, .inl (dN, 68, .inl fw)), (hX, .inl (dB, 4, .inl fx))] := hD
    refine lv_aload_n hx hb dX3_processLength_9 rfl (lv_at hl 0 rfl) ?_
    refine va_get (D := D) (ci := 0) (v := .ref hI) (C := RX3) (T := TX3) (N := 8) hx hb hts in_X3 hown hK hP 0 rfl rfl 5 (by decide) (hts _ q187) (fun _ h9 => h9) rfl dX3_processLength_10 ?_
    refine lv_aload_n hx hb dX3_processLength_13 rfl (lv_at hl 0 rfl) ?_
    refine va_get (D := D) (ci := 0) (v := .int (nI 15)) (C := RX3) (T := TX3) (N := 8) hx hb hts in_X3 hown hK hP 0 rfl rfl 6 (by decide) (hts _ q188) (fun _ h9 => h9) rfl dX3_processLength_14 ?_
    refine lv_iconst (v := (0 : Int32)) hx hb dX3_processLength_17 (by decide) ?_
    refine sm_ist hx hb hK hP hD hS 2 1 rfl rfl 15 rfl (by decide) (by decide) dX3_processLength_18 (fun H locs hP hD hS => ?_)
    have hP : va_P D vwCl [(h, .inr (0, [.ref pA, .ref hX, .int bo, .long bc, .ref hV, .ref hI, .int (nI 15), .ref hW])), (hV, .inl (dN, 8, .inl fv)), (hI, .inl (dN, 16, .inl (upd fi 15 (0 : Int32)))), (hW, .inl (dN, 68, .inl fw)), (hX, .inl (dB, 4, .inl fx))] H := hP
    have hD : va_D A [(h, .inr (0, [.ref pA, .ref hX, .int bo, .long bc, .ref hV, .ref hI, .int (nI 15), .ref hW])), (hV, .inl (dN, 8, .inl fv)), (hI, .inl (dN, 16, .inl (upd fi 15 (0 : Int32)))), (hW, .inl (dN, 68, .inl fw)), (hX, .inl (dB, 4, .inl fx))] := hD
    refine lv_aload_n hx hb dX3_processLength_19 rfl (lv_at hl 0 rfl) ?_
    refine lv_dup hx hb dX3_processLength_20 rfl ?_
    refine va_get (D := D) (ci := 0) (v := .int (nI 15)) (C := RX3) (T := TX3) (N := 8) hx hb hts in_X3 hown hK hP 0 rfl rfl 6 (by decide) (hts _ q188) (fun _ h9 => h9) rfl dX3_processLength_21 ?_
    refine lv_iconst (v := (1 : Int32)) hx hb dX3_processLength_24 (by decide) ?_
    refine lv_iadd hx hb dX3_processLength_25 ?_
    refine lv_topi (fun y_ ey_ => ?_)
    have ey_ : y_ = nI 16 := ey_.trans (nI_1 15)
    subst ey_
    refine va_put (D := D) (ci := 0) (v := .int (nI 16)) (ty := .int) (C := RX3) (T := TX3) (N := 8) hx hb hts in_X3 tyX3 tyX3_ok nmX3 hown hK hP hD hS 0 rfl rfl 6 (by decide) (hts _ q188) (fun _ h9 => h9) rfl (by decide +kernel) rfl rfl (Nat.le_of_ble_eq_true rfl) dX3_processLength_26 (fun H locs hP hD hS => ?_)
    have hP : va_P D vwCl [(h, .inr (0, [.ref pA, .ref hX, .int bo, .long bc, .ref hV, .ref hI, .int (nI 16), .ref hW])), (hV, .inl (dN, 8, .inl fv)), (hI, .inl (dN, 16, .inl (upd fi 15 (0 : Int32)))), (hW, .inl (dN, 68, .inl fw)), (hX, .inl (dB, 4, .inl fx))] H := hP
    have hD : va_D A [(h, .inr (0, [.ref pA, .ref hX, .int bo, .long bc, .ref hV, .ref hI, .int (nI 16), .ref hW])), (hV, .inl (dN, 8, .inl fv)), (hI, .inl (dN, 16, .inl (upd fi 15 (0 : Int32)))), (hW, .inl (dN, 68, .inl fw)), (hX, .inl (dB, 4, .inl fx))] := hD
    refine lv_aload_n hx hb dX3_processLength_29 rfl (lv_at hl 0 rfl) ?_
    have hPc := hP.sub (ws' := [(h, .inr (0, [.ref pA, .ref hX, .int bo, .long bc, .ref hV, .ref hI, .int (nI 16), .ref hW])), (hV, .inl (dN, 8, .inl fv)), (hI, .inl (dN, 16, .inl (upd fi 15 (0 : Int32)))), (hW, .inl (dN, 68, .inl fw)), (hX, .inl (dB, 4, .inl fx))]) [0, 1, 2, 3, 4] rfl
    have hDc := hD.sub (ws' := [(h, .inr (0, [.ref pA, .ref hX, .int bo, .long bc, .ref hV, .ref hI, .int (nI 16), .ref hW])), (hV, .inl (dN, 8, .inl fv)), (hI, .inl (dN, 16, .inl (upd fi 15 (0 : Int32)))), (hW, .inl (dN, 68, .inl fw)), (hX, .inl (dB, 4, .inl fx))]) [0, 1, 2, 3, 4] (by decide) rfl
    have hFc := va_free (wc := [(h, .inr (0, [.ref pA, .ref hX, .int bo, .long bc, .ref hV, .ref hI, .int (nI 16), .ref hW])), (hV, .inl (dN, 8, .inl fv)), (hI, .inl (dN, 16, .inl (upd fi 15 (0 : Int32)))), (hW, .inl (dN, 68, .inl fw)), (hX, .inl (dB, 4, .inl fx))]) hD hS hA [0, 1, 2, 3, 4] rfl
    refine sm_backv (wr := []) (va_runV (As := []) (rest := []) ⟨hx, hb, hml, hown, hts⟩ (met_pb l D dB dN H.size tA pA h hV hI hW hX fv (upd fi 15 0) fw fx (nI 16) bo bc) (cwV 0 hts (lw_V q53 q54 q55 q12 q56) rfl rfl rfl (by decide +kernel) ⟨Nat.le_of_ble_eq_true rfl, Nat.le_of_ble_eq_true rfl⟩) ⟨sm_blind, va_recv hK hP (ci := 0) (q0 := 0) rfl rfl, sm_go hK hPc hDc hE hS hFc _⟩ rfl rfl hl.1 rfl (lv_room (Nat.le_of_ble_eq_true rfl)) dX3_processLength_30 ⟨Nat.le_of_ble_eq_true rfl, Nat.le_of_ble_eq_true rfl⟩) hP hD hS hFc [0, 1, 2, 3, 4] [] rfl rfl (by decide) (by decide) (fun w1 H locs hw hP hD hS => ?_)
    obtain ⟨gv, gw, rfl, hg⟩ := hw
    have hP : va_P D vwCl [(h, .inr (0, [.ref pA, .ref hX, .int bo, .long bc, .ref hV, .ref hI, .int 0, .ref hW])), (hV, .inl (dN, 8, .inl gv)), (hI, .inl (dN, 16, .inl (upd fi 15 0))), (hW, .inl (dN, 68, .inl gw)), (hX, .inl (dB, 4, .inl fx))] H := hP.sub [0, 1, 2, 3, 4] rfl
    have hD : va_D A [(h, .inr (0, [.ref pA, .ref hX, .int bo, .long bc, .ref hV, .ref hI, .int 0, .ref hW])), (hV, .inl (dN, 8, .inl gv)), (hI, .inl (dN, 16, .inl (upd fi 15 0))), (hW, .inl (dN, 68, .inl gw)), (hX, .inl (dB, 4, .inl fx))] := hD.sub [0, 1, 2, 3, 4] (by decide) rfl
    refine lp_pl (tA := tA) (x0 := 0) ⟨hx, hb, hr, hlk, hml, hown, hts⟩ hK (fun g H locs ls hg1 hg2 hP hD hS hl => ?_) (14 - 0) 0 _ _ _ ls (by omega) (Nat.le_refl _) (fun j _ => rfl) (fun j h1 h2 => absurd h1 (by omega)) hP hD hS hl
    refine lv_aload_n hx hb dX3_processLength_65 rfl (lv_at hl 0 rfl) ?_
    refine va_get (D := D) (ci := 0) (v := .ref hI) (C := RX3) (T := TX3) (N := 8) hx hb hts in_X3 hown hK hP 0 rfl rfl 5 (by decide) (hts _ q187) (fun _ h9 => h9) rfl dX3_processLength_66 ?_
    refine lv_aload_n hx hb dX3_processLength_69 rfl (lv_at hl 0 rfl) ?_
    refine lv_dup hx hb dX3_processLength_70 rfl ?_
    refine va_get (D := D) (ci := 0) (v := .int (nI 14)) (C := RX3) (T := TX3) (N := 8) hx hb hts in_X3 hown hK hP 0 rfl rfl 6 (by decide) (hts _ q188) (fun _ h9 => h9) rfl dX3_processLength_71 ?_
    refine lv_dup_x1 hx hb dX3_processLength_74 rfl rfl ?_
    refine lv_iconst (v := (1 : Int32)) hx hb dX3_processLength_75 (by decide) ?_
    refine lv_iadd hx hb dX3_processLength_76 ?_
    refine lv_topi (fun y_ ey_ => ?_)
    have ey_ : y_ = nI 15 := ey_.trans (nI_1 14)
    subst ey_
    refine va_put (D := D) (ci := 0) (v := .int (nI 15)) (ty := .int) (C := RX3) (T := TX3) (N := 8) hx hb hts in_X3 tyX3 tyX3_ok nmX3 hown hK hP hD hS 0 rfl rfl 6 (by decide) (hts _ q188) (fun _ h9 => h9) rfl (by decide +kernel) rfl rfl (Nat.le_of_ble_eq_true rfl) dX3_processLength_77 (fun H locs hP hD hS => ?_)
    have hP : va_P D vwCl [(h, .inr (0, [.ref pA, .ref hX, .int bo, .long bc, .ref hV, .ref hI, .int (nI 15), .ref hW])), (hV, .inl (dN, 8, .inl gv)), (hI, .inl (dN, 16, .inl g)), (hW, .inl (dN, 68, .inl gw)), (hX, .inl (dB, 4, .inl fx))] H := hP
    have hD : va_D A [(h, .inr (0, [.ref pA, .ref hX, .int bo, .long bc, .ref hV, .ref hI, .int (nI 15), .ref hW])), (hV, .inl (dN, 8, .inl gv)), (hI, .inl (dN, 16, .inl g)), (hW, .inl (dN, 68, .inl gw)), (hX, .inl (dB, 4, .inl fx))] := hD
    refine lv_lload_n hx hb dX3_processLength_80 rfl (lv_at hl 1 rfl) ?_
    refine lv_bipush (v := (32 : Int32)) hx hb dX3_processLength_81 (by decide) ?_
    refine lv_lushr hx hb dX3_processLength_83 rfl ?_
    refine lv_l2i hx hb dX3_processLength_84 rfl ?_
    refine sm_ist hx hb hK hP hD hS 2 1 rfl rfl 14 rfl (by decide) (by decide) dX3_processLength_85 (fun H locs hP hD hS => ?_)
    have hP : va_P D vwCl [(h, .inr (0, [.ref pA, .ref hX, .int bo, .long bc, .ref hV, .ref hI, .int (nI 15), .ref hW])), (hV, .inl (dN, 8, .inl gv)), (hI, .inl (dN, 16, .inl (upd g 14 (((bl.toUInt64 >>> ((32 : Int32).toInt64.toUInt64 &&& Int64.toUInt64 63)).toInt64).toInt32)))), (hW, .inl (dN, 68, .inl gw)), (hX, .inl (dB, 4, .inl fx))] H := hP
    have hD : va_D A [(h, .inr (0, [.ref pA, .ref hX, .int bo, .long bc, .ref hV, .ref hI, .int (nI 15), .ref hW])), (hV, .inl (dN, 8, .inl gv)), (hI, .inl (dN, 16, .inl (upd g 14 (((bl.toUInt64 >>> ((32 : Int32).toInt64.toUInt64 &&& Int64.toUInt64 63)).toInt64).toInt32)))), (hW, .inl (dN, 68, .inl gw)), (hX, .inl (dB, 4, .inl fx))] := hD
    refine lv_aload_n hx hb dX3_processLength_86 rfl (lv_at hl 0 rfl) ?_
    refine va_get (D := D) (ci := 0) (v := .ref hI) (C := RX3) (T := TX3) (N := 8) hx hb hts in_X3 hown hK hP 0 rfl rfl 5 (by decide) (hts _ q187) (fun _ h9 => h9) rfl dX3_processLength_87 ?_
    refine lv_aload_n hx hb dX3_processLength_90 rfl (lv_at hl 0 rfl) ?_
    refine lv_dup hx hb dX3_processLength_91 rfl ?_
    refine va_get (D := D) (ci := 0) (v := .int (nI 15)) (C := RX3) (T := TX3) (N := 8) hx hb hts in_X3 hown hK hP 0 rfl rfl 6 (by decide) (hts _ q188) (fun _ h9 => h9) rfl dX3_processLength_92 ?_
    refine lv_dup_x1 hx hb dX3_processLength_95 rfl rfl ?_
    refine lv_iconst (v := (1 : Int32)) hx hb dX3_processLength_96 (by decide) ?_
    refine lv_iadd hx hb dX3_processLength_97 ?_
    refine lv_topi (fun y_ ey_ => ?_)
    have ey_ : y_ = nI 16 := ey_.trans (nI_1 15)
    subst ey_
    refine va_put (D := D) (ci := 0) (v := .int (nI 16)) (ty := .int) (C := RX3) (T := TX3) (N := 8) hx hb hts in_X3 tyX3 tyX3_ok nmX3 hown hK hP hD hS 0 rfl rfl 6 (by decide) (hts _ q188) (fun _ h9 => h9) rfl (by decide +kernel) rfl rfl (Nat.le_of_ble_eq_true rfl) dX3_processLength_98 (fun H locs hP hD hS => ?_)
    have hP : va_P D vwCl [(h, .inr (0, [.ref pA, .ref hX, .int bo, .long bc, .ref hV, .ref hI, .int (nI 16), .ref hW])), (hV, .inl (dN, 8, .inl gv)), (hI, .inl (dN, 16, .inl (upd g 14 (((bl.toUInt64 >>> ((32 : Int32).toInt64.toUInt64 &&& Int64.toUInt64 63)).toInt64).toInt32)))), (hW, .inl (dN, 68, .inl gw)), (hX, .inl (dB, 4, .inl fx))] H := hP
    have hD : va_D A [(h, .inr (0, [.ref pA, .ref hX, .int bo, .long bc, .ref hV, .ref hI, .int (nI 16), .ref hW])), (hV, .inl (dN, 8, .inl gv)), (hI, .inl (dN, 16, .inl (upd g 14 (((bl.toUInt64 >>> ((32 : Int32).toInt64.toUInt64 &&& Int64.toUInt64 63)).toInt64).toInt32)))), (hW, .inl (dN, 68, .inl gw)), (hX, .inl (dB, 4, .inl fx))] := hD
    refine lv_lload_n hx hb dX3_processLength_101 rfl (lv_at hl 1 rfl) ?_
    refine lv_l2i hx hb dX3_processLength_102 rfl ?_
    refine sm_ist hx hb hK hP hD hS 2 1 rfl rfl 15 rfl (by decide) (by decide) dX3_processLength_103 (fun H locs hP hD hS => ?_)
    have hP : va_P D vwCl [(h, .inr (0, [.ref pA, .ref hX, .int bo, .long bc, .ref hV, .ref hI, .int (nI 16), .ref hW])), (hV, .inl (dN, 8, .inl gv)), (hI, .inl (dN, 16, .inl (upd (upd g 14 (((bl.toUInt64 >>> ((32 : Int32).toInt64.toUInt64 &&& Int64.toUInt64 63)).toInt64).toInt32)) 15 bl.toInt32))), (hW, .inl (dN, 68, .inl gw)), (hX, .inl (dB, 4, .inl fx))] H := hP
    have hD : va_D A [(h, .inr (0, [.ref pA, .ref hX, .int bo, .long bc, .ref hV, .ref hI, .int (nI 16), .ref hW])), (hV, .inl (dN, 8, .inl gv)), (hI, .inl (dN, 16, .inl (upd (upd g 14 (((bl.toUInt64 >>> ((32 : Int32).toInt64.toUInt64 &&& Int64.toUInt64 63)).toInt64).toInt32)) 15 bl.toInt32))), (hW, .inl (dN, 68, .inl gw)), (hX, .inl (dB, 4, .inl fx))] := hD
    exact W.vret hx hb hr (sm_endv _ ⟨gv, _, gw, rfl, sm_pl_f hAW hq hg hg2⟩ hP hD hS) hS.2.2 dX3_processLength_104 hlk
end
section
/-! GeneralDigest.update(byte), update(byte[], int, int) -/
set_option maxRecDepth 100000
/-- the word that four buffered bytes make -/
theorem sm_Ab_wd {msg : Nat → Int32} {n : Nat} {fv fi fx : Nat → Int32} (hAb : sm_Ab msg n fv fi fx) (hn : n % 4 = 3) : sm_be (upd fx (n % 4) (msg n) 0) (upd fx (n % 4) (msg n) (0 + 1)) (upd fx (n % 4) (msg n) (0 + 2)) (upd fx (n % 4) (msg n) (0 + 3)) = sm_wd msg (n / 4) := by
  have e : n = 4 * (n / 4) + 3 := by omega
  unfold sm_wd
  rw [pk_un (by omega), pk_un (by omega), pk_un (by omega), hn, hAb.2 0 (by omega), hAb.2 (0 + 1) (by omega), hAb.2 (0 + 2) (by omega)]
  rw [show upd fx 3 (msg n) (0 + 3) = msg n from pk_us]
  conv => lhs; arg 4; rw [e]
  rfl
theorem sm_Ab_lt {msg : Nat → Int32} {n : Nat} {fv fi fx : Nat → Int32} (hAb : sm_Ab msg n fv fi fx) (hn : n % 4 < 3) : sm_Ab msg (n + 1) fv fi (upd fx (n % 4) (msg n)) := by
  have e : (n + 1) / 4 = n / 4 := by omega
  have e2 : (n + 1) % 4 = n % 4 + 1 := by omega
  refine ⟨by rw [e]; exact hAb.1, fun j hj => ?_⟩
  rw [e]
  rw [e2] at hj
  by_cases hc : j = n % 4
  · rw [hc, pk_us]
    congr 1
    omega
  · rw [pk_un hc]
    exact hAb.2 j (by omega)
theorem sm_Ab_eq {msg : Nat → Int32} {n : Nat} {fv fi fx : Nat → Int32} (hAW : sm_AW msg (n / 4 + 1) fv fi) (hn : n % 4 = 3) : sm_Ab msg (n + 1) fv fi fx := by
  have e : (n + 1) / 4 = n / 4 + 1 := by omega
  have e2 : (n + 1) % 4 = 0 := by omega
  refine ⟨by rw [e]; exact hAW, fun j hj => ?_⟩
  rw [e2] at hj
  exact absurd hj (by omega)
/-- a word out of the text -/
theorem sm_tx_wd {msg ft : Nat → Int32} {n k i c : Nat} (hm : ∀ j, j < c → ft (k + j) = msg (n + j)) (hi : i + 3 < c) (h4 : (n + i) % 4 = 0) : sm_be (ft (k + i)) (ft (k + i + 1)) (ft (k + i + 2)) (ft (k + i + 3)) = sm_wd msg ((n + i) / 4) := by
  have e : n + i = 4 * ((n + i) / 4) := by omega
  unfold sm_wd
  rw [show k + i + 1 = k + (i + 1) by omega, show k + i + 2 = k + (i + 2) by omega, show k + i + 3 = k + (i + 3) by omega, hm i (by omega), hm (i + 1) (by omega), hm (i + 2) (by omega), hm (i + 3) (by omega)]
  rw [show n + (i + 1) = n + i + 1 by omega, show n + (i + 2) = n + i + 2 by omega, show n + (i + 3) = n + i + 3 by omega, ← e]
theorem sm_Ab_wo {msg : Nat → Int32} {n : Nat} {fv fi fx : Nat → Int32} (hAW : sm_AW msg (n / 4 + 1) fv fi) (hn : n % 4 = 0) : sm_Ab msg (n + 4) fv fi fx := by
  have e : (n + 4) / 4 = n / 4 + 1 := by omega
  have e2 : (n + 4) % 4 = 0 := by omega
  refine ⟨by rw [e]; exact hAW, fun j hj => ?_⟩
  rw [e2] at hj
  exact absurd hj (by omega)
/-- i against len - 3 -/
theorem sm_lim_t {i c : Nat} (hi : i < 2 ^ 30) (hc : c < 2 ^ 30) (h : c ≤ i + 3) : nI c - (3 : Int32) ≤ nI i := by
  rcases Nat.lt_or_ge c 3 with q | q
  · have h1 := pk_sneg (a := c) (b := 3) (by decide) q
    have h2 := nI_pos' (n := i) (by omega)
    rw [Int32.le_iff_toInt_le] at h2 ⊢
    rw [Int32.lt_iff_toInt_lt] at h1
    exact Int.le_trans (Int.le_of_lt h1) h2
  · have e : nI c - (3 : Int32) = nI (c - 3) := pk_sub (a := c) (b := 3) q
    rw [e]
    exact nI_le (by omega) (by omega)
theorem sm_lim_f {i c : Nat} (hc : c < 2 ^ 30) (h : i + 3 < c) : ¬ nI c - (3 : Int32) ≤ nI i := by
  have e : nI c - (3 : Int32) = nI (c - 3) := pk_sub (a := c) (b := 3) (by omega)
  rw [e]
  exact nI_ge (by omega) (by omega)
theorem sm_max0 {c : Nat} (hc : c < 2 ^ 31) : (if (0 : Int32) < nI c then nI c else (0 : Int32)) = nI c := by
  by_cases h : (0 : Int32) < nI c
  · rw [if_pos h]
  · rw [if_neg h]
    have h1 : ¬ 0 < c := fun z => h (nI_lt z hc)
    have h2 : c = 0 := by omega
    rw [h2]
    rfl
set_option maxHeartbeats 4000000 in
set_option maxRecDepth 100000 in
/-- update(b): the n-th byte of the message comes in -/
theorem met_up1 (l : Launch) (D : va_G) (dB dN : ClassId) (sz tA pA : Nat) (h hV hI hW hX : Nat) (fv fi fw fx : Nat → Int32) (msg : Nat → Int32) (n : Nat) (b : Int32) (hb0 : b = msg n) (hB : vp_nar .byte b = b) (hAb : sm_Ab msg n fv fi fx) : Met l yX2_update_2 (ws_ yX2_update_2 cX2_update_2 2 none) ({ frames := 3, cells := 0, slots := 0, locals := 82 }) (va_Pc [.ref h, .int b] (sm_pre D dB dN (sm_dg dB dN pA h hV hI hW hX fv fi fw fx (nI (n / 4 % 16)) (nI (n % 4)) (lN n)) sz tA pA)) (sm_Qv D (fun w => ∃ gv gi gw gx : Nat → Int32, w = sm_dg dB dN pA h hV hI hW hX gv gi gw gx (nI ((n + 1) / 4 % 16)) (nI ((n + 1) % 4)) (lN (n + 1)) ∧ sm_Ab msg (n + 1) gv gi gx) (va_A (sm_dg dB dN pA h hV hI hW hX fv fi fw fx (nI (n / 4 % 16)) (nI (n % 4)) (lN n)) sz)) 0 0 (va_A (sm_dg dB dN pA h hV hI hW hX fv fi fw fx (nI (n / 4 % 16)) (nI (n % 4)) (lN n)) sz) := by
  subst hb0
  refine sm_met RX2 (sm_Qv D _) (by decide) rfl (Nat.le_of_ble_eq_true rfl) ?_
  intro p e s m below meth c ls A cx hnm hP hK hD hE hA hS hl
  obtain ⟨hx, hb, hr, hlk, hml, hown, hts⟩ := cx
  have hl : lv_has ls 2 [(0, .ref h), (1, .int (msg n))] := hl
  have hP : va_P D vwCl [(h, .inr (0, [.ref pA, .ref hX, .int (nI (n % 4)), .long (lN n), .ref hV, .ref hI, .int (nI (n / 4 % 16)), .ref hW])), (hV, .inl (dN, 8, .inl fv)), (hI, .inl (dN, 16, .inl fi)), (hW, .inl (dN, 68, .inl fw)), (hX, .inl (dB, 4, .inl fx))] s.heap := hP
  have hD : va_D A [(h, .inr (0, [.ref pA, .ref hX, .int (nI (n % 4)), .long (lN n), .ref hV, .ref hI, .int (nI (n / 4 % 16)), .ref hW])), (hV, .inl (dN, 8, .inl fv)), (hI, .inl (dN, 16, .inl fi)), (hW, .inl (dN, 68, .inl fw)), (hX, .inl (dB, 4, .inl fx))] := hD
  refine lv_aload_n hx hb dX2_update_2_0 rfl (lv_at hl 0 rfl) ?_
  refine va_get (D := D) (ci := 0) (v := .ref hX) (C := RX3) (T := TX3) (N := 8) hx hb hts in_X3 hown hK hP 0 rfl rfl 1 (by decide) (hts _ q191) (fun _ h9 => h9) rfl dX2_update_2_1 ?_
  refine lv_aload_n hx hb dX2_update_2_4 rfl (lv_at hl 0 rfl) ?_
  refine lv_dup hx hb dX2_update_2_5 rfl ?_
  refine va_get (D := D) (ci := 0) (v := .int (nI (n % 4))) (C := RX3) (T := TX3) (N := 8) hx hb hts in_X3 hown hK hP 0 rfl rfl 2 (by decide) (hts _ q192) (fun _ h9 => h9) rfl dX2_update_2_6 ?_
  refine lv_dup_x1 hx hb dX2_update_2_9 rfl rfl ?_
  refine lv_iconst (v := (1 : Int32)) hx hb dX2_update_2_10 (by decide) ?_
  refine lv_iadd hx hb dX2_update_2_11 ?_
  refine lv_topi (fun y_ ey_ => ?_)
  have ey_ : y_ = nI (n % 4 + 1) := ey_.trans (nI_1 _)
  subst ey_
  refine va_put (D := D) (ci := 0) (v := .int (nI (n % 4 + 1))) (ty := .int) (C := RX3) (T := TX3) (N := 8) hx hb hts in_X3 tyX3 tyX3_ok nmX3 hown hK hP hD hS 0 rfl rfl 2 (by decide) (hts _ q192) (fun _ h9 => h9) rfl (by decide +kernel) rfl rfl (Nat.le_of_ble_eq_true rfl) dX2_update_2_12 (fun H locs hP hD hS => ?_)
  have hP : va_P D vwCl [(h, .inr (0, [.ref pA, .ref hX, .int (nI (n % 4 + 1)), .long (lN n), .ref hV, .ref hI, .int (nI (n / 4 % 16)), .ref hW])), (hV, .inl (dN, 8, .inl fv)), (hI, .inl (dN, 16, .inl fi)), (hW, .inl (dN, 68, .inl fw)), (hX, .inl (dB, 4, .inl fx))] H := hP
  have hD : va_D A [(h, .inr (0, [.ref pA, .ref hX, .int (nI (n % 4 + 1)), .long (lN n), .ref hV, .ref hI, .int (nI (n / 4 % 16)), .ref hW])), (hV, .inl (dN, 8, .inl fv)), (hI, .inl (dN, 16, .inl fi)), (hW, .inl (dN, 68, .inl fw)), (hX, .inl (dB, 4, .inl fx))] := hD
  refine lv_iload_n hx hb dX2_update_2_15 rfl (lv_at hl 1 rfl) ?_
  refine sm_bst hx hb hK hP hD hS 4 0 rfl rfl (msg n) (n % 4) rfl (by omega) (by decide) hB dX2_update_2_16 (fun H locs hP hD hS => ?_)
  have hP : va_P D vwCl [(h, .inr (0, [.ref pA, .ref hX, .int (nI (n % 4 + 1)), .long (lN n), .ref hV, .ref hI, .int (nI (n / 4 % 16)), .ref hW])), (hV, .inl (dN, 8, .inl fv)), (hI, .inl (dN, 16, .inl fi)), (hW, .inl (dN, 68, .inl fw)), (hX, .inl (dB, 4, .inl (upd fx (n % 4) (msg n))))] H := hP
  have hD : va_D A [(h, .inr (0, [.ref pA, .ref hX, .int (nI (n % 4 + 1)), .long (lN n), .ref hV, .ref hI, .int (nI (n / 4 % 16)), .ref hW])), (hV, .inl (dN, 8, .inl fv)), (hI, .inl (dN, 16, .inl fi)), (hW, .inl (dN, 68, .inl fw)), (hX, .inl (dB, 4, .inl (upd fx (n % 4) (msg n))))] := hD
  refine lv_aload_n hx hb dX2_update_2_17 rfl (lv_at hl 0 rfl) ?_
  refine va_get (D := D) (ci := 0) (v := .int (nI (n % 4 + 1))) (C := RX3) (T := TX3) (N := 8) hx hb hts in_X3 hown hK hP 0 rfl rfl 2 (by decide) (hts _ q192) (fun _ h9 => h9) rfl dX2_update_2_18 ?_
  refine lv_aload_n hx hb dX2_update_2_21 rfl (lv_at hl 0 rfl) ?_
  refine va_get (D := D) (ci := 0) (v := .ref hX) (C := RX3) (T := TX3) (N := 8) hx hb hts in_X3 hown hK hP 0 rfl rfl 1 (by decide) (hts _ q191) (fun _ h9 => h9) rfl dX2_update_2_22 ?_
  refine va_alen (v := nI 4) hx hb hK hP 4 0 rfl rfl rfl dX2_update_2_25 ?_
  refine lv_icmp_ne (tgt := 43) hx hb dX2_update_2_26 (by decide) (fun hc => ?_) (fun hc => ?_)
  · have hq : n % 4 < 3 := by
      rcases Nat.lt_or_ge (n % 4) 3 with q | q
      · exact q
      · exact absurd (by rw [show n % 4 = 3 by omega]) hc
    refine lv_aload_n hx hb dX2_update_2_43 rfl (lv_at hl 0 rfl) ?_
    refine lv_dup hx hb dX2_update_2_44 rfl ?_
    refine va_get (D := D) (ci := 0) (v := .long (lN n)) (C := RX3) (T := TX3) (N := 8) hx hb hts in_X3 hown hK hP 0 rfl rfl 3 (by decide) (hts _ q193) (fun _ h9 => h9) rfl dX2_update_2_45 ?_
    refine lv_lconst (v := 1) hx hb dX2_update_2_48 (by decide) ?_
    refine lv_ladd hx hb dX2_update_2_49 ?_
    refine lv_topl (fun y_ ey_ => ?_)
    have ey_ : y_ = lN (n + 1) := ey_.trans (lN_1 _)
    subst ey_
    refine va_put (D := D) (ci := 0) (v := .long (lN (n + 1))) (ty := .long) (C := RX3) (T := TX3) (N := 8) hx hb hts in_X3 tyX3 tyX3_ok nmX3 hown hK hP hD hS 0 rfl rfl 3 (by decide) (hts _ q193) (fun _ h9 => h9) rfl (by decide +kernel) rfl rfl (Nat.le_of_ble_eq_true rfl) dX2_update_2_50 (fun H locs hP hD hS => ?_)
    have hP : va_P D vwCl [(h, .inr (0, [.ref pA, .ref hX, .int (nI (n % 4 + 1)), .long (lN (n + 1)), .ref hV, .ref hI, .int (nI (n / 4 % 16)), .ref hW])), (hV, .inl (dN, 8, .inl fv)), (hI, .inl (dN, 16, .inl fi)), (hW, .inl (dN, 68, .inl fw)), (hX, .inl (dB, 4, .inl (upd fx (n % 4) (msg n))))] H := hP
    have hD : va_D A [(h, .inr (0, [.ref pA, .ref hX, .int (nI (n % 4 + 1)), .long (lN (n + 1)), .ref hV, .ref hI, .int (nI (n / 4 % 16)), .ref hW])), (hV, .inl (dN, 8, .inl fv)), (hI, .inl (dN, 16, .inl fi)), (hW, .inl (dN, 68, .inl fw)), (hX, .inl (dB, 4, .inl (upd fx (n % 4) (msg n))))] := hD
    exact W.vret hx hb hr (sm_endv _ ⟨fv, fi, fw, _, by rw [show (n + 1) / 4 = n / 4 by omega, show (n + 1) % 4 = n % 4 + 1 by omega] <;> rfl, sm_Ab_lt hAb hq⟩ hP hD hS) hS.2.2 dX2_update_2_53 hlk
  · have hq : n % 4 = 3 := by
      have := (nI_eq (a := n % 4 + 1) (b := 4) (by omega) (by decide)).mp hc
      omega
    refine lv_aload_n hx hb dX2_update_2_29 rfl (lv_at hl 0 rfl) ?_
    refine lv_aload_n hx hb dX2_update_2_30 rfl (lv_at hl 0 rfl) ?_
    refine va_get (D := D) (ci := 0) (v := .ref hX) (C := RX3) (T := TX3) (N := 8) hx hb hts in_X3 hown hK hP 0 rfl rfl 1 (by decide) (hts _ q191) (fun _ h9 => h9) rfl dX2_update_2_31 ?_
    refine lv_iconst (v := (0 : Int32)) hx hb dX2_update_2_34 (by decide) ?_
    have hPc := hP.sub (ws' := [(h, .inr (0, [.ref pA, .ref hX, .int (nI (n % 4 + 1)), .long (lN n), .ref hV, .ref hI, .int (nI (n / 4 % 16)), .ref hW])), (hV, .inl (dN, 8, .inl fv)), (hI, .inl (dN, 16, .inl fi)), (hW, .inl (dN, 68, .inl fw)), (hX, .inl (dB, 4, .inl (upd fx (n % 4) (msg n))))]) [0, 1, 2, 3, 4] rfl
    have hDc := hD.sub (ws' := [(h, .inr (0, [.ref pA, .ref hX, .int (nI (n % 4 + 1)), .long (lN n), .ref hV, .ref hI, .int (nI (n / 4 % 16)), .ref hW])), (hV, .inl (dN, 8, .inl fv)), (hI, .inl (dN, 16, .inl fi)), (hW, .inl (dN, 68, .inl fw)), (hX, .inl (dB, 4, .inl (upd fx (n % 4) (msg n))))]) [0, 1, 2, 3, 4] (by decide) rfl
    have hFc := va_free (wc := [(h, .inr (0, [.ref pA, .ref hX, .int (nI (n % 4 + 1)), .long (lN n), .ref hV, .ref hI, .int (nI (n / 4 % 16)), .ref hW])), (hV, .inl (dN, 8, .inl fv)), (hI, .inl (dN, 16, .inl fi)), (hW, .inl (dN, 68, .inl fw)), (hX, .inl (dB, 4, .inl (upd fx (n % 4) (msg n))))]) hD hS hA [0, 1, 2, 3, 4] rfl
    refine sm_backv (wr := []) (va_runU (As := [.ref hX, .int (0 : Int32)]) (rest := []) ⟨hx, hb, hml, hown, hts⟩ (met_pwX l D dB dN H.size tA pA h hV hI hW hX fv fi fw (upd fx (n % 4) (msg n)) (nI (n % 4 + 1)) (lN n) msg (n / 4) 0 (by decide) (by decide) hAb.1 (sm_Ab_wd hAb hq)) (va_cwA (C := RX3) (owner := RX2) (x := sm_dW) 2 hts (sm_gU q44 q46 q47 q48 q12 q49) rfl rfl rfl hE.2.2.2.1 (by decide +kernel) ⟨Nat.le_of_ble_eq_true rfl, Nat.le_of_ble_eq_true rfl⟩) ⟨sm_blind, va_recv hK hP (ci := 0) (q0 := 0) rfl rfl, sm_go hK hPc hDc hE hS hFc _⟩ rfl rfl hl.1 rfl (lv_room (Nat.le_of_ble_eq_true rfl)) dX2_update_2_35 ⟨Nat.le_of_ble_eq_true rfl, Nat.le_of_ble_eq_true rfl⟩) hP hD hS hFc [0, 1, 2, 3, 4] [] rfl rfl (by decide) (by decide) (fun w1 H locs hw hP hD hS => ?_)
    obtain ⟨gv, gi, gw, rfl, hAW⟩ := hw
    have hP : va_P D vwCl [(h, .inr (0, [.ref pA, .ref hX, .int (nI (n % 4 + 1)), .long (lN n), .ref hV, .ref hI, .int (nI ((n / 4 + 1) % 16)), .ref hW])), (hV, .inl (dN, 8, .inl gv)), (hI, .inl (dN, 16, .inl gi)), (hW, .inl (dN, 68, .inl gw)), (hX, .inl (dB, 4, .inl (upd fx (n % 4) (msg n))))] H := hP.sub [0, 1, 2, 3, 4] rfl
    have hD : va_D A [(h, .inr (0, [.ref pA, .ref hX, .int (nI (n % 4 + 1)), .long (lN n), .ref hV, .ref hI, .int (nI ((n / 4 + 1) % 16)), .ref hW])), (hV, .inl (dN, 8, .inl gv)), (hI, .inl (dN, 16, .inl gi)), (hW, .inl (dN, 68, .inl gw)), (hX, .inl (dB, 4, .inl (upd fx (n % 4) (msg n))))] := hD.sub [0, 1, 2, 3, 4] (by decide) rfl
    refine lv_aload_n hx hb dX2_update_2_38 rfl (lv_at hl 0 rfl) ?_
    refine lv_iconst (v := (0 : Int32)) hx hb dX2_update_2_39 (by decide) ?_
    refine va_put (D := D) (ci := 0) (v := .int (0 : Int32)) (ty := .int) (C := RX3) (T := TX3) (N := 8) hx hb hts in_X3 tyX3 tyX3_ok nmX3 hown hK hP hD hS 0 rfl rfl 2 (by decide) (hts _ q192) (fun _ h9 => h9) rfl (by decide +kernel) rfl rfl (Nat.le_of_ble_eq_true rfl) dX2_update_2_40 (fun H locs hP hD hS => ?_)
    have hP : va_P D vwCl [(h, .inr (0, [.ref pA, .ref hX, .int (0 : Int32), .long (lN n), .ref hV, .ref hI, .int (nI ((n / 4 + 1) % 16)), .ref hW])), (hV, .inl (dN, 8, .inl gv)), (hI, .inl (dN, 16, .inl gi)), (hW, .inl (dN, 68, .inl gw)), (hX, .inl (dB, 4, .inl (upd fx (n % 4) (msg n))))] H := hP
    have hD : va_D A [(h, .inr (0, [.ref pA, .ref hX, .int (0 : Int32), .long (lN n), .ref hV, .ref hI, .int (nI ((n / 4 + 1) % 16)), .ref hW])), (hV, .inl (dN, 8, .inl gv)), (hI, .inl (dN, 16, .inl gi)), (hW, .inl (dN, 68, .inl gw)), (hX, .inl (dB, 4, .inl (upd fx (n % 4) (msg n))))] := hD
    refine lv_aload_n hx hb dX2_update_2_43 rfl (lv_at hl 0 rfl) ?_
    refine lv_dup hx hb dX2_update_2_44 rfl ?_
    refine va_get (D := D) (ci := 0) (v := .long (lN n)) (C := RX3) (T := TX3) (N := 8) hx hb hts in_X3 hown hK hP 0 rfl rfl 3 (by decide) (hts _ q193) (fun _ h9 => h9) rfl dX2_update_2_45 ?_
    refine lv_lconst (v := 1) hx hb dX2_update_2_48 (by decide) ?_
    refine lv_ladd hx hb dX2_update_2_49 ?_
    refine lv_topl (fun y_ ey_ => ?_)
    have ey_ : y_ = lN (n + 1) := ey_.trans (lN_1 _)
    subst ey_
    refine va_put (D := D) (ci := 0) (v := .long (lN (n + 1))) (ty := .long) (C := RX3) (T := TX3) (N := 8) hx hb hts in_X3 tyX3 tyX3_ok nmX3 hown hK hP hD hS 0 rfl rfl 3 (by decide) (hts _ q193) (fun _ h9 => h9) rfl (by decide +kernel) rfl rfl (Nat.le_of_ble_eq_true rfl) dX2_update_2_50 (fun H locs hP hD hS => ?_)
    have hP : va_P D vwCl [(h, .inr (0, [.ref pA, .ref hX, .int (0 : Int32), .long (lN (n + 1)), .ref hV, .ref hI, .int (nI ((n / 4 + 1) % 16)), .ref hW])), (hV, .inl (dN, 8, .inl gv)), (hI, .inl (dN, 16, .inl gi)), (hW, .inl (dN, 68, .inl gw)), (hX, .inl (dB, 4, .inl (upd fx (n % 4) (msg n))))] H := hP
    have hD : va_D A [(h, .inr (0, [.ref pA, .ref hX, .int (0 : Int32), .long (lN (n + 1)), .ref hV, .ref hI, .int (nI ((n / 4 + 1) % 16)), .ref hW])), (hV, .inl (dN, 8, .inl gv)), (hI, .inl (dN, 16, .inl gi)), (hW, .inl (dN, 68, .inl gw)), (hX, .inl (dB, 4, .inl (upd fx (n % 4) (msg n))))] := hD
    exact W.vret hx hb hr (sm_endv _ ⟨gv, gi, gw, _, by rw [show (n + 1) / 4 = n / 4 + 1 by omega, show (n + 1) % 4 = 0 by omega] <;> rfl, sm_Ab_eq hAW hq⟩ hP hD hS) hS.2.2 dX2_update_2_53 hlk
set_option maxHeartbeats 4000000 in
set_option maxRecDepth 100000 in
theorem lp_ua {p : Program} {l : Launch} {e : Env} {R : Room} {s : State} {m : MethodId} {av : Array Value} {below : List Frame} {meth : Method} {c : Code} {cells slots : Nat} {Q : State → Prop} {D : va_G} {dB dN : ClassId} {tA pA : Nat} {A : Nat → Prop} {h hV hI hW hX : Nat} {ht nt n k c1 : Nat} {msg ft : Nat → Int32} {bc : Int64} (hk : k + c1 ≤ nt) (hn : nt < 2 ^ 30) (hm : ∀ j, j < c1 → ft (k + j) = msg (n + j)) (hB : sm_By msg) (cx : sm_Cx p s m meth c av cX2_update 6 RX2 none) (hRf : 3 ≤ R.frames) (hRl : 82 ≤ R.locals) (hf : cells ≤ R.cells ∧ slots ≤ R.slots) (hK : va_K D vwCl (sm_ty dB dN) s) (hE : sm_E A tA pA s s.heap) (hA : ∀ q, s.heap.size ≤ q → A q)
    (kk : ∀ (i : Nat) (fv fi fw fx : Nat → Int32) (H : Heap) (locs : List Loc) (ls : Array Slot), i ≤ c1 → (i = c1 ∨ (n + i) % 4 = 0) → sm_Ab msg (n + i) fv fi fx → va_P D vwCl [(h, .inr (0, [.ref pA, .ref hX, .int (nI ((n + i) % 4)), .long bc, .ref hV, .ref hI, .int (nI ((n + i) / 4 % 16)), .ref hW])), (hV, .inl (dN, 8, .inl fv)), (hI, .inl (dN, 16, .inl fi)), (hW, .inl (dN, 68, .inl fw)), (hX, .inl (dB, 4, .inl fx)), (ht, .inl (dB, nt, .inl ft))] H → va_D A [(h, .inr (0, [.ref pA, .ref hX, .int (nI ((n + i) % 4)), .long bc, .ref hV, .ref hI, .int (nI ((n + i) / 4 % 16)), .ref hW])), (hV, .inl (dN, 8, .inl fv)), (hI, .inl (dN, 16, .inl fi)), (hW, .inl (dN, 68, .inl fw)), (hX, .inl (dB, 4, .inl fx)), (ht, .inl (dB, nt, .inl ft))] → va_S A s.heap H locs → lv_has ls 6 [(0, .ref h), (1, .ref ht), (2, .int (nI k)), (3, .int (nI c1)), (4, .int (nI i))] → W p l e R s m av below meth c H locs cells slots Q (F0 m 72 ls [])) :
    ∀ (z i : Nat) (fv fi fw fx : Nat → Int32) (H : Heap) (locs : List Loc) (ls : Array Slot), i + z = c1 → sm_Ab msg (n + i) fv fi fx → va_P D vwCl [(h, .inr (0, [.ref pA, .ref hX, .int (nI ((n + i) % 4)), .long bc, .ref hV, .ref hI, .int (nI ((n + i) / 4 % 16)), .ref hW])), (hV, .inl (dN, 8, .inl fv)), (hI, .inl (dN, 16, .inl fi)), (hW, .inl (dN, 68, .inl fw)), (hX, .inl (dB, 4, .inl fx)), (ht, .inl (dB, nt, .inl ft))] H → va_D A [(h, .inr (0, [.ref pA, .ref hX, .int (nI ((n + i) % 4)), .long bc, .ref hV, .ref hI, .int (nI ((n + i) / 4 % 16)), .ref hW])), (hV, .inl (dN, 8, .inl fv)), (hI, .inl (dN, 16, .inl fi)), (hW, .inl (dN, 68, .inl fw)), (hX, .inl (dB, 4, .inl fx)), (ht, .inl (dB, nt, .inl ft))] → va_S A s.heap H locs → lv_has ls 6 [(0, .ref h), (1, .ref ht), (2, .int (nI k)), (3, .int (nI c1)), (4, .int (nI i))] → W p l e R s m av below meth c H locs cells slots Q (F0 m 16 ls []) := by
  obtain ⟨hx, hb, hr, hlk, hml, hown, hts⟩ := cx
  intro z
  induction z with
  | zero =>
    intro i fv fi fw fx H locs ls hi hAb hP hD hS hl
    refine lv_iload hx hb dX2_update_16 (lv_at hl 4 rfl) ?_
    refine lv_iload_n hx hb dX2_update_18 rfl (lv_at hl 3 rfl) ?_
    refine lv_icmp_ge (tgt := 72) hx hb dX2_update_19 (by decide) (fun _ => ?_) (fun hc => absurd (nI_le (show c1 ≤ i by omega) (by omega)) hc)
    exact kk i fv fi fw fx H locs ls (by omega) (Or.inl (by omega)) hAb hP hD hS hl
  | succ z ih =>
    intro i fv fi fw fx H locs ls hi hAb hP hD hS hl
    refine lv_iload hx hb dX2_update_16 (lv_at hl 4 rfl) ?_
    refine lv_iload_n hx hb dX2_update_18 rfl (lv_at hl 3 rfl) ?_
    refine lv_icmp_ge (tgt := 72) hx hb dX2_update_19 (by decide) (fun hc => absurd hc (nI_ge (show i < c1 by omega) (by omega))) (fun _ => ?_)
    refine lv_aload_n hx hb dX2_update_22 rfl (lv_at hl 0 rfl) ?_
    refine va_get (D := D) (ci := 0) (v := .ref hX) (C := RX3) (T := TX3) (N := 8) hx hb hts in_X3 hown hK hP 0 rfl rfl 1 (by decide) (hts _ q191) (fun _ h9 => h9) rfl dX2_update_23 ?_
    refine lv_aload_n hx hb dX2_update_26 rfl (lv_at hl 0 rfl) ?_
    refine lv_dup hx hb dX2_update_27 rfl ?_
    refine va_get (D := D) (ci := 0) (v := .int (nI ((n + i) % 4))) (C := RX3) (T := TX3) (N := 8) hx hb hts in_X3 hown hK hP 0 rfl rfl 2 (by decide) (hts _ q192) (fun _ h9 => h9) rfl dX2_update_28 ?_
    refine lv_dup_x1 hx hb dX2_update_31 rfl rfl ?_
    refine lv_iconst (v := (1 : Int32)) hx hb dX2_update_32 (by decide) ?_
    refine lv_iadd hx hb dX2_update_33 ?_
    refine lv_topi (fun y_ ey_ => ?_)
    have ey_ : y_ = nI ((n + i) % 4 + 1) := ey_.trans (nI_1 _)
    subst ey_
    refine va_put (D := D) (ci := 0) (v := .int (nI ((n + i) % 4 + 1))) (ty := .int) (C := RX3) (T := TX3) (N := 8) hx hb hts in_X3 tyX3 tyX3_ok nmX3 hown hK hP hD hS 0 rfl rfl 2 (by decide) (hts _ q192) (fun _ h9 => h9) rfl (by decide +kernel) rfl rfl (Nat.le_of_ble_eq_true rfl) dX2_update_34 (fun H locs hP hD hS => ?_)
    have hP : va_P D vwCl [(h, .inr (0, [.ref pA, .ref hX, .int (nI ((n + i) % 4 + 1)), .long bc, .ref hV, .ref hI, .int (nI ((n + i) / 4 % 16)), .ref hW])), (hV, .inl (dN, 8, .inl fv)), (hI, .inl (dN, 16, .inl fi)), (hW, .inl (dN, 68, .inl fw)), (hX, .inl (dB, 4, .inl fx)), (ht, .inl (dB, nt, .inl ft))] H := hP
    have hD : va_D A [(h, .inr (0, [.ref pA, .ref hX, .int (nI ((n + i) % 4 + 1)), .long bc, .ref hV, .ref hI, .int (nI ((n + i) / 4 % 16)), .ref hW])), (hV, .inl (dN, 8, .inl fv)), (hI, .inl (dN, 16, .inl fi)), (hW, .inl (dN, 68, .inl fw)), (hX, .inl (dB, 4, .inl fx)), (ht, .inl (dB, nt, .inl ft))] := hD
    refine lv_aload_n hx hb dX2_update_37 rfl (lv_at hl 1 rfl) ?_
    refine lv_iload_n hx hb dX2_update_38 rfl (lv_at hl 2 rfl) ?_
    refine lv_iload hx hb dX2_update_39 (lv_at hl 4 rfl) ?_
    refine lv_iinc (v := (nI (i + 1))) (lv' := [(4, .int (nI (i + 1))), (0, .ref h), (1, .ref ht), (2, .int (nI k)), (3, .int (nI c1))]) hx hb dX2_update_41 hl (k := 4) rfl (sm_i1 i) (by decide) rfl (fun ls hl => ?_)
    refine lv_iadd hx hb dX2_update_44 ?_
    refine lv_topi (fun y_ ey_ => ?_)
    have ey_ : y_ = nI (k + i) := ey_.trans (nI_add _ _)
    subst ey_
    refine sm_bld hx hb hK hP 5 0 rfl rfl (k + i) rfl (by omega) (by omega) dX2_update_45 ?_
    refine lv_topi (fun y_ ey_ => ?_)
    have ey_ : y_ = msg (n + i) := ey_.trans (hm i (by omega))
    subst ey_
    refine sm_bst hx hb hK hP hD hS 4 0 rfl rfl (msg (n + i)) ((n + i) % 4) rfl (by omega) (by decide) (hB _) dX2_update_46 (fun H locs hP hD hS => ?_)
    have hP : va_P D vwCl [(h, .inr (0, [.ref pA, .ref hX, .int (nI ((n + i) % 4 + 1)), .long bc, .ref hV, .ref hI, .int (nI ((n + i) / 4 % 16)), .ref hW])), (hV, .inl (dN, 8, .inl fv)), (hI, .inl (dN, 16, .inl fi)), (hW, .inl (dN, 68, .inl fw)), (hX, .inl (dB, 4, .inl (upd fx ((n + i) % 4) (msg (n + i))))), (ht, .inl (dB, nt, .inl ft))] H := hP
    have hD : va_D A [(h, .inr (0, [.ref pA, .ref hX, .int (nI ((n + i) % 4 + 1)), .long bc, .ref hV, .ref hI, .int (nI ((n + i) / 4 % 16)), .ref hW])), (hV, .inl (dN, 8, .inl fv)), (hI, .inl (dN, 16, .inl fi)), (hW, .inl (dN, 68, .inl fw)), (hX, .inl (dB, 4, .inl (upd fx ((n + i) % 4) (msg (n + i))))), (ht, .inl (dB, nt, .inl ft))] := hD
    refine lv_aload_n hx hb dX2_update_47 rfl (lv_at hl 1 rfl) ?_
    refine va_get (D := D) (ci := 0) (v := .int (nI ((n + i) % 4 + 1))) (C := RX3) (T := TX3) (N := 8) hx hb hts in_X3 hown hK hP 0 rfl rfl 2 (by decide) (hts _ q192) (fun _ h9 => h9) rfl dX2_update_48 ?_
    refine lv_iconst (v := (4 : Int32)) hx hb dX2_update_51 (by decide) ?_
    refine lv_icmp_ne (tgt := 16) hx hb dX2_update_52 (by decide) (fun hc => ?_) (fun hc => ?_)
    · have hq : (n + i) % 4 < 3 := by
        rcases Nat.lt_or_ge ((n + i) % 4) 3 with q | q
        · exact q
        · exact absurd (by rw [show (n + i) % 4 = 3 by omega]; rfl) hc
      rw [show nI ((n + i) % 4 + 1) = nI ((n + (i + 1)) % 4) by rw [show (n + (i + 1)) % 4 = (n + i) % 4 + 1 by omega]] at hP hD
      rw [show nI ((n + i) / 4 % 16) = nI ((n + (i + 1)) / 4 % 16) by rw [show (n + (i + 1)) / 4 = (n + i) / 4 by omega]] at hP hD
      exact ih (i + 1) _ _ _ _ _ _ ls (by omega) (sm_Ab_lt hAb hq) hP hD hS (lv_sub hl [1, 2, 3, 4, 0] rfl)
    · have hq : (n + i) % 4 = 3 := by
        have := (nI_eq (a := (n + i) % 4 + 1) (b := 4) (by omega) (by decide)).mp hc
        omega
      refine lv_aload_n hx hb dX2_update_55 rfl (lv_at hl 1 rfl) ?_
      refine lv_aload_n hx hb dX2_update_56 rfl (lv_at hl 1 rfl) ?_
      refine va_get (D := D) (ci := 0) (v := .ref hX) (C := RX3) (T := TX3) (N := 8) hx hb hts in_X3 hown hK hP 0 rfl rfl 1 (by decide) (hts _ q191) (fun _ h9 => h9) rfl dX2_update_57 ?_
      refine lv_iconst (v := (0 : Int32)) hx hb dX2_update_60 (by decide) ?_
      have hPc := hP.sub (ws' := [(h, .inr (0, [.ref pA, .ref hX, .int (nI ((n + i) % 4 + 1)), .long bc, .ref hV, .ref hI, .int (nI ((n + i) / 4 % 16)), .ref hW])), (hV, .inl (dN, 8, .inl fv)), (hI, .inl (dN, 16, .inl fi)), (hW, .inl (dN, 68, .inl fw)), (hX, .inl (dB, 4, .inl (upd fx ((n + i) % 4) (msg (n + i)))))]) [0, 1, 2, 3, 4] rfl
      have hDc := hD.sub (ws' := [(h, .inr (0, [.ref pA, .ref hX, .int (nI ((n + i) % 4 + 1)), .long bc, .ref hV, .ref hI, .int (nI ((n + i) / 4 % 16)), .ref hW])), (hV, .inl (dN, 8, .inl fv)), (hI, .inl (dN, 16, .inl fi)), (hW, .inl (dN, 68, .inl fw)), (hX, .inl (dB, 4, .inl (upd fx ((n + i) % 4) (msg (n + i)))))]) [0, 1, 2, 3, 4] (by decide) rfl
      have hFc := va_free (wc := [(h, .inr (0, [.ref pA, .ref hX, .int (nI ((n + i) % 4 + 1)), .long bc, .ref hV, .ref hI, .int (nI ((n + i) / 4 % 16)), .ref hW])), (hV, .inl (dN, 8, .inl fv)), (hI, .inl (dN, 16, .inl fi)), (hW, .inl (dN, 68, .inl fw)), (hX, .inl (dB, 4, .inl (upd fx ((n + i) % 4) (msg (n + i)))))]) hD hS hA [0, 1, 2, 3, 4] rfl
      refine sm_backv (wr := [(ht, .inl (dB, nt, .inl ft))]) (va_runU (As := [.ref hX, .int (0 : Int32)]) (rest := []) ⟨hx, hb, hml, hown, hts⟩ (met_pwX l D dB dN H.size tA pA h hV hI hW hX fv fi fw (upd fx ((n + i) % 4) (msg (n + i))) (nI ((n + i) % 4 + 1)) bc msg ((n + i) / 4) 0 (by decide) (by decide) hAb.1 (sm_Ab_wd hAb hq)) (va_cwA (C := RX3) (owner := RX2) (x := sm_dW) 2 hts (sm_gU q44 q46 q47 q48 q12 q49) rfl rfl rfl hE.2.2.2.1 (by decide +kernel) ⟨hRf, hRl⟩) ⟨sm_blind, va_recv hK hP (ci := 0) (q0 := 0) rfl rfl, sm_go hK hPc hDc hE hS hFc _⟩ rfl rfl hl.1 rfl (lv_room (Nat.le_of_ble_eq_true rfl)) dX2_update_61 hf) hP hD hS hFc [0, 1, 2, 3, 4] [5] rfl rfl (by decide) (by decide) (fun w1 H locs hw hP hD hS => ?_)
      obtain ⟨gv, gi, gw, rfl, hAW⟩ := hw
      have hP : va_P D vwCl [(h, .inr (0, [.ref pA, .ref hX, .int (nI ((n + i) % 4 + 1)), .long bc, .ref hV, .ref hI, .int (nI (((n + i) / 4 + 1) % 16)), .ref hW])), (hV, .inl (dN, 8, .inl gv)), (hI, .inl (dN, 16, .inl gi)), (hW, .inl (dN, 68, .inl gw)), (hX, .inl (dB, 4, .inl (upd fx ((n + i) % 4) (msg (n + i))))), (ht, .inl (dB, nt, .inl ft))] H := hP.sub [1, 2, 3, 4, 5, 0] rfl
      have hD : va_D A [(h, .inr (0, [.ref pA, .ref hX, .int (nI ((n + i) % 4 + 1)), .long bc, .ref hV, .ref hI, .int (nI (((n + i) / 4 + 1) % 16)), .ref hW])), (hV, .inl (dN, 8, .inl gv)), (hI, .inl (dN, 16, .inl gi)), (hW, .inl (dN, 68, .inl gw)), (hX, .inl (dB, 4, .inl (upd fx ((n + i) % 4) (msg (n + i))))), (ht, .inl (dB, nt, .inl ft))] := hD.sub [1, 2, 3, 4, 5, 0] (by decide) rfl
      refine lv_aload_n hx hb dX2_update_64 rfl (lv_at hl 1 rfl) ?_
      refine lv_iconst (v := (0 : Int32)) hx hb dX2_update_65 (by decide) ?_
      refine lv_topi (fun y_ ey_ => ?_)
      have ey_ : y_ = nI ((n + (i + 1)) % 4) := ey_.trans (by rw [show (n + (i + 1)) % 4 = 0 by omega]; rfl)
      subst ey_
      refine va_put (D := D) (ci := 0) (v := .int (nI ((n + (i + 1)) % 4))) (ty := .int) (C := RX3) (T := TX3) (N := 8) hx hb hts in_X3 tyX3 tyX3_ok nmX3 hown hK hP hD hS 0 rfl rfl 2 (by decide) (hts _ q192) (fun _ h9 => h9) rfl (by decide +kernel) rfl rfl (Nat.le_of_ble_eq_true rfl) dX2_update_66 (fun H locs hP hD hS => ?_)
      have hP : va_P D vwCl [(h, .inr (0, [.ref pA, .ref hX, .int (nI ((n + (i + 1)) % 4)), .long bc, .ref hV, .ref hI, .int (nI (((n + i) / 4 + 1) % 16)), .ref hW])), (hV, .inl (dN, 8, .inl gv)), (hI, .inl (dN, 16, .inl gi)), (hW, .inl (dN, 68, .inl gw)), (hX, .inl (dB, 4, .inl (upd fx ((n + i) % 4) (msg (n + i))))), (ht, .inl (dB, nt, .inl ft))] H := hP
      have hD : va_D A [(h, .inr (0, [.ref pA, .ref hX, .int (nI ((n + (i + 1)) % 4)), .long bc, .ref hV, .ref hI, .int (nI (((n + i) / 4 + 1) % 16)), .ref hW])), (hV, .inl (dN, 8, .inl gv)), (hI, .inl (dN, 16, .inl gi)), (hW, .inl (dN, 68, .inl gw)), (hX, .inl (dB, 4, .inl (upd fx ((n + i) % 4) (msg (n + i))))), (ht, .inl (dB, nt, .inl ft))] := hD
      refine lv_goto (tgt := 72) hx hb dX2_update_69 (by decide) ?_
      rw [show nI (((n + i) / 4 + 1) % 16) = nI ((n + (i + 1)) / 4 % 16) by rw [show (n + (i + 1)) / 4 = (n + i) / 4 + 1 by omega]] at hP hD
      exact kk (i + 1) _ _ _ _ _ _ ls (by omega) (Or.inr (by omega)) (sm_Ab_eq hAW hq) hP hD hS (lv_sub hl [1, 2, 3, 4, 0] rfl)
set_option maxHeartbeats 4000000 in
set_option maxRecDepth 100000 in
theorem lp_ub {p : Program} {l : Launch} {e : Env} {R : Room} {s : State} {m : MethodId} {av : Array Value} {below : List Frame} {meth : Method} {c : Code} {cells slots : Nat} {Q : State → Prop} {D : va_G} {dB dN : ClassId} {tA pA : Nat} {A : Nat → Prop} {h hV hI hW hX : Nat} {ht nt n k c1 : Nat} {msg ft : Nat → Int32} {bc : Int64} (hk : k + c1 ≤ nt) (hn : nt < 2 ^ 30) (hm : ∀ j, j < c1 → ft (k + j) = msg (n + j)) (hB : sm_By msg) (cx : sm_Cx p s m meth c av cX2_update 6 RX2 none) (hRf : 3 ≤ R.frames) (hRl : 82 ≤ R.locals) (hf : cells ≤ R.cells ∧ slots ≤ R.slots) (hK : va_K D vwCl (sm_ty dB dN) s) (hE : sm_E A tA pA s s.heap) (hA : ∀ q, s.heap.size ≤ q → A q)
    (kk : ∀ (i : Nat) (fv fi fw fx : Nat → Int32) (H : Heap) (locs : List Loc) (ls : Array Slot), i ≤ c1 → (i = c1 ∨ (n + i) % 4 = 0) → c1 ≤ i + 3 → sm_Ab msg (n + i) fv fi fx → va_P D vwCl [(h, .inr (0, [.ref pA, .ref hX, .int (nI ((n + i) % 4)), .long bc, .ref hV, .ref hI, .int (nI ((n + i) / 4 % 16)), .ref hW])), (hV, .inl (dN, 8, .inl fv)), (hI, .inl (dN, 16, .inl fi)), (hW, .inl (dN, 68, .inl fw)), (hX, .inl (dB, 4, .inl fx)), (ht, .inl (dB, nt, .inl ft))] H → va_D A [(h, .inr (0, [.ref pA, .ref hX, .int (nI ((n + i) % 4)), .long bc, .ref hV, .ref hI, .int (nI ((n + i) / 4 % 16)), .ref hW])), (hV, .inl (dN, 8, .inl fv)), (hI, .inl (dN, 16, .inl fi)), (hW, .inl (dN, 68, .inl fw)), (hX, .inl (dB, 4, .inl fx)), (ht, .inl (dB, nt, .inl ft))] → va_S A s.heap H locs → lv_has ls 6 [(0, .ref h), (1, .ref ht), (2, .int (nI k)), (3, .int (nI c1)), (4, .int (nI i))] → W p l e R s m av below meth c H locs cells slots Q (F0 m 99 ls [])) :
    ∀ (z i : Nat) (fv fi fw fx : Nat → Int32) (H : Heap) (locs : List Loc) (ls : Array Slot), c1 ≤ i + z → i ≤ c1 → (i = c1 ∨ (n + i) % 4 = 0) → sm_Ab msg (n + i) fv fi fx → va_P D vwCl [(h, .inr (0, [.ref pA, .ref hX, .int (nI ((n + i) % 4)), .long bc, .ref hV, .ref hI, .int (nI ((n + i) / 4 % 16)), .ref hW])), (hV, .inl (dN, 8, .inl fv)), (hI, .inl (dN, 16, .inl fi)), (hW, .inl (dN, 68, .inl fw)), (hX, .inl (dB, 4, .inl fx)), (ht, .inl (dB, nt, .inl ft))] H → va_D A [(h, .inr (0, [.ref pA, .ref hX, .int (nI ((n + i) % 4)), .long bc, .ref hV, .ref hI, .int (nI ((n + i) / 4 % 16)), .ref hW])), (hV, .inl (dN, 8, .inl fv)), (hI, .inl (dN, 16, .inl fi)), (hW, .inl (dN, 68, .inl fw)), (hX, .inl (dB, 4, .inl fx)), (ht, .inl (dB, nt, .inl ft))] → va_S A s.heap H locs → lv_has ls 6 [(0, .ref h), (1, .ref ht), (2, .int (nI k)), (3, .int (nI c1)), (4, .int (nI i)), (5, .int (nI c1 - (3 : Int32)))] → W p l e R s m av below meth c H locs cells slots Q (F0 m 77 ls []) := by
  obtain ⟨hx, hb, hr, hlk, hml, hown, hts⟩ := cx
  intro z
  induction z with
  | zero =>
    intro i fv fi fw fx H locs ls hz hi hor hAb hP hD hS hl
    refine lv_iload hx hb dX2_update_77 (lv_at hl 4 rfl) ?_
    refine lv_iload hx hb dX2_update_79 (lv_at hl 5 rfl) ?_
    refine lv_icmp_ge (tgt := 99) hx hb dX2_update_81 (by decide) (fun _ => ?_) (fun hc => absurd (sm_lim_t (by omega) (by omega) (by omega)) hc)
    exact kk i fv fi fw fx H locs ls hi hor (by omega) hAb hP hD hS (lv_sub hl [0, 1, 2, 3, 4] rfl)
  | succ z ih =>
    intro i fv fi fw fx H locs ls hz hi hor hAb hP hD hS hl
    rcases Nat.lt_or_ge (i + 3) c1 with hq | hq
    · refine lv_iload hx hb dX2_update_77 (lv_at hl 4 rfl) ?_
      refine lv_iload hx hb dX2_update_79 (lv_at hl 5 rfl) ?_
      refine lv_icmp_ge (tgt := 99) hx hb dX2_update_81 (by decide) (fun hc => absurd hc (sm_lim_f (by omega) hq)) (fun _ => ?_)
      have h4 : (n + i) % 4 = 0 := by omega
      refine lv_aload_n hx hb dX2_update_84 rfl (lv_at hl 0 rfl) ?_
      refine lv_aload_n hx hb dX2_update_85 rfl (lv_at hl 1 rfl) ?_
      refine lv_iload_n hx hb dX2_update_86 rfl (lv_at hl 2 rfl) ?_
      refine lv_iload hx hb dX2_update_87 (lv_at hl 4 rfl) ?_
      refine lv_iadd hx hb dX2_update_89 ?_
      refine lv_topi (fun y_ ey_ => ?_)
      have ey_ : y_ = nI (k + i) := ey_.trans (nI_add _ _)
      subst ey_
      have hPc := hP.sub (ws' := [(h, .inr (0, [.ref pA, .ref hX, .int (nI ((n + i) % 4)), .long bc, .ref hV, .ref hI, .int (nI ((n + i) / 4 % 16)), .ref hW])), (hV, .inl (dN, 8, .inl fv)), (hI, .inl (dN, 16, .inl fi)), (hW, .inl (dN, 68, .inl fw)), (hX, .inl (dB, 4, .inl fx)), (ht, .inl (dB, nt, .inl ft))]) [0, 1, 2, 3, 4, 5] rfl
      have hDc := hD.sub (ws' := [(h, .inr (0, [.ref pA, .ref hX, .int (nI ((n + i) % 4)), .long bc, .ref hV, .ref hI, .int (nI ((n + i) / 4 % 16)), .ref hW])), (hV, .inl (dN, 8, .inl fv)), (hI, .inl (dN, 16, .inl fi)), (hW, .inl (dN, 68, .inl fw)), (hX, .inl (dB, 4, .inl fx)), (ht, .inl (dB, nt, .inl ft))]) [0, 1, 2, 3, 4, 5] (by decide) rfl
      have hFc := va_free (wc := [(h, .inr (0, [.ref pA, .ref hX, .int (nI ((n + i) % 4)), .long bc, .ref hV, .ref hI, .int (nI ((n + i) / 4 % 16)), .ref hW])), (hV, .inl (dN, 8, .inl fv)), (hI, .inl (dN, 16, .inl fi)), (hW, .inl (dN, 68, .inl fw)), (hX, .inl (dB, 4, .inl fx)), (ht, .inl (dB, nt, .inl ft))]) hD hS hA [0, 1, 2, 3, 4, 5] rfl
      refine sm_backv (wr := []) (va_runU (As := [.ref ht, .int (nI (k + i))]) (rest := []) ⟨hx, hb, hml, hown, hts⟩ (met_pwT l D dB dN H.size tA pA h hV hI hW hX fv fi fw fx (nI ((n + i) % 4)) bc msg ((n + i) / 4) (k + i) ht nt ft (by omega) (by omega) hAb.1 (sm_tx_wd hm hq h4)) (va_cwA (C := RX3) (owner := RX2) (x := sm_dW) 2 hts (sm_gU q44 q46 q47 q48 q12 q49) rfl rfl rfl hE.2.2.2.1 (by decide +kernel) ⟨hRf, hRl⟩) ⟨sm_blind, va_recv hK hP (ci := 0) (q0 := 0) rfl rfl, sm_go hK hPc hDc hE hS hFc _⟩ rfl rfl hl.1 rfl (lv_room (Nat.le_of_ble_eq_true rfl)) dX2_update_90 hf) hP hD hS hFc [0, 1, 2, 3, 4, 5] [] rfl rfl (by decide) (by decide) (fun w1 H locs hw hP hD hS => ?_)
      obtain ⟨gv, gi, gw, rfl, hAW⟩ := hw
      have hP : va_P D vwCl [(h, .inr (0, [.ref pA, .ref hX, .int (nI ((n + i) % 4)), .long bc, .ref hV, .ref hI, .int (nI (((n + i) / 4 + 1) % 16)), .ref hW])), (hV, .inl (dN, 8, .inl gv)), (hI, .inl (dN, 16, .inl gi)), (hW, .inl (dN, 68, .inl gw)), (hX, .inl (dB, 4, .inl fx)), (ht, .inl (dB, nt, .inl ft))] H := hP.sub [0, 1, 2, 3, 4, 5] rfl
      have hD : va_D A [(h, .inr (0, [.ref pA, .ref hX, .int (nI ((n + i) % 4)), .long bc, .ref hV, .ref hI, .int (nI (((n + i) / 4 + 1) % 16)), .ref hW])), (hV, .inl (dN, 8, .inl gv)), (hI, .inl (dN, 16, .inl gi)), (hW, .inl (dN, 68, .inl gw)), (hX, .inl (dB, 4, .inl fx)), (ht, .inl (dB, nt, .inl ft))] := hD.sub [0, 1, 2, 3, 4, 5] (by decide) rfl
      refine lv_iinc (v := (nI (i + 4))) (lv' := [(4, .int (nI (i + 4))), (0, .ref h), (1, .ref ht), (2, .int (nI k)), (3, .int (nI c1)), (5, .int (nI c1 - (3 : Int32)))]) hx hb dX2_update_93 hl (k := 4) rfl (sm_i4 i) (by decide) rfl (fun ls hl => ?_)
      refine lv_goto (tgt := 77) hx hb dX2_update_96 (by decide) ?_
      rw [show nI (((n + i) / 4 + 1) % 16) = nI ((n + (i + 4)) / 4 % 16) by rw [show (n + (i + 4)) / 4 = (n + i) / 4 + 1 by omega]] at hP hD
      rw [show nI ((n + i) % 4) = nI ((n + (i + 4)) % 4) by rw [show (n + (i + 4)) % 4 = (n + i) % 4 by omega]] at hP hD
      exact ih (i + 4) _ _ _ _ _ _ ls (by omega) (by omega) (Or.inr (by omega)) (sm_Ab_wo hAW h4) hP hD hS (lv_sub hl [1, 2, 3, 4, 0, 5] rfl)
    · refine lv_iload hx hb dX2_update_77 (lv_at hl 4 rfl) ?_
      refine lv_iload hx hb dX2_update_79 (lv_at hl 5 rfl) ?_
      refine lv_icmp_ge (tgt := 99) hx hb dX2_update_81 (by decide) (fun _ => ?_) (fun hc => absurd (sm_lim_t (by omega) (by omega) (by omega)) hc)
      exact kk i fv fi fw fx H locs ls hi hor (by omega) hAb hP hD hS (lv_sub hl [0, 1, 2, 3, 4] rfl)
set_option maxHeartbeats 4000000 in
set_option maxRecDepth 100000 in
theorem lp_uc {p : Program} {l : Launch} {e : Env} {R : Room} {s : State} {m : MethodId} {av : Array Value} {below : List Frame} {meth : Method} {c : Code} {cells slots : Nat} {Q : State → Prop} {D : va_G} {dB dN : ClassId} {tA pA : Nat} {A : Nat → Prop} {h hV hI hW hX : Nat} {ht nt n k c1 : Nat} {msg ft : Nat → Int32} {bc : Int64} (hk : k + c1 ≤ nt) (hn : nt < 2 ^ 30) (hm : ∀ j, j < c1 → ft (k + j) = msg (n + j)) (hB : sm_By msg) (cx : sm_Cx p s m meth c av cX2_update 6 RX2 none) (hK : va_K D vwCl (sm_ty dB dN) s)
    (kk : ∀ (fv fi fw fx : Nat → Int32) (H : Heap) (locs : List Loc) (ls : Array Slot), sm_Ab msg (n + c1) fv fi fx → va_P D vwCl [(h, .inr (0, [.ref pA, .ref hX, .int (nI ((n + c1) % 4)), .long bc, .ref hV, .ref hI, .int (nI ((n + c1) / 4 % 16)), .ref hW])), (hV, .inl (dN, 8, .inl fv)), (hI, .inl (dN, 16, .inl fi)), (hW, .inl (dN, 68, .inl fw)), (hX, .inl (dB, 4, .inl fx)), (ht, .inl (dB, nt, .inl ft))] H → va_D A [(h, .inr (0, [.ref pA, .ref hX, .int (nI ((n + c1) % 4)), .long bc, .ref hV, .ref hI, .int (nI ((n + c1) / 4 % 16)), .ref hW])), (hV, .inl (dN, 8, .inl fv)), (hI, .inl (dN, 16, .inl fi)), (hW, .inl (dN, 68, .inl fw)), (hX, .inl (dB, 4, .inl fx)), (ht, .inl (dB, nt, .inl ft))] → va_S A s.heap H locs → lv_has ls 6 [(0, .ref h), (1, .ref ht), (2, .int (nI k)), (3, .int (nI c1))] → W p l e R s m av below meth c H locs cells slots Q (F0 m 133 ls [])) :
    ∀ (z i : Nat) (fv fi fw fx : Nat → Int32) (H : Heap) (locs : List Loc) (ls : Array Slot), i + z = c1 → (i = c1 ∨ (n + i) % 4 + z ≤ 3) → sm_Ab msg (n + i) fv fi fx → va_P D vwCl [(h, .inr (0, [.ref pA, .ref hX, .int (nI ((n + i) % 4)), .long bc, .ref hV, .ref hI, .int (nI ((n + i) / 4 % 16)), .ref hW])), (hV, .inl (dN, 8, .inl fv)), (hI, .inl (dN, 16, .inl fi)), (hW, .inl (dN, 68, .inl fw)), (hX, .inl (dB, 4, .inl fx)), (ht, .inl (dB, nt, .inl ft))] H → va_D A [(h, .inr (0, [.ref pA, .ref hX, .int (nI ((n + i) % 4)), .long bc, .ref hV, .ref hI, .int (nI ((n + i) / 4 % 16)), .ref hW])), (hV, .inl (dN, 8, .inl fv)), (hI, .inl (dN, 16, .inl fi)), (hW, .inl (dN, 68, .inl fw)), (hX, .inl (dB, 4, .inl fx)), (ht, .inl (dB, nt, .inl ft))] → va_S A s.heap H locs → lv_has ls 6 [(0, .ref h), (1, .ref ht), (2, .int (nI k)), (3, .int (nI c1)), (4, .int (nI i))] → W p l e R s m av below meth c H locs cells slots Q (F0 m 99 ls []) := by
  obtain ⟨hx, hb, hr, hlk, hml, hown, hts⟩ := cx
  intro z
  induction z with
  | zero =>
    intro i fv fi fw fx H locs ls hi hor hAb hP hD hS hl
    have hic : i = c1 := by omega
    subst hic
    refine lv_iload hx hb dX2_update_99 (lv_at hl 4 rfl) ?_
    refine lv_iload_n hx hb dX2_update_101 rfl (lv_at hl 3 rfl) ?_
    refine lv_icmp_ge (tgt := 133) hx hb dX2_update_102 (by decide) (fun _ => ?_) (fun hc => absurd (Int32.le_refl _) hc)
    exact kk fv fi fw fx H locs ls hAb hP hD hS (lv_sub hl [0, 1, 2, 3] rfl)
  | succ z ih =>
    intro i fv fi fw fx H locs ls hi hor hAb hP hD hS hl
    refine lv_iload hx hb dX2_update_99 (lv_at hl 4 rfl) ?_
    refine lv_iload_n hx hb dX2_update_101 rfl (lv_at hl 3 rfl) ?_
    refine lv_icmp_ge (tgt := 133) hx hb dX2_update_102 (by decide) (fun hc => absurd hc (nI_ge (show i < c1 by omega) (by omega))) (fun _ => ?_)
    refine lv_aload_n hx hb dX2_update_105 rfl (lv_at hl 0 rfl) ?_
    refine va_get (D := D) (ci := 0) (v := .ref hX) (C := RX3) (T := TX3) (N := 8) hx hb hts in_X3 hown hK hP 0 rfl rfl 1 (by decide) (hts _ q191) (fun _ h9 => h9) rfl dX2_update_106 ?_
    refine lv_aload_n hx hb dX2_update_109 rfl (lv_at hl 0 rfl) ?_
    refine lv_dup hx hb dX2_update_110 rfl ?_
    refine va_get (D := D) (ci := 0) (v := .int (nI ((n + i) % 4))) (C := RX3) (T := TX3) (N := 8) hx hb hts in_X3 hown hK hP 0 rfl rfl 2 (by decide) (hts _ q192) (fun _ h9 => h9) rfl dX2_update_111 ?_
    refine lv_dup_x1 hx hb dX2_update_114 rfl rfl ?_
    refine lv_iconst (v := (1 : Int32)) hx hb dX2_update_115 (by decide) ?_
    refine lv_iadd hx hb dX2_update_116 ?_
    refine lv_topi (fun y_ ey_ => ?_)
    have ey_ : y_ = nI ((n + i) % 4 + 1) := ey_.trans (nI_1 _)
    subst ey_
    refine va_put (D := D) (ci := 0) (v := .int (nI ((n + i) % 4 + 1))) (ty := .int) (C := RX3) (T := TX3) (N := 8) hx hb hts in_X3 tyX3 tyX3_ok nmX3 hown hK hP hD hS 0 rfl rfl 2 (by decide) (hts _ q192) (fun _ h9 => h9) rfl (by decide +kernel) rfl rfl (Nat.le_of_ble_eq_true rfl) dX2_update_117 (fun H locs hP hD hS => ?_)
    have hP : va_P D vwCl [(h, .inr (0, [.ref pA, .ref hX, .int (nI ((n + i) % 4 + 1)), .long bc, .ref hV, .ref hI, .int (nI ((n + i) / 4 % 16)), .ref hW])), (hV, .inl (dN, 8, .inl fv)), (hI, .inl (dN, 16, .inl fi)), (hW, .inl (dN, 68, .inl fw)), (hX, .inl (dB, 4, .inl fx)), (ht, .inl (dB, nt, .inl ft))] H := hP
    have hD : va_D A [(h, .inr (0, [.ref pA, .ref hX, .int (nI ((n + i) % 4 + 1)), .long bc, .ref hV, .ref hI, .int (nI ((n + i) / 4 % 16)), .ref hW])), (hV, .inl (dN, 8, .inl fv)), (hI, .inl (dN, 16, .inl fi)), (hW, .inl (dN, 68, .inl fw)), (hX, .inl (dB, 4, .inl fx)), (ht, .inl (dB, nt, .inl ft))] := hD
    refine lv_aload_n hx hb dX2_update_120 rfl (lv_at hl 1 rfl) ?_
    refine lv_iload_n hx hb dX2_update_121 rfl (lv_at hl 2 rfl) ?_
    refine lv_iload hx hb dX2_update_122 (lv_at hl 4 rfl) ?_
    refine lv_iinc (v := (nI (i + 1))) (lv' := [(4, .int (nI (i + 1))), (0, .ref h), (1, .ref ht), (2, .int (nI k)), (3, .int (nI c1))]) hx hb dX2_update_124 hl (k := 4) rfl (sm_i1 i) (by decide) rfl (fun ls hl => ?_)
    refine lv_iadd hx hb dX2_update_127 ?_
    refine lv_topi (fun y_ ey_ => ?_)
    have ey_ : y_ = nI (k + i) := ey_.trans (nI_add _ _)
    subst ey_
    refine sm_bld hx hb hK hP 5 0 rfl rfl (k + i) rfl (by omega) (by omega) dX2_update_128 ?_
    refine lv_topi (fun y_ ey_ => ?_)
    have ey_ : y_ = msg (n + i) := ey_.trans (hm i (by omega))
    subst ey_
    refine sm_bst hx hb hK hP hD hS 4 0 rfl rfl (msg (n + i)) ((n + i) % 4) rfl (by omega) (by decide) (hB _) dX2_update_129 (fun H locs hP hD hS => ?_)
    have hP : va_P D vwCl [(h, .inr (0, [.ref pA, .ref hX, .int (nI ((n + i) % 4 + 1)), .long bc, .ref hV, .ref hI, .int (nI ((n + i) / 4 % 16)), .ref hW])), (hV, .inl (dN, 8, .inl fv)), (hI, .inl (dN, 16, .inl fi)), (hW, .inl (dN, 68, .inl fw)), (hX, .inl (dB, 4, .inl (upd fx ((n + i) % 4) (msg (n + i))))), (ht, .inl (dB, nt, .inl ft))] H := hP
    have hD : va_D A [(h, .inr (0, [.ref pA, .ref hX, .int (nI ((n + i) % 4 + 1)), .long bc, .ref hV, .ref hI, .int (nI ((n + i) / 4 % 16)), .ref hW])), (hV, .inl (dN, 8, .inl fv)), (hI, .inl (dN, 16, .inl fi)), (hW, .inl (dN, 68, .inl fw)), (hX, .inl (dB, 4, .inl (upd fx ((n + i) % 4) (msg (n + i))))), (ht, .inl (dB, nt, .inl ft))] := hD
    refine lv_goto (tgt := 99) hx hb dX2_update_130 (by decide) ?_
    have hq : (n + i) % 4 < 3 := by omega
    rw [show nI ((n + i) % 4 + 1) = nI ((n + (i + 1)) % 4) by rw [show (n + (i + 1)) % 4 = (n + i) % 4 + 1 by omega]] at hP hD
    rw [show nI ((n + i) / 4 % 16) = nI ((n + (i + 1)) / 4 % 16) by rw [show (n + (i + 1)) / 4 = (n + i) / 4 by omega]] at hP hD
    exact ih (i + 1) _ _ _ _ _ _ ls (by omega) (Or.inr (by omega)) (sm_Ab_lt hAb hq) hP hD hS (lv_sub hl [1, 2, 3, 4, 0] rfl)
set_option maxHeartbeats 4000000 in
set_option maxRecDepth 100000 in
/-- update(in, off, len): len bytes of the message come in -/
theorem met_upn (l : Launch) (D : va_G) (dB dN : ClassId) (sz tA pA : Nat) (h hV hI hW hX : Nat) (fv fi fw fx : Nat → Int32) (msg : Nat → Int32) (n k c1 ht nt : Nat) (ft : Nat → Int32) (hk : k + c1 ≤ nt) (hn : nt < 2 ^ 30) (hm : ∀ j, j < c1 → ft (k + j) = msg (n + j)) (hB : sm_By msg) (hAb : sm_Ab msg n fv fi fx) : Met l yX2_update (ws_ yX2_update cX2_update 6 none) ({ frames := 3, cells := 0, slots := 0, locals := 82 }) (va_Pc [.ref h, .ref ht, .int (nI k), .int (nI c1)] (sm_pre D dB dN (sm_dg dB dN pA h hV hI hW hX fv fi fw fx (nI (n / 4 % 16)) (nI (n % 4)) (lN n) ++ [(ht, .inl (dB, nt, .inl ft))]) sz tA pA)) (sm_Qv D (fun w => ∃ gv gi gw gx : Nat → Int32, w = sm_dg dB dN pA h hV hI hW hX gv gi gw gx (nI ((n + c1) / 4 % 16)) (nI ((n + c1) % 4)) (lN (n + c1)) ++ [(ht, .inl (dB, nt, .inl ft))] ∧ sm_Ab msg (n + c1) gv gi gx) (va_A (sm_dg dB dN pA h hV hI hW hX fv fi fw fx (nI (n / 4 % 16)) (nI (n % 4)) (lN n) ++ [(ht, .inl (dB, nt, .inl ft))]) sz)) 0 0 (va_A (sm_dg dB dN pA h hV hI hW hX fv fi fw fx (nI (n / 4 % 16)) (nI (n % 4)) (lN n) ++ [(ht, .inl (dB, nt, .inl ft))]) sz) := by
  refine sm_met RX2 (sm_Qv D _) (by decide) rfl (Nat.le_of_ble_eq_true rfl) ?_
  intro p e s m below meth c ls A cx hnm hP hK hD hE hA hS hl
  obtain ⟨hx, hb, hr, hlk, hml, hown, hts⟩ := cx
  have hl : lv_has ls 6 [(0, .ref h), (1, .ref ht), (2, .int (nI k)), (3, .int (nI c1))] := hl
  have hP : va_P D vwCl [(h, .inr (0, [.ref pA, .ref hX, .int (nI (n % 4)), .long (lN n), .ref hV, .ref hI, .int (nI (n / 4 % 16)), .ref hW])), (hV, .inl (dN, 8, .inl fv)), (hI, .inl (dN, 16, .inl fi)), (hW, .inl (dN, 68, .inl fw)), (hX, .inl (dB, 4, .inl fx)), (ht, .inl (dB, nt, .inl ft))] s.heap := hP
  have hD : va_D A [(h, .inr (0, [.ref pA, .ref hX, .int (nI (n % 4)), .long (lN n), .ref hV, .ref hI, .int (nI (n / 4 % 16)), .ref hW])), (hV, .inl (dN, 8, .inl fv)), (hI, .inl (dN, 16, .inl fi)), (hW, .inl (dN, 68, .inl fw)), (hX, .inl (dB, 4, .inl fx)), (ht, .inl (dB, nt, .inl ft))] := hD
  refine lv_iconst (v := (0 : Int32)) hx hb dX2_update_0 (by decide) ?_
  refine lv_iload_n hx hb dX2_update_1 rfl (lv_at hl 3 rfl) ?_
  refine va_mmax hx hb (by rw [hml]; exact hl.1.symm) hown (hts _ q41) (hts _ q42) (hts _ q15) (hts _ q43) (Nat.le_of_ble_eq_true rfl) (Nat.le_of_ble_eq_true rfl) (Nat.le_of_ble_eq_true rfl) (Nat.le_of_ble_eq_true rfl) dX2_update_2 ?_
  refine lv_topi (fun y_ ey_ => ?_)
  have ey_ : y_ = nI c1 := ey_.trans (sm_max0 (by omega))
  subst ey_
  refine lv_istore_n (lv' := [(3, .int (nI c1)), (0, .ref h), (1, .ref ht), (2, .int (nI k))]) hx hb dX2_update_5 rfl hl (by decide) rfl (fun ls hl => ?_)
  refine lv_iconst (v := (0 : Int32)) hx hb dX2_update_6 (by decide) ?_
  refine lv_topi (fun y_ ey_ => ?_)
  have ey_ : y_ = nI 0 := ey_.trans rfl
  subst ey_
  refine lv_istore (lv' := [(4, .int (nI 0)), (3, .int (nI c1)), (0, .ref h), (1, .ref ht), (2, .int (nI k))]) hx hb dX2_update_7 hl (by decide) rfl (fun ls hl => ?_)
  refine lv_aload_n hx hb dX2_update_9 rfl (lv_at hl 2 rfl) ?_
  refine va_get (D := D) (ci := 0) (v := .int (nI (n % 4))) (C := RX3) (T := TX3) (N := 8) hx hb hts in_X3 hown hK hP 0 rfl rfl 2 (by decide) (hts _ q192) (fun _ h9 => h9) rfl dX2_update_10 ?_
  have behind : ∀ (i : Nat) (fv fi fw fx : Nat → Int32) (H : Heap) (locs : List Loc) (ls : Array Slot), i ≤ c1 → (i = c1 ∨ (n + i) % 4 = 0) → sm_Ab msg (n + i) fv fi fx → va_P D vwCl [(h, .inr (0, [.ref pA, .ref hX, .int (nI ((n + i) % 4)), .long (lN n), .ref hV, .ref hI, .int (nI ((n + i) / 4 % 16)), .ref hW])), (hV, .inl (dN, 8, .inl fv)), (hI, .inl (dN, 16, .inl fi)), (hW, .inl (dN, 68, .inl fw)), (hX, .inl (dB, 4, .inl fx)), (ht, .inl (dB, nt, .inl ft))] H → va_D A [(h, .inr (0, [.ref pA, .ref hX, .int (nI ((n + i) % 4)), .long (lN n), .ref hV, .ref hI, .int (nI ((n + i) / 4 % 16)), .ref hW])), (hV, .inl (dN, 8, .inl fv)), (hI, .inl (dN, 16, .inl fi)), (hW, .inl (dN, 68, .inl fw)), (hX, .inl (dB, 4, .inl fx)), (ht, .inl (dB, nt, .inl ft))] → va_S A s.heap H locs → lv_has ls 6 [(0, .ref h), (1, .ref ht), (2, .int (nI k)), (3, .int (nI c1)), (4, .int (nI i))] → W p l e (headSpec (ws_ yX2_update cX2_update 6 none) ({ frames := 3, cells := 0, slots := 0, locals := 82 })).room s m ([.ref h, .ref ht, .int (nI k), .int (nI c1)] : List Value).toArray below meth c H locs 0 0 (MQ below (sm_Qv D (fun w => ∃ gv gi gw gx : Nat → Int32, w = sm_dg dB dN pA h hV hI hW hX gv gi gw gx (nI ((n + c1) / 4 % 16)) (nI ((n + c1) % 4)) (lN (n + c1)) ++ [(ht, .inl (dB, nt, .inl ft))] ∧ sm_Ab msg (n + c1) gv gi gx) A) ([.ref h, .ref ht, .int (nI k), .int (nI c1)] : List Value).toArray s 0 0 A) (F0 m 72 ls []) := by
    intro i fv fi fw fx H locs ls hi hor hAb hP hD hS hl
    refine lv_iload_n hx hb dX2_update_72 rfl (lv_at hl 3 rfl) ?_
    refine lv_iconst (v := (3 : Int32)) hx hb dX2_update_73 (by decide) ?_
    refine lv_isub hx hb dX2_update_74 ?_
    refine lv_topi (fun lim elim => ?_)
    subst elim
    refine lv_istore (lv' := [(5, .int (nI c1 - (3 : Int32))), (0, .ref h), (1, .ref ht), (2, .int (nI k)), (3, .int (nI c1)), (4, .int (nI i))]) hx hb dX2_update_75 hl (by decide) rfl (fun ls hl => ?_)
    refine lp_ub hk hn hm hB ⟨hx, hb, hr, hlk, hml, hown, hts⟩ (Nat.le_of_ble_eq_true rfl) (Nat.le_of_ble_eq_true rfl) ⟨Nat.le_of_ble_eq_true rfl, Nat.le_of_ble_eq_true rfl⟩ hK hE hA (fun i fv fi fw fx H locs ls hi hor hle hAb hP hD hS hl => ?_) c1 i fv fi fw fx _ _ ls (by omega) hi hor hAb hP hD hS (lv_sub hl [1, 2, 3, 4, 5, 0] rfl)
    refine lp_uc (tA := tA) hk hn hm hB ⟨hx, hb, hr, hlk, hml, hown, hts⟩ hK (fun fv fi fw fx H locs ls hAb hP hD hS hl => ?_) (c1 - i) i fv fi fw fx _ _ ls (by omega) (by omega) hAb hP hD hS hl
    refine lv_aload_n hx hb dX2_update_133 rfl (lv_at hl 0 rfl) ?_
    refine lv_dup hx hb dX2_update_134 rfl ?_
    refine va_get (D := D) (ci := 0) (v := .long (lN n)) (C := RX3) (T := TX3) (N := 8) hx hb hts in_X3 hown hK hP 0 rfl rfl 3 (by decide) (hts _ q193) (fun _ h9 => h9) rfl dX2_update_135 ?_
    refine lv_iload_n hx hb dX2_update_138 rfl (lv_at hl 3 rfl) ?_
    refine lv_i2l hx hb dX2_update_139 rfl ?_
    refine lv_ladd hx hb dX2_update_140 ?_
    refine lv_topl (fun y_ ey_ => ?_)
    have ey_ : y_ = lN (n + c1) := ey_.trans (by rw [nI_l (by omega), lN_add])
    subst ey_
    refine va_put (D := D) (ci := 0) (v := .long (lN (n + c1))) (ty := .long) (C := RX3) (T := TX3) (N := 8) hx hb hts in_X3 tyX3 tyX3_ok nmX3 hown hK hP hD hS 0 rfl rfl 3 (by decide) (hts _ q193) (fun _ h9 => h9) rfl (by decide +kernel) rfl rfl (Nat.le_of_ble_eq_true rfl) dX2_update_141 (fun H locs hP hD hS => ?_)
    have hP : va_P D vwCl [(h, .inr (0, [.ref pA, .ref hX, .int (nI ((n + c1) % 4)), .long (lN (n + c1)), .ref hV, .ref hI, .int (nI ((n + c1) / 4 % 16)), .ref hW])), (hV, .inl (dN, 8, .inl fv)), (hI, .inl (dN, 16, .inl fi)), (hW, .inl (dN, 68, .inl fw)), (hX, .inl (dB, 4, .inl fx)), (ht, .inl (dB, nt, .inl ft))] H := hP
    have hD : va_D A [(h, .inr (0, [.ref pA, .ref hX, .int (nI ((n + c1) % 4)), .long (lN (n + c1)), .ref hV, .ref hI, .int (nI ((n + c1) / 4 % 16)), .ref hW])), (hV, .inl (dN, 8, .inl fv)), (hI, .inl (dN, 16, .inl fi)), (hW, .inl (dN, 68, .inl fw)), (hX, .inl (dB, 4, .inl fx)), (ht, .inl (dB, nt, .inl ft))] := hD
    exact W.vret hx hb hr (sm_endv _ ⟨fv, fi, fw, fx, rfl, hAb⟩ hP hD hS) hS.2.2 dX2_update_144 hlk
  refine lv_if_eq (tgt := 72) hx hb dX2_update_13 (by decide) (fun hc => ?_) (fun hc => ?_)
  · have hq : n % 4 = 0 := (nI_eq (a := n % 4) (b := 0) (by omega) (by decide)).mp hc
    exact behind 0 fv fi fw fx _ _ ls (Nat.zero_le _) (Or.inr hq) hAb hP hD hS (lv_sub hl [2, 3, 4, 1, 0] rfl)
  · exact lp_ua hk hn hm hB ⟨hx, hb, hr, hlk, hml, hown, hts⟩ (Nat.le_of_ble_eq_true rfl) (Nat.le_of_ble_eq_true rfl) ⟨Nat.le_of_ble_eq_true rfl, Nat.le_of_ble_eq_true rfl⟩ hK hE hA behind c1 0 fv fi fw fx _ _ ls (Nat.zero_add _) hAb hP hD hS (lv_sub hl [2, 3, 4, 1, 0] rfl)
end
section
/-! finish, reset, the constructors, doFinal -/
set_option maxRecDepth 100000
set_option maxHeartbeats 4000000 in
set_option maxRecDepth 100000 in
theorem lp_fi {p : Program} {l : Launch} {e : Env} {R : Room} {s : State} {m : MethodId} {av : Array Value} {below : List Frame} {meth : Method} {c : Code} {cells slots : Nat} {Q : State → Prop} {D : va_G} {dB dN : ClassId} {tA pA : Nat} {A : Nat → Prop} {h hV hI hW hX : Nat} {msg : Nat → Int32} {n : Nat} {bl : Int64} (cx : sm_Cx p s m meth c av cX2_finish 3 RX2 none) (hRf : 4 ≤ R.frames) (hRl : 103 ≤ R.locals) (hf : cells ≤ R.cells ∧ slots ≤ R.slots) (hK : va_K D vwCl (sm_ty dB dN) s) (hE : sm_E A tA pA s s.heap) (hA : ∀ q, s.heap.size ≤ q → A q)
    (kk : ∀ (m1 : Nat) (fv fi fw fx : Nat → Int32) (H : Heap) (locs : List Loc) (ls : Array Slot), m1 = 4 * (n / 4 + 1) → sm_Ab (sm_pm msg n) m1 fv fi fx → va_P D vwCl [(h, .inr (0, [.ref pA, .ref hX, .int (nI (m1 % 4)), .long (lN m1), .ref hV, .ref hI, .int (nI (m1 / 4 % 16)), .ref hW])), (hV, .inl (dN, 8, .inl fv)), (hI, .inl (dN, 16, .inl fi)), (hW, .inl (dN, 68, .inl fw)), (hX, .inl (dB, 4, .inl fx))] H → va_D A [(h, .inr (0, [.ref pA, .ref hX, .int (nI (m1 % 4)), .long (lN m1), .ref hV, .ref hI, .int (nI (m1 / 4 % 16)), .ref hW])), (hV, .inl (dN, 8, .inl fv)), (hI, .inl (dN, 16, .inl fi)), (hW, .inl (dN, 68, .inl fw)), (hX, .inl (dB, 4, .inl fx))] → va_S A s.heap H locs → lv_has ls 3 [(0, .ref h), (1, .long bl)] → W p l e R s m av below meth c H locs cells slots Q (F0 m 28 ls [])) :
    ∀ (z m1 : Nat) (fv fi fw fx : Nat → Int32) (H : Heap) (locs : List Loc) (ls : Array Slot), m1 + z = 4 * (n / 4 + 1) → n < m1 → sm_Ab (sm_pm msg n) m1 fv fi fx → va_P D vwCl [(h, .inr (0, [.ref pA, .ref hX, .int (nI (m1 % 4)), .long (lN m1), .ref hV, .ref hI, .int (nI (m1 / 4 % 16)), .ref hW])), (hV, .inl (dN, 8, .inl fv)), (hI, .inl (dN, 16, .inl fi)), (hW, .inl (dN, 68, .inl fw)), (hX, .inl (dB, 4, .inl fx))] H → va_D A [(h, .inr (0, [.ref pA, .ref hX, .int (nI (m1 % 4)), .long (lN m1), .ref hV, .ref hI, .int (nI (m1 / 4 % 16)), .ref hW])), (hV, .inl (dN, 8, .inl fv)), (hI, .inl (dN, 16, .inl fi)), (hW, .inl (dN, 68, .inl fw)), (hX, .inl (dB, 4, .inl fx))] → va_S A s.heap H locs → lv_has ls 3 [(0, .ref h), (1, .long bl)] → W p l e R s m av below meth c H locs cells slots Q (F0 m 13 ls []) := by
  obtain ⟨hx, hb, hr, hlk, hml, hown, hts⟩ := cx
  intro z
  induction z with
  | zero =>
    intro m1 fv fi fw fx H locs ls hz hlt hAb hP hD hS hl
    refine lv_aload_n hx hb dX2_finish_13 rfl (lv_at hl 0 rfl) ?_
    refine va_get (D := D) (ci := 0) (v := .int (nI (m1 % 4))) (C := RX3) (T := TX3) (N := 8) hx hb hts in_X3 hown hK hP 0 rfl rfl 2 (by decide) (hts _ q192) (fun _ h9 => h9) rfl dX2_finish_14 ?_
    refine lv_if_eq (tgt := 28) hx hb dX2_finish_17 (by decide) (fun _ => ?_) (fun hc => absurd (by rw [show m1 % 4 = 0 by omega]; rfl) hc)
    exact kk m1 fv fi fw fx H locs ls (by omega) hAb hP hD hS hl
  | succ z ih =>
    intro m1 fv fi fw fx H locs ls hz hlt hAb hP hD hS hl
    refine lv_aload_n hx hb dX2_finish_13 rfl (lv_at hl 0 rfl) ?_
    refine va_get (D := D) (ci := 0) (v := .int (nI (m1 % 4))) (C := RX3) (T := TX3) (N := 8) hx hb hts in_X3 hown hK hP 0 rfl rfl 2 (by decide) (hts _ q192) (fun _ h9 => h9) rfl dX2_finish_14 ?_
    refine lv_if_eq (tgt := 28) hx hb dX2_finish_17 (by decide) (fun hc => absurd hc (nI_ne0 (by omega) (by omega))) (fun _ => ?_)
    refine lv_aload_n hx hb dX2_finish_20 rfl (lv_at hl 0 rfl) ?_
    refine lv_iconst (v := (0 : Int32)) hx hb dX2_finish_21 (by decide) ?_
    have hPc := hP.sub (ws' := [(h, .inr (0, [.ref pA, .ref hX, .int (nI (m1 % 4)), .long (lN m1), .ref hV, .ref hI, .int (nI (m1 / 4 % 16)), .ref hW])), (hV, .inl (dN, 8, .inl fv)), (hI, .inl (dN, 16, .inl fi)), (hW, .inl (dN, 68, .inl fw)), (hX, .inl (dB, 4, .inl fx))]) [0, 1, 2, 3, 4] rfl
    have hDc := hD.sub (ws' := [(h, .inr (0, [.ref pA, .ref hX, .int (nI (m1 % 4)), .long (lN m1), .ref hV, .ref hI, .int (nI (m1 / 4 % 16)), .ref hW])), (hV, .inl (dN, 8, .inl fv)), (hI, .inl (dN, 16, .inl fi)), (hW, .inl (dN, 68, .inl fw)), (hX, .inl (dB, 4, .inl fx))]) [0, 1, 2, 3, 4] (by decide) rfl
    have hFc := va_free (wc := [(h, .inr (0, [.ref pA, .ref hX, .int (nI (m1 % 4)), .long (lN m1), .ref hV, .ref hI, .int (nI (m1 / 4 % 16)), .ref hW])), (hV, .inl (dN, 8, .inl fv)), (hI, .inl (dN, 16, .inl fi)), (hW, .inl (dN, 68, .inl fw)), (hX, .inl (dB, 4, .inl fx))]) hD hS hA [0, 1, 2, 3, 4] rfl
    refine sm_backv (wr := []) (va_runU (As := [.int (0 : Int32)]) (rest := []) ⟨hx, hb, hml, hown, hts⟩ (met_up1 l D dB dN H.size tA pA h hV hI hW hX fv fi fw fx (sm_pm msg n) m1 0 (sm_pm_gt hlt).symm rfl hAb) (va_cwU (C := RX3) (owner := RX2) (x := yX2_update_2) 1 hts (sm_gU q116 q256 q257 q94 q11 q96) rfl rfl rfl rfl (by decide +kernel) ⟨hRf, Nat.le_trans (Nat.le_of_ble_eq_true rfl) hRl⟩) ⟨sm_blind, va_recv hK hP (ci := 0) (q0 := 0) rfl rfl, sm_go hK hPc hDc hE hS hFc _⟩ rfl rfl hl.1 rfl (lv_room (Nat.le_of_ble_eq_true rfl)) dX2_finish_22 hf) hP hD hS hFc [0, 1, 2, 3, 4] [] rfl rfl (by decide) (by decide) (fun w1 H locs hw hP hD hS => ?_)
    obtain ⟨gv, gi, gw, gx, rfl, hAb⟩ := hw
    have hP : va_P D vwCl [(h, .inr (0, [.ref pA, .ref hX, .int (nI ((m1 + 1) % 4)), .long (lN (m1 + 1)), .ref hV, .ref hI, .int (nI ((m1 + 1) / 4 % 16)), .ref hW])), (hV, .inl (dN, 8, .inl gv)), (hI, .inl (dN, 16, .inl gi)), (hW, .inl (dN, 68, .inl gw)), (hX, .inl (dB, 4, .inl gx))] H := hP.sub [0, 1, 2, 3, 4] rfl
    have hD : va_D A [(h, .inr (0, [.ref pA, .ref hX, .int (nI ((m1 + 1) % 4)), .long (lN (m1 + 1)), .ref hV, .ref hI, .int (nI ((m1 + 1) / 4 % 16)), .ref hW])), (hV, .inl (dN, 8, .inl gv)), (hI, .inl (dN, 16, .inl gi)), (hW, .inl (dN, 68, .inl gw)), (hX, .inl (dB, 4, .inl gx))] := hD.sub [0, 1, 2, 3, 4] (by decide) rfl
    refine lv_goto (tgt := 13) hx hb dX2_finish_25 (by decide) ?_
    exact ih (m1 + 1) gv gi gw gx H locs ls (by omega) (by omega) hAb hP hD hS hl
set_option maxHeartbeats 4000000 in
set_option maxRecDepth 100000 in
/-- finish(): V is the digest of the n bytes -/
theorem met_fin (l : Launch) (D : va_G) (dB dN : ClassId) (sz tA pA : Nat) (h hV hI hW hX : Nat) (fv fi fw fx : Nat → Int32) (msg : Nat → Int32) (n : Nat) (hAb : sm_Ab msg n fv fi fx) : Met l yX2_finish (ws_ yX2_finish cX2_finish 3 none) ({ frames := 4, cells := 0, slots := 0, locals := 103 }) (va_Pc [.ref h] (sm_pre D dB dN (sm_dg dB dN pA h hV hI hW hX fv fi fw fx (nI (n / 4 % 16)) (nI (n % 4)) (lN n)) sz tA pA)) (sm_Qv D (fun w => ∃ (gv gi gw gx : Nat → Int32) (xo bo : Int32) (bc : Int64), w = sm_dg dB dN pA h hV hI hW hX gv gi gw gx xo bo bc ∧ ∀ j, j < 8 → gv j = sm_F msg n j) (va_A (sm_dg dB dN pA h hV hI hW hX fv fi fw fx (nI (n / 4 % 16)) (nI (n % 4)) (lN n)) sz)) 0 0 (va_A (sm_dg dB dN pA h hV hI hW hX fv fi fw fx (nI (n / 4 % 16)) (nI (n % 4)) (lN n)) sz) := by
  refine sm_met RX2 (sm_Qv D _) (by decide) rfl (Nat.le_of_ble_eq_true rfl) ?_
  intro p e s m below meth c ls A cx hnm hP hK hD hE hA hS hl
  obtain ⟨hx, hb, hr, hlk, hml, hown, hts⟩ := cx
  have hl : lv_has ls 3 [(0, .ref h)] := hl
  have hP : va_P D vwCl [(h, .inr (0, [.ref pA, .ref hX, .int (nI (n % 4)), .long (lN n), .ref hV, .ref hI, .int (nI (n / 4 % 16)), .ref hW])), (hV, .inl (dN, 8, .inl fv)), (hI, .inl (dN, 16, .inl fi)), (hW, .inl (dN, 68, .inl fw)), (hX, .inl (dB, 4, .inl fx))] s.heap := hP
  have hD : va_D A [(h, .inr (0, [.ref pA, .ref hX, .int (nI (n % 4)), .long (lN n), .ref hV, .ref hI, .int (nI (n / 4 % 16)), .ref hW])), (hV, .inl (dN, 8, .inl fv)), (hI, .inl (dN, 16, .inl fi)), (hW, .inl (dN, 68, .inl fw)), (hX, .inl (dB, 4, .inl fx))] := hD
  refine lv_aload_n hx hb dX2_finish_0 rfl (lv_at hl 0 rfl) ?_
  refine va_get (D := D) (ci := 0) (v := .long (lN n)) (C := RX3) (T := TX3) (N := 8) hx hb hts in_X3 hown hK hP 0 rfl rfl 3 (by decide) (hts _ q193) (fun _ h9 => h9) rfl dX2_finish_1 ?_
  refine lv_iconst (v := (3 : Int32)) hx hb dX2_finish_4 (by decide) ?_
  refine lv_lshl hx hb dX2_finish_5 rfl ?_
  refine lv_topl (fun bl ebl => ?_)
  refine lv_lstore_n (lv' := [(1, .long bl), (0, .ref h)]) hx hb dX2_finish_6 rfl hl (by decide) rfl (fun ls hl => ?_)
  refine lv_aload_n hx hb dX2_finish_7 rfl (lv_at hl 1 rfl) ?_
  refine lv_bipush (v := (-128 : Int32)) hx hb dX2_finish_8 (by decide) ?_
  have hPc := hP.sub (ws' := [(h, .inr (0, [.ref pA, .ref hX, .int (nI (n % 4)), .long (lN n), .ref hV, .ref hI, .int (nI (n / 4 % 16)), .ref hW])), (hV, .inl (dN, 8, .inl fv)), (hI, .inl (dN, 16, .inl fi)), (hW, .inl (dN, 68, .inl fw)), (hX, .inl (dB, 4, .inl fx))]) [0, 1, 2, 3, 4] rfl
  have hDc := hD.sub (ws' := [(h, .inr (0, [.ref pA, .ref hX, .int (nI (n % 4)), .long (lN n), .ref hV, .ref hI, .int (nI (n / 4 % 16)), .ref hW])), (hV, .inl (dN, 8, .inl fv)), (hI, .inl (dN, 16, .inl fi)), (hW, .inl (dN, 68, .inl fw)), (hX, .inl (dB, 4, .inl fx))]) [0, 1, 2, 3, 4] (by decide) rfl
  have hFc := va_free (wc := [(h, .inr (0, [.ref pA, .ref hX, .int (nI (n % 4)), .long (lN n), .ref hV, .ref hI, .int (nI (n / 4 % 16)), .ref hW])), (hV, .inl (dN, 8, .inl fv)), (hI, .inl (dN, 16, .inl fi)), (hW, .inl (dN, 68, .inl fw)), (hX, .inl (dB, 4, .inl fx))]) hD hS hA [0, 1, 2, 3, 4] rfl
  refine sm_backv (wr := []) (va_runU (As := [.int (-128 : Int32)]) (rest := []) ⟨hx, hb, hml, hown, hts⟩ (met_up1 l D dB dN s.heap.size tA pA h hV hI hW hX fv fi fw fx (sm_pm msg n) n (-128) (sm_pm_n msg n).symm rfl (sm_Ab_c (fun j hj => (sm_pm_lt hj).symm) hAb)) (va_cwU (C := RX3) (owner := RX2) (x := yX2_update_2) 1 hts (sm_gU q116 q256 q257 q94 q11 q96) rfl rfl rfl rfl (by decide +kernel) ⟨Nat.le_of_ble_eq_true rfl, Nat.le_of_ble_eq_true rfl⟩) ⟨sm_blind, va_recv hK hP (ci := 0) (q0 := 0) rfl rfl, sm_go hK hPc hDc hE hS hFc _⟩ rfl rfl hl.1 rfl (lv_room (Nat.le_of_ble_eq_true rfl)) dX2_finish_10 ⟨Nat.le_of_ble_eq_true rfl, Nat.le_of_ble_eq_true rfl⟩) hP hD hS hFc [0, 1, 2, 3, 4] [] rfl rfl (by decide) (by decide) (fun w1 H locs hw hP hD hS => ?_)
  obtain ⟨gv, gi, gw, gx, rfl, hAb⟩ := hw
  have hP : va_P D vwCl [(h, .inr (0, [.ref pA, .ref hX, .int (nI ((n + 1) % 4)), .long (lN (n + 1)), .ref hV, .ref hI, .int (nI ((n + 1) / 4 % 16)), .ref hW])), (hV, .inl (dN, 8, .inl gv)), (hI, .inl (dN, 16, .inl gi)), (hW, .inl (dN, 68, .inl gw)), (hX, .inl (dB, 4, .inl gx))] H := hP.sub [0, 1, 2, 3, 4] rfl
  have hD : va_D A [(h, .inr (0, [.ref pA, .ref hX, .int (nI ((n + 1) % 4)), .long (lN (n + 1)), .ref hV, .ref hI, .int (nI ((n + 1) / 4 % 16)), .ref hW])), (hV, .inl (dN, 8, .inl gv)), (hI, .inl (dN, 16, .inl gi)), (hW, .inl (dN, 68, .inl gw)), (hX, .inl (dB, 4, .inl gx))] := hD.sub [0, 1, 2, 3, 4] (by decide) rfl
  refine lp_fi (msg := msg) (n := n) ⟨hx, hb, hr, hlk, hml, hown, hts⟩ (Nat.le_of_ble_eq_true rfl) (Nat.le_of_ble_eq_true rfl) ⟨Nat.le_of_ble_eq_true rfl, Nat.le_of_ble_eq_true rfl⟩ hK hE hA (fun m1 fv fi fw fx H locs ls hm hAb hP hD hS hl => ?_) (4 * (n / 4 + 1) - (n + 1)) (n + 1) gv gi gw gx H locs ls (by omega) (by omega) hAb hP hD hS (lv_sub hl [1, 0] rfl)
  subst hm
  have e4 : 4 * (n / 4 + 1) / 4 = n / 4 + 1 := by omega
  have hAW := hAb.1
  rw [e4] at hAW hP hD
  refine lv_aload_n hx hb dX2_finish_28 rfl (lv_at hl 0 rfl) ?_
  refine lv_lload_n hx hb dX2_finish_29 rfl (lv_at hl 1 rfl) ?_
  have hPc := hP.sub (ws' := [(h, .inr (0, [.ref pA, .ref hX, .int (nI (4 * (n / 4 + 1) % 4)), .long (lN (4 * (n / 4 + 1))), .ref hV, .ref hI, .int (nI ((n / 4 + 1) % 16)), .ref hW])), (hV, .inl (dN, 8, .inl fv)), (hI, .inl (dN, 16, .inl fi)), (hW, .inl (dN, 68, .inl fw)), (hX, .inl (dB, 4, .inl fx))]) [0, 1, 2, 3, 4] rfl
  have hDc := hD.sub (ws' := [(h, .inr (0, [.ref pA, .ref hX, .int (nI (4 * (n / 4 + 1) % 4)), .long (lN (4 * (n / 4 + 1))), .ref hV, .ref hI, .int (nI ((n / 4 + 1) % 16)), .ref hW])), (hV, .inl (dN, 8, .inl fv)), (hI, .inl (dN, 16, .inl fi)), (hW, .inl (dN, 68, .inl fw)), (hX, .inl (dB, 4, .inl fx))]) [0, 1, 2, 3, 4] (by decide) rfl
  have hFc := va_free (wc := [(h, .inr (0, [.ref pA, .ref hX, .int (nI (4 * (n / 4 + 1) % 4)), .long (lN (4 * (n / 4 + 1))), .ref hV, .ref hI, .int (nI ((n / 4 + 1) % 16)), .ref hW])), (hV, .inl (dN, 8, .inl fv)), (hI, .inl (dN, 16, .inl fi)), (hW, .inl (dN, 68, .inl fw)), (hX, .inl (dB, 4, .inl fx))]) hD hS hA [0, 1, 2, 3, 4] rfl
  refine sm_backv (wr := []) (va_runU (As := [.long bl]) (rest := []) ⟨hx, hb, hml, hown, hts⟩ (met_pl l D dB dN H.size tA pA h hV hI hW hX fv fi fw fx (nI (4 * (n / 4 + 1) % 4)) (lN (4 * (n / 4 + 1))) bl (sm_pm msg n) (n / 4 + 1) hAW) (va_cwA (C := RX3) (owner := RX2) (x := sm_dL) 1 hts (sm_gU q117 q119 q120 q121 q12 q122) rfl rfl rfl hE.2.2.2.2.1 (by decide +kernel) ⟨Nat.le_of_ble_eq_true rfl, Nat.le_of_ble_eq_true rfl⟩) ⟨sm_blind, va_recv hK hP (ci := 0) (q0 := 0) rfl rfl, sm_go hK hPc hDc hE hS hFc _⟩ rfl rfl hl.1 rfl (lv_room (Nat.le_of_ble_eq_true rfl)) dX2_finish_30 ⟨Nat.le_of_ble_eq_true rfl, Nat.le_of_ble_eq_true rfl⟩) hP hD hS hFc [0, 1, 2, 3, 4] [] rfl rfl (by decide) (by decide) (fun w1 H locs hw hP hD hS => ?_)
  obtain ⟨gv, gi, gw, rfl, hg1, hg2⟩ := hw
  have hP : va_P D vwCl [(h, .inr (0, [.ref pA, .ref hX, .int (nI (4 * (n / 4 + 1) % 4)), .long (lN (4 * (n / 4 + 1))), .ref hV, .ref hI, .int 16, .ref hW])), (hV, .inl (dN, 8, .inl gv)), (hI, .inl (dN, 16, .inl gi)), (hW, .inl (dN, 68, .inl gw)), (hX, .inl (dB, 4, .inl fx))] H := hP.sub [0, 1, 2, 3, 4] rfl
  have hD : va_D A [(h, .inr (0, [.ref pA, .ref hX, .int (nI (4 * (n / 4 + 1) % 4)), .long (lN (4 * (n / 4 + 1))), .ref hV, .ref hI, .int 16, .ref hW])), (hV, .inl (dN, 8, .inl gv)), (hI, .inl (dN, 16, .inl gi)), (hW, .inl (dN, 68, .inl gw)), (hX, .inl (dB, 4, .inl fx))] := hD.sub [0, 1, 2, 3, 4] (by decide) rfl
  refine lv_aload_n hx hb dX2_finish_33 rfl (lv_at hl 0 rfl) ?_
  have hPc := hP.sub (ws' := [(h, .inr (0, [.ref pA, .ref hX, .int (nI (4 * (n / 4 + 1) % 4)), .long (lN (4 * (n / 4 + 1))), .ref hV, .ref hI, .int 16, .ref hW])), (hV, .inl (dN, 8, .inl gv)), (hI, .inl (dN, 16, .inl gi)), (hW, .inl (dN, 68, .inl gw)), (hX, .inl (dB, 4, .inl fx))]) [0, 1, 2, 3, 4] rfl
  have hDc := hD.sub (ws' := [(h, .inr (0, [.ref pA, .ref hX, .int (nI (4 * (n / 4 + 1) % 4)), .long (lN (4 * (n / 4 + 1))), .ref hV, .ref hI, .int 16, .ref hW])), (hV, .inl (dN, 8, .inl gv)), (hI, .inl (dN, 16, .inl gi)), (hW, .inl (dN, 68, .inl gw)), (hX, .inl (dB, 4, .inl fx))]) [0, 1, 2, 3, 4] (by decide) rfl
  have hFc := va_free (wc := [(h, .inr (0, [.ref pA, .ref hX, .int (nI (4 * (n / 4 + 1) % 4)), .long (lN (4 * (n / 4 + 1))), .ref hV, .ref hI, .int 16, .ref hW])), (hV, .inl (dN, 8, .inl gv)), (hI, .inl (dN, 16, .inl gi)), (hW, .inl (dN, 68, .inl gw)), (hX, .inl (dB, 4, .inl fx))]) hD hS hA [0, 1, 2, 3, 4] rfl
  refine sm_backv (wr := []) (va_runU (As := []) (rest := []) ⟨hx, hb, hml, hown, hts⟩ (met_pb l D dB dN H.size tA pA h hV hI hW hX gv gi gw fx 16 (nI (4 * (n / 4 + 1) % 4)) (lN (4 * (n / 4 + 1)))) (va_cwA (C := RX3) (owner := RX2) (x := sm_dB) 0 hts (sm_gU q123 q125 q126 q54 q12 q56) rfl rfl rfl hE.2.2.2.2.2.1 (by decide +kernel) ⟨Nat.le_of_ble_eq_true rfl, Nat.le_of_ble_eq_true rfl⟩) ⟨sm_blind, va_recv hK hP (ci := 0) (q0 := 0) rfl rfl, sm_go hK hPc hDc hE hS hFc _⟩ rfl rfl hl.1 rfl (lv_room (Nat.le_of_ble_eq_true rfl)) dX2_finish_34 ⟨Nat.le_of_ble_eq_true rfl, Nat.le_of_ble_eq_true rfl⟩) hP hD hS hFc [0, 1, 2, 3, 4] [] rfl rfl (by decide) (by decide) (fun w1 H locs hw hP hD hS => ?_)
  obtain ⟨kv, kw, rfl, hg⟩ := hw
  have hP : va_P D vwCl [(h, .inr (0, [.ref pA, .ref hX, .int (nI (4 * (n / 4 + 1) % 4)), .long (lN (4 * (n / 4 + 1))), .ref hV, .ref hI, .int 0, .ref hW])), (hV, .inl (dN, 8, .inl kv)), (hI, .inl (dN, 16, .inl gi)), (hW, .inl (dN, 68, .inl kw)), (hX, .inl (dB, 4, .inl fx))] H := hP.sub [0, 1, 2, 3, 4] rfl
  have hD : va_D A [(h, .inr (0, [.ref pA, .ref hX, .int (nI (4 * (n / 4 + 1) % 4)), .long (lN (4 * (n / 4 + 1))), .ref hV, .ref hI, .int 0, .ref hW])), (hV, .inl (dN, 8, .inl kv)), (hI, .inl (dN, 16, .inl gi)), (hW, .inl (dN, 68, .inl kw)), (hX, .inl (dB, 4, .inl fx))] := hD.sub [0, 1, 2, 3, 4] (by decide) rfl
  subst ebl
  exact W.vret hx hb hr (sm_endv _ ⟨kv, _, _, _, _, _, _, rfl, fun j hj => (hg j hj).trans (sm_cmp_c hg1 hg2 j hj)⟩ hP hD hS) hS.2.2 dX2_finish_37 hlk
set_option maxHeartbeats 4000000 in
set_option maxRecDepth 100000 in
theorem lp_gr {p : Program} {l : Launch} {e : Env} {R : Room} {s : State} {m : MethodId} {av : Array Value} {below : List Frame} {meth : Method} {c : Code} {cells slots : Nat} {Q : State → Prop} {D : va_G} {dB dN : ClassId} {tA pA : Nat} {A : Nat → Prop} {h hV hI hW hX : Nat} {fv fi fw : Nat → Int32} {xo : Int32} (cx : sm_Cx p s m meth c av cX2_reset 2 RX2 none) (hK : va_K D vwCl (sm_ty dB dN) s)
    (kk : ∀ (fx : Nat → Int32) (H : Heap) (locs : List Loc) (ls : Array Slot), va_P D vwCl [(h, .inr (0, [.ref pA, .ref hX, .int (0 : Int32), .long (0 : Int64), .ref hV, .ref hI, .int xo, .ref hW])), (hV, .inl (dN, 8, .inl fv)), (hI, .inl (dN, 16, .inl fi)), (hW, .inl (dN, 68, .inl fw)), (hX, .inl (dB, 4, .inl fx))] H → va_D A [(h, .inr (0, [.ref pA, .ref hX, .int (0 : Int32), .long (0 : Int64), .ref hV, .ref hI, .int xo, .ref hW])), (hV, .inl (dN, 8, .inl fv)), (hI, .inl (dN, 16, .inl fi)), (hW, .inl (dN, 68, .inl fw)), (hX, .inl (dB, 4, .inl fx))] → va_S A s.heap H locs → W p l e R s m av below meth c H locs cells slots Q (F0 m 34 ls [])) :
    ∀ (z i : Nat) (fx : Nat → Int32) (H : Heap) (locs : List Loc) (ls : Array Slot), i + z = 4 → va_P D vwCl [(h, .inr (0, [.ref pA, .ref hX, .int (0 : Int32), .long (0 : Int64), .ref hV, .ref hI, .int xo, .ref hW])), (hV, .inl (dN, 8, .inl fv)), (hI, .inl (dN, 16, .inl fi)), (hW, .inl (dN, 68, .inl fw)), (hX, .inl (dB, 4, .inl fx))] H → va_D A [(h, .inr (0, [.ref pA, .ref hX, .int (0 : Int32), .long (0 : Int64), .ref hV, .ref hI, .int xo, .ref hW])), (hV, .inl (dN, 8, .inl fv)), (hI, .inl (dN, 16, .inl fi)), (hW, .inl (dN, 68, .inl fw)), (hX, .inl (dB, 4, .inl fx))] → va_S A s.heap H locs → lv_has ls 2 [(0, .ref h), (1, .int (nI i))] → W p l e R s m av below meth c H locs cells slots Q (F0 m 12 ls []) := by
  obtain ⟨hx, hb, hr, hlk, hml, hown, hts⟩ := cx
  intro z
  induction z with
  | zero =>
    intro i fx H locs ls hz hP hD hS hl
    have hi4 : i = 4 := by omega
    subst hi4
    refine lv_iload_n hx hb dX2_reset_12 rfl (lv_at hl 1 rfl) ?_
    refine lv_aload_n hx hb dX2_reset_13 rfl (lv_at hl 0 rfl) ?_
    refine va_get (D := D) (ci := 0) (v := .ref hX) (C := RX3) (T := TX3) (N := 8) hx hb hts in_X3 hown hK hP 0 rfl rfl 1 (by decide) (hts _ q191) (fun _ h9 => h9) rfl dX2_reset_14 ?_
    refine va_alen (v := nI 4) hx hb hK hP 4 0 rfl rfl rfl dX2_reset_17 ?_
    refine lv_icmp_ge (tgt := 34) hx hb dX2_reset_18 (by decide) (fun _ => ?_) (fun hc => absurd (Int32.le_refl _) hc)
    exact kk fx H locs ls hP hD hS
  | succ z ih =>
    intro i fx H locs ls hz hP hD hS hl
    refine lv_iload_n hx hb dX2_reset_12 rfl (lv_at hl 1 rfl) ?_
    refine lv_aload_n hx hb dX2_reset_13 rfl (lv_at hl 0 rfl) ?_
    refine va_get (D := D) (ci := 0) (v := .ref hX) (C := RX3) (T := TX3) (N := 8) hx hb hts in_X3 hown hK hP 0 rfl rfl 1 (by decide) (hts _ q191) (fun _ h9 => h9) rfl dX2_reset_14 ?_
    refine va_alen (v := nI 4) hx hb hK hP 4 0 rfl rfl rfl dX2_reset_17 ?_
    refine lv_icmp_ge (tgt := 34) hx hb dX2_reset_18 (by decide) (fun hc => absurd hc (nI_ge (show i < 4 by omega) (by decide))) (fun _ => ?_)
    refine lv_aload_n hx hb dX2_reset_21 rfl (lv_at hl 0 rfl) ?_
    refine va_get (D := D) (ci := 0) (v := .ref hX) (C := RX3) (T := TX3) (N := 8) hx hb hts in_X3 hown hK hP 0 rfl rfl 1 (by decide) (hts _ q191) (fun _ h9 => h9) rfl dX2_reset_22 ?_
    refine lv_iload_n hx hb dX2_reset_25 rfl (lv_at hl 1 rfl) ?_
    refine lv_iconst (v := (0 : Int32)) hx hb dX2_reset_26 (by decide) ?_
    refine sm_bst hx hb hK hP hD hS 4 0 rfl rfl 0 i rfl (by omega) (by decide) rfl dX2_reset_27 (fun H locs hP hD hS => ?_)
    have hP : va_P D vwCl [(h, .inr (0, [.ref pA, .ref hX, .int (0 : Int32), .long (0 : Int64), .ref hV, .ref hI, .int xo, .ref hW])), (hV, .inl (dN, 8, .inl fv)), (hI, .inl (dN, 16, .inl fi)), (hW, .inl (dN, 68, .inl fw)), (hX, .inl (dB, 4, .inl (upd fx i 0)))] H := hP
    have hD : va_D A [(h, .inr (0, [.ref pA, .ref hX, .int (0 : Int32), .long (0 : Int64), .ref hV, .ref hI, .int xo, .ref hW])), (hV, .inl (dN, 8, .inl fv)), (hI, .inl (dN, 16, .inl fi)), (hW, .inl (dN, 68, .inl fw)), (hX, .inl (dB, 4, .inl (upd fx i 0)))] := hD
    refine lv_iinc (v := (nI (i + 1))) (lv' := [(1, .int (nI (i + 1))), (0, .ref h)]) hx hb dX2_reset_28 hl (k := 1) rfl (sm_i1 i) (by decide) rfl (fun ls hl => ?_)
    refine lv_goto (tgt := 12) hx hb dX2_reset_31 (by decide) ?_
    exact ih (i + 1) _ H locs ls (by omega) hP hD hS (lv_sub hl [1, 0] rfl)
set_option maxHeartbeats 4000000 in
set_option maxRecDepth 100000 in
/-- GeneralDigest.reset() -/
theorem met_gr (l : Launch) (D : va_G) (dB dN : ClassId) (sz tA pA : Nat) (h hV hI hW hX : Nat) (fv fi fw fx : Nat → Int32) (xo bo : Int32) (bc : Int64) : Met l yX2_reset (ws_ yX2_reset cX2_reset 2 none) ({ frames := 0, cells := 0, slots := 0, locals := 0 }) (va_Pc [.ref h] (sm_pre D dB dN (sm_dg dB dN pA h hV hI hW hX fv fi fw fx xo bo bc) sz tA pA)) (sm_Qv D (fun w => ∃ gx : Nat → Int32, w = sm_dg dB dN pA h hV hI hW hX fv fi fw gx xo 0 0) (va_A (sm_dg dB dN pA h hV hI hW hX fv fi fw fx xo bo bc) sz)) 0 0 (va_A (sm_dg dB dN pA h hV hI hW hX fv fi fw fx xo bo bc) sz) := by
  refine sm_met RX2 (sm_Qv D _) (by decide) rfl (Nat.le_of_ble_eq_true rfl) ?_
  intro p e s m below meth c ls A cx hnm hP hK hD hE hA hS hl
  obtain ⟨hx, hb, hr, hlk, hml, hown, hts⟩ := cx
  have hl : lv_has ls 2 [(0, .ref h)] := hl
  have hP : va_P D vwCl [(h, .inr (0, [.ref pA, .ref hX, .int bo, .long bc, .ref hV, .ref hI, .int xo, .ref hW])), (hV, .inl (dN, 8, .inl fv)), (hI, .inl (dN, 16, .inl fi)), (hW, .inl (dN, 68, .inl fw)), (hX, .inl (dB, 4, .inl fx))] s.heap := hP
  have hD : va_D A [(h, .inr (0, [.ref pA, .ref hX, .int bo, .long bc, .ref hV, .ref hI, .int xo, .ref hW])), (hV, .inl (dN, 8, .inl fv)), (hI, .inl (dN, 16, .inl fi)), (hW, .inl (dN, 68, .inl fw)), (hX, .inl (dB, 4, .inl fx))] := hD
  refine lv_aload_n hx hb dX2_reset_0 rfl (lv_at hl 0 rfl) ?_
  refine lv_lconst (v := 0) hx hb dX2_reset_1 (by decide) ?_
  refine va_put (D := D) (ci := 0) (v := .long (0 : Int64)) (ty := .long) (C := RX3) (T := TX3) (N := 8) hx hb hts in_X3 tyX3 tyX3_ok nmX3 hown hK hP hD hS 0 rfl rfl 3 (by decide) (hts _ q193) (fun _ h9 => h9) rfl (by decide +kernel) rfl rfl (Nat.le_of_ble_eq_true rfl) dX2_reset_2 (fun H locs hP hD hS => ?_)
  have hP : va_P D vwCl [(h, .inr (0, [.ref pA, .ref hX, .int bo, .long (0 : Int64), .ref hV, .ref hI, .int xo, .ref hW])), (hV, .inl (dN, 8, .inl fv)), (hI, .inl (dN, 16, .inl fi)), (hW, .inl (dN, 68, .inl fw)), (hX, .inl (dB, 4, .inl fx))] H := hP
  have hD : va_D A [(h, .inr (0, [.ref pA, .ref hX, .int bo, .long (0 : Int64), .ref hV, .ref hI, .int xo, .ref hW])), (hV, .inl (dN, 8, .inl fv)), (hI, .inl (dN, 16, .inl fi)), (hW, .inl (dN, 68, .inl fw)), (hX, .inl (dB, 4, .inl fx))] := hD
  refine lv_aload_n hx hb dX2_reset_5 rfl (lv_at hl 0 rfl) ?_
  refine lv_iconst (v := (0 : Int32)) hx hb dX2_reset_6 (by decide) ?_
  refine va_put (D := D) (ci := 0) (v := .int (0 : Int32)) (ty := .int) (C := RX3) (T := TX3) (N := 8) hx hb hts in_X3 tyX3 tyX3_ok nmX3 hown hK hP hD hS 0 rfl rfl 2 (by decide) (hts _ q192) (fun _ h9 => h9) rfl (by decide +kernel) rfl rfl (Nat.le_of_ble_eq_true rfl) dX2_reset_7 (fun H locs hP hD hS => ?_)
  have hP : va_P D vwCl [(h, .inr (0, [.ref pA, .ref hX, .int (0 : Int32), .long (0 : Int64), .ref hV, .ref hI, .int xo, .ref hW])), (hV, .inl (dN, 8, .inl fv)), (hI, .inl (dN, 16, .inl fi)), (hW, .inl (dN, 68, .inl fw)), (hX, .inl (dB, 4, .inl fx))] H := hP
  have hD : va_D A [(h, .inr (0, [.ref pA, .ref hX, .int (0 : Int32), .long (0 : Int64), .ref hV, .ref hI, .int xo, .ref hW])), (hV, .inl (dN, 8, .inl fv)), (hI, .inl (dN, 16, .inl fi)), (hW, .inl (dN, 68, .inl fw)), (hX, .inl (dB, 4, .inl fx))] := hD
  refine lv_iconst (v := (0 : Int32)) hx hb dX2_reset_10 (by decide) ?_
  refine lv_istore_n (lv' := [(1, .int (0 : Int32)), (0, .ref h)]) hx hb dX2_reset_11 rfl hl (by decide) rfl (fun ls hl => ?_)
  refine lp_gr (tA := tA) ⟨hx, hb, hr, hlk, hml, hown, hts⟩ hK (fun fx H locs ls hP hD hS => ?_) 4 0 fx H locs ls rfl hP hD hS (lv_sub hl [1, 0] rfl)
  exact W.vret hx hb hr (sm_endv _ ⟨fx, by rfl⟩ hP hD hS) hS.2.2 dX2_reset_34 hlk
set_option maxHeartbeats 4000000 in
set_option maxRecDepth 100000 in
/-- reset(): as new -/
theorem met_rs (l : Launch) (D : va_G) (dB dN : ClassId) (sz tA pA : Nat) (h hV hI hW hX : Nat) (fv fi fw fx : Nat → Int32) (xo bo : Int32) (bc : Int64) : Met l yX3_reset (ws_ yX3_reset cX3_reset 1 none) ({ frames := 1, cells := 0, slots := 0, locals := 21 }) (va_Pc [.ref h] (sm_pre D dB dN (sm_dg dB dN pA h hV hI hW hX fv fi fw fx xo bo bc) sz tA pA)) (sm_Qv D (fun w => ∃ gv gx : Nat → Int32, w = sm_dg dB dN pA h hV hI hW hX gv fi fw gx 0 0 0 ∧ ∀ j, j < 8 → gv j = sm_iv j) (va_A (sm_dg dB dN pA h hV hI hW hX fv fi fw fx xo bo bc) sz)) 0 0 (va_A (sm_dg dB dN pA h hV hI hW hX fv fi fw fx xo bo bc) sz) := by
  refine sm_met RX3 (sm_Qv D _) (by decide) rfl (Nat.le_of_ble_eq_true rfl) ?_
  intro p e s m below meth c ls A cx hnm hP hK hD hE hA hS hl
  obtain ⟨hx, hb, hr, hlk, hml, hown, hts⟩ := cx
  have hl : lv_has ls 1 [(0, .ref h)] := hl
  have hP : va_P D vwCl [(h, .inr (0, [.ref pA, .ref hX, .int bo, .long bc, .ref hV, .ref hI, .int xo, .ref hW])), (hV, .inl (dN, 8, .inl fv)), (hI, .inl (dN, 16, .inl fi)), (hW, .inl (dN, 68, .inl fw)), (hX, .inl (dB, 4, .inl fx))] s.heap := hP
  have hD : va_D A [(h, .inr (0, [.ref pA, .ref hX, .int bo, .long bc, .ref hV, .ref hI, .int xo, .ref hW])), (hV, .inl (dN, 8, .inl fv)), (hI, .inl (dN, 16, .inl fi)), (hW, .inl (dN, 68, .inl fw)), (hX, .inl (dB, 4, .inl fx))] := hD
  refine lv_aload_n hx hb dX3_reset_0 rfl (lv_at hl 0 rfl) ?_
  have hPc := hP.sub (ws' := [(h, .inr (0, [.ref pA, .ref hX, .int bo, .long bc, .ref hV, .ref hI, .int xo, .ref hW])), (hV, .inl (dN, 8, .inl fv)), (hI, .inl (dN, 16, .inl fi)), (hW, .inl (dN, 68, .inl fw)), (hX, .inl (dB, 4, .inl fx))]) [0, 1, 2, 3, 4] rfl
  have hDc := hD.sub (ws' := [(h, .inr (0, [.ref pA, .ref hX, .int bo, .long bc, .ref hV, .ref hI, .int xo, .ref hW])), (hV, .inl (dN, 8, .inl fv)), (hI, .inl (dN, 16, .inl fi)), (hW, .inl (dN, 68, .inl fw)), (hX, .inl (dB, 4, .inl fx))]) [0, 1, 2, 3, 4] (by decide) rfl
  have hFc := va_free (wc := [(h, .inr (0, [.ref pA, .ref hX, .int bo, .long bc, .ref hV, .ref hI, .int xo, .ref hW])), (hV, .inl (dN, 8, .inl fv)), (hI, .inl (dN, 16, .inl fi)), (hW, .inl (dN, 68, .inl fw)), (hX, .inl (dB, 4, .inl fx))]) hD hS hA [0, 1, 2, 3, 4] rfl
  refine sm_backv (wr := []) (va_runSU (hK.1 0 _ rfl).2 (As := []) (rest := []) ⟨hx, hb, hml, hown, hts⟩ (met_gr l D dB dN s.heap.size tA pA h hV hI hW hX fv fi fw fx xo bo bc) (va_cwSU 0 hts (sm_gSU q137 q258 q138 q139 q11 q140) rfl rfl rfl (by decide +kernel) ⟨Nat.le_of_ble_eq_true rfl, Nat.le_of_ble_eq_true rfl⟩) ⟨sm_blind, va_recv hK hP (ci := 0) (q0 := 0) rfl rfl, sm_go hK hPc hDc hE hS hFc _⟩ rfl rfl hl.1 rfl (lv_room (Nat.le_of_ble_eq_true rfl)) dX3_reset_1 ⟨Nat.le_of_ble_eq_true rfl, Nat.le_of_ble_eq_true rfl⟩) hP hD hS hFc [0, 1, 2, 3, 4] [] rfl rfl (by decide) (by decide) (fun w1 H locs hw hP hD hS => ?_)
  obtain ⟨gx, rfl⟩ := hw
  have hP : va_P D vwCl [(h, .inr (0, [.ref pA, .ref hX, .int (0 : Int32), .long (0 : Int64), .ref hV, .ref hI, .int xo, .ref hW])), (hV, .inl (dN, 8, .inl fv)), (hI, .inl (dN, 16, .inl fi)), (hW, .inl (dN, 68, .inl fw)), (hX, .inl (dB, 4, .inl gx))] H := hP.sub [0, 1, 2, 3, 4] rfl
  have hD : va_D A [(h, .inr (0, [.ref pA, .ref hX, .int (0 : Int32), .long (0 : Int64), .ref hV, .ref hI, .int xo, .ref hW])), (hV, .inl (dN, 8, .inl fv)), (hI, .inl (dN, 16, .inl fi)), (hW, .inl (dN, 68, .inl fw)), (hX, .inl (dB, 4, .inl gx))] := hD.sub [0, 1, 2, 3, 4] (by decide) rfl
  refine lv_aload_n hx hb dX3_reset_4 rfl (lv_at hl 0 rfl) ?_
  refine va_get (D := D) (ci := 0) (v := .ref hV) (C := RX3) (T := TX3) (N := 8) hx hb hts in_X3 hown hK hP 0 rfl rfl 4 (by decide) (hts _ q186) (fun _ h9 => h9) rfl dX3_reset_5 ?_
  refine lv_iconst (v := (0 : Int32)) hx hb dX3_reset_8 (by decide) ?_
  refine lv_ldc (v := (1937774191 : Int32)) hx hb hown (hts _ q141) dX3_reset_9 ?_
  refine sm_ist hx hb hK hP hD hS 1 1 rfl rfl 0 rfl (by decide) (by decide) dX3_reset_11 (fun H locs hP hD hS => ?_)
  have hP : va_P D vwCl [(h, .inr (0, [.ref pA, .ref hX, .int (0 : Int32), .long (0 : Int64), .ref hV, .ref hI, .int xo, .ref hW])), (hV, .inl (dN, 8, .inl (upd fv 0 (1937774191 : Int32)))), (hI, .inl (dN, 16, .inl fi)), (hW, .inl (dN, 68, .inl fw)), (hX, .inl (dB, 4, .inl gx))] H := hP
  have hD : va_D A [(h, .inr (0, [.ref pA, .ref hX, .int (0 : Int32), .long (0 : Int64), .ref hV, .ref hI, .int xo, .ref hW])), (hV, .inl (dN, 8, .inl (upd fv 0 (1937774191 : Int32)))), (hI, .inl (dN, 16, .inl fi)), (hW, .inl (dN, 68, .inl fw)), (hX, .inl (dB, 4, .inl gx))] := hD
  refine lv_aload_n hx hb dX3_reset_12 rfl (lv_at hl 0 rfl) ?_
  refine va_get (D := D) (ci := 0) (v := .ref hV) (C := RX3) (T := TX3) (N := 8) hx hb hts in_X3 hown hK hP 0 rfl rfl 4 (by decide) (hts _ q186) (fun _ h9 => h9) rfl dX3_reset_13 ?_
  refine lv_iconst (v := (1 : Int32)) hx hb dX3_reset_16 (by decide) ?_
  refine lv_ldc (v := (1226093241 : Int32)) hx hb hown (hts _ q142) dX3_reset_17 ?_
  refine sm_ist hx hb hK hP hD hS 1 1 rfl rfl 1 rfl (by decide) (by decide) dX3_reset_19 (fun H locs hP hD hS => ?_)
  have hP : va_P D vwCl [(h, .inr (0, [.ref pA, .ref hX, .int (0 : Int32), .long (0 : Int64), .ref hV, .ref hI, .int xo, .ref hW])), (hV, .inl (dN, 8, .inl (upd (upd fv 0 (1937774191 : Int32)) 1 (1226093241 : Int32)))), (hI, .inl (dN, 16, .inl fi)), (hW, .inl (dN, 68, .inl fw)), (hX, .inl (dB, 4, .inl gx))] H := hP
  have hD : va_D A [(h, .inr (0, [.ref pA, .ref hX, .int (0 : Int32), .long (0 : Int64), .ref hV, .ref hI, .int xo, .ref hW])), (hV, .inl (dN, 8, .inl (upd (upd fv 0 (1937774191 : Int32)) 1 (1226093241 : Int32)))), (hI, .inl (dN, 16, .inl fi)), (hW, .inl (dN, 68, .inl fw)), (hX, .inl (dB, 4, .inl gx))] := hD
  refine lv_aload_n hx hb dX3_reset_20 rfl (lv_at hl 0 rfl) ?_
  refine va_get (D := D) (ci := 0) (v := .ref hV) (C := RX3) (T := TX3) (N := 8) hx hb hts in_X3 hown hK hP 0 rfl rfl 4 (by decide) (hts _ q186) (fun _ h9 => h9) rfl dX3_reset_21 ?_
  refine lv_iconst (v := (2 : Int32)) hx hb dX3_reset_24 (by decide) ?_
  refine lv_ldc (v := (388252375 : Int32)) hx hb hown (hts _ q143) dX3_reset_25 ?_
  refine sm_ist hx hb hK hP hD hS 1 1 rfl rfl 2 rfl (by decide) (by decide) dX3_reset_27 (fun H locs hP hD hS => ?_)
  have hP : va_P D vwCl [(h, .inr (0, [.ref pA, .ref hX, .int (0 : Int32), .long (0 : Int64), .ref hV, .ref hI, .int xo, .ref hW])), (hV, .inl (dN, 8, .inl (upd (upd (upd fv 0 (1937774191 : Int32)) 1 (1226093241 : Int32)) 2 (388252375 : Int32)))), (hI, .inl (dN, 16, .inl fi)), (hW, .inl (dN, 68, .inl fw)), (hX, .inl (dB, 4, .inl gx))] H := hP
  have hD : va_D A [(h, .inr (0, [.ref pA, .ref hX, .int (0 : Int32), .long (0 : Int64), .ref hV, .ref hI, .int xo, .ref hW])), (hV, .inl (dN, 8, .inl (upd (upd (upd fv 0 (1937774191 : Int32)) 1 (1226093241 : Int32)) 2 (388252375 : Int32)))), (hI, .inl (dN, 16, .inl fi)), (hW, .inl (dN, 68, .inl fw)), (hX, .inl (dB, 4, .inl gx))] := hD
  refine lv_aload_n hx hb dX3_reset_28 rfl (lv_at hl 0 rfl) ?_
  refine va_get (D := D) (ci := 0) (v := .ref hV) (C := RX3) (T := TX3) (N := 8) hx hb hts in_X3 hown hK hP 0 rfl rfl 4 (by decide) (hts _ q186) (fun _ h9 => h9) rfl dX3_reset_29 ?_
  refine lv_iconst (v := (3 : Int32)) hx hb dX3_reset_32 (by decide) ?_
  refine lv_ldc (v := (-628488704 : Int32)) hx hb hown (hts _ q144) dX3_reset_33 ?_
  refine sm_ist hx hb hK hP hD hS 1 1 rfl rfl 3 rfl (by decide) (by decide) dX3_reset_35 (fun H locs hP hD hS => ?_)
  have hP : va_P D vwCl [(h, .inr (0, [.ref pA, .ref hX, .int (0 : Int32), .long (0 : Int64), .ref hV, .ref hI, .int xo, .ref hW])), (hV, .inl (dN, 8, .inl (upd (upd (upd (upd fv 0 (1937774191 : Int32)) 1 (1226093241 : Int32)) 2 (388252375 : Int32)) 3 (-628488704 : Int32)))), (hI, .inl (dN, 16, .inl fi)), (hW, .inl (dN, 68, .inl fw)), (hX, .inl (dB, 4, .inl gx))] H := hP
  have hD : va_D A [(h, .inr (0, [.ref pA, .ref hX, .int (0 : Int32), .long (0 : Int64), .ref hV, .ref hI, .int xo, .ref hW])), (hV, .inl (dN, 8, .inl (upd (upd (upd (upd fv 0 (1937774191 : Int32)) 1 (1226093241 : Int32)) 2 (388252375 : Int32)) 3 (-628488704 : Int32)))), (hI, .inl (dN, 16, .inl fi)), (hW, .inl (dN, 68, .inl fw)), (hX, .inl (dB, 4, .inl gx))] := hD
  refine lv_aload_n hx hb dX3_reset_36 rfl (lv_at hl 0 rfl) ?_
  refine va_get (D := D) (ci := 0) (v := .ref hV) (C := RX3) (T := TX3) (N := 8) hx hb hts in_X3 hown hK hP 0 rfl rfl 4 (by decide) (hts _ q186) (fun _ h9 => h9) rfl dX3_reset_37 ?_
  refine lv_iconst (v := (4 : Int32)) hx hb dX3_reset_40 (by decide) ?_
  refine lv_ldc (v := (-1452330820 : Int32)) hx hb hown (hts _ q145) dX3_reset_41 ?_
  refine sm_ist hx hb hK hP hD hS 1 1 rfl rfl 4 rfl (by decide) (by decide) dX3_reset_43 (fun H locs hP hD hS => ?_)
  have hP : va_P D vwCl [(h, .inr (0, [.ref pA, .ref hX, .int (0 : Int32), .long (0 : Int64), .ref hV, .ref hI, .int xo, .ref hW])), (hV, .inl (dN, 8, .inl (upd (upd (upd (upd (upd fv 0 (1937774191 : Int32)) 1 (1226093241 : Int32)) 2 (388252375 : Int32)) 3 (-628488704 : Int32)) 4 (-1452330820 : Int32)))), (hI, .inl (dN, 16, .inl fi)), (hW, .inl (dN, 68, .inl fw)), (hX, .inl (dB, 4, .inl gx))] H := hP
  have hD : va_D A [(h, .inr (0, [.ref pA, .ref hX, .int (0 : Int32), .long (0 : Int64), .ref hV, .ref hI, .int xo, .ref hW])), (hV, .inl (dN, 8, .inl (upd (upd (upd (upd (upd fv 0 (1937774191 : Int32)) 1 (1226093241 : Int32)) 2 (388252375 : Int32)) 3 (-628488704 : Int32)) 4 (-1452330820 : Int32)))), (hI, .inl (dN, 16, .inl fi)), (hW, .inl (dN, 68, .inl fw)), (hX, .inl (dB, 4, .inl gx))] := hD
  refine lv_aload_n hx hb dX3_reset_44 rfl (lv_at hl 0 rfl) ?_
  refine va_get (D := D) (ci := 0) (v := .ref hV) (C := RX3) (T := TX3) (N := 8) hx hb hts in_X3 hown hK hP 0 rfl rfl 4 (by decide) (hts _ q186) (fun _ h9 => h9) rfl dX3_reset_45 ?_
  refine lv_iconst (v := (5 : Int32)) hx hb dX3_reset_48 (by decide) ?_
  refine lv_ldc (v := (372324522 : Int32)) hx hb hown (hts _ q146) dX3_reset_49 ?_
  refine sm_ist hx hb hK hP hD hS 1 1 rfl rfl 5 rfl (by decide) (by decide) dX3_reset_51 (fun H locs hP hD hS => ?_)
  have hP : va_P D vwCl [(h, .inr (0, [.ref pA, .ref hX, .int (0 : Int32), .long (0 : Int64), .ref hV, .ref hI, .int xo, .ref hW])), (hV, .inl (dN, 8, .inl (upd (upd (upd (upd (upd (upd fv 0 (1937774191 : Int32)) 1 (1226093241 : Int32)) 2 (388252375 : Int32)) 3 (-628488704 : Int32)) 4 (-1452330820 : Int32)) 5 (372324522 : Int32)))), (hI, .inl (dN, 16, .inl fi)), (hW, .inl (dN, 68, .inl fw)), (hX, .inl (dB, 4, .inl gx))] H := hP
  have hD : va_D A [(h, .inr (0, [.ref pA, .ref hX, .int (0 : Int32), .long (0 : Int64), .ref hV, .ref hI, .int xo, .ref hW])), (hV, .inl (dN, 8, .inl (upd (upd (upd (upd (upd (upd fv 0 (1937774191 : Int32)) 1 (1226093241 : Int32)) 2 (388252375 : Int32)) 3 (-628488704 : Int32)) 4 (-1452330820 : Int32)) 5 (372324522 : Int32)))), (hI, .inl (dN, 16, .inl fi)), (hW, .inl (dN, 68, .inl fw)), (hX, .inl (dB, 4, .inl gx))] := hD
  refine lv_aload_n hx hb dX3_reset_52 rfl (lv_at hl 0 rfl) ?_
  refine va_get (D := D) (ci := 0) (v := .ref hV) (C := RX3) (T := TX3) (N := 8) hx hb hts in_X3 hown hK hP 0 rfl rfl 4 (by decide) (hts _ q186) (fun _ h9 => h9) rfl dX3_reset_53 ?_
  refine lv_bipush (v := (6 : Int32)) hx hb dX3_reset_56 (by decide) ?_
  refine lv_ldc (v := (-477237683 : Int32)) hx hb hown (hts _ q147) dX3_reset_58 ?_
  refine sm_ist hx hb hK hP hD hS 1 1 rfl rfl 6 rfl (by decide) (by decide) dX3_reset_60 (fun H locs hP hD hS => ?_)
  have hP : va_P D vwCl [(h, .inr (0, [.ref pA, .ref hX, .int (0 : Int32), .long (0 : Int64), .ref hV, .ref hI, .int xo, .ref hW])), (hV, .inl (dN, 8, .inl (upd (upd (upd (upd (upd (upd (upd fv 0 (1937774191 : Int32)) 1 (1226093241 : Int32)) 2 (388252375 : Int32)) 3 (-628488704 : Int32)) 4 (-1452330820 : Int32)) 5 (372324522 : Int32)) 6 (-477237683 : Int32)))), (hI, .inl (dN, 16, .inl fi)), (hW, .inl (dN, 68, .inl fw)), (hX, .inl (dB, 4, .inl gx))] H := hP
  have hD : va_D A [(h, .inr (0, [.ref pA, .ref hX, .int (0 : Int32), .long (0 : Int64), .ref hV, .ref hI, .int xo, .ref hW])), (hV, .inl (dN, 8, .inl (upd (upd (upd (upd (upd (upd (upd fv 0 (1937774191 : Int32)) 1 (1226093241 : Int32)) 2 (388252375 : Int32)) 3 (-628488704 : Int32)) 4 (-1452330820 : Int32)) 5 (372324522 : Int32)) 6 (-477237683 : Int32)))), (hI, .inl (dN, 16, .inl fi)), (hW, .inl (dN, 68, .inl fw)), (hX, .inl (dB, 4, .inl gx))] := hD
  refine lv_aload_n hx hb dX3_reset_61 rfl (lv_at hl 0 rfl) ?_
  refine va_get (D := D) (ci := 0) (v := .ref hV) (C := RX3) (T := TX3) (N := 8) hx hb hts in_X3 hown hK hP 0 rfl rfl 4 (by decide) (hts _ q186) (fun _ h9 => h9) rfl dX3_reset_62 ?_
  refine lv_bipush (v := (7 : Int32)) hx hb dX3_reset_65 (by decide) ?_
  refine lv_ldc (v := (-1325724082 : Int32)) hx hb hown (hts _ q148) dX3_reset_67 ?_
  refine sm_ist hx hb hK hP hD hS 1 1 rfl rfl 7 rfl (by decide) (by decide) dX3_reset_69 (fun H locs hP hD hS => ?_)
  have hP : va_P D vwCl [(h, .inr (0, [.ref pA, .ref hX, .int (0 : Int32), .long (0 : Int64), .ref hV, .ref hI, .int xo, .ref hW])), (hV, .inl (dN, 8, .inl (upd (upd (upd (upd (upd (upd (upd (upd fv 0 (1937774191 : Int32)) 1 (1226093241 : Int32)) 2 (388252375 : Int32)) 3 (-628488704 : Int32)) 4 (-1452330820 : Int32)) 5 (372324522 : Int32)) 6 (-477237683 : Int32)) 7 (-1325724082 : Int32)))), (hI, .inl (dN, 16, .inl fi)), (hW, .inl (dN, 68, .inl fw)), (hX, .inl (dB, 4, .inl gx))] H := hP
  have hD : va_D A [(h, .inr (0, [.ref pA, .ref hX, .int (0 : Int32), .long (0 : Int64), .ref hV, .ref hI, .int xo, .ref hW])), (hV, .inl (dN, 8, .inl (upd (upd (upd (upd (upd (upd (upd (upd fv 0 (1937774191 : Int32)) 1 (1226093241 : Int32)) 2 (388252375 : Int32)) 3 (-628488704 : Int32)) 4 (-1452330820 : Int32)) 5 (372324522 : Int32)) 6 (-477237683 : Int32)) 7 (-1325724082 : Int32)))), (hI, .inl (dN, 16, .inl fi)), (hW, .inl (dN, 68, .inl fw)), (hX, .inl (dB, 4, .inl gx))] := hD
  refine lv_aload_n hx hb dX3_reset_70 rfl (lv_at hl 0 rfl) ?_
  refine lv_iconst (v := (0 : Int32)) hx hb dX3_reset_71 (by decide) ?_
  refine va_put (D := D) (ci := 0) (v := .int (0 : Int32)) (ty := .int) (C := RX3) (T := TX3) (N := 8) hx hb hts in_X3 tyX3 tyX3_ok nmX3 hown hK hP hD hS 0 rfl rfl 6 (by decide) (hts _ q188) (fun _ h9 => h9) rfl (by decide +kernel) rfl rfl (Nat.le_of_ble_eq_true rfl) dX3_reset_72 (fun H locs hP hD hS => ?_)
  have hP : va_P D vwCl [(h, .inr (0, [.ref pA, .ref hX, .int (0 : Int32), .long (0 : Int64), .ref hV, .ref hI, .int (0 : Int32), .ref hW])), (hV, .inl (dN, 8, .inl (upd (upd (upd (upd (upd (upd (upd (upd fv 0 (1937774191 : Int32)) 1 (1226093241 : Int32)) 2 (388252375 : Int32)) 3 (-628488704 : Int32)) 4 (-1452330820 : Int32)) 5 (372324522 : Int32)) 6 (-477237683 : Int32)) 7 (-1325724082 : Int32)))), (hI, .inl (dN, 16, .inl fi)), (hW, .inl (dN, 68, .inl fw)), (hX, .inl (dB, 4, .inl gx))] H := hP
  have hD : va_D A [(h, .inr (0, [.ref pA, .ref hX, .int (0 : Int32), .long (0 : Int64), .ref hV, .ref hI, .int (0 : Int32), .ref hW])), (hV, .inl (dN, 8, .inl (upd (upd (upd (upd (upd (upd (upd (upd fv 0 (1937774191 : Int32)) 1 (1226093241 : Int32)) 2 (388252375 : Int32)) 3 (-628488704 : Int32)) 4 (-1452330820 : Int32)) 5 (372324522 : Int32)) 6 (-477237683 : Int32)) 7 (-1325724082 : Int32)))), (hI, .inl (dN, 16, .inl fi)), (hW, .inl (dN, 68, .inl fw)), (hX, .inl (dB, 4, .inl gx))] := hD
  exact W.vret hx hb hr (sm_endv _ ⟨_, gx, rfl, fun j hj => by
    match j, hj with
    | 0, _ => rfl
    | 1, _ => rfl
    | 2, _ => rfl
    | 3, _ => rfl
    | 4, _ => rfl
    | 5, _ => rfl
    | 6, _ => rfl
    | 7, _ => rfl⟩ hP hD hS) hS.2.2 dX3_reset_75 hlk
set_option maxHeartbeats 4000000 in
set_option maxRecDepth 100000 in
/-- GeneralDigest(purpose): one array of four bytes comes -/
theorem met_gi (l : Launch) (D : va_G) (dB dN : ClassId) (sz tA pA : Nat) (h : Nat) : Met l yX2_init (ws_ yX2_init cX2_init 2 none) ({ frames := 1, cells := 1, slots := 4, locals := 12 }) (va_Pc [.ref h, .ref pA] (sm_pre D dB dN ([(h, .inr (0, [.null, .null, .int 0, .long 0, .null, .null, .int 0, .null]))]) sz tA pA)) (sm_Qv D (fun w => ∃ hX : Nat, w = [(h, .inr (0, [.ref pA, .ref hX, .int 0, .long 0, .null, .null, .int 0, .null])), (hX, .inl (dB, 4, .inl (fun _ => 0)))]) (va_A ([(h, .inr (0, [.null, .null, .int 0, .long 0, .null, .null, .int 0, .null]))]) sz)) 1 4 (va_A ([(h, .inr (0, [.null, .null, .int 0, .long 0, .null, .null, .int 0, .null]))]) sz) := by
  refine sm_met RX2 (sm_Qv D _) (by decide) rfl (Nat.le_of_ble_eq_true rfl) ?_
  intro p e s m below meth c ls A cx hnm hP hK hD hE hA hS hl
  obtain ⟨hx, hb, hr, hlk, hml, hown, hts⟩ := cx
  have hl : lv_has ls 2 [(0, .ref h), (1, .ref pA)] := hl
  have hP : va_P D vwCl [(h, .inr (0, [.null, .null, .int 0, .long 0, .null, .null, .int 0, .null]))] s.heap := hP
  have hD : va_D A [(h, .inr (0, [.null, .null, .int 0, .long 0, .null, .null, .int 0, .null]))] := hD
  refine lv_aload_n hx hb dX2_init_0 rfl (lv_at hl 0 rfl) ?_
  refine W.objInit hx hb hown (hts _ q185) (hts _ q171) (hts _ q172) rfl (by rw [hml]; exact hl.1) rfl dX2_init_1 (Nat.le_of_ble_eq_true rfl) (Nat.le_of_ble_eq_true rfl) ?_
  refine W.eq (g2 := F0 m 4 ls []) rfl ?_
  refine lv_aload_n hx hb dX2_init_4 rfl (lv_at hl 0 rfl) ?_
  refine lv_iconst (v := (4 : Int32)) hx hb dX2_init_5 (by decide) ?_
  refine sm_newa (atype := .byte) hx hb (hts _ q210) rfl hK hP hD hS hA 0 rfl 4 (fun _ => rfl) rfl (by decide) (Nat.le_of_ble_eq_true rfl) (Nat.le_of_ble_eq_true rfl) (Nat.le_of_ble_eq_true rfl) dX2_init_6 (fun hX H hP hD hS => ?_)
  have hP : va_P D vwCl [(h, .inr (0, [.null, .null, .int 0, .long 0, .null, .null, .int 0, .null])), (hX, .inl (dB, 4, .inl (fun _ => 0)))] H := hP
  have hD : va_D A [(h, .inr (0, [.null, .null, .int 0, .long 0, .null, .null, .int 0, .null])), (hX, .inl (dB, 4, .inl (fun _ => 0)))] := hD
  refine va_putF (D := D) (ci := 0) (v := .ref hX) (ty := .array .byte) (C := RX3) (T := TX3) (N := 8) hx hb hts in_X3 tyX3 tyX3_ok nmX3 hown hK hP hD hS 0 rfl rfl 1 (by decide) (hts _ q191) (fun _ h9 => h9) rfl hnm rfl (by decide +kernel) rfl rfl (Nat.le_of_ble_eq_true rfl) dX2_init_8 (fun H locs hP hD hS => ?_)
  have hP : va_P D vwCl [(h, .inr (0, [.null, .ref hX, .int 0, .long 0, .null, .null, .int 0, .null])), (hX, .inl (dB, 4, .inl (fun _ => 0)))] H := hP
  have hD : va_D A [(h, .inr (0, [.null, .ref hX, .int 0, .long 0, .null, .null, .int 0, .null])), (hX, .inl (dB, 4, .inl (fun _ => 0)))] := hD
  refine lv_aload_n hx hb dX2_init_11 rfl (lv_at hl 0 rfl) ?_
  refine lv_aload_n hx hb dX2_init_12 rfl (lv_at hl 1 rfl) ?_
  refine va_putF (D := D) (ci := 0) (v := .ref pA) (ty := .object "CryptoServicePurpose") (C := RX3) (T := TX3) (N := 8) hx hb hts in_X3 tyX3 tyX3_ok nmX3 hown hK hP hD hS 0 rfl rfl 0 (by decide) (hts _ q190) (fun _ h9 => h9) rfl hnm rfl (by decide +kernel) rfl rfl (Nat.le_of_ble_eq_true rfl) dX2_init_13 (fun H locs hP hD hS => ?_)
  have hP : va_P D vwCl [(h, .inr (0, [.ref pA, .ref hX, .int 0, .long 0, .null, .null, .int 0, .null])), (hX, .inl (dB, 4, .inl (fun _ => 0)))] H := hP
  have hD : va_D A [(h, .inr (0, [.ref pA, .ref hX, .int 0, .long 0, .null, .null, .int 0, .null])), (hX, .inl (dB, 4, .inl (fun _ => 0)))] := hD
  refine lv_aload_n hx hb dX2_init_16 rfl (lv_at hl 0 rfl) ?_
  refine lv_iconst (v := (0 : Int32)) hx hb dX2_init_17 (by decide) ?_
  refine va_put (D := D) (ci := 0) (v := .int (0 : Int32)) (ty := .int) (C := RX3) (T := TX3) (N := 8) hx hb hts in_X3 tyX3 tyX3_ok nmX3 hown hK hP hD hS 0 rfl rfl 2 (by decide) (hts _ q192) (fun _ h9 => h9) rfl (by decide +kernel) rfl rfl (Nat.le_of_ble_eq_true rfl) dX2_init_18 (fun H locs hP hD hS => ?_)
  have hP : va_P D vwCl [(h, .inr (0, [.ref pA, .ref hX, .int (0 : Int32), .long 0, .null, .null, .int 0, .null])), (hX, .inl (dB, 4, .inl (fun _ => 0)))] H := hP
  have hD : va_D A [(h, .inr (0, [.ref pA, .ref hX, .int (0 : Int32), .long 0, .null, .null, .int 0, .null])), (hX, .inl (dB, 4, .inl (fun _ => 0)))] := hD
  refine W.widen (k := 1) (n := 4) (Nat.le_of_ble_eq_true rfl) (Nat.le_of_ble_eq_true rfl) ?_
  exact W.vret hx hb hr (sm_endv _ ⟨hX, by rfl⟩ hP hD hS) hS.2.2 dX2_init_21 hlk
set_option maxHeartbeats 4000000 in
set_option maxRecDepth 100000 in
/-- SM3Digest(purpose): four arrays come -/
theorem met_si (l : Launch) (D : va_G) (dB dN : ClassId) (sz tA pA : Nat) (h : Nat) : Met l yX3_init_2 (ws_ yX3_init_2 cX3_init_2 2 none) ({ frames := 2, cells := 4, slots := 96, locals := 41 }) (va_Pc [.ref h, .ref pA] (sm_pre D dB dN ([(h, .inr (0, [.null, .null, .int 0, .long 0, .null, .null, .int 0, .null]))]) sz tA pA)) (sm_Qv D (fun w => ∃ (hV hI hW hX : Nat) (fv fi fw fx : Nat → Int32), w = sm_dg dB dN pA h hV hI hW hX fv fi fw fx 0 0 0 ∧ ∀ j, j < 8 → fv j = sm_iv j) (va_A ([(h, .inr (0, [.null, .null, .int 0, .long 0, .null, .null, .int 0, .null]))]) sz)) 4 96 (va_A ([(h, .inr (0, [.null, .null, .int 0, .long 0, .null, .null, .int 0, .null]))]) sz) := by
  refine sm_met RX3 (sm_Qv D _) (by decide) rfl (Nat.le_of_ble_eq_true rfl) ?_
  intro p e s m below meth c ls A cx hnm hP hK hD hE hA hS hl
  obtain ⟨hx, hb, hr, hlk, hml, hown, hts⟩ := cx
  have hl : lv_has ls 2 [(0, .ref h), (1, .ref pA)] := hl
  have hP : va_P D vwCl [(h, .inr (0, [.null, .null, .int 0, .long 0, .null, .null, .int 0, .null]))] s.heap := hP
  have hD : va_D A [(h, .inr (0, [.null, .null, .int 0, .long 0, .null, .null, .int 0, .null]))] := hD
  refine lv_aload_n hx hb dX3_init_2_0 rfl (lv_at hl 0 rfl) ?_
  refine lv_aload_n hx hb dX3_init_2_1 rfl (lv_at hl 1 rfl) ?_
  have hPc := hP.sub (ws' := [(h, .inr (0, [.null, .null, .int 0, .long 0, .null, .null, .int 0, .null]))]) [0] rfl
  have hDc := hD.sub (ws' := [(h, .inr (0, [.null, .null, .int 0, .long 0, .null, .null, .int 0, .null]))]) [0] (by decide) rfl
  have hFc := va_free (wc := [(h, .inr (0, [.null, .null, .int 0, .long 0, .null, .null, .int 0, .null]))]) hD hS hA [0] rfl
  refine sm_backv (wr := []) (va_runI (As := [.ref pA]) (rest := []) ⟨hx, hb, hml, hown, hts⟩ (met_gi l D dB dN s.heap.size tA pA h) (cwI 1 hts (lw_meth q184) rfl rfl rfl (hts _ q11) (hts _ q182) (hts _ q183) rfl (by decide +kernel) ⟨Nat.le_of_ble_eq_true rfl, Nat.le_of_ble_eq_true rfl⟩) ⟨sm_blind, sm_go hK hPc hDc hE hS hFc _⟩ rfl rfl hl.1 rfl (lv_room (Nat.le_of_ble_eq_true rfl)) dX3_init_2_2 ⟨Nat.le_of_ble_eq_true rfl, Nat.le_of_ble_eq_true rfl⟩) hP hD hS hFc [0] [] rfl rfl (by decide) (by decide) (fun w1 H locs hw hP hD hS => ?_)
  obtain ⟨hX, rfl⟩ := hw
  have hP : va_P D vwCl [(h, .inr (0, [.ref pA, .ref hX, .int 0, .long 0, .null, .null, .int 0, .null])), (hX, .inl (dB, 4, .inl (fun _ => 0)))] H := hP.sub [0, 1] rfl
  have hD : va_D A [(h, .inr (0, [.ref pA, .ref hX, .int 0, .long 0, .null, .null, .int 0, .null])), (hX, .inl (dB, 4, .inl (fun _ => 0)))] := hD.sub [0, 1] (by decide) rfl
  refine lv_aload_n hx hb dX3_init_2_5 rfl (lv_at hl 0 rfl) ?_
  refine lv_bipush (v := (8 : Int32)) hx hb dX3_init_2_6 (by decide) ?_
  refine sm_newa (atype := .int) hx hb (hts _ q211) rfl hK hP hD hS hA 1 rfl 8 (fun _ => rfl) rfl (by decide) (Nat.le_of_ble_eq_true rfl) (Nat.le_of_ble_eq_true rfl) (Nat.le_of_ble_eq_true rfl) dX3_init_2_8 (fun hV H hP hD hS => ?_)
  have hP : va_P D vwCl [(h, .inr (0, [.ref pA, .ref hX, .int 0, .long 0, .null, .null, .int 0, .null])), (hX, .inl (dB, 4, .inl (fun _ => 0))), (hV, .inl (dN, 8, .inl (fun _ => 0)))] H := hP
  have hD : va_D A [(h, .inr (0, [.ref pA, .ref hX, .int 0, .long 0, .null, .null, .int 0, .null])), (hX, .inl (dB, 4, .inl (fun _ => 0))), (hV, .inl (dN, 8, .inl (fun _ => 0)))] := hD
  refine va_put (D := D) (ci := 0) (v := .ref hV) (ty := .array .int) (C := RX3) (T := TX3) (N := 8) hx hb hts in_X3 tyX3 tyX3_ok nmX3 hown hK hP hD hS 0 rfl rfl 4 (by decide) (hts _ q186) (fun _ h9 => h9) rfl (by decide +kernel) rfl rfl (Nat.le_of_ble_eq_true rfl) dX3_init_2_10 (fun H locs hP hD hS => ?_)
  have hP : va_P D vwCl [(h, .inr (0, [.ref pA, .ref hX, .int 0, .long 0, .ref hV, .null, .int 0, .null])), (hX, .inl (dB, 4, .inl (fun _ => 0))), (hV, .inl (dN, 8, .inl (fun _ => 0)))] H := hP
  have hD : va_D A [(h, .inr (0, [.ref pA, .ref hX, .int 0, .long 0, .ref hV, .null, .int 0, .null])), (hX, .inl (dB, 4, .inl (fun _ => 0))), (hV, .inl (dN, 8, .inl (fun _ => 0)))] := hD
  refine lv_aload_n hx hb dX3_init_2_13 rfl (lv_at hl 0 rfl) ?_
  refine lv_bipush (v := (16 : Int32)) hx hb dX3_init_2_14 (by decide) ?_
  refine sm_newa (atype := .int) hx hb (hts _ q211) rfl hK hP hD hS hA 1 rfl 16 (fun _ => rfl) rfl (by decide) (Nat.le_of_ble_eq_true rfl) (Nat.le_of_ble_eq_true rfl) (Nat.le_of_ble_eq_true rfl) dX3_init_2_16 (fun hI H hP hD hS => ?_)
  have hP : va_P D vwCl [(h, .inr (0, [.ref pA, .ref hX, .int 0, .long 0, .ref hV, .null, .int 0, .null])), (hX, .inl (dB, 4, .inl (fun _ => 0))), (hV, .inl (dN, 8, .inl (fun _ => 0))), (hI, .inl (dN, 16, .inl (fun _ => 0)))] H := hP
  have hD : va_D A [(h, .inr (0, [.ref pA, .ref hX, .int 0, .long 0, .ref hV, .null, .int 0, .null])), (hX, .inl (dB, 4, .inl (fun _ => 0))), (hV, .inl (dN, 8, .inl (fun _ => 0))), (hI, .inl (dN, 16, .inl (fun _ => 0)))] := hD
  refine va_put (D := D) (ci := 0) (v := .ref hI) (ty := .array .int) (C := RX3) (T := TX3) (N := 8) hx hb hts in_X3 tyX3 tyX3_ok nmX3 hown hK hP hD hS 0 rfl rfl 5 (by decide) (hts _ q187) (fun _ h9 => h9) rfl (by decide +kernel) rfl rfl (Nat.le_of_ble_eq_true rfl) dX3_init_2_18 (fun H locs hP hD hS => ?_)
  have hP : va_P D vwCl [(h, .inr (0, [.ref pA, .ref hX, .int 0, .long 0, .ref hV, .ref hI, .int 0, .null])), (hX, .inl (dB, 4, .inl (fun _ => 0))), (hV, .inl (dN, 8, .inl (fun _ => 0))), (hI, .inl (dN, 16, .inl (fun _ => 0)))] H := hP
  have hD : va_D A [(h, .inr (0, [.ref pA, .ref hX, .int 0, .long 0, .ref hV, .ref hI, .int 0, .null])), (hX, .inl (dB, 4, .inl (fun _ => 0))), (hV, .inl (dN, 8, .inl (fun _ => 0))), (hI, .inl (dN, 16, .inl (fun _ => 0)))] := hD
  refine lv_aload_n hx hb dX3_init_2_21 rfl (lv_at hl 0 rfl) ?_
  refine lv_bipush (v := (68 : Int32)) hx hb dX3_init_2_22 (by decide) ?_
  refine sm_newa (atype := .int) hx hb (hts _ q211) rfl hK hP hD hS hA 1 rfl 68 (fun _ => rfl) rfl (by decide) (Nat.le_of_ble_eq_true rfl) (Nat.le_of_ble_eq_true rfl) (Nat.le_of_ble_eq_true rfl) dX3_init_2_24 (fun hW H hP hD hS => ?_)
  have hP : va_P D vwCl [(h, .inr (0, [.ref pA, .ref hX, .int 0, .long 0, .ref hV, .ref hI, .int 0, .null])), (hX, .inl (dB, 4, .inl (fun _ => 0))), (hV, .inl (dN, 8, .inl (fun _ => 0))), (hI, .inl (dN, 16, .inl (fun _ => 0))), (hW, .inl (dN, 68, .inl (fun _ => 0)))] H := hP
  have hD : va_D A [(h, .inr (0, [.ref pA, .ref hX, .int 0, .long 0, .ref hV, .ref hI, .int 0, .null])), (hX, .inl (dB, 4, .inl (fun _ => 0))), (hV, .inl (dN, 8, .inl (fun _ => 0))), (hI, .inl (dN, 16, .inl (fun _ => 0))), (hW, .inl (dN, 68, .inl (fun _ => 0)))] := hD
  refine va_put (D := D) (ci := 0) (v := .ref hW) (ty := .array .int) (C := RX3) (T := TX3) (N := 8) hx hb hts in_X3 tyX3 tyX3_ok nmX3 hown hK hP hD hS 0 rfl rfl 7 (by decide) (hts _ q189) (fun _ h9 => h9) rfl (by decide +kernel) rfl rfl (Nat.le_of_ble_eq_true rfl) dX3_init_2_26 (fun H locs hP hD hS => ?_)
  have hP : va_P D vwCl [(h, .inr (0, [.ref pA, .ref hX, .int 0, .long 0, .ref hV, .ref hI, .int 0, .ref hW])), (hX, .inl (dB, 4, .inl (fun _ => 0))), (hV, .inl (dN, 8, .inl (fun _ => 0))), (hI, .inl (dN, 16, .inl (fun _ => 0))), (hW, .inl (dN, 68, .inl (fun _ => 0)))] H := hP
  have hD : va_D A [(h, .inr (0, [.ref pA, .ref hX, .int 0, .long 0, .ref hV, .ref hI, .int 0, .ref hW])), (hX, .inl (dB, 4, .inl (fun _ => 0))), (hV, .inl (dN, 8, .inl (fun _ => 0))), (hI, .inl (dN, 16, .inl (fun _ => 0))), (hW, .inl (dN, 68, .inl (fun _ => 0)))] := hD
  refine lv_aload_n hx hb dX3_init_2_29 rfl (lv_at hl 0 rfl) ?_
  have hPc := hP.sub (ws' := [(h, .inr (0, [.ref pA, .ref hX, .int 0, .long 0, .ref hV, .ref hI, .int 0, .ref hW])), (hV, .inl (dN, 8, .inl (fun _ => 0))), (hI, .inl (dN, 16, .inl (fun _ => 0))), (hW, .inl (dN, 68, .inl (fun _ => 0))), (hX, .inl (dB, 4, .inl (fun _ => 0)))]) [0, 2, 3, 4, 1] rfl
  have hDc := hD.sub (ws' := [(h, .inr (0, [.ref pA, .ref hX, .int 0, .long 0, .ref hV, .ref hI, .int 0, .ref hW])), (hV, .inl (dN, 8, .inl (fun _ => 0))), (hI, .inl (dN, 16, .inl (fun _ => 0))), (hW, .inl (dN, 68, .inl (fun _ => 0))), (hX, .inl (dB, 4, .inl (fun _ => 0)))]) [0, 2, 3, 4, 1] (by decide) rfl
  have hFc := va_free (wc := [(h, .inr (0, [.ref pA, .ref hX, .int 0, .long 0, .ref hV, .ref hI, .int 0, .ref hW])), (hV, .inl (dN, 8, .inl (fun _ => 0))), (hI, .inl (dN, 16, .inl (fun _ => 0))), (hW, .inl (dN, 68, .inl (fun _ => 0))), (hX, .inl (dB, 4, .inl (fun _ => 0)))]) hD hS hA [0, 2, 3, 4, 1] rfl
  refine sm_backv (wr := []) (va_runV (As := []) (rest := []) ⟨hx, hb, hml, hown, hts⟩ (met_rs l D dB dN H.size tA pA h hV hI hW hX (fun _ => 0) (fun _ => 0) (fun _ => 0) (fun _ => 0) 0 0 0) (cwV 0 hts (lw_V q133 q134 q135 q12 q136) rfl rfl rfl (by decide +kernel) ⟨Nat.le_of_ble_eq_true rfl, Nat.le_of_ble_eq_true rfl⟩) ⟨sm_blind, va_recv hK hP (ci := 0) (q0 := 0) rfl rfl, sm_go hK hPc hDc hE hS hFc _⟩ rfl rfl hl.1 rfl (lv_room (Nat.le_of_ble_eq_true rfl)) dX3_init_2_30 ⟨Nat.le_of_ble_eq_true rfl, Nat.le_of_ble_eq_true rfl⟩) hP hD hS hFc [0, 2, 3, 4, 1] [] rfl rfl (by decide) (by decide) (fun w1 H locs hw hP hD hS => ?_)
  obtain ⟨gv, gx, rfl, hg⟩ := hw
  have hP : va_P D vwCl [(h, .inr (0, [.ref pA, .ref hX, .int 0, .long 0, .ref hV, .ref hI, .int 0, .ref hW])), (hV, .inl (dN, 8, .inl gv)), (hI, .inl (dN, 16, .inl (fun _ => 0))), (hW, .inl (dN, 68, .inl (fun _ => 0))), (hX, .inl (dB, 4, .inl gx))] H := hP.sub [0, 1, 2, 3, 4] rfl
  have hD : va_D A [(h, .inr (0, [.ref pA, .ref hX, .int 0, .long 0, .ref hV, .ref hI, .int 0, .ref hW])), (hV, .inl (dN, 8, .inl gv)), (hI, .inl (dN, 16, .inl (fun _ => 0))), (hW, .inl (dN, 68, .inl (fun _ => 0))), (hX, .inl (dB, 4, .inl gx))] := hD.sub [0, 1, 2, 3, 4] (by decide) rfl
  refine W.widen (k := 4) (n := 96) (Nat.le_of_ble_eq_true rfl) (Nat.le_of_ble_eq_true rfl) ?_
  exact W.vret hx hb hr (sm_endv _ ⟨hV, hI, hW, hX, gv, _, _, gx, rfl, hg⟩ hP hD hS) hS.2.2 dX3_init_2_33 hlk
set_option maxHeartbeats 4000000 in
set_option maxRecDepth 100000 in
/-- SM3Digest() -/
theorem met_sn (l : Launch) (D : va_G) (dB dN : ClassId) (sz tA pA : Nat) (h : Nat) : Met l yX3_init (ws_ yX3_init cX3_init 1 none) ({ frames := 3, cells := 4, slots := 96, locals := 62 }) (va_Pc [.ref h] (sm_pre D dB dN ([(h, .inr (0, [.null, .null, .int 0, .long 0, .null, .null, .int 0, .null]))]) sz tA pA)) (sm_Qv D (fun w => ∃ (hV hI hW hX : Nat) (fv fi fw fx : Nat → Int32), w = sm_dg dB dN pA h hV hI hW hX fv fi fw fx 0 0 0 ∧ ∀ j, j < 8 → fv j = sm_iv j) (va_A ([(h, .inr (0, [.null, .null, .int 0, .long 0, .null, .null, .int 0, .null]))]) sz)) 4 96 (va_A ([(h, .inr (0, [.null, .null, .int 0, .long 0, .null, .null, .int 0, .null]))]) sz) := by
  refine sm_met RX3 (sm_Qv D _) (by decide) rfl (Nat.le_of_ble_eq_true rfl) ?_
  intro p e s m below meth c ls A cx hnm hP hK hD hE hA hS hl
  obtain ⟨hx, hb, hr, hlk, hml, hown, hts⟩ := cx
  have hl : lv_has ls 1 [(0, .ref h)] := hl
  have hP : va_P D vwCl [(h, .inr (0, [.null, .null, .int 0, .long 0, .null, .null, .int 0, .null]))] s.heap := hP
  have hD : va_D A [(h, .inr (0, [.null, .null, .int 0, .long 0, .null, .null, .int 0, .null]))] := hD
  refine lv_aload_n hx hb dX3_init_0 rfl (lv_at hl 0 rfl) ?_
  refine va_gets hx hb hE.2.2.1 hS hown (hts _ q177) (fun _ h9 => h9) dX3_init_1 ?_
  have hPc := hP.sub (ws' := [(h, .inr (0, [.null, .null, .int 0, .long 0, .null, .null, .int 0, .null]))]) [0] rfl
  have hDc := hD.sub (ws' := [(h, .inr (0, [.null, .null, .int 0, .long 0, .null, .null, .int 0, .null]))]) [0] (by decide) rfl
  have hFc := va_free (wc := [(h, .inr (0, [.null, .null, .int 0, .long 0, .null, .null, .int 0, .null]))]) hD hS hA [0] rfl
  refine sm_backv (wr := []) (va_runI (As := [.ref pA]) (rest := []) ⟨hx, hb, hml, hown, hts⟩ (met_si l D dB dN s.heap.size tA pA h) (cwI 1 hts (lw_meth q181) rfl rfl rfl (hts _ q12) (hts _ q179) (hts _ q180) rfl (by decide +kernel) ⟨Nat.le_of_ble_eq_true rfl, Nat.le_of_ble_eq_true rfl⟩) ⟨sm_blind, sm_go hK hPc hDc hE hS hFc _⟩ rfl rfl hl.1 rfl (lv_room (Nat.le_of_ble_eq_true rfl)) dX3_init_4 ⟨Nat.le_of_ble_eq_true rfl, Nat.le_of_ble_eq_true rfl⟩) hP hD hS hFc [0] [] rfl rfl (by decide) (by decide) (fun w1 H locs hw hP hD hS => ?_)
  obtain ⟨hV, hI, hW, hX, fv, fi, fw, fx, rfl, hg⟩ := hw
  have hP : va_P D vwCl [(h, .inr (0, [.ref pA, .ref hX, .int 0, .long 0, .ref hV, .ref hI, .int 0, .ref hW])), (hV, .inl (dN, 8, .inl fv)), (hI, .inl (dN, 16, .inl fi)), (hW, .inl (dN, 68, .inl fw)), (hX, .inl (dB, 4, .inl fx))] H := hP.sub [0, 1, 2, 3, 4] rfl
  have hD : va_D A [(h, .inr (0, [.ref pA, .ref hX, .int 0, .long 0, .ref hV, .ref hI, .int 0, .ref hW])), (hV, .inl (dN, 8, .inl fv)), (hI, .inl (dN, 16, .inl fi)), (hW, .inl (dN, 68, .inl fw)), (hX, .inl (dB, 4, .inl fx))] := hD.sub [0, 1, 2, 3, 4] (by decide) rfl
  refine W.widen (k := 4) (n := 96) (Nat.le_of_ble_eq_true rfl) (Nat.le_of_ble_eq_true rfl) ?_
  exact W.vret hx hb hr (sm_endv _ ⟨hV, hI, hW, hX, fv, fi, fw, fx, rfl, hg⟩ hP hD hS) hS.2.2 dX3_init_7 hlk
set_option maxHeartbeats 4000000 in
set_option maxRecDepth 100000 in
/-- doFinal(out, 0): the digest of the n bytes is written; the state is as new -/
theorem met_df (l : Launch) (D : va_G) (dB dN : ClassId) (sz tA pA : Nat) (h hV hI hW hX : Nat) (fv fi fw fx : Nat → Int32) (msg : Nat → Int32) (n ho : Nat) (fo : Nat → Int32) (hAb : sm_Ab msg n fv fi fx) : Met l yX3_doFinal (ws_ yX3_doFinal cX3_doFinal 3 (some .int)) ({ frames := 5, cells := 0, slots := 0, locals := 125 }) (va_Pc [.ref h, .ref ho, .int 0] (sm_pre D dB dN (sm_dg dB dN pA h hV hI hW hX fv fi fw fx (nI (n / 4 % 16)) (nI (n % 4)) (lN n) ++ [(ho, .inl (dB, 64, .inl fo))]) sz tA pA)) (sm_Qi D (fun r w => r = 32 ∧ ∃ gv gi gw gx go : Nat → Int32, w = sm_dg dB dN pA h hV hI hW hX gv gi gw gx 0 0 0 ++ [(ho, .inl (dB, 64, .inl go))] ∧ (∀ j, j < 8 → gv j = sm_iv j) ∧ ∀ j, j < 64 → go j = if j < 32 then sm_ob (sm_F msg n (j / 4)) (j % 4) else fo j) (va_A (sm_dg dB dN pA h hV hI hW hX fv fi fw fx (nI (n / 4 % 16)) (nI (n % 4)) (lN n) ++ [(ho, .inl (dB, 64, .inl fo))]) sz)) 0 0 (va_A (sm_dg dB dN pA h hV hI hW hX fv fi fw fx (nI (n / 4 % 16)) (nI (n % 4)) (lN n) ++ [(ho, .inl (dB, 64, .inl fo))]) sz) := by
  refine sm_met RX3 (sm_Qi D _) (by decide) rfl (Nat.le_of_ble_eq_true rfl) ?_
  intro p e s m below meth c ls A cx hnm hP hK hD hE hA hS hl
  obtain ⟨hx, hb, hr, hlk, hml, hown, hts⟩ := cx
  have hl : lv_has ls 3 [(0, .ref h), (1, .ref ho), (2, .int 0)] := hl
  have hP : va_P D vwCl [(h, .inr (0, [.ref pA, .ref hX, .int (nI (n % 4)), .long (lN n), .ref hV, .ref hI, .int (nI (n / 4 % 16)), .ref hW])), (hV, .inl (dN, 8, .inl fv)), (hI, .inl (dN, 16, .inl fi)), (hW, .inl (dN, 68, .inl fw)), (hX, .inl (dB, 4, .inl fx)), (ho, .inl (dB, 64, .inl fo))] s.heap := hP
  have hD : va_D A [(h, .inr (0, [.ref pA, .ref hX, .int (nI (n % 4)), .long (lN n), .ref hV, .ref hI, .int (nI (n / 4 % 16)), .ref hW])), (hV, .inl (dN, 8, .inl fv)), (hI, .inl (dN, 16, .inl fi)), (hW, .inl (dN, 68, .inl fw)), (hX, .inl (dB, 4, .inl fx)), (ho, .inl (dB, 64, .inl fo))] := hD
  refine lv_aload_n hx hb dX3_doFinal_0 rfl (lv_at hl 0 rfl) ?_
  have hPc := hP.sub (ws' := [(h, .inr (0, [.ref pA, .ref hX, .int (nI (n % 4)), .long (lN n), .ref hV, .ref hI, .int (nI (n / 4 % 16)), .ref hW])), (hV, .inl (dN, 8, .inl fv)), (hI, .inl (dN, 16, .inl fi)), (hW, .inl (dN, 68, .inl fw)), (hX, .inl (dB, 4, .inl fx))]) [0, 1, 2, 3, 4] rfl
  have hDc := hD.sub (ws' := [(h, .inr (0, [.ref pA, .ref hX, .int (nI (n % 4)), .long (lN n), .ref hV, .ref hI, .int (nI (n / 4 % 16)), .ref hW])), (hV, .inl (dN, 8, .inl fv)), (hI, .inl (dN, 16, .inl fi)), (hW, .inl (dN, 68, .inl fw)), (hX, .inl (dB, 4, .inl fx))]) [0, 1, 2, 3, 4] (by decide) rfl
  have hFc := va_free (wc := [(h, .inr (0, [.ref pA, .ref hX, .int (nI (n % 4)), .long (lN n), .ref hV, .ref hI, .int (nI (n / 4 % 16)), .ref hW])), (hV, .inl (dN, 8, .inl fv)), (hI, .inl (dN, 16, .inl fi)), (hW, .inl (dN, 68, .inl fw)), (hX, .inl (dB, 4, .inl fx))]) hD hS hA [0, 1, 2, 3, 4] rfl
  refine sm_backv (wr := [(ho, .inl (dB, 64, .inl fo))]) (va_runU (As := []) (rest := []) ⟨hx, hb, hml, hown, hts⟩ (met_fin l D dB dN s.heap.size tA pA h hV hI hW hX fv fi fw fx msg n hAb) (va_cwU (C := RX3) (owner := RX2) (x := sm_xF) 0 hts (sm_gU q110 q111 q113 q114 q11 q115) rfl rfl rfl rfl (by decide +kernel) ⟨Nat.le_of_ble_eq_true rfl, Nat.le_of_ble_eq_true rfl⟩) ⟨sm_blind, va_recv hK hP (ci := 0) (q0 := 0) rfl rfl, sm_go hK hPc hDc hE hS hFc _⟩ rfl rfl hl.1 rfl (lv_room (Nat.le_of_ble_eq_true rfl)) dX3_doFinal_1 ⟨Nat.le_of_ble_eq_true rfl, Nat.le_of_ble_eq_true rfl⟩) hP hD hS hFc [0, 1, 2, 3, 4] [5] rfl rfl (by decide) (by decide) (fun w1 H locs hw hP hD hS => ?_)
  obtain ⟨gv, gi, gw, gx, xo, bo, bc, rfl, hg⟩ := hw
  have hP : va_P D vwCl [(h, .inr (0, [.ref pA, .ref hX, .int bo, .long bc, .ref hV, .ref hI, .int xo, .ref hW])), (hV, .inl (dN, 8, .inl gv)), (hI, .inl (dN, 16, .inl gi)), (hW, .inl (dN, 68, .inl gw)), (hX, .inl (dB, 4, .inl gx)), (ho, .inl (dB, 64, .inl fo))] H := hP.sub [1, 2, 3, 4, 5, 0] rfl
  have hD : va_D A [(h, .inr (0, [.ref pA, .ref hX, .int bo, .long bc, .ref hV, .ref hI, .int xo, .ref hW])), (hV, .inl (dN, 8, .inl gv)), (hI, .inl (dN, 16, .inl gi)), (hW, .inl (dN, 68, .inl gw)), (hX, .inl (dB, 4, .inl gx)), (ho, .inl (dB, 64, .inl fo))] := hD.sub [1, 2, 3, 4, 5, 0] (by decide) rfl
  refine lv_aload_n hx hb dX3_doFinal_4 rfl (lv_at hl 0 rfl) ?_
  refine va_get (D := D) (ci := 0) (v := .ref hV) (C := RX3) (T := TX3) (N := 8) hx hb hts in_X3 hown hK hP 0 rfl rfl 4 (by decide) (hts _ q186) (fun _ h9 => h9) rfl dX3_doFinal_5 ?_
  refine lv_aload_n hx hb dX3_doFinal_8 rfl (lv_at hl 1 rfl) ?_
  refine lv_iload_n hx hb dX3_doFinal_9 rfl (lv_at hl 2 rfl) ?_
  have hPc := hP.sub (ws' := [(hV, .inl (dN, 8, .inl gv)), (ho, .inl (dB, 64, .inl fo))]) [1, 5] rfl
  have hDc := hD.sub (ws' := [(hV, .inl (dN, 8, .inl gv)), (ho, .inl (dB, 64, .inl fo))]) [1, 5] (by decide) rfl
  have hFc := va_free (wc := [(hV, .inl (dN, 8, .inl gv)), (ho, .inl (dB, 64, .inl fo))]) hD hS hA [1, 5] rfl
  refine sm_backv (wr := [(h, .inr (0, [.ref pA, .ref hX, .int bo, .long bc, .ref hV, .ref hI, .int xo, .ref hW])), (hI, .inl (dN, 16, .inl gi)), (hW, .inl (dN, 68, .inl gw)), (hX, .inl (dB, 4, .inl gx))]) (va_runS (As := [.ref hV, .ref ho, .int 0]) (rest := []) ⟨hx, hb, hml, hown, hts⟩ (met_v2b l D dB dN H.size tA pA hV ho gv fo) (va_cwS 3 hts (lw_S q127 q128 q16 q129) rfl rfl rfl (by decide +kernel) ⟨Nat.le_of_ble_eq_true rfl, Nat.le_of_ble_eq_true rfl⟩) ⟨sm_blind, sm_go hK hPc hDc hE hS hFc _⟩ rfl rfl hl.1 rfl (lv_room (Nat.le_of_ble_eq_true rfl)) dX3_doFinal_10 ⟨Nat.le_of_ble_eq_true rfl, Nat.le_of_ble_eq_true rfl⟩) hP hD hS hFc [1, 5] [0, 2, 3, 4] rfl rfl (by decide) (by decide) (fun w1 H locs hw hP hD hS => ?_)
  obtain ⟨go, rfl, hgo⟩ := hw
  have hP : va_P D vwCl [(h, .inr (0, [.ref pA, .ref hX, .int bo, .long bc, .ref hV, .ref hI, .int xo, .ref hW])), (hV, .inl (dN, 8, .inl gv)), (hI, .inl (dN, 16, .inl gi)), (hW, .inl (dN, 68, .inl gw)), (hX, .inl (dB, 4, .inl gx)), (ho, .inl (dB, 64, .inl go))] H := hP.sub [0, 4, 1, 2, 3, 5] rfl
  have hD : va_D A [(h, .inr (0, [.ref pA, .ref hX, .int bo, .long bc, .ref hV, .ref hI, .int xo, .ref hW])), (hV, .inl (dN, 8, .inl gv)), (hI, .inl (dN, 16, .inl gi)), (hW, .inl (dN, 68, .inl gw)), (hX, .inl (dB, 4, .inl gx)), (ho, .inl (dB, 64, .inl go))] := hD.sub [0, 4, 1, 2, 3, 5] (by decide) rfl
  refine lv_aload_n hx hb dX3_doFinal_13 rfl (lv_at hl 0 rfl) ?_
  have hPc := hP.sub (ws' := [(h, .inr (0, [.ref pA, .ref hX, .int bo, .long bc, .ref hV, .ref hI, .int xo, .ref hW])), (hV, .inl (dN, 8, .inl gv)), (hI, .inl (dN, 16, .inl gi)), (hW, .inl (dN, 68, .inl gw)), (hX, .inl (dB, 4, .inl gx))]) [0, 1, 2, 3, 4] rfl
  have hDc := hD.sub (ws' := [(h, .inr (0, [.ref pA, .ref hX, .int bo, .long bc, .ref hV, .ref hI, .int xo, .ref hW])), (hV, .inl (dN, 8, .inl gv)), (hI, .inl (dN, 16, .inl gi)), (hW, .inl (dN, 68, .inl gw)), (hX, .inl (dB, 4, .inl gx))]) [0, 1, 2, 3, 4] (by decide) rfl
  have hFc := va_free (wc := [(h, .inr (0, [.ref pA, .ref hX, .int bo, .long bc, .ref hV, .ref hI, .int xo, .ref hW])), (hV, .inl (dN, 8, .inl gv)), (hI, .inl (dN, 16, .inl gi)), (hW, .inl (dN, 68, .inl gw)), (hX, .inl (dB, 4, .inl gx))]) hD hS hA [0, 1, 2, 3, 4] rfl
  refine sm_backv (wr := [(ho, .inl (dB, 64, .inl go))]) (va_runV (As := []) (rest := []) ⟨hx, hb, hml, hown, hts⟩ (met_rs l D dB dN H.size tA pA h hV hI hW hX gv gi gw gx xo bo bc) (cwV 0 hts (lw_V q133 q134 q135 q12 q136) rfl rfl rfl (by decide +kernel) ⟨Nat.le_of_ble_eq_true rfl, Nat.le_of_ble_eq_true rfl⟩) ⟨sm_blind, va_recv hK hP (ci := 0) (q0 := 0) rfl rfl, sm_go hK hPc hDc hE hS hFc _⟩ rfl rfl hl.1 rfl (lv_room (Nat.le_of_ble_eq_true rfl)) dX3_doFinal_14 ⟨Nat.le_of_ble_eq_true rfl, Nat.le_of_ble_eq_true rfl⟩) hP hD hS hFc [0, 1, 2, 3, 4] [5] rfl rfl (by decide) (by decide) (fun w1 H locs hw hP hD hS => ?_)
  obtain ⟨kv, kx, rfl, hk⟩ := hw
  have hP : va_P D vwCl [(h, .inr (0, [.ref pA, .ref hX, .int 0, .long 0, .ref hV, .ref hI, .int 0, .ref hW])), (hV, .inl (dN, 8, .inl kv)), (hI, .inl (dN, 16, .inl gi)), (hW, .inl (dN, 68, .inl gw)), (hX, .inl (dB, 4, .inl kx)), (ho, .inl (dB, 64, .inl go))] H := hP.sub [1, 2, 3, 4, 5, 0] rfl
  have hD : va_D A [(h, .inr (0, [.ref pA, .ref hX, .int 0, .long 0, .ref hV, .ref hI, .int 0, .ref hW])), (hV, .inl (dN, 8, .inl kv)), (hI, .inl (dN, 16, .inl gi)), (hW, .inl (dN, 68, .inl gw)), (hX, .inl (dB, 4, .inl kx)), (ho, .inl (dB, 64, .inl go))] := hD.sub [1, 2, 3, 4, 5, 0] (by decide) rfl
  refine lv_bipush (v := (32 : Int32)) hx hb dX3_doFinal_17 (by decide) ?_
  exact W.iret (v := 32) hx hb hr (sm_endi _ ⟨rfl, kv, gi, gw, kx, go, rfl, hk, fun j hj => by
    rw [hgo j hj]
    by_cases h32 : j < 32
    · rw [if_pos h32, if_pos h32, hg _ (by omega)]
    · rw [if_neg h32, if_neg h32]⟩ hP hD hS) hS.2.2 dX3_doFinal_19 hlk
end
section
/-! SmDigestDesk -/
set_option maxRecDepth 100000
/-- a desk: its size z, the bytes tx, out as oo, and n bytes of msg fed to its digest; fd as it counts them -/
def sm_DS (dB dN : ClassId) (pA d : Nat) (msg : Nat → Int32) (n fd z : Nat) (tx oo : Nat → Int32) (w : va_W) : Prop := ∃ (ho ht h hV hI hW hX : Nat) (fo ft fv fi fw fx : Nat → Int32), w = [(d, .inr (1, [.ref h, .ref ho, .int (nI fd), .ref ht, .int (nI z)])), (ho, .inl (dB, 64, .inl fo)), (ht, .inl (dB, 1024, .inl ft)), (h, .inr (0, [.ref pA, .ref hX, .int (nI (n % 4)), .long (lN n), .ref hV, .ref hI, .int (nI (n / 4 % 16)), .ref hW])), (hV, .inl (dN, 8, .inl fv)), (hI, .inl (dN, 16, .inl fi)), (hW, .inl (dN, 68, .inl fw)), (hX, .inl (dB, 4, .inl fx))] ∧ sm_Ab msg n fv fi fx ∧ (∀ j, j < 1024 → ft j = tx j) ∧ ∀ j, j < 64 → fo j = oo j
/-- out, with the digest of n bytes of msg over what stood there -/
def sm_od (msg : Nat → Int32) (n : Nat) (oo : Nat → Int32) : Nat → Int32 := fun j => if j < 32 then sm_ob (sm_F msg n (j / 4)) (j % 4) else oo j
def sm_m (x : Int32) : Nat := x.toBitVec.toNat % 2 ^ 31
theorem sm_m_lt (x : Int32) : sm_m x < 2 ^ 31 := Nat.mod_lt _ (by decide)
theorem sm_m_and (x : Int32) : x &&& (2147483647 : Int32) = nI (sm_m x) := pk_and x 31 (by decide)
theorem sm_m_nI {k : Nat} (h : k < 2 ^ 31) : sm_m (nI k) = k := by
  unfold sm_m
  rw [pk_tn (by omega), Nat.mod_eq_of_lt h]
theorem sm_rem {a d : Nat} (ha : a < 2 ^ 31) (h0 : 0 < d) (hd : d < 2 ^ 31) {x : Int32} (hx : x = nI d) : nI a - nI a / x * x = nI (a % d) := by
  rw [hx]
  exact pk_rem ha h0 hd
/-- byte k of a word, as put writes it -/
def sm_wb (x : Int32) (k : Nat) : Int32 := match k with
  | 0 => (x >>> ((24 : Int32) &&& 31)).toInt8.toInt32
  | 1 => (x >>> ((16 : Int32) &&& 31)).toInt8.toInt32
  | 2 => (x >>> ((8 : Int32) &&& 31)).toInt8.toInt32
  | _ => x.toInt8.toInt32
def sm_w4 (f : Nat → Int32) (k : Nat) (x : Int32) : Nat → Int32 := upd (upd (upd (upd f k (sm_wb x 0)) (k + 1) (sm_wb x 1)) (k + 2) (sm_wb x 2)) (k + 3) (sm_wb x 3)
theorem sm_w4_out {f : Nat → Int32} {k j : Nat} {x : Int32} (h : j < k ∨ k + 4 ≤ j) : sm_w4 f k x j = f j := by
  unfold sm_w4
  rw [pk_un (by omega), pk_un (by omega), pk_un (by omega), pk_un (by omega)]
theorem sm_w4_in {f : Nat → Int32} {k j : Nat} {x : Int32} (h : j < 4) : sm_w4 f k x (k + j) = sm_wb x j := by
  unfold sm_w4
  match j, h with
  | 0, _ => rw [pk_un (by omega), pk_un (by omega), pk_un (by omega)]; exact pk_us
  | 1, _ => rw [pk_un (by omega), pk_un (by omega), pk_us]
  | 2, _ => rw [pk_un (by omega), pk_us]
  | 3, _ => rw [pk_us]
theorem sm_w4_c {f g : Nat → Int32} {k : Nat} {x : Int32} (h : ∀ j, j < 1024 → f j = g j) : ∀ j, j < 1024 → sm_w4 f k x j = sm_w4 g k x j := by
  intro j hj
  rcases Nat.lt_or_ge j k with q | q
  · rw [sm_w4_out (Or.inl q), sm_w4_out (Or.inl q), h j hj]
  · rcases Nat.lt_or_ge j (k + 4) with q2 | q2
    · have e : j = k + (j - k) := by omega
      rw [e, sm_w4_in (by omega), sm_w4_in (by omega)]
    · rw [sm_w4_out (Or.inr q2), sm_w4_out (Or.inr q2), h j hj]
/-- four words -/
def sm_p4 (f : Nat → Int32) (k : Nat) (a b c x : Int32) : Nat → Int32 := sm_w4 (sm_w4 (sm_w4 (sm_w4 f k a) (k + 4) b) (k + 8) c) (k + 12) x
theorem sm_p4_c {f g : Nat → Int32} {k : Nat} {a b c x : Int32} (h : ∀ j, j < 1024 → f j = g j) : ∀ j, j < 1024 → sm_p4 f k a b c x j = sm_p4 g k a b c x j := sm_w4_c (sm_w4_c (sm_w4_c (sm_w4_c h)))
set_option maxHeartbeats 4000000 in
set_option maxRecDepth 100000 in
theorem met_from (l : Launch) (D : va_G) (dB dN : ClassId) (d h ho ht : Nat) (fed : Int32) (z : Nat) (x : Int32) (hz : z < 2 ^ 30) : Met l yX1_from (ws_ yX1_from cX1_from 2 (some .int)) ({ frames := 0, cells := 0, slots := 0, locals := 0 }) (va_Pc [.ref d, .int x] (sm_pr0 D dB dN ([(d, .inr (1, [.ref h, .ref ho, .int fed, .ref ht, .int (nI z)]))]))) (vp_Si (fun r => r = nI (sm_m x % (z + 1)))) 0 0 (fun _ => False) := by
  refine sm_enter RX1 (by decide) rfl (Nat.le_of_ble_eq_true rfl) ?_
  intro p e s m below meth c ls cx hnm hpre hl
  obtain ⟨hx, hb, hr, hlk, hml, hown, hts⟩ := cx
  obtain ⟨hP, hK⟩ := hpre
  have hl : lv_has ls 2 [(0, .ref d), (1, .int x)] := hl
  have hP : va_P D vwCl [(d, .inr (1, [.ref h, .ref ho, .int fed, .ref ht, .int (nI z)]))] s.heap := hP
  refine lv_iload_n hx hb dX1_from_0 rfl (lv_at hl 1 rfl) ?_
  refine lv_ldc (v := (2147483647 : Int32)) hx hb hown (hts _ q26) dX1_from_1 ?_
  refine lv_iand hx hb dX1_from_3 ?_
  refine lv_topi (fun y_ ey_ => ?_)
  have ey_ : y_ = nI (sm_m x) := ey_.trans (sm_m_and x)
  subst ey_
  refine lv_aload_n hx hb dX1_from_4 rfl (lv_at hl 0 rfl) ?_
  refine va_get (D := D) (ci := 1) (v := .int (nI z)) (C := RX1) (T := TX1) (N := 5) hx hb hts in_X1 hown hK hP 0 rfl rfl 4 (by decide) (hts _ q216) (fun _ h9 => h9) rfl dX1_from_5 ?_
  refine lv_iconst (v := (1 : Int32)) hx hb dX1_from_8 (by decide) ?_
  refine lv_iadd hx hb dX1_from_9 ?_
  refine lv_topi (fun y_ ey_ => ?_)
  have ey_ : y_ = nI (z + 1) := ey_.trans (nI_1 z)
  subst ey_
  refine lv_irem hx hb dX1_from_10 (nI_ne0 (Nat.succ_pos z) (by omega)) ?_
  exact W.iret hx hb hr (fun t ht hW => ⟨_, rfl, sm_rem (sm_m_lt x) (Nat.succ_pos z) (by omega) rfl, ht⟩) (fun _ h => by cases h) dX1_from_11 hlk
set_option maxHeartbeats 4000000 in
set_option maxRecDepth 100000 in
theorem met_count (l : Launch) (D : va_G) (dB dN : ClassId) (d h ho ht : Nat) (fed : Int32) (z : Nat) (f : Nat) (x : Int32) (hz : z < 2 ^ 30) (hf : f ≤ z) : Met l yX1_count (ws_ yX1_count cX1_count 3 (some .int)) ({ frames := 0, cells := 0, slots := 0, locals := 0 }) (va_Pc [.ref d, .int (nI f), .int x] (sm_pr0 D dB dN ([(d, .inr (1, [.ref h, .ref ho, .int fed, .ref ht, .int (nI z)]))]))) (vp_Si (fun r => r = nI (sm_m x % (z - f + 1)))) 0 0 (fun _ => False) := by
  refine sm_enter RX1 (by decide) rfl (Nat.le_of_ble_eq_true rfl) ?_
  intro p e s m below meth c ls cx hnm hpre hl
  obtain ⟨hx, hb, hr, hlk, hml, hown, hts⟩ := cx
  obtain ⟨hP, hK⟩ := hpre
  have hl : lv_has ls 3 [(0, .ref d), (1, .int (nI f)), (2, .int x)] := hl
  have hP : va_P D vwCl [(d, .inr (1, [.ref h, .ref ho, .int fed, .ref ht, .int (nI z)]))] s.heap := hP
  refine lv_iload_n hx hb dX1_count_0 rfl (lv_at hl 2 rfl) ?_
  refine lv_ldc (v := (2147483647 : Int32)) hx hb hown (hts _ q26) dX1_count_1 ?_
  refine lv_iand hx hb dX1_count_3 ?_
  refine lv_topi (fun y_ ey_ => ?_)
  have ey_ : y_ = nI (sm_m x) := ey_.trans (sm_m_and x)
  subst ey_
  refine lv_aload_n hx hb dX1_count_4 rfl (lv_at hl 0 rfl) ?_
  refine va_get (D := D) (ci := 1) (v := .int (nI z)) (C := RX1) (T := TX1) (N := 5) hx hb hts in_X1 hown hK hP 0 rfl rfl 4 (by decide) (hts _ q216) (fun _ h9 => h9) rfl dX1_count_5 ?_
  refine lv_iload_n hx hb dX1_count_8 rfl (lv_at hl 1 rfl) ?_
  refine lv_isub hx hb dX1_count_9 ?_
  refine lv_topi (fun y_ ey_ => ?_)
  have ey_ : y_ = nI (z - f) := ey_.trans (pk_sub hf)
  subst ey_
  refine lv_iconst (v := (1 : Int32)) hx hb dX1_count_10 (by decide) ?_
  refine lv_iadd hx hb dX1_count_11 ?_
  refine lv_topi (fun y_ ey_ => ?_)
  have ey_ : y_ = nI (z - f + 1) := ey_.trans (nI_1 _)
  subst ey_
  refine lv_irem hx hb dX1_count_12 (nI_ne0 (Nat.succ_pos _) (by omega)) ?_
  exact W.iret hx hb hr (fun t ht hW => ⟨_, rfl, sm_rem (sm_m_lt x) (Nat.succ_pos _) (by omega) rfl, ht⟩) (fun _ h => by cases h) dX1_count_13 hlk
set_option maxHeartbeats 4000000 in
set_option maxRecDepth 100000 in
theorem met_out (l : Launch) (D : va_G) (dB dN : ClassId) (d h ho ht : Nat) (fed size : Int32) (fo : Nat → Int32) (k : Nat) (hk : k < 64) : Met l yX1_out (ws_ yX1_out cX1_out 2 (some .int)) ({ frames := 0, cells := 0, slots := 0, locals := 0 }) (va_Pc [.ref d, .int (nI k)] (sm_pr0 D dB dN ([(d, .inr (1, [.ref h, .ref ho, .int fed, .ref ht, .int size])), (ho, .inl (dB, 64, .inl fo))]))) (vp_Si (fun r => r = fo k &&& 255)) 0 0 (fun _ => False) := by
  refine sm_enter RX1 (by decide) rfl (Nat.le_of_ble_eq_true rfl) ?_
  intro p e s m below meth c ls cx hnm hpre hl
  obtain ⟨hx, hb, hr, hlk, hml, hown, hts⟩ := cx
  obtain ⟨hP, hK⟩ := hpre
  have hl : lv_has ls 2 [(0, .ref d), (1, .int (nI k))] := hl
  have hP : va_P D vwCl [(d, .inr (1, [.ref h, .ref ho, .int fed, .ref ht, .int size])), (ho, .inl (dB, 64, .inl fo))] s.heap := hP
  refine lv_aload_n hx hb dX1_out_0 rfl (lv_at hl 0 rfl) ?_
  refine va_get (D := D) (ci := 1) (v := .ref ho) (C := RX1) (T := TX1) (N := 5) hx hb hts in_X1 hown hK hP 0 rfl rfl 1 (by decide) (hts _ q213) (fun _ h9 => h9) rfl dX1_out_1 ?_
  refine lv_iload_n hx hb dX1_out_4 rfl (lv_at hl 1 rfl) ?_
  refine lv_ldc (v := (2147483647 : Int32)) hx hb hown (hts _ q26) dX1_out_5 ?_
  refine lv_iand hx hb dX1_out_7 ?_
  refine lv_topi (fun y_ ey_ => ?_)
  have ey_ : y_ = nI k := ey_.trans ((sm_m_and (nI k)).trans (by rw [sm_m_nI (by omega)]))
  subst ey_
  refine lv_bipush (v := (64 : Int32)) hx hb dX1_out_8 (by decide) ?_
  refine lv_irem hx hb dX1_out_10 (by decide) ?_
  refine lv_topi (fun y_ ey_ => ?_)
  have ey_ : y_ = nI k := ey_.trans ((sm_rem (a := k) (d := 64) (by omega) (by decide) (by decide) rfl).trans (by rw [Nat.mod_eq_of_lt hk]))
  subst ey_
  refine sm_bld hx hb hK hP 1 0 rfl rfl k rfl hk (by decide) dX1_out_11 ?_
  refine lv_sipush (v := (255 : Int32)) hx hb dX1_out_12 (by decide) ?_
  refine lv_iand hx hb dX1_out_15 ?_
  exact W.iret hx hb hr (fun t ht hW => ⟨_, rfl, rfl, ht⟩) (fun _ h => by cases h) dX1_out_16 hlk
set_option maxHeartbeats 4000000 in
set_option maxRecDepth 100000 in
/-- word(at, x): four bytes of the text -/
theorem met_word (l : Launch) (D : va_G) (dB dN : ClassId) (sz tA pA : Nat) (d h ho ht : Nat) (fed size : Int32) (ft : Nat → Int32) (k : Nat) (x : Int32) (hk : k + 3 < 1024) : Met l yX1_word (ws_ yX1_word cX1_word 3 none) ({ frames := 0, cells := 0, slots := 0, locals := 0 }) (va_Pc [.ref d, .int (nI k), .int x] (sm_pre D dB dN ([(d, .inr (1, [.ref h, .ref ho, .int fed, .ref ht, .int size])), (ht, .inl (dB, 1024, .inl ft))]) sz tA pA)) (sm_Qv D (fun w => w = [(d, .inr (1, [.ref h, .ref ho, .int fed, .ref ht, .int size])), (ht, .inl (dB, 1024, .inl (sm_w4 ft k x)))]) (va_A ([(d, .inr (1, [.ref h, .ref ho, .int fed, .ref ht, .int size])), (ht, .inl (dB, 1024, .inl ft))]) sz)) 0 0 (va_A ([(d, .inr (1, [.ref h, .ref ho, .int fed, .ref ht, .int size])), (ht, .inl (dB, 1024, .inl ft))]) sz) := by
  refine sm_met RX1 (sm_Qv D _) (by decide) rfl (Nat.le_of_ble_eq_true rfl) ?_
  intro p e s m below meth c ls A cx hnm hP hK hD hE hA hS hl
  obtain ⟨hx, hb, hr, hlk, hml, hown, hts⟩ := cx
  have hl : lv_has ls 3 [(0, .ref d), (1, .int (nI k)), (2, .int x)] := hl
  have hP : va_P D vwCl [(d, .inr (1, [.ref h, .ref ho, .int fed, .ref ht, .int size])), (ht, .inl (dB, 1024, .inl ft))] s.heap := hP
  have hD : va_D A [(d, .inr (1, [.ref h, .ref ho, .int fed, .ref ht, .int size])), (ht, .inl (dB, 1024, .inl ft))] := hD
  refine lv_aload_n hx hb dX1_word_0 rfl (lv_at hl 0 rfl) ?_
  refine va_get (D := D) (ci := 1) (v := .ref ht) (C := RX1) (T := TX1) (N := 5) hx hb hts in_X1 hown hK hP 0 rfl rfl 3 (by decide) (hts _ q215) (fun _ h9 => h9) rfl dX1_word_1 ?_
  refine lv_iload_n hx hb dX1_word_4 rfl (lv_at hl 1 rfl) ?_
  refine lv_iload_n hx hb dX1_word_5 rfl (lv_at hl 2 rfl) ?_
  refine lv_bipush (v := (24 : Int32)) hx hb dX1_word_6 (by decide) ?_
  refine lv_ishr hx hb dX1_word_8 ?_
  refine lv_i2b hx hb dX1_word_9 rfl ?_
  refine sm_bst hx hb hK hP hD hS 1 0 rfl rfl (sm_wb x 0) k rfl (by omega) (by decide) (pk_vb _) dX1_word_10 (fun H locs hP hD hS => ?_)
  have hP : va_P D vwCl [(d, .inr (1, [.ref h, .ref ho, .int fed, .ref ht, .int size])), (ht, .inl (dB, 1024, .inl (upd ft k (sm_wb x 0))))] H := hP
  have hD : va_D A [(d, .inr (1, [.ref h, .ref ho, .int fed, .ref ht, .int size])), (ht, .inl (dB, 1024, .inl (upd ft k (sm_wb x 0))))] := hD
  refine lv_aload_n hx hb dX1_word_11 rfl (lv_at hl 0 rfl) ?_
  refine va_get (D := D) (ci := 1) (v := .ref ht) (C := RX1) (T := TX1) (N := 5) hx hb hts in_X1 hown hK hP 0 rfl rfl 3 (by decide) (hts _ q215) (fun _ h9 => h9) rfl dX1_word_12 ?_
  refine lv_iload_n hx hb dX1_word_15 rfl (lv_at hl 1 rfl) ?_
  refine lv_iconst (v := (1 : Int32)) hx hb dX1_word_16 (by decide) ?_
  refine lv_iadd hx hb dX1_word_17 ?_
  refine lv_iload_n hx hb dX1_word_18 rfl (lv_at hl 2 rfl) ?_
  refine lv_bipush (v := (16 : Int32)) hx hb dX1_word_19 (by decide) ?_
  refine lv_ishr hx hb dX1_word_21 ?_
  refine lv_i2b hx hb dX1_word_22 rfl ?_
  refine sm_bst hx hb hK hP hD hS 1 0 rfl rfl (sm_wb x 1) (k + 1) (nI_1 k) (by omega) (by decide) (pk_vb _) dX1_word_23 (fun H locs hP hD hS => ?_)
  have hP : va_P D vwCl [(d, .inr (1, [.ref h, .ref ho, .int fed, .ref ht, .int size])), (ht, .inl (dB, 1024, .inl (upd (upd ft k (sm_wb x 0)) (k + 1) (sm_wb x 1))))] H := hP
  have hD : va_D A [(d, .inr (1, [.ref h, .ref ho, .int fed, .ref ht, .int size])), (ht, .inl (dB, 1024, .inl (upd (upd ft k (sm_wb x 0)) (k + 1) (sm_wb x 1))))] := hD
  refine lv_aload_n hx hb dX1_word_24 rfl (lv_at hl 0 rfl) ?_
  refine va_get (D := D) (ci := 1) (v := .ref ht) (C := RX1) (T := TX1) (N := 5) hx hb hts in_X1 hown hK hP 0 rfl rfl 3 (by decide) (hts _ q215) (fun _ h9 => h9) rfl dX1_word_25 ?_
  refine lv_iload_n hx hb dX1_word_28 rfl (lv_at hl 1 rfl) ?_
  refine lv_iconst (v := (2 : Int32)) hx hb dX1_word_29 (by decide) ?_
  refine lv_iadd hx hb dX1_word_30 ?_
  refine lv_iload_n hx hb dX1_word_31 rfl (lv_at hl 2 rfl) ?_
  refine lv_bipush (v := (8 : Int32)) hx hb dX1_word_32 (by decide) ?_
  refine lv_ishr hx hb dX1_word_34 ?_
  refine lv_i2b hx hb dX1_word_35 rfl ?_
  refine sm_bst hx hb hK hP hD hS 1 0 rfl rfl (sm_wb x 2) (k + 2) (nI_add k 2) (by omega) (by decide) (pk_vb _) dX1_word_36 (fun H locs hP hD hS => ?_)
  have hP : va_P D vwCl [(d, .inr (1, [.ref h, .ref ho, .int fed, .ref ht, .int size])), (ht, .inl (dB, 1024, .inl (upd (upd (upd ft k (sm_wb x 0)) (k + 1) (sm_wb x 1)) (k + 2) (sm_wb x 2))))] H := hP
  have hD : va_D A [(d, .inr (1, [.ref h, .ref ho, .int fed, .ref ht, .int size])), (ht, .inl (dB, 1024, .inl (upd (upd (upd ft k (sm_wb x 0)) (k + 1) (sm_wb x 1)) (k + 2) (sm_wb x 2))))] := hD
  refine lv_aload_n hx hb dX1_word_37 rfl (lv_at hl 0 rfl) ?_
  refine va_get (D := D) (ci := 1) (v := .ref ht) (C := RX1) (T := TX1) (N := 5) hx hb hts in_X1 hown hK hP 0 rfl rfl 3 (by decide) (hts _ q215) (fun _ h9 => h9) rfl dX1_word_38 ?_
  refine lv_iload_n hx hb dX1_word_41 rfl (lv_at hl 1 rfl) ?_
  refine lv_iconst (v := (3 : Int32)) hx hb dX1_word_42 (by decide) ?_
  refine lv_iadd hx hb dX1_word_43 ?_
  refine lv_iload_n hx hb dX1_word_44 rfl (lv_at hl 2 rfl) ?_
  refine lv_i2b hx hb dX1_word_45 rfl ?_
  refine sm_bst hx hb hK hP hD hS 1 0 rfl rfl (sm_wb x 3) (k + 3) (nI_add k 3) (by omega) (by decide) (pk_vb _) dX1_word_46 (fun H locs hP hD hS => ?_)
  have hP : va_P D vwCl [(d, .inr (1, [.ref h, .ref ho, .int fed, .ref ht, .int size])), (ht, .inl (dB, 1024, .inl (upd (upd (upd (upd ft k (sm_wb x 0)) (k + 1) (sm_wb x 1)) (k + 2) (sm_wb x 2)) (k + 3) (sm_wb x 3))))] H := hP
  have hD : va_D A [(d, .inr (1, [.ref h, .ref ho, .int fed, .ref ht, .int size])), (ht, .inl (dB, 1024, .inl (upd (upd (upd (upd ft k (sm_wb x 0)) (k + 1) (sm_wb x 1)) (k + 2) (sm_wb x 2)) (k + 3) (sm_wb x 3))))] := hD
  exact W.vret hx hb hr (sm_endv _ (by rfl) hP hD hS) hS.2.2 dX1_word_47 hlk
set_option maxHeartbeats 4000000 in
set_option maxRecDepth 100000 in
theorem met_put (l : Launch) (D : va_G) (dB dN : ClassId) (sz tA pA : Nat) (w : va_W) (d : Nat) (msg : Nat → Int32) (n fd z : Nat) (tx oo : Nat → Int32) (hw : sm_DS dB dN pA d msg n fd z tx oo w) (a b c x : Int32) (hz : z ≤ 1008) : Met l yX1_put (ws_ yX1_put cX1_put 5 (some .boolean)) ({ frames := 1, cells := 0, slots := 0, locals := 22 }) (va_Pc [.ref d, .int a, .int b, .int c, .int x] (sm_pre D dB dN (w) sz tA pA)) (sm_Qi D (fun r w' => r = 1 ∧ sm_DS dB dN pA d msg n fd (z + 16) (sm_p4 tx z a b c x) oo w') (va_A (w) sz)) 0 0 (va_A (w) sz) := by
  obtain ⟨ho, ht, h, hV, hI, hW, hX, fo, ft, fv, fi, fw, fx, rfl, hAb, htx, hoo⟩ := hw
  refine sm_met RX1 (sm_Qi D _) (by decide) rfl (Nat.le_of_ble_eq_true rfl) ?_
  intro p e s m below meth c0 ls A cx hnm hP hK hD hE hA hS hl
  obtain ⟨hx, hb, hr, hlk, hml, hown, hts⟩ := cx
  have hl : lv_has ls 5 [(0, .ref d), (1, .int a), (2, .int b), (3, .int c), (4, .int x)] := hl
  have hP : va_P D vwCl [(d, .inr (1, [.ref h, .ref ho, .int (nI fd), .ref ht, .int (nI z)])), (ho, .inl (dB, 64, .inl fo)), (ht, .inl (dB, 1024, .inl ft)), (h, .inr (0, [.ref pA, .ref hX, .int (nI (n % 4)), .long (lN n), .ref hV, .ref hI, .int (nI (n / 4 % 16)), .ref hW])), (hV, .inl (dN, 8, .inl fv)), (hI, .inl (dN, 16, .inl fi)), (hW, .inl (dN, 68, .inl fw)), (hX, .inl (dB, 4, .inl fx))] s.heap := hP
  have hD : va_D A [(d, .inr (1, [.ref h, .ref ho, .int (nI fd), .ref ht, .int (nI z)])), (ho, .inl (dB, 64, .inl fo)), (ht, .inl (dB, 1024, .inl ft)), (h, .inr (0, [.ref pA, .ref hX, .int (nI (n % 4)), .long (lN n), .ref hV, .ref hI, .int (nI (n / 4 % 16)), .ref hW])), (hV, .inl (dN, 8, .inl fv)), (hI, .inl (dN, 16, .inl fi)), (hW, .inl (dN, 68, .inl fw)), (hX, .inl (dB, 4, .inl fx))] := hD
  refine lv_aload_n hx hb dX1_put_0 rfl (lv_at hl 0 rfl) ?_
  refine va_get (D := D) (ci := 1) (v := .int (nI z)) (C := RX1) (T := TX1) (N := 5) hx hb hts in_X1 hown hK hP 0 rfl rfl 4 (by decide) (hts _ q216) (fun _ h9 => h9) rfl dX1_put_1 ?_
  refine lv_aload_n hx hb dX1_put_4 rfl (lv_at hl 0 rfl) ?_
  refine va_get (D := D) (ci := 1) (v := .ref ht) (C := RX1) (T := TX1) (N := 5) hx hb hts in_X1 hown hK hP 0 rfl rfl 3 (by decide) (hts _ q215) (fun _ h9 => h9) rfl dX1_put_5 ?_
  refine va_alen (v := nI 1024) hx hb hK hP 2 0 rfl rfl rfl dX1_put_8 ?_
  refine lv_bipush (v := (16 : Int32)) hx hb dX1_put_9 (by decide) ?_
  refine lv_isub hx hb dX1_put_11 ?_
  refine lv_topi (fun y_ ey_ => ?_)
  have ey_ : y_ = nI 1008 := ey_.trans (pk_sub (a := 1024) (b := 16) (by decide))
  subst ey_
  refine lv_icmp_le (tgt := 17) hx hb dX1_put_12 (by decide) (fun _ => ?_) (fun hc => absurd (nI_le hz (by decide)) hc)
  refine lv_aload_n hx hb dX1_put_17 rfl (lv_at hl 0 rfl) ?_
  refine lv_aload_n hx hb dX1_put_18 rfl (lv_at hl 0 rfl) ?_
  refine va_get (D := D) (ci := 1) (v := .int (nI z)) (C := RX1) (T := TX1) (N := 5) hx hb hts in_X1 hown hK hP 0 rfl rfl 4 (by decide) (hts _ q216) (fun _ h9 => h9) rfl dX1_put_19 ?_
  refine lv_iload_n hx hb dX1_put_22 rfl (lv_at hl 1 rfl) ?_
  have hPc := hP.sub (ws' := [(d, .inr (1, [.ref h, .ref ho, .int (nI fd), .ref ht, .int (nI z)])), (ht, .inl (dB, 1024, .inl ft))]) [0, 2] rfl
  have hDc := hD.sub (ws' := [(d, .inr (1, [.ref h, .ref ho, .int (nI fd), .ref ht, .int (nI z)])), (ht, .inl (dB, 1024, .inl ft))]) [0, 2] (by decide) rfl
  have hFc := va_free (wc := [(d, .inr (1, [.ref h, .ref ho, .int (nI fd), .ref ht, .int (nI z)])), (ht, .inl (dB, 1024, .inl ft))]) hD hS hA [0, 2] rfl
  refine sm_backv (wr := [(ho, .inl (dB, 64, .inl fo)), (h, .inr (0, [.ref pA, .ref hX, .int (nI (n % 4)), .long (lN n), .ref hV, .ref hI, .int (nI (n / 4 % 16)), .ref hW])), (hV, .inl (dN, 8, .inl fv)), (hI, .inl (dN, 16, .inl fi)), (hW, .inl (dN, 68, .inl fw)), (hX, .inl (dB, 4, .inl fx))]) (va_runV (As := [.int (nI z), .int a]) (rest := []) ⟨hx, hb, hml, hown, hts⟩ (met_word l D dB dN s.heap.size tA pA d h ho ht (nI fd) (nI z) ft z a (by omega)) (cwV 2 hts (lw_V q232 q234 qs8 q10 q235) rfl rfl rfl (by decide +kernel) ⟨Nat.le_of_ble_eq_true rfl, Nat.le_of_ble_eq_true rfl⟩) ⟨sm_blind, va_recv hK hP (ci := 1) (q0 := 0) rfl rfl, sm_go hK hPc hDc hE hS hFc _⟩ rfl rfl hl.1 rfl (lv_room (Nat.le_of_ble_eq_true rfl)) dX1_put_23 ⟨Nat.le_of_ble_eq_true rfl, Nat.le_of_ble_eq_true rfl⟩) hP hD hS hFc [0, 2] [1, 3, 4, 5, 6, 7] rfl rfl (by decide) (by decide) (fun w1 H locs hw hP hD hS => ?_)
  subst hw
  have hP : va_P D vwCl [(d, .inr (1, [.ref h, .ref ho, .int (nI fd), .ref ht, .int (nI z)])), (ho, .inl (dB, 64, .inl fo)), (ht, .inl (dB, 1024, .inl (sm_w4 ft z a))), (h, .inr (0, [.ref pA, .ref hX, .int (nI (n % 4)), .long (lN n), .ref hV, .ref hI, .int (nI (n / 4 % 16)), .ref hW])), (hV, .inl (dN, 8, .inl fv)), (hI, .inl (dN, 16, .inl fi)), (hW, .inl (dN, 68, .inl fw)), (hX, .inl (dB, 4, .inl fx))] H := hP.sub [6, 0, 7, 1, 2, 3, 4, 5] rfl
  have hD : va_D A [(d, .inr (1, [.ref h, .ref ho, .int (nI fd), .ref ht, .int (nI z)])), (ho, .inl (dB, 64, .inl fo)), (ht, .inl (dB, 1024, .inl (sm_w4 ft z a))), (h, .inr (0, [.ref pA, .ref hX, .int (nI (n % 4)), .long (lN n), .ref hV, .ref hI, .int (nI (n / 4 % 16)), .ref hW])), (hV, .inl (dN, 8, .inl fv)), (hI, .inl (dN, 16, .inl fi)), (hW, .inl (dN, 68, .inl fw)), (hX, .inl (dB, 4, .inl fx))] := hD.sub [6, 0, 7, 1, 2, 3, 4, 5] (by decide) rfl
  refine lv_aload_n hx hb dX1_put_26 rfl (lv_at hl 0 rfl) ?_
  refine lv_aload_n hx hb dX1_put_27 rfl (lv_at hl 0 rfl) ?_
  refine va_get (D := D) (ci := 1) (v := .int (nI z)) (C := RX1) (T := TX1) (N := 5) hx hb hts in_X1 hown hK hP 0 rfl rfl 4 (by decide) (hts _ q216) (fun _ h9 => h9) rfl dX1_put_28 ?_
  refine lv_iconst (v := (4 : Int32)) hx hb dX1_put_31 (by decide) ?_
  refine lv_iadd hx hb dX1_put_32 ?_
  refine lv_topi (fun y_ ey_ => ?_)
  have ey_ : y_ = nI (z + 4) := ey_.trans (nI_add z 4)
  subst ey_
  refine lv_iload_n hx hb dX1_put_33 rfl (lv_at hl 2 rfl) ?_
  have hPc := hP.sub (ws' := [(d, .inr (1, [.ref h, .ref ho, .int (nI fd), .ref ht, .int (nI z)])), (ht, .inl (dB, 1024, .inl (sm_w4 ft z a)))]) [0, 2] rfl
  have hDc := hD.sub (ws' := [(d, .inr (1, [.ref h, .ref ho, .int (nI fd), .ref ht, .int (nI z)])), (ht, .inl (dB, 1024, .inl (sm_w4 ft z a)))]) [0, 2] (by decide) rfl
  have hFc := va_free (wc := [(d, .inr (1, [.ref h, .ref ho, .int (nI fd), .ref ht, .int (nI z)])), (ht, .inl (dB, 1024, .inl (sm_w4 ft z a)))]) hD hS hA [0, 2] rfl
  refine sm_backv (wr := [(ho, .inl (dB, 64, .inl fo)), (h, .inr (0, [.ref pA, .ref hX, .int (nI (n % 4)), .long (lN n), .ref hV, .ref hI, .int (nI (n / 4 % 16)), .ref hW])), (hV, .inl (dN, 8, .inl fv)), (hI, .inl (dN, 16, .inl fi)), (hW, .inl (dN, 68, .inl fw)), (hX, .inl (dB, 4, .inl fx))]) (va_runV (As := [.int (nI (z + 4)), .int b]) (rest := []) ⟨hx, hb, hml, hown, hts⟩ (met_word l D dB dN H.size tA pA d h ho ht (nI fd) (nI z) (sm_w4 ft z a) (z + 4) b (by omega)) (cwV 2 hts (lw_V q232 q234 qs8 q10 q235) rfl rfl rfl (by decide +kernel) ⟨Nat.le_of_ble_eq_true rfl, Nat.le_of_ble_eq_true rfl⟩) ⟨sm_blind, va_recv hK hP (ci := 1) (q0 := 0) rfl rfl, sm_go hK hPc hDc hE hS hFc _⟩ rfl rfl hl.1 rfl (lv_room (Nat.le_of_ble_eq_true rfl)) dX1_put_34 ⟨Nat.le_of_ble_eq_true rfl, Nat.le_of_ble_eq_true rfl⟩) hP hD hS hFc [0, 2] [1, 3, 4, 5, 6, 7] rfl rfl (by decide) (by decide) (fun w1 H locs hw hP hD hS => ?_)
  subst hw
  have hP : va_P D vwCl [(d, .inr (1, [.ref h, .ref ho, .int (nI fd), .ref ht, .int (nI z)])), (ho, .inl (dB, 64, .inl fo)), (ht, .inl (dB, 1024, .inl (sm_w4 (sm_w4 ft z a) (z + 4) b))), (h, .inr (0, [.ref pA, .ref hX, .int (nI (n % 4)), .long (lN n), .ref hV, .ref hI, .int (nI (n / 4 % 16)), .ref hW])), (hV, .inl (dN, 8, .inl fv)), (hI, .inl (dN, 16, .inl fi)), (hW, .inl (dN, 68, .inl fw)), (hX, .inl (dB, 4, .inl fx))] H := hP.sub [6, 0, 7, 1, 2, 3, 4, 5] rfl
  have hD : va_D A [(d, .inr (1, [.ref h, .ref ho, .int (nI fd), .ref ht, .int (nI z)])), (ho, .inl (dB, 64, .inl fo)), (ht, .inl (dB, 1024, .inl (sm_w4 (sm_w4 ft z a) (z + 4) b))), (h, .inr (0, [.ref pA, .ref hX, .int (nI (n % 4)), .long (lN n), .ref hV, .ref hI, .int (nI (n / 4 % 16)), .ref hW])), (hV, .inl (dN, 8, .inl fv)), (hI, .inl (dN, 16, .inl fi)), (hW, .inl (dN, 68, .inl fw)), (hX, .inl (dB, 4, .inl fx))] := hD.sub [6, 0, 7, 1, 2, 3, 4, 5] (by decide) rfl
  refine lv_aload_n hx hb dX1_put_37 rfl (lv_at hl 0 rfl) ?_
  refine lv_aload_n hx hb dX1_put_38 rfl (lv_at hl 0 rfl) ?_
  refine va_get (D := D) (ci := 1) (v := .int (nI z)) (C := RX1) (T := TX1) (N := 5) hx hb hts in_X1 hown hK hP 0 rfl rfl 4 (by decide) (hts _ q216) (fun _ h9 => h9) rfl dX1_put_39 ?_
  refine lv_bipush (v := (8 : Int32)) hx hb dX1_put_42 (by decide) ?_
  refine lv_iadd hx hb dX1_put_44 ?_
  refine lv_topi (fun y_ ey_ => ?_)
  have ey_ : y_ = nI (z + 8) := ey_.trans (nI_add z 8)
  subst ey_
  refine lv_iload_n hx hb dX1_put_45 rfl (lv_at hl 3 rfl) ?_
  have hPc := hP.sub (ws' := [(d, .inr (1, [.ref h, .ref ho, .int (nI fd), .ref ht, .int (nI z)])), (ht, .inl (dB, 1024, .inl (sm_w4 (sm_w4 ft z a) (z + 4) b)))]) [0, 2] rfl
  have hDc := hD.sub (ws' := [(d, .inr (1, [.ref h, .ref ho, .int (nI fd), .ref ht, .int (nI z)])), (ht, .inl (dB, 1024, .inl (sm_w4 (sm_w4 ft z a) (z + 4) b)))]) [0, 2] (by decide) rfl
  have hFc := va_free (wc := [(d, .inr (1, [.ref h, .ref ho, .int (nI fd), .ref ht, .int (nI z)])), (ht, .inl (dB, 1024, .inl (sm_w4 (sm_w4 ft z a) (z + 4) b)))]) hD hS hA [0, 2] rfl
  refine sm_backv (wr := [(ho, .inl (dB, 64, .inl fo)), (h, .inr (0, [.ref pA, .ref hX, .int (nI (n % 4)), .long (lN n), .ref hV, .ref hI, .int (nI (n / 4 % 16)), .ref hW])), (hV, .inl (dN, 8, .inl fv)), (hI, .inl (dN, 16, .inl fi)), (hW, .inl (dN, 68, .inl fw)), (hX, .inl (dB, 4, .inl fx))]) (va_runV (As := [.int (nI (z + 8)), .int c]) (rest := []) ⟨hx, hb, hml, hown, hts⟩ (met_word l D dB dN H.size tA pA d h ho ht (nI fd) (nI z) (sm_w4 (sm_w4 ft z a) (z + 4) b) (z + 8) c (by omega)) (cwV 2 hts (lw_V q232 q234 qs8 q10 q235) rfl rfl rfl (by decide +kernel) ⟨Nat.le_of_ble_eq_true rfl, Nat.le_of_ble_eq_true rfl⟩) ⟨sm_blind, va_recv hK hP (ci := 1) (q0 := 0) rfl rfl, sm_go hK hPc hDc hE hS hFc _⟩ rfl rfl hl.1 rfl (lv_room (Nat.le_of_ble_eq_true rfl)) dX1_put_46 ⟨Nat.le_of_ble_eq_true rfl, Nat.le_of_ble_eq_true rfl⟩) hP hD hS hFc [0, 2] [1, 3, 4, 5, 6, 7] rfl rfl (by decide) (by decide) (fun w1 H locs hw hP hD hS => ?_)
  subst hw
  have hP : va_P D vwCl [(d, .inr (1, [.ref h, .ref ho, .int (nI fd), .ref ht, .int (nI z)])), (ho, .inl (dB, 64, .inl fo)), (ht, .inl (dB, 1024, .inl (sm_w4 (sm_w4 (sm_w4 ft z a) (z + 4) b) (z + 8) c))), (h, .inr (0, [.ref pA, .ref hX, .int (nI (n % 4)), .long (lN n), .ref hV, .ref hI, .int (nI (n / 4 % 16)), .ref hW])), (hV, .inl (dN, 8, .inl fv)), (hI, .inl (dN, 16, .inl fi)), (hW, .inl (dN, 68, .inl fw)), (hX, .inl (dB, 4, .inl fx))] H := hP.sub [6, 0, 7, 1, 2, 3, 4, 5] rfl
  have hD : va_D A [(d, .inr (1, [.ref h, .ref ho, .int (nI fd), .ref ht, .int (nI z)])), (ho, .inl (dB, 64, .inl fo)), (ht, .inl (dB, 1024, .inl (sm_w4 (sm_w4 (sm_w4 ft z a) (z + 4) b) (z + 8) c))), (h, .inr (0, [.ref pA, .ref hX, .int (nI (n % 4)), .long (lN n), .ref hV, .ref hI, .int (nI (n / 4 % 16)), .ref hW])), (hV, .inl (dN, 8, .inl fv)), (hI, .inl (dN, 16, .inl fi)), (hW, .inl (dN, 68, .inl fw)), (hX, .inl (dB, 4, .inl fx))] := hD.sub [6, 0, 7, 1, 2, 3, 4, 5] (by decide) rfl
  refine lv_aload_n hx hb dX1_put_49 rfl (lv_at hl 0 rfl) ?_
  refine lv_aload_n hx hb dX1_put_50 rfl (lv_at hl 0 rfl) ?_
  refine va_get (D := D) (ci := 1) (v := .int (nI z)) (C := RX1) (T := TX1) (N := 5) hx hb hts in_X1 hown hK hP 0 rfl rfl 4 (by decide) (hts _ q216) (fun _ h9 => h9) rfl dX1_put_51 ?_
  refine lv_bipush (v := (12 : Int32)) hx hb dX1_put_54 (by decide) ?_
  refine lv_iadd hx hb dX1_put_56 ?_
  refine lv_topi (fun y_ ey_ => ?_)
  have ey_ : y_ = nI (z + 12) := ey_.trans (nI_add z 12)
  subst ey_
  refine lv_iload hx hb dX1_put_57 (lv_at hl 4 rfl) ?_
  have hPc := hP.sub (ws' := [(d, .inr (1, [.ref h, .ref ho, .int (nI fd), .ref ht, .int (nI z)])), (ht, .inl (dB, 1024, .inl (sm_w4 (sm_w4 (sm_w4 ft z a) (z + 4) b) (z + 8) c)))]) [0, 2] rfl
  have hDc := hD.sub (ws' := [(d, .inr (1, [.ref h, .ref ho, .int (nI fd), .ref ht, .int (nI z)])), (ht, .inl (dB, 1024, .inl (sm_w4 (sm_w4 (sm_w4 ft z a) (z + 4) b) (z + 8) c)))]) [0, 2] (by decide) rfl
  have hFc := va_free (wc := [(d, .inr (1, [.ref h, .ref ho, .int (nI fd), .ref ht, .int (nI z)])), (ht, .inl (dB, 1024, .inl (sm_w4 (sm_w4 (sm_w4 ft z a) (z + 4) b) (z + 8) c)))]) hD hS hA [0, 2] rfl
  refine sm_backv (wr := [(ho, .inl (dB, 64, .inl fo)), (h, .inr (0, [.ref pA, .ref hX, .int (nI (n % 4)), .long (lN n), .ref hV, .ref hI, .int (nI (n / 4 % 16)), .ref hW])), (hV, .inl (dN, 8, .inl fv)), (hI, .inl (dN, 16, .inl fi)), (hW, .inl (dN, 68, .inl fw)), (hX, .inl (dB, 4, .inl fx))]) (va_runV (As := [.int (nI (z + 12)), .int x]) (rest := []) ⟨hx, hb, hml, hown, hts⟩ (met_word l D dB dN H.size tA pA d h ho ht (nI fd) (nI z) (sm_w4 (sm_w4 (sm_w4 ft z a) (z + 4) b) (z + 8) c) (z + 12) x (by omega)) (cwV 2 hts (lw_V q232 q234 qs8 q10 q235) rfl rfl rfl (by decide +kernel) ⟨Nat.le_of_ble_eq_true rfl, Nat.le_of_ble_eq_true rfl⟩) ⟨sm_blind, va_recv hK hP (ci := 1) (q0 := 0) rfl rfl, sm_go hK hPc hDc hE hS hFc _⟩ rfl rfl hl.1 rfl (lv_room (Nat.le_of_ble_eq_true rfl)) dX1_put_59 ⟨Nat.le_of_ble_eq_true rfl, Nat.le_of_ble_eq_true rfl⟩) hP hD hS hFc [0, 2] [1, 3, 4, 5, 6, 7] rfl rfl (by decide) (by decide) (fun w1 H locs hw hP hD hS => ?_)
  subst hw
  have hP : va_P D vwCl [(d, .inr (1, [.ref h, .ref ho, .int (nI fd), .ref ht, .int (nI z)])), (ho, .inl (dB, 64, .inl fo)), (ht, .inl (dB, 1024, .inl (sm_w4 (sm_w4 (sm_w4 (sm_w4 ft z a) (z + 4) b) (z + 8) c) (z + 12) x))), (h, .inr (0, [.ref pA, .ref hX, .int (nI (n % 4)), .long (lN n), .ref hV, .ref hI, .int (nI (n / 4 % 16)), .ref hW])), (hV, .inl (dN, 8, .inl fv)), (hI, .inl (dN, 16, .inl fi)), (hW, .inl (dN, 68, .inl fw)), (hX, .inl (dB, 4, .inl fx))] H := hP.sub [6, 0, 7, 1, 2, 3, 4, 5] rfl
  have hD : va_D A [(d, .inr (1, [.ref h, .ref ho, .int (nI fd), .ref ht, .int (nI z)])), (ho, .inl (dB, 64, .inl fo)), (ht, .inl (dB, 1024, .inl (sm_w4 (sm_w4 (sm_w4 (sm_w4 ft z a) (z + 4) b) (z + 8) c) (z + 12) x))), (h, .inr (0, [.ref pA, .ref hX, .int (nI (n % 4)), .long (lN n), .ref hV, .ref hI, .int (nI (n / 4 % 16)), .ref hW])), (hV, .inl (dN, 8, .inl fv)), (hI, .inl (dN, 16, .inl fi)), (hW, .inl (dN, 68, .inl fw)), (hX, .inl (dB, 4, .inl fx))] := hD.sub [6, 0, 7, 1, 2, 3, 4, 5] (by decide) rfl
  refine lv_aload_n hx hb dX1_put_62 rfl (lv_at hl 0 rfl) ?_
  refine lv_dup hx hb dX1_put_63 rfl ?_
  refine va_get (D := D) (ci := 1) (v := .int (nI z)) (C := RX1) (T := TX1) (N := 5) hx hb hts in_X1 hown hK hP 0 rfl rfl 4 (by decide) (hts _ q216) (fun _ h9 => h9) rfl dX1_put_64 ?_
  refine lv_bipush (v := (16 : Int32)) hx hb dX1_put_67 (by decide) ?_
  refine lv_iadd hx hb dX1_put_69 ?_
  refine lv_topi (fun y_ ey_ => ?_)
  have ey_ : y_ = nI (z + 16) := ey_.trans (nI_add z 16)
  subst ey_
  refine va_put (D := D) (ci := 1) (v := .int (nI (z + 16))) (ty := .int) (C := RX1) (T := TX1) (N := 5) hx hb hts in_X1 tyX1 tyX1_ok nmX1 hown hK hP hD hS 0 rfl rfl 4 (by decide) (hts _ q216) (fun _ h9 => h9) rfl (by decide +kernel) rfl rfl (Nat.le_of_ble_eq_true rfl) dX1_put_70 (fun H locs hP hD hS => ?_)
  have hP : va_P D vwCl [(d, .inr (1, [.ref h, .ref ho, .int (nI fd), .ref ht, .int (nI (z + 16))])), (ho, .inl (dB, 64, .inl fo)), (ht, .inl (dB, 1024, .inl (sm_w4 (sm_w4 (sm_w4 (sm_w4 ft z a) (z + 4) b) (z + 8) c) (z + 12) x))), (h, .inr (0, [.ref pA, .ref hX, .int (nI (n % 4)), .long (lN n), .ref hV, .ref hI, .int (nI (n / 4 % 16)), .ref hW])), (hV, .inl (dN, 8, .inl fv)), (hI, .inl (dN, 16, .inl fi)), (hW, .inl (dN, 68, .inl fw)), (hX, .inl (dB, 4, .inl fx))] H := hP
  have hD : va_D A [(d, .inr (1, [.ref h, .ref ho, .int (nI fd), .ref ht, .int (nI (z + 16))])), (ho, .inl (dB, 64, .inl fo)), (ht, .inl (dB, 1024, .inl (sm_w4 (sm_w4 (sm_w4 (sm_w4 ft z a) (z + 4) b) (z + 8) c) (z + 12) x))), (h, .inr (0, [.ref pA, .ref hX, .int (nI (n % 4)), .long (lN n), .ref hV, .ref hI, .int (nI (n / 4 % 16)), .ref hW])), (hV, .inl (dN, 8, .inl fv)), (hI, .inl (dN, 16, .inl fi)), (hW, .inl (dN, 68, .inl fw)), (hX, .inl (dB, 4, .inl fx))] := hD
  refine lv_iconst (v := (1 : Int32)) hx hb dX1_put_73 (by decide) ?_
  exact W.zret (v := 1) hx hb hr rfl (sm_endi _ ⟨rfl, ⟨ho, ht, h, hV, hI, hW, hX, _, _, _, _, _, _, rfl, hAb, sm_p4_c htx, hoo⟩⟩ hP hD hS) hS.2.2 dX1_put_74 hlk
set_option maxHeartbeats 4000000 in
set_option maxRecDepth 100000 in
theorem met_trim (l : Launch) (D : va_G) (dB dN : ClassId) (sz tA pA : Nat) (w : va_W) (d : Nat) (msg : Nat → Int32) (n fd z : Nat) (tx oo : Nat → Int32) (hw : sm_DS dB dN pA d msg n fd z tx oo w) (x : Int32) (hz : z < 2 ^ 30) : Met l yX1_trim (ws_ yX1_trim cX1_trim 2 none) ({ frames := 1, cells := 0, slots := 0, locals := 21 }) (va_Pc [.ref d, .int x] (sm_pre D dB dN (w) sz tA pA)) (sm_Qv D (fun w' => sm_DS dB dN pA d msg n fd (sm_m x % (z + 1)) tx oo w') (va_A (w) sz)) 0 0 (va_A (w) sz) := by
  obtain ⟨ho, ht, h, hV, hI, hW, hX, fo, ft, fv, fi, fw, fx, rfl, hAb, htx, hoo⟩ := hw
  refine sm_met RX1 (sm_Qv D _) (by decide) rfl (Nat.le_of_ble_eq_true rfl) ?_
  intro p e s m below meth c ls A cx hnm hP hK hD hE hA hS hl
  obtain ⟨hx, hb, hr, hlk, hml, hown, hts⟩ := cx
  have hl : lv_has ls 2 [(0, .ref d), (1, .int x)] := hl
  have hP : va_P D vwCl [(d, .inr (1, [.ref h, .ref ho, .int (nI fd), .ref ht, .int (nI z)])), (ho, .inl (dB, 64, .inl fo)), (ht, .inl (dB, 1024, .inl ft)), (h, .inr (0, [.ref pA, .ref hX, .int (nI (n % 4)), .long (lN n), .ref hV, .ref hI, .int (nI (n / 4 % 16)), .ref hW])), (hV, .inl (dN, 8, .inl fv)), (hI, .inl (dN, 16, .inl fi)), (hW, .inl (dN, 68, .inl fw)), (hX, .inl (dB, 4, .inl fx))] s.heap := hP
  have hD : va_D A [(d, .inr (1, [.ref h, .ref ho, .int (nI fd), .ref ht, .int (nI z)])), (ho, .inl (dB, 64, .inl fo)), (ht, .inl (dB, 1024, .inl ft)), (h, .inr (0, [.ref pA, .ref hX, .int (nI (n % 4)), .long (lN n), .ref hV, .ref hI, .int (nI (n / 4 % 16)), .ref hW])), (hV, .inl (dN, 8, .inl fv)), (hI, .inl (dN, 16, .inl fi)), (hW, .inl (dN, 68, .inl fw)), (hX, .inl (dB, 4, .inl fx))] := hD
  refine lv_aload_n hx hb dX1_trim_0 rfl (lv_at hl 0 rfl) ?_
  refine lv_aload_n hx hb dX1_trim_1 rfl (lv_at hl 0 rfl) ?_
  refine lv_iload_n hx hb dX1_trim_2 rfl (lv_at hl 1 rfl) ?_
  have hPc := hP.sub (ws' := [(d, .inr (1, [.ref h, .ref ho, .int (nI fd), .ref ht, .int (nI z)]))]) [0] rfl
  refine vp_callSi (W.runV (As := [.int x]) (rest := [.ref d]) ⟨hx, hb, hml, hown, hts⟩ (met_from l D dB dN d h ho ht (nI fd) z x hz) (cwV 1 hts (lw_V q21 q23 qs0 q10 q25) rfl rfl rfl (by decide +kernel) ⟨Nat.le_of_ble_eq_true rfl, Nat.le_of_ble_eq_true rfl⟩) ⟨sm_blind0, va_recv hK hP (ci := 1) (q0 := 0) rfl rfl, sm_go0 hK hPc _⟩ rfl rfl hl.1 rfl (lv_room (Nat.le_of_ble_eq_true rfl)) dX1_trim_3 ⟨Nat.le_of_ble_eq_true rfl, Nat.le_of_ble_eq_true rfl⟩) (fun r0 hr0 => ?_)
  subst hr0
  refine va_put (D := D) (ci := 1) (v := .int (nI (sm_m x % (z + 1)))) (ty := .int) (C := RX1) (T := TX1) (N := 5) hx hb hts in_X1 tyX1 tyX1_ok nmX1 hown hK hP hD hS 0 rfl rfl 4 (by decide) (hts _ q216) (fun _ h9 => h9) rfl (by decide +kernel) rfl rfl (Nat.le_of_ble_eq_true rfl) dX1_trim_6 (fun H locs hP hD hS => ?_)
  have hP : va_P D vwCl [(d, .inr (1, [.ref h, .ref ho, .int (nI fd), .ref ht, .int (nI (sm_m x % (z + 1)))])), (ho, .inl (dB, 64, .inl fo)), (ht, .inl (dB, 1024, .inl ft)), (h, .inr (0, [.ref pA, .ref hX, .int (nI (n % 4)), .long (lN n), .ref hV, .ref hI, .int (nI (n / 4 % 16)), .ref hW])), (hV, .inl (dN, 8, .inl fv)), (hI, .inl (dN, 16, .inl fi)), (hW, .inl (dN, 68, .inl fw)), (hX, .inl (dB, 4, .inl fx))] H := hP
  have hD : va_D A [(d, .inr (1, [.ref h, .ref ho, .int (nI fd), .ref ht, .int (nI (sm_m x % (z + 1)))])), (ho, .inl (dB, 64, .inl fo)), (ht, .inl (dB, 1024, .inl ft)), (h, .inr (0, [.ref pA, .ref hX, .int (nI (n % 4)), .long (lN n), .ref hV, .ref hI, .int (nI (n / 4 % 16)), .ref hW])), (hV, .inl (dN, 8, .inl fv)), (hI, .inl (dN, 16, .inl fi)), (hW, .inl (dN, 68, .inl fw)), (hX, .inl (dB, 4, .inl fx))] := hD
  exact W.vret hx hb hr (sm_endv _ ⟨ho, ht, h, hV, hI, hW, hX, _, _, _, _, _, _, rfl, hAb, htx, hoo⟩ hP hD hS) hS.2.2 dX1_trim_9 hlk
set_option maxHeartbeats 4000000 in
set_option maxRecDepth 100000 in
theorem met_begin (l : Launch) (D : va_G) (dB dN : ClassId) (sz tA pA : Nat) (w : va_W) (d : Nat) (msg : Nat → Int32) (n fd z : Nat) (tx oo : Nat → Int32) (hw : sm_DS dB dN pA d msg n fd z tx oo w) (msg2 : Nat → Int32) (x : Int32) : Met l yX1_begin (ws_ yX1_begin cX1_begin 2 none) ({ frames := 4, cells := 5, slots := 104, locals := 82 }) (va_Pc [.ref d, .int x] (sm_pre D dB dN (w) sz tA pA)) (sm_Qv D (fun w' => sm_DS dB dN pA d msg2 0 0 z tx oo w') (va_A (w) sz)) 5 104 (va_A (w) sz) := by
  obtain ⟨ho, ht, h, hV, hI, hW, hX, fo, ft, fv, fi, fw, fx, rfl, hAb, htx, hoo⟩ := hw
  refine sm_met RX1 (sm_Qv D _) (by decide) rfl (Nat.le_of_ble_eq_true rfl) ?_
  intro p e s m below meth c ls A cx hnm hP hK hD hE hA hS hl
  obtain ⟨hx, hb, hr, hlk, hml, hown, hts⟩ := cx
  have hl : lv_has ls 2 [(0, .ref d), (1, .int x)] := hl
  have hP : va_P D vwCl [(d, .inr (1, [.ref h, .ref ho, .int (nI fd), .ref ht, .int (nI z)])), (ho, .inl (dB, 64, .inl fo)), (ht, .inl (dB, 1024, .inl ft)), (h, .inr (0, [.ref pA, .ref hX, .int (nI (n % 4)), .long (lN n), .ref hV, .ref hI, .int (nI (n / 4 % 16)), .ref hW])), (hV, .inl (dN, 8, .inl fv)), (hI, .inl (dN, 16, .inl fi)), (hW, .inl (dN, 68, .inl fw)), (hX, .inl (dB, 4, .inl fx))] s.heap := hP
  have hD : va_D A [(d, .inr (1, [.ref h, .ref ho, .int (nI fd), .ref ht, .int (nI z)])), (ho, .inl (dB, 64, .inl fo)), (ht, .inl (dB, 1024, .inl ft)), (h, .inr (0, [.ref pA, .ref hX, .int (nI (n % 4)), .long (lN n), .ref hV, .ref hI, .int (nI (n / 4 % 16)), .ref hW])), (hV, .inl (dN, 8, .inl fv)), (hI, .inl (dN, 16, .inl fi)), (hW, .inl (dN, 68, .inl fw)), (hX, .inl (dB, 4, .inl fx))] := hD
  refine lv_aload_n hx hb dX1_begin_0 rfl (lv_at hl 0 rfl) ?_
  refine va_new (ci := 0) (fs := [.null, .null, .int 0, .long 0, .null, .null, .int 0, .null]) (C := RX3) (T := TX3) (N := 8) hx hb hts in_X3 tyX3 tyX3_ok hown (hts _ q173) (hts _ q60) (hts _ q12) hK hP hD hS hA rfl (fun j hj => by rcases (show j = 0 ∨ j = 1 ∨ j = 2 ∨ j = 3 ∨ j = 4 ∨ j = 5 ∨ j = 6 ∨ j = 7 by omega) with rfl | rfl | rfl | rfl | rfl | rfl | rfl | rfl <;> rfl) (Nat.le_of_ble_eq_true rfl) (Nat.le_of_ble_eq_true rfl) dX1_begin_1 (fun h2 H hP hD hS => ?_)
  have hP : va_P D vwCl [(d, .inr (1, [.ref h, .ref ho, .int (nI fd), .ref ht, .int (nI z)])), (ho, .inl (dB, 64, .inl fo)), (ht, .inl (dB, 1024, .inl ft)), (h, .inr (0, [.ref pA, .ref hX, .int (nI (n % 4)), .long (lN n), .ref hV, .ref hI, .int (nI (n / 4 % 16)), .ref hW])), (hV, .inl (dN, 8, .inl fv)), (hI, .inl (dN, 16, .inl fi)), (hW, .inl (dN, 68, .inl fw)), (hX, .inl (dB, 4, .inl fx)), (h2, .inr (0, [.null, .null, .int 0, .long 0, .null, .null, .int 0, .null]))] H := hP
  have hD : va_D A [(d, .inr (1, [.ref h, .ref ho, .int (nI fd), .ref ht, .int (nI z)])), (ho, .inl (dB, 64, .inl fo)), (ht, .inl (dB, 1024, .inl ft)), (h, .inr (0, [.ref pA, .ref hX, .int (nI (n % 4)), .long (lN n), .ref hV, .ref hI, .int (nI (n / 4 % 16)), .ref hW])), (hV, .inl (dN, 8, .inl fv)), (hI, .inl (dN, 16, .inl fi)), (hW, .inl (dN, 68, .inl fw)), (hX, .inl (dB, 4, .inl fx)), (h2, .inr (0, [.null, .null, .int 0, .long 0, .null, .null, .int 0, .null]))] := hD
  refine lv_dup hx hb dX1_begin_4 rfl ?_
  have hPc := hP.sub (ws' := [(h2, .inr (0, [.null, .null, .int 0, .long 0, .null, .null, .int 0, .null]))]) [8] rfl
  have hDc := hD.sub (ws' := [(h2, .inr (0, [.null, .null, .int 0, .long 0, .null, .null, .int 0, .null]))]) [8] (by decide) rfl
  have hFc := va_free (wc := [(h2, .inr (0, [.null, .null, .int 0, .long 0, .null, .null, .int 0, .null]))]) hD hS hA [8] rfl
  refine sm_backv (wr := [(d, .inr (1, [.ref h, .ref ho, .int (nI fd), .ref ht, .int (nI z)])), (ho, .inl (dB, 64, .inl fo)), (ht, .inl (dB, 1024, .inl ft)), (h, .inr (0, [.ref pA, .ref hX, .int (nI (n % 4)), .long (lN n), .ref hV, .ref hI, .int (nI (n / 4 % 16)), .ref hW])), (hV, .inl (dN, 8, .inl fv)), (hI, .inl (dN, 16, .inl fi)), (hW, .inl (dN, 68, .inl fw)), (hX, .inl (dB, 4, .inl fx))]) (va_runI (As := []) (rest := [.ref h2, .ref d]) ⟨hx, hb, hml, hown, hts⟩ (met_sn l D dB dN H.size tA pA h2) (cwI 0 hts (lw_meth q176) rfl rfl rfl (hts _ q12) (hts _ q174) (hts _ q175) rfl (by decide +kernel) ⟨Nat.le_of_ble_eq_true rfl, Nat.le_of_ble_eq_true rfl⟩) ⟨sm_blind, sm_go hK hPc hDc hE hS hFc _⟩ rfl rfl hl.1 rfl (lv_room (Nat.le_of_ble_eq_true rfl)) dX1_begin_5 ⟨Nat.le_of_ble_eq_true rfl, Nat.le_of_ble_eq_true rfl⟩) hP hD hS hFc [8] [0, 1, 2, 3, 4, 5, 6, 7] rfl rfl (by decide) (by decide) (fun w1 H locs hw hP hD hS => ?_)
  obtain ⟨iV, iI, iW, iX, gv, gi, gw, gx, rfl, hg⟩ := hw
  have hP : va_P D vwCl [(d, .inr (1, [.ref h, .ref ho, .int (nI fd), .ref ht, .int (nI z)])), (ho, .inl (dB, 64, .inl fo)), (ht, .inl (dB, 1024, .inl ft)), (h, .inr (0, [.ref pA, .ref hX, .int (nI (n % 4)), .long (lN n), .ref hV, .ref hI, .int (nI (n / 4 % 16)), .ref hW])), (hV, .inl (dN, 8, .inl fv)), (hI, .inl (dN, 16, .inl fi)), (hW, .inl (dN, 68, .inl fw)), (hX, .inl (dB, 4, .inl fx)), (h2, .inr (0, [.ref pA, .ref iX, .int 0, .long 0, .ref iV, .ref iI, .int 0, .ref iW])), (iV, .inl (dN, 8, .inl gv)), (iI, .inl (dN, 16, .inl gi)), (iW, .inl (dN, 68, .inl gw)), (iX, .inl (dB, 4, .inl gx))] H := hP.sub [0, 1, 2, 3, 4, 5, 6, 7, 8, 9, 10, 11, 12] rfl
  have hD : va_D A [(d, .inr (1, [.ref h, .ref ho, .int (nI fd), .ref ht, .int (nI z)])), (ho, .inl (dB, 64, .inl fo)), (ht, .inl (dB, 1024, .inl ft)), (h, .inr (0, [.ref pA, .ref hX, .int (nI (n % 4)), .long (lN n), .ref hV, .ref hI, .int (nI (n / 4 % 16)), .ref hW])), (hV, .inl (dN, 8, .inl fv)), (hI, .inl (dN, 16, .inl fi)), (hW, .inl (dN, 68, .inl fw)), (hX, .inl (dB, 4, .inl fx)), (h2, .inr (0, [.ref pA, .ref iX, .int 0, .long 0, .ref iV, .ref iI, .int 0, .ref iW])), (iV, .inl (dN, 8, .inl gv)), (iI, .inl (dN, 16, .inl gi)), (iW, .inl (dN, 68, .inl gw)), (iX, .inl (dB, 4, .inl gx))] := hD.sub [0, 1, 2, 3, 4, 5, 6, 7, 8, 9, 10, 11, 12] (by decide) rfl
  refine va_put (D := D) (ci := 1) (v := .ref h2) (ty := .object "Digest") (C := RX1) (T := TX1) (N := 5) hx hb hts in_X1 tyX1 tyX1_ok nmX1 hown hK hP hD hS 0 rfl rfl 0 (by decide) (hts _ q212) (fun _ h9 => h9) rfl (by decide +kernel) rfl rfl (Nat.le_of_ble_eq_true rfl) dX1_begin_8 (fun H locs hP hD hS => ?_)
  have hP : va_P D vwCl [(d, .inr (1, [.ref h2, .ref ho, .int (nI fd), .ref ht, .int (nI z)])), (ho, .inl (dB, 64, .inl fo)), (ht, .inl (dB, 1024, .inl ft)), (h, .inr (0, [.ref pA, .ref hX, .int (nI (n % 4)), .long (lN n), .ref hV, .ref hI, .int (nI (n / 4 % 16)), .ref hW])), (hV, .inl (dN, 8, .inl fv)), (hI, .inl (dN, 16, .inl fi)), (hW, .inl (dN, 68, .inl fw)), (hX, .inl (dB, 4, .inl fx)), (h2, .inr (0, [.ref pA, .ref iX, .int 0, .long 0, .ref iV, .ref iI, .int 0, .ref iW])), (iV, .inl (dN, 8, .inl gv)), (iI, .inl (dN, 16, .inl gi)), (iW, .inl (dN, 68, .inl gw)), (iX, .inl (dB, 4, .inl gx))] H := hP
  have hD : va_D A [(d, .inr (1, [.ref h2, .ref ho, .int (nI fd), .ref ht, .int (nI z)])), (ho, .inl (dB, 64, .inl fo)), (ht, .inl (dB, 1024, .inl ft)), (h, .inr (0, [.ref pA, .ref hX, .int (nI (n % 4)), .long (lN n), .ref hV, .ref hI, .int (nI (n / 4 % 16)), .ref hW])), (hV, .inl (dN, 8, .inl fv)), (hI, .inl (dN, 16, .inl fi)), (hW, .inl (dN, 68, .inl fw)), (hX, .inl (dB, 4, .inl fx)), (h2, .inr (0, [.ref pA, .ref iX, .int 0, .long 0, .ref iV, .ref iI, .int 0, .ref iW])), (iV, .inl (dN, 8, .inl gv)), (iI, .inl (dN, 16, .inl gi)), (iW, .inl (dN, 68, .inl gw)), (iX, .inl (dB, 4, .inl gx))] := hD
  refine lv_aload_n hx hb dX1_begin_11 rfl (lv_at hl 0 rfl) ?_
  refine lv_iconst (v := (0 : Int32)) hx hb dX1_begin_12 (by decide) ?_
  refine va_put (D := D) (ci := 1) (v := .int (0 : Int32)) (ty := .int) (C := RX1) (T := TX1) (N := 5) hx hb hts in_X1 tyX1 tyX1_ok nmX1 hown hK hP hD hS 0 rfl rfl 2 (by decide) (hts _ q214) (fun _ h9 => h9) rfl (by decide +kernel) rfl rfl (Nat.le_of_ble_eq_true rfl) dX1_begin_13 (fun H locs hP hD hS => ?_)
  have hP : va_P D vwCl [(d, .inr (1, [.ref h2, .ref ho, .int (0 : Int32), .ref ht, .int (nI z)])), (ho, .inl (dB, 64, .inl fo)), (ht, .inl (dB, 1024, .inl ft)), (h, .inr (0, [.ref pA, .ref hX, .int (nI (n % 4)), .long (lN n), .ref hV, .ref hI, .int (nI (n / 4 % 16)), .ref hW])), (hV, .inl (dN, 8, .inl fv)), (hI, .inl (dN, 16, .inl fi)), (hW, .inl (dN, 68, .inl fw)), (hX, .inl (dB, 4, .inl fx)), (h2, .inr (0, [.ref pA, .ref iX, .int 0, .long 0, .ref iV, .ref iI, .int 0, .ref iW])), (iV, .inl (dN, 8, .inl gv)), (iI, .inl (dN, 16, .inl gi)), (iW, .inl (dN, 68, .inl gw)), (iX, .inl (dB, 4, .inl gx))] H := hP
  have hD : va_D A [(d, .inr (1, [.ref h2, .ref ho, .int (0 : Int32), .ref ht, .int (nI z)])), (ho, .inl (dB, 64, .inl fo)), (ht, .inl (dB, 1024, .inl ft)), (h, .inr (0, [.ref pA, .ref hX, .int (nI (n % 4)), .long (lN n), .ref hV, .ref hI, .int (nI (n / 4 % 16)), .ref hW])), (hV, .inl (dN, 8, .inl fv)), (hI, .inl (dN, 16, .inl fi)), (hW, .inl (dN, 68, .inl fw)), (hX, .inl (dB, 4, .inl fx)), (h2, .inr (0, [.ref pA, .ref iX, .int 0, .long 0, .ref iV, .ref iI, .int 0, .ref iW])), (iV, .inl (dN, 8, .inl gv)), (iI, .inl (dN, 16, .inl gi)), (iW, .inl (dN, 68, .inl gw)), (iX, .inl (dB, 4, .inl gx))] := hD
  have hP : va_P D vwCl [(d, .inr (1, [.ref h2, .ref ho, .int (0 : Int32), .ref ht, .int (nI z)])), (ho, .inl (dB, 64, .inl fo)), (ht, .inl (dB, 1024, .inl ft)), (h2, .inr (0, [.ref pA, .ref iX, .int 0, .long 0, .ref iV, .ref iI, .int 0, .ref iW])), (iV, .inl (dN, 8, .inl gv)), (iI, .inl (dN, 16, .inl gi)), (iW, .inl (dN, 68, .inl gw)), (iX, .inl (dB, 4, .inl gx))] H := hP.sub [0, 1, 2, 8, 9, 10, 11, 12] rfl
  have hD : va_D A [(d, .inr (1, [.ref h2, .ref ho, .int (0 : Int32), .ref ht, .int (nI z)])), (ho, .inl (dB, 64, .inl fo)), (ht, .inl (dB, 1024, .inl ft)), (h2, .inr (0, [.ref pA, .ref iX, .int 0, .long 0, .ref iV, .ref iI, .int 0, .ref iW])), (iV, .inl (dN, 8, .inl gv)), (iI, .inl (dN, 16, .inl gi)), (iW, .inl (dN, 68, .inl gw)), (iX, .inl (dB, 4, .inl gx))] := hD.sub [0, 1, 2, 8, 9, 10, 11, 12] (by decide) rfl
  refine W.widen (k := 5) (n := 104) (Nat.le_of_ble_eq_true rfl) (Nat.le_of_ble_eq_true rfl) ?_
  exact W.vret hx hb hr (sm_endv _ ⟨ho, ht, h2, iV, iI, iW, iX, _, _, _, _, _, _, rfl, sm_Ab_0 msg2 hg, htx, hoo⟩ hP hD hS) hS.2.2 dX1_begin_16 hlk
set_option maxHeartbeats 4000000 in
set_option maxRecDepth 100000 in
/-- SmDigestDesk(): seven cells come -/
theorem met_dn (l : Launch) (D : va_G) (dB dN : ClassId) (sz tA pA : Nat) (d : Nat) (msg : Nat → Int32) : Met l yX1_init (ws_ yX1_init cX1_init 1 none) ({ frames := 4, cells := 7, slots := 1192, locals := 82 }) (va_Pc [.ref d] (sm_pre D dB dN ([(d, .inr (1, [.null, .null, .int 0, .null, .int 0]))]) sz tA pA)) (sm_Qv D (fun w => sm_DS dB dN pA d msg 0 0 0 (fun _ => 0) (fun _ => 0) w) (va_A ([(d, .inr (1, [.null, .null, .int 0, .null, .int 0]))]) sz)) 7 1192 (va_A ([(d, .inr (1, [.null, .null, .int 0, .null, .int 0]))]) sz) := by
  refine sm_met RX1 (sm_Qv D _) (by decide) rfl (Nat.le_of_ble_eq_true rfl) ?_
  intro p e s m below meth c ls A cx hnm hP hK hD hE hA hS hl
  obtain ⟨hx, hb, hr, hlk, hml, hown, hts⟩ := cx
  have hl : lv_has ls 1 [(0, .ref d)] := hl
  have hP : va_P D vwCl [(d, .inr (1, [.null, .null, .int 0, .null, .int 0]))] s.heap := hP
  have hD : va_D A [(d, .inr (1, [.null, .null, .int 0, .null, .int 0]))] := hD
  refine lv_aload_n hx hb dX1_init_0 rfl (lv_at hl 0 rfl) ?_
  refine W.objInit hx hb hown (hts _ q170) (hts _ q171) (hts _ q172) rfl (by rw [hml]; exact hl.1) rfl dX1_init_1 (Nat.le_of_ble_eq_true rfl) (Nat.le_of_ble_eq_true rfl) ?_
  refine W.eq (g2 := F0 m 4 ls []) rfl ?_
  refine lv_aload_n hx hb dX1_init_4 rfl (lv_at hl 0 rfl) ?_
  refine va_new (ci := 0) (fs := [.null, .null, .int 0, .long 0, .null, .null, .int 0, .null]) (C := RX3) (T := TX3) (N := 8) hx hb hts in_X3 tyX3 tyX3_ok hown (hts _ q173) (hts _ q60) (hts _ q12) hK hP hD hS hA rfl (fun j hj => by rcases (show j = 0 ∨ j = 1 ∨ j = 2 ∨ j = 3 ∨ j = 4 ∨ j = 5 ∨ j = 6 ∨ j = 7 by omega) with rfl | rfl | rfl | rfl | rfl | rfl | rfl | rfl <;> rfl) (Nat.le_of_ble_eq_true rfl) (Nat.le_of_ble_eq_true rfl) dX1_init_5 (fun h H hP hD hS => ?_)
  have hP : va_P D vwCl [(d, .inr (1, [.null, .null, .int 0, .null, .int 0])), (h, .inr (0, [.null, .null, .int 0, .long 0, .null, .null, .int 0, .null]))] H := hP
  have hD : va_D A [(d, .inr (1, [.null, .null, .int 0, .null, .int 0])), (h, .inr (0, [.null, .null, .int 0, .long 0, .null, .null, .int 0, .null]))] := hD
  refine lv_dup hx hb dX1_init_8 rfl ?_
  have hPc := hP.sub (ws' := [(h, .inr (0, [.null, .null, .int 0, .long 0, .null, .null, .int 0, .null]))]) [1] rfl
  have hDc := hD.sub (ws' := [(h, .inr (0, [.null, .null, .int 0, .long 0, .null, .null, .int 0, .null]))]) [1] (by decide) rfl
  have hFc := va_free (wc := [(h, .inr (0, [.null, .null, .int 0, .long 0, .null, .null, .int 0, .null]))]) hD hS hA [1] rfl
  refine sm_backv (wr := [(d, .inr (1, [.null, .null, .int 0, .null, .int 0]))]) (va_runI (As := []) (rest := [.ref h, .ref d]) ⟨hx, hb, hml, hown, hts⟩ (met_sn l D dB dN H.size tA pA h) (cwI 0 hts (lw_meth q176) rfl rfl rfl (hts _ q12) (hts _ q174) (hts _ q175) rfl (by decide +kernel) ⟨Nat.le_of_ble_eq_true rfl, Nat.le_of_ble_eq_true rfl⟩) ⟨sm_blind, sm_go hK hPc hDc hE hS hFc _⟩ rfl rfl hl.1 rfl (lv_room (Nat.le_of_ble_eq_true rfl)) dX1_init_9 ⟨Nat.le_of_ble_eq_true rfl, Nat.le_of_ble_eq_true rfl⟩) hP hD hS hFc [1] [0] rfl rfl (by decide) (by decide) (fun w1 H locs hw hP hD hS => ?_)
  obtain ⟨hV, hI, hW, hX, fv, fi, fw, fx, rfl, hg⟩ := hw
  have hP : va_P D vwCl [(d, .inr (1, [.null, .null, .int 0, .null, .int 0])), (h, .inr (0, [.ref pA, .ref hX, .int 0, .long 0, .ref hV, .ref hI, .int 0, .ref hW])), (hV, .inl (dN, 8, .inl fv)), (hI, .inl (dN, 16, .inl fi)), (hW, .inl (dN, 68, .inl fw)), (hX, .inl (dB, 4, .inl fx))] H := hP.sub [0, 1, 2, 3, 4, 5] rfl
  have hD : va_D A [(d, .inr (1, [.null, .null, .int 0, .null, .int 0])), (h, .inr (0, [.ref pA, .ref hX, .int 0, .long 0, .ref hV, .ref hI, .int 0, .ref hW])), (hV, .inl (dN, 8, .inl fv)), (hI, .inl (dN, 16, .inl fi)), (hW, .inl (dN, 68, .inl fw)), (hX, .inl (dB, 4, .inl fx))] := hD.sub [0, 1, 2, 3, 4, 5] (by decide) rfl
  refine va_put (D := D) (ci := 1) (v := .ref h) (ty := .object "Digest") (C := RX1) (T := TX1) (N := 5) hx hb hts in_X1 tyX1 tyX1_ok nmX1 hown hK hP hD hS 0 rfl rfl 0 (by decide) (hts _ q212) (fun _ h9 => h9) rfl (by decide +kernel) rfl rfl (Nat.le_of_ble_eq_true rfl) dX1_init_12 (fun H locs hP hD hS => ?_)
  have hP : va_P D vwCl [(d, .inr (1, [.ref h, .null, .int 0, .null, .int 0])), (h, .inr (0, [.ref pA, .ref hX, .int 0, .long 0, .ref hV, .ref hI, .int 0, .ref hW])), (hV, .inl (dN, 8, .inl fv)), (hI, .inl (dN, 16, .inl fi)), (hW, .inl (dN, 68, .inl fw)), (hX, .inl (dB, 4, .inl fx))] H := hP
  have hD : va_D A [(d, .inr (1, [.ref h, .null, .int 0, .null, .int 0])), (h, .inr (0, [.ref pA, .ref hX, .int 0, .long 0, .ref hV, .ref hI, .int 0, .ref hW])), (hV, .inl (dN, 8, .inl fv)), (hI, .inl (dN, 16, .inl fi)), (hW, .inl (dN, 68, .inl fw)), (hX, .inl (dB, 4, .inl fx))] := hD
  refine lv_aload_n hx hb dX1_init_15 rfl (lv_at hl 0 rfl) ?_
  refine lv_bipush (v := (64 : Int32)) hx hb dX1_init_16 (by decide) ?_
  refine sm_newa (atype := .byte) hx hb (hts _ q210) rfl hK hP hD hS hA 0 rfl 64 (fun _ => rfl) rfl (by decide) (Nat.le_of_ble_eq_true rfl) (Nat.le_of_ble_eq_true rfl) (Nat.le_of_ble_eq_true rfl) dX1_init_18 (fun ho H hP hD hS => ?_)
  have hP : va_P D vwCl [(d, .inr (1, [.ref h, .null, .int 0, .null, .int 0])), (h, .inr (0, [.ref pA, .ref hX, .int 0, .long 0, .ref hV, .ref hI, .int 0, .ref hW])), (hV, .inl (dN, 8, .inl fv)), (hI, .inl (dN, 16, .inl fi)), (hW, .inl (dN, 68, .inl fw)), (hX, .inl (dB, 4, .inl fx)), (ho, .inl (dB, 64, .inl (fun _ => 0)))] H := hP
  have hD : va_D A [(d, .inr (1, [.ref h, .null, .int 0, .null, .int 0])), (h, .inr (0, [.ref pA, .ref hX, .int 0, .long 0, .ref hV, .ref hI, .int 0, .ref hW])), (hV, .inl (dN, 8, .inl fv)), (hI, .inl (dN, 16, .inl fi)), (hW, .inl (dN, 68, .inl fw)), (hX, .inl (dB, 4, .inl fx)), (ho, .inl (dB, 64, .inl (fun _ => 0)))] := hD
  refine va_putF (D := D) (ci := 1) (v := .ref ho) (ty := .array .byte) (C := RX1) (T := TX1) (N := 5) hx hb hts in_X1 tyX1 tyX1_ok nmX1 hown hK hP hD hS 0 rfl rfl 1 (by decide) (hts _ q213) (fun _ h9 => h9) rfl hnm rfl (by decide +kernel) rfl rfl (Nat.le_of_ble_eq_true rfl) dX1_init_20 (fun H locs hP hD hS => ?_)
  have hP : va_P D vwCl [(d, .inr (1, [.ref h, .ref ho, .int 0, .null, .int 0])), (h, .inr (0, [.ref pA, .ref hX, .int 0, .long 0, .ref hV, .ref hI, .int 0, .ref hW])), (hV, .inl (dN, 8, .inl fv)), (hI, .inl (dN, 16, .inl fi)), (hW, .inl (dN, 68, .inl fw)), (hX, .inl (dB, 4, .inl fx)), (ho, .inl (dB, 64, .inl (fun _ => 0)))] H := hP
  have hD : va_D A [(d, .inr (1, [.ref h, .ref ho, .int 0, .null, .int 0])), (h, .inr (0, [.ref pA, .ref hX, .int 0, .long 0, .ref hV, .ref hI, .int 0, .ref hW])), (hV, .inl (dN, 8, .inl fv)), (hI, .inl (dN, 16, .inl fi)), (hW, .inl (dN, 68, .inl fw)), (hX, .inl (dB, 4, .inl fx)), (ho, .inl (dB, 64, .inl (fun _ => 0)))] := hD
  refine lv_aload_n hx hb dX1_init_23 rfl (lv_at hl 0 rfl) ?_
  refine lv_sipush (v := (1024 : Int32)) hx hb dX1_init_24 (by decide) ?_
  refine sm_newa (atype := .byte) hx hb (hts _ q210) rfl hK hP hD hS hA 0 rfl 1024 (fun _ => rfl) rfl (by decide) (Nat.le_of_ble_eq_true rfl) (Nat.le_of_ble_eq_true rfl) (Nat.le_of_ble_eq_true rfl) dX1_init_27 (fun ht H hP hD hS => ?_)
  have hP : va_P D vwCl [(d, .inr (1, [.ref h, .ref ho, .int 0, .null, .int 0])), (h, .inr (0, [.ref pA, .ref hX, .int 0, .long 0, .ref hV, .ref hI, .int 0, .ref hW])), (hV, .inl (dN, 8, .inl fv)), (hI, .inl (dN, 16, .inl fi)), (hW, .inl (dN, 68, .inl fw)), (hX, .inl (dB, 4, .inl fx)), (ho, .inl (dB, 64, .inl (fun _ => 0))), (ht, .inl (dB, 1024, .inl (fun _ => 0)))] H := hP
  have hD : va_D A [(d, .inr (1, [.ref h, .ref ho, .int 0, .null, .int 0])), (h, .inr (0, [.ref pA, .ref hX, .int 0, .long 0, .ref hV, .ref hI, .int 0, .ref hW])), (hV, .inl (dN, 8, .inl fv)), (hI, .inl (dN, 16, .inl fi)), (hW, .inl (dN, 68, .inl fw)), (hX, .inl (dB, 4, .inl fx)), (ho, .inl (dB, 64, .inl (fun _ => 0))), (ht, .inl (dB, 1024, .inl (fun _ => 0)))] := hD
  refine va_putF (D := D) (ci := 1) (v := .ref ht) (ty := .array .byte) (C := RX1) (T := TX1) (N := 5) hx hb hts in_X1 tyX1 tyX1_ok nmX1 hown hK hP hD hS 0 rfl rfl 3 (by decide) (hts _ q215) (fun _ h9 => h9) rfl hnm rfl (by decide +kernel) rfl rfl (Nat.le_of_ble_eq_true rfl) dX1_init_29 (fun H locs hP hD hS => ?_)
  have hP : va_P D vwCl [(d, .inr (1, [.ref h, .ref ho, .int 0, .ref ht, .int 0])), (h, .inr (0, [.ref pA, .ref hX, .int 0, .long 0, .ref hV, .ref hI, .int 0, .ref hW])), (hV, .inl (dN, 8, .inl fv)), (hI, .inl (dN, 16, .inl fi)), (hW, .inl (dN, 68, .inl fw)), (hX, .inl (dB, 4, .inl fx)), (ho, .inl (dB, 64, .inl (fun _ => 0))), (ht, .inl (dB, 1024, .inl (fun _ => 0)))] H := hP
  have hD : va_D A [(d, .inr (1, [.ref h, .ref ho, .int 0, .ref ht, .int 0])), (h, .inr (0, [.ref pA, .ref hX, .int 0, .long 0, .ref hV, .ref hI, .int 0, .ref hW])), (hV, .inl (dN, 8, .inl fv)), (hI, .inl (dN, 16, .inl fi)), (hW, .inl (dN, 68, .inl fw)), (hX, .inl (dB, 4, .inl fx)), (ho, .inl (dB, 64, .inl (fun _ => 0))), (ht, .inl (dB, 1024, .inl (fun _ => 0)))] := hD
  have hP : va_P D vwCl [(d, .inr (1, [.ref h, .ref ho, .int 0, .ref ht, .int 0])), (ho, .inl (dB, 64, .inl (fun _ => 0))), (ht, .inl (dB, 1024, .inl (fun _ => 0))), (h, .inr (0, [.ref pA, .ref hX, .int 0, .long 0, .ref hV, .ref hI, .int 0, .ref hW])), (hV, .inl (dN, 8, .inl fv)), (hI, .inl (dN, 16, .inl fi)), (hW, .inl (dN, 68, .inl fw)), (hX, .inl (dB, 4, .inl fx))] H := hP.sub [0, 6, 7, 1, 2, 3, 4, 5] rfl
  have hD : va_D A [(d, .inr (1, [.ref h, .ref ho, .int 0, .ref ht, .int 0])), (ho, .inl (dB, 64, .inl (fun _ => 0))), (ht, .inl (dB, 1024, .inl (fun _ => 0))), (h, .inr (0, [.ref pA, .ref hX, .int 0, .long 0, .ref hV, .ref hI, .int 0, .ref hW])), (hV, .inl (dN, 8, .inl fv)), (hI, .inl (dN, 16, .inl fi)), (hW, .inl (dN, 68, .inl fw)), (hX, .inl (dB, 4, .inl fx))] := hD.sub [0, 6, 7, 1, 2, 3, 4, 5] (by decide) rfl
  refine W.widen (k := 7) (n := 1192) (Nat.le_of_ble_eq_true rfl) (Nat.le_of_ble_eq_true rfl) ?_
  exact W.vret hx hb hr (sm_endv _ ⟨ho, ht, h, hV, hI, hW, hX, _, _, _, _, _, _, rfl, sm_Ab_0 msg hg, fun _ _ => rfl, fun _ _ => rfl⟩ hP hD hS) hS.2.2 dX1_init_32 hlk
set_option maxHeartbeats 4000000 in
set_option maxRecDepth 100000 in
theorem met_feed (l : Launch) (D : va_G) (dB dN : ClassId) (sz tA pA : Nat) (w : va_W) (d : Nat) (msg : Nat → Int32) (n fd z : Nat) (tx oo : Nat → Int32) (hw : sm_DS dB dN pA d msg n fd z tx oo w) (x y : Int32) (f c1 : Nat) (hf : f = sm_m x % (z + 1)) (hc : c1 = sm_m y % (z - f + 1)) (hz : z ≤ 1024) (hfd : fd + c1 ≤ 16384) (hm : ∀ j, j < c1 → tx (f + j) = msg (n + j)) (hB : sm_By msg) : Met l yX1_feed (ws_ yX1_feed cX1_feed 5 (some .boolean)) ({ frames := 4, cells := 0, slots := 0, locals := 107 }) (va_Pc [.ref d, .int x, .int y] (sm_pre D dB dN (w) sz tA pA)) (sm_Qi D (fun r w' => r = 1 ∧ sm_DS dB dN pA d msg (n + c1) (fd + c1) z tx oo w') (va_A (w) sz)) 0 0 (va_A (w) sz) := by
  obtain ⟨ho, ht, h, hV, hI, hW, hX, fo, ft, fv, fi, fw, fx, rfl, hAb, htx, hoo⟩ := hw
  refine sm_met RX1 (sm_Qi D _) (by decide) rfl (Nat.le_of_ble_eq_true rfl) ?_
  intro p e s m below meth c ls A cx hnm hP hK hD hE hA hS hl
  obtain ⟨hx, hb, hr, hlk, hml, hown, hts⟩ := cx
  have hl : lv_has ls 5 [(0, .ref d), (1, .int x), (2, .int y)] := hl
  have hP : va_P D vwCl [(d, .inr (1, [.ref h, .ref ho, .int (nI fd), .ref ht, .int (nI z)])), (ho, .inl (dB, 64, .inl fo)), (ht, .inl (dB, 1024, .inl ft)), (h, .inr (0, [.ref pA, .ref hX, .int (nI (n % 4)), .long (lN n), .ref hV, .ref hI, .int (nI (n / 4 % 16)), .ref hW])), (hV, .inl (dN, 8, .inl fv)), (hI, .inl (dN, 16, .inl fi)), (hW, .inl (dN, 68, .inl fw)), (hX, .inl (dB, 4, .inl fx))] s.heap := hP
  have hD : va_D A [(d, .inr (1, [.ref h, .ref ho, .int (nI fd), .ref ht, .int (nI z)])), (ho, .inl (dB, 64, .inl fo)), (ht, .inl (dB, 1024, .inl ft)), (h, .inr (0, [.ref pA, .ref hX, .int (nI (n % 4)), .long (lN n), .ref hV, .ref hI, .int (nI (n / 4 % 16)), .ref hW])), (hV, .inl (dN, 8, .inl fv)), (hI, .inl (dN, 16, .inl fi)), (hW, .inl (dN, 68, .inl fw)), (hX, .inl (dB, 4, .inl fx))] := hD
  have hf1 : f ≤ z := by rw [hf]; exact Nat.lt_succ_iff.mp (Nat.mod_lt _ (Nat.succ_pos z))
  have hc1 : c1 ≤ z - f := by rw [hc]; exact Nat.lt_succ_iff.mp (Nat.mod_lt _ (Nat.succ_pos _))
  refine lv_aload_n hx hb dX1_feed_0 rfl (lv_at hl 0 rfl) ?_
  refine lv_iload_n hx hb dX1_feed_1 rfl (lv_at hl 1 rfl) ?_
  have hPc := hP.sub (ws' := [(d, .inr (1, [.ref h, .ref ho, .int (nI fd), .ref ht, .int (nI z)]))]) [0] rfl
  refine vp_callSi (W.runV (As := [.int x]) (rest := []) ⟨hx, hb, hml, hown, hts⟩ (met_from l D dB dN d h ho ht (nI fd) z x (by omega)) (cwV 1 hts (lw_V q21 q23 qs0 q10 q25) rfl rfl rfl (by decide +kernel) ⟨Nat.le_of_ble_eq_true rfl, Nat.le_of_ble_eq_true rfl⟩) ⟨sm_blind0, va_recv hK hP (ci := 1) (q0 := 0) rfl rfl, sm_go0 hK hPc _⟩ rfl rfl hl.1 rfl (lv_room (Nat.le_of_ble_eq_true rfl)) dX1_feed_2 ⟨Nat.le_of_ble_eq_true rfl, Nat.le_of_ble_eq_true rfl⟩) (fun r0 hr0 => ?_)
  rw [← hf] at hr0
  subst hr0
  refine lv_istore_n (lv' := [(3, .int (nI f)), (0, .ref d), (1, .int x), (2, .int y)]) hx hb dX1_feed_5 rfl hl (by decide) rfl (fun ls hl => ?_)
  refine lv_aload_n hx hb dX1_feed_6 rfl (lv_at hl 1 rfl) ?_
  refine lv_iload_n hx hb dX1_feed_7 rfl (lv_at hl 0 rfl) ?_
  refine lv_iload_n hx hb dX1_feed_8 rfl (lv_at hl 3 rfl) ?_
  have hPc := hP.sub (ws' := [(d, .inr (1, [.ref h, .ref ho, .int (nI fd), .ref ht, .int (nI z)]))]) [0] rfl
  refine vp_callSi (W.runV (As := [.int (nI f), .int y]) (rest := []) ⟨hx, hb, hml, hown, hts⟩ (met_count l D dB dN d h ho ht (nI fd) z f y (by omega) hf1) (cwV 2 hts (lw_V q27 q29 qs1 q10 q30) rfl rfl rfl (by decide +kernel) ⟨Nat.le_of_ble_eq_true rfl, Nat.le_of_ble_eq_true rfl⟩) ⟨sm_blind0, va_recv hK hP (ci := 1) (q0 := 0) rfl rfl, sm_go0 hK hPc _⟩ rfl rfl hl.1 rfl (lv_room (Nat.le_of_ble_eq_true rfl)) dX1_feed_9 ⟨Nat.le_of_ble_eq_true rfl, Nat.le_of_ble_eq_true rfl⟩) (fun r1 hr1 => ?_)
  rw [← hc] at hr1
  subst hr1
  refine lv_istore (lv' := [(4, .int (nI c1)), (3, .int (nI f)), (0, .ref d), (1, .int x), (2, .int y)]) hx hb dX1_feed_12 hl (by decide) rfl (fun ls hl => ?_)
  refine lv_aload_n hx hb dX1_feed_14 rfl (lv_at hl 2 rfl) ?_
  refine va_get (D := D) (ci := 1) (v := .int (nI fd)) (C := RX1) (T := TX1) (N := 5) hx hb hts in_X1 hown hK hP 0 rfl rfl 2 (by decide) (hts _ q214) (fun _ h9 => h9) rfl dX1_feed_15 ?_
  refine lv_iload hx hb dX1_feed_18 (lv_at hl 0 rfl) ?_
  refine lv_iadd hx hb dX1_feed_20 ?_
  refine lv_topi (fun y_ ey_ => ?_)
  have ey_ : y_ = nI (fd + c1) := ey_.trans (nI_add _ _)
  subst ey_
  refine lv_sipush (v := (16384 : Int32)) hx hb dX1_feed_21 (by decide) ?_
  refine lv_icmp_le (tgt := 29) hx hb dX1_feed_24 (by decide) (fun _ => ?_) (fun hc => absurd (nI_le hfd (by decide)) hc)
  refine lv_aload_n hx hb dX1_feed_29 rfl (lv_at hl 2 rfl) ?_
  refine lv_dup hx hb dX1_feed_30 rfl ?_
  refine va_get (D := D) (ci := 1) (v := .int (nI fd)) (C := RX1) (T := TX1) (N := 5) hx hb hts in_X1 hown hK hP 0 rfl rfl 2 (by decide) (hts _ q214) (fun _ h9 => h9) rfl dX1_feed_31 ?_
  refine lv_iload hx hb dX1_feed_34 (lv_at hl 0 rfl) ?_
  refine lv_iadd hx hb dX1_feed_36 ?_
  refine lv_topi (fun y_ ey_ => ?_)
  have ey_ : y_ = nI (fd + c1) := ey_.trans (nI_add _ _)
  subst ey_
  refine va_put (D := D) (ci := 1) (v := .int (nI (fd + c1))) (ty := .int) (C := RX1) (T := TX1) (N := 5) hx hb hts in_X1 tyX1 tyX1_ok nmX1 hown hK hP hD hS 0 rfl rfl 2 (by decide) (hts _ q214) (fun _ h9 => h9) rfl (by decide +kernel) rfl rfl (Nat.le_of_ble_eq_true rfl) dX1_feed_37 (fun H locs hP hD hS => ?_)
  have hP : va_P D vwCl [(d, .inr (1, [.ref h, .ref ho, .int (nI (fd + c1)), .ref ht, .int (nI z)])), (ho, .inl (dB, 64, .inl fo)), (ht, .inl (dB, 1024, .inl ft)), (h, .inr (0, [.ref pA, .ref hX, .int (nI (n % 4)), .long (lN n), .ref hV, .ref hI, .int (nI (n / 4 % 16)), .ref hW])), (hV, .inl (dN, 8, .inl fv)), (hI, .inl (dN, 16, .inl fi)), (hW, .inl (dN, 68, .inl fw)), (hX, .inl (dB, 4, .inl fx))] H := hP
  have hD : va_D A [(d, .inr (1, [.ref h, .ref ho, .int (nI (fd + c1)), .ref ht, .int (nI z)])), (ho, .inl (dB, 64, .inl fo)), (ht, .inl (dB, 1024, .inl ft)), (h, .inr (0, [.ref pA, .ref hX, .int (nI (n % 4)), .long (lN n), .ref hV, .ref hI, .int (nI (n / 4 % 16)), .ref hW])), (hV, .inl (dN, 8, .inl fv)), (hI, .inl (dN, 16, .inl fi)), (hW, .inl (dN, 68, .inl fw)), (hX, .inl (dB, 4, .inl fx))] := hD
  refine lv_aload_n hx hb dX1_feed_40 rfl (lv_at hl 2 rfl) ?_
  refine va_get (D := D) (ci := 1) (v := .ref h) (C := RX1) (T := TX1) (N := 5) hx hb hts in_X1 hown hK hP 0 rfl rfl 0 (by decide) (hts _ q212) (fun _ h9 => h9) rfl dX1_feed_41 ?_
  refine lv_aload_n hx hb dX1_feed_44 rfl (lv_at hl 2 rfl) ?_
  refine va_get (D := D) (ci := 1) (v := .ref ht) (C := RX1) (T := TX1) (N := 5) hx hb hts in_X1 hown hK hP 0 rfl rfl 3 (by decide) (hts _ q215) (fun _ h9 => h9) rfl dX1_feed_45 ?_
  refine lv_iload_n hx hb dX1_feed_48 rfl (lv_at hl 1 rfl) ?_
  refine lv_iload hx hb dX1_feed_49 (lv_at hl 0 rfl) ?_
  have hPc := hP.sub (ws' := [(h, .inr (0, [.ref pA, .ref hX, .int (nI (n % 4)), .long (lN n), .ref hV, .ref hI, .int (nI (n / 4 % 16)), .ref hW])), (hV, .inl (dN, 8, .inl fv)), (hI, .inl (dN, 16, .inl fi)), (hW, .inl (dN, 68, .inl fw)), (hX, .inl (dB, 4, .inl fx)), (ht, .inl (dB, 1024, .inl ft))]) [3, 4, 5, 6, 7, 2] rfl
  have hDc := hD.sub (ws' := [(h, .inr (0, [.ref pA, .ref hX, .int (nI (n % 4)), .long (lN n), .ref hV, .ref hI, .int (nI (n / 4 % 16)), .ref hW])), (hV, .inl (dN, 8, .inl fv)), (hI, .inl (dN, 16, .inl fi)), (hW, .inl (dN, 68, .inl fw)), (hX, .inl (dB, 4, .inl fx)), (ht, .inl (dB, 1024, .inl ft))]) [3, 4, 5, 6, 7, 2] (by decide) rfl
  have hFc := va_free (wc := [(h, .inr (0, [.ref pA, .ref hX, .int (nI (n % 4)), .long (lN n), .ref hV, .ref hI, .int (nI (n / 4 % 16)), .ref hW])), (hV, .inl (dN, 8, .inl fv)), (hI, .inl (dN, 16, .inl fi)), (hW, .inl (dN, 68, .inl fw)), (hX, .inl (dB, 4, .inl fx)), (ht, .inl (dB, 1024, .inl ft))]) hD hS hA [3, 4, 5, 6, 7, 2] rfl
  refine sm_back5v (wr := [(d, .inr (1, [.ref h, .ref ho, .int (nI (fd + c1)), .ref ht, .int (nI z)])), (ho, .inl (dB, 64, .inl fo))]) (va_runF (hK.1 0 _ rfl).2 (As := [.ref ht, .int (nI f), .int (nI c1)]) (rest := []) ⟨hx, hb, hml, hown, hts⟩ (met_upn l D dB dN H.size tA pA h hV hI hW hX fv fi fw fx msg n f c1 ht 1024 ft (by omega) (by decide) (fun j hj => (htx _ (by omega)).trans (hm j hj)) hB hAb) (va_cwF (C := RX3) (x := sm_iU) 3 hts (sm_gF q32 q36 q38 q11 q40) rfl rfl rfl hE.2.2.2.2.2.2.1 (by decide +kernel) ⟨Nat.le_of_ble_eq_true rfl, Nat.le_of_ble_eq_true rfl⟩) ⟨sm_blind, va_recv hK hP (ci := 0) (q0 := 3) rfl rfl, sm_go hK hPc hDc hE hS hFc _⟩ rfl rfl hl.1 rfl (lv_room (Nat.le_of_ble_eq_true rfl)) dX1_feed_51 ⟨Nat.le_of_ble_eq_true rfl, Nat.le_of_ble_eq_true rfl⟩) hP hD hS hFc [3, 4, 5, 6, 7, 2] [0, 1] rfl rfl (by decide) (by decide) (fun w1 H locs hw hP hD hS => ?_)
  obtain ⟨gv, gi, gw, gx, rfl, hAb⟩ := hw
  have hP : va_P D vwCl [(d, .inr (1, [.ref h, .ref ho, .int (nI (fd + c1)), .ref ht, .int (nI z)])), (ho, .inl (dB, 64, .inl fo)), (ht, .inl (dB, 1024, .inl ft)), (h, .inr (0, [.ref pA, .ref hX, .int (nI ((n + c1) % 4)), .long (lN (n + c1)), .ref hV, .ref hI, .int (nI ((n + c1) / 4 % 16)), .ref hW])), (hV, .inl (dN, 8, .inl gv)), (hI, .inl (dN, 16, .inl gi)), (hW, .inl (dN, 68, .inl gw)), (hX, .inl (dB, 4, .inl gx))] H := hP.sub [0, 1, 7, 2, 3, 4, 5, 6] rfl
  have hD : va_D A [(d, .inr (1, [.ref h, .ref ho, .int (nI (fd + c1)), .ref ht, .int (nI z)])), (ho, .inl (dB, 64, .inl fo)), (ht, .inl (dB, 1024, .inl ft)), (h, .inr (0, [.ref pA, .ref hX, .int (nI ((n + c1) % 4)), .long (lN (n + c1)), .ref hV, .ref hI, .int (nI ((n + c1) / 4 % 16)), .ref hW])), (hV, .inl (dN, 8, .inl gv)), (hI, .inl (dN, 16, .inl gi)), (hW, .inl (dN, 68, .inl gw)), (hX, .inl (dB, 4, .inl gx))] := hD.sub [0, 1, 7, 2, 3, 4, 5, 6] (by decide) rfl
  refine lv_iconst (v := (1 : Int32)) hx hb dX1_feed_56 (by decide) ?_
  exact W.zret (v := 1) hx hb hr rfl (sm_endi _ ⟨rfl, ⟨ho, ht, h, hV, hI, hW, hX, _, _, _, _, _, _, rfl, hAb, htx, hoo⟩⟩ hP hD hS) hS.2.2 dX1_feed_57 hlk
set_option maxHeartbeats 4000000 in
set_option maxRecDepth 100000 in
theorem met_one (l : Launch) (D : va_G) (dB dN : ClassId) (sz tA pA : Nat) (w : va_W) (d : Nat) (msg : Nat → Int32) (n fd z : Nat) (tx oo : Nat → Int32) (hw : sm_DS dB dN pA d msg n fd z tx oo w) (x : Int32) (hx0 : x.toInt8.toInt32 = msg n) (hfd : fd < 16384) : Met l yX1_one (ws_ yX1_one cX1_one 2 (some .boolean)) ({ frames := 4, cells := 0, slots := 0, locals := 103 }) (va_Pc [.ref d, .int x] (sm_pre D dB dN (w) sz tA pA)) (sm_Qi D (fun r w' => r = 1 ∧ sm_DS dB dN pA d msg (n + 1) (fd + 1) z tx oo w') (va_A (w) sz)) 0 0 (va_A (w) sz) := by
  obtain ⟨ho, ht, h, hV, hI, hW, hX, fo, ft, fv, fi, fw, fx, rfl, hAb, htx, hoo⟩ := hw
  refine sm_met RX1 (sm_Qi D _) (by decide) rfl (Nat.le_of_ble_eq_true rfl) ?_
  intro p e s m below meth c ls A cx hnm hP hK hD hE hA hS hl
  obtain ⟨hx, hb, hr, hlk, hml, hown, hts⟩ := cx
  have hl : lv_has ls 2 [(0, .ref d), (1, .int x)] := hl
  have hP : va_P D vwCl [(d, .inr (1, [.ref h, .ref ho, .int (nI fd), .ref ht, .int (nI z)])), (ho, .inl (dB, 64, .inl fo)), (ht, .inl (dB, 1024, .inl ft)), (h, .inr (0, [.ref pA, .ref hX, .int (nI (n % 4)), .long (lN n), .ref hV, .ref hI, .int (nI (n / 4 % 16)), .ref hW])), (hV, .inl (dN, 8, .inl fv)), (hI, .inl (dN, 16, .inl fi)), (hW, .inl (dN, 68, .inl fw)), (hX, .inl (dB, 4, .inl fx))] s.heap := hP
  have hD : va_D A [(d, .inr (1, [.ref h, .ref ho, .int (nI fd), .ref ht, .int (nI z)])), (ho, .inl (dB, 64, .inl fo)), (ht, .inl (dB, 1024, .inl ft)), (h, .inr (0, [.ref pA, .ref hX, .int (nI (n % 4)), .long (lN n), .ref hV, .ref hI, .int (nI (n / 4 % 16)), .ref hW])), (hV, .inl (dN, 8, .inl fv)), (hI, .inl (dN, 16, .inl fi)), (hW, .inl (dN, 68, .inl fw)), (hX, .inl (dB, 4, .inl fx))] := hD
  refine lv_aload_n hx hb dX1_one_0 rfl (lv_at hl 0 rfl) ?_
  refine va_get (D := D) (ci := 1) (v := .int (nI fd)) (C := RX1) (T := TX1) (N := 5) hx hb hts in_X1 hown hK hP 0 rfl rfl 2 (by decide) (hts _ q214) (fun _ h9 => h9) rfl dX1_one_1 ?_
  refine lv_sipush (v := (16384 : Int32)) hx hb dX1_one_4 (by decide) ?_
  refine lv_icmp_lt (tgt := 12) hx hb dX1_one_7 (by decide) (fun _ => ?_) (fun hc => absurd (nI_lt hfd (by decide)) hc)
  refine lv_aload_n hx hb dX1_one_12 rfl (lv_at hl 0 rfl) ?_
  refine lv_dup hx hb dX1_one_13 rfl ?_
  refine va_get (D := D) (ci := 1) (v := .int (nI fd)) (C := RX1) (T := TX1) (N := 5) hx hb hts in_X1 hown hK hP 0 rfl rfl 2 (by decide) (hts _ q214) (fun _ h9 => h9) rfl dX1_one_14 ?_
  refine lv_iconst (v := (1 : Int32)) hx hb dX1_one_17 (by decide) ?_
  refine lv_iadd hx hb dX1_one_18 ?_
  refine lv_topi (fun y_ ey_ => ?_)
  have ey_ : y_ = nI (fd + 1) := ey_.trans (nI_1 fd)
  subst ey_
  refine va_put (D := D) (ci := 1) (v := .int (nI (fd + 1))) (ty := .int) (C := RX1) (T := TX1) (N := 5) hx hb hts in_X1 tyX1 tyX1_ok nmX1 hown hK hP hD hS 0 rfl rfl 2 (by decide) (hts _ q214) (fun _ h9 => h9) rfl (by decide +kernel) rfl rfl (Nat.le_of_ble_eq_true rfl) dX1_one_19 (fun H locs hP hD hS => ?_)
  have hP : va_P D vwCl [(d, .inr (1, [.ref h, .ref ho, .int (nI (fd + 1)), .ref ht, .int (nI z)])), (ho, .inl (dB, 64, .inl fo)), (ht, .inl (dB, 1024, .inl ft)), (h, .inr (0, [.ref pA, .ref hX, .int (nI (n % 4)), .long (lN n), .ref hV, .ref hI, .int (nI (n / 4 % 16)), .ref hW])), (hV, .inl (dN, 8, .inl fv)), (hI, .inl (dN, 16, .inl fi)), (hW, .inl (dN, 68, .inl fw)), (hX, .inl (dB, 4, .inl fx))] H := hP
  have hD : va_D A [(d, .inr (1, [.ref h, .ref ho, .int (nI (fd + 1)), .ref ht, .int (nI z)])), (ho, .inl (dB, 64, .inl fo)), (ht, .inl (dB, 1024, .inl ft)), (h, .inr (0, [.ref pA, .ref hX, .int (nI (n % 4)), .long (lN n), .ref hV, .ref hI, .int (nI (n / 4 % 16)), .ref hW])), (hV, .inl (dN, 8, .inl fv)), (hI, .inl (dN, 16, .inl fi)), (hW, .inl (dN, 68, .inl fw)), (hX, .inl (dB, 4, .inl fx))] := hD
  refine lv_aload_n hx hb dX1_one_22 rfl (lv_at hl 0 rfl) ?_
  refine va_get (D := D) (ci := 1) (v := .ref h) (C := RX1) (T := TX1) (N := 5) hx hb hts in_X1 hown hK hP 0 rfl rfl 0 (by decide) (hts _ q212) (fun _ h9 => h9) rfl dX1_one_23 ?_
  refine lv_iload_n hx hb dX1_one_26 rfl (lv_at hl 1 rfl) ?_
  refine lv_i2b hx hb dX1_one_27 rfl ?_
  have hPc := hP.sub (ws' := [(h, .inr (0, [.ref pA, .ref hX, .int (nI (n % 4)), .long (lN n), .ref hV, .ref hI, .int (nI (n / 4 % 16)), .ref hW])), (hV, .inl (dN, 8, .inl fv)), (hI, .inl (dN, 16, .inl fi)), (hW, .inl (dN, 68, .inl fw)), (hX, .inl (dB, 4, .inl fx))]) [3, 4, 5, 6, 7] rfl
  have hDc := hD.sub (ws' := [(h, .inr (0, [.ref pA, .ref hX, .int (nI (n % 4)), .long (lN n), .ref hV, .ref hI, .int (nI (n / 4 % 16)), .ref hW])), (hV, .inl (dN, 8, .inl fv)), (hI, .inl (dN, 16, .inl fi)), (hW, .inl (dN, 68, .inl fw)), (hX, .inl (dB, 4, .inl fx))]) [3, 4, 5, 6, 7] (by decide) rfl
  have hFc := va_free (wc := [(h, .inr (0, [.ref pA, .ref hX, .int (nI (n % 4)), .long (lN n), .ref hV, .ref hI, .int (nI (n / 4 % 16)), .ref hW])), (hV, .inl (dN, 8, .inl fv)), (hI, .inl (dN, 16, .inl fi)), (hW, .inl (dN, 68, .inl fw)), (hX, .inl (dB, 4, .inl fx))]) hD hS hA [3, 4, 5, 6, 7] rfl
  refine sm_back5v (wr := [(d, .inr (1, [.ref h, .ref ho, .int (nI (fd + 1)), .ref ht, .int (nI z)])), (ho, .inl (dB, 64, .inl fo)), (ht, .inl (dB, 1024, .inl ft))]) (va_runF (hK.1 0 _ rfl).2 (As := [.int x.toInt8.toInt32]) (rest := []) ⟨hx, hb, hml, hown, hts⟩ (met_up1 l D dB dN H.size tA pA h hV hI hW hX fv fi fw fx msg n x.toInt8.toInt32 hx0 (pk_vb x) hAb) (va_cwF (C := RX3) (x := sm_iO) 1 hts (sm_gF q89 q92 q94 q11 q96) rfl rfl rfl hE.2.2.2.2.2.2.2.1 (by decide +kernel) ⟨Nat.le_of_ble_eq_true rfl, Nat.le_of_ble_eq_true rfl⟩) ⟨sm_blind, va_recv hK hP (ci := 0) (q0 := 3) rfl rfl, sm_go hK hPc hDc hE hS hFc _⟩ rfl rfl hl.1 rfl (lv_room (Nat.le_of_ble_eq_true rfl)) dX1_one_28 ⟨Nat.le_of_ble_eq_true rfl, Nat.le_of_ble_eq_true rfl⟩) hP hD hS hFc [3, 4, 5, 6, 7] [0, 1, 2] rfl rfl (by decide) (by decide) (fun w1 H locs hw hP hD hS => ?_)
  obtain ⟨gv, gi, gw, gx, rfl, hAb⟩ := hw
  have hP : va_P D vwCl [(d, .inr (1, [.ref h, .ref ho, .int (nI (fd + 1)), .ref ht, .int (nI z)])), (ho, .inl (dB, 64, .inl fo)), (ht, .inl (dB, 1024, .inl ft)), (h, .inr (0, [.ref pA, .ref hX, .int (nI ((n + 1) % 4)), .long (lN (n + 1)), .ref hV, .ref hI, .int (nI ((n + 1) / 4 % 16)), .ref hW])), (hV, .inl (dN, 8, .inl gv)), (hI, .inl (dN, 16, .inl gi)), (hW, .inl (dN, 68, .inl gw)), (hX, .inl (dB, 4, .inl gx))] H := hP.sub [0, 1, 2, 3, 4, 5, 6, 7] rfl
  have hD : va_D A [(d, .inr (1, [.ref h, .ref ho, .int (nI (fd + 1)), .ref ht, .int (nI z)])), (ho, .inl (dB, 64, .inl fo)), (ht, .inl (dB, 1024, .inl ft)), (h, .inr (0, [.ref pA, .ref hX, .int (nI ((n + 1) % 4)), .long (lN (n + 1)), .ref hV, .ref hI, .int (nI ((n + 1) / 4 % 16)), .ref hW])), (hV, .inl (dN, 8, .inl gv)), (hI, .inl (dN, 16, .inl gi)), (hW, .inl (dN, 68, .inl gw)), (hX, .inl (dB, 4, .inl gx))] := hD.sub [0, 1, 2, 3, 4, 5, 6, 7] (by decide) rfl
  refine lv_iconst (v := (1 : Int32)) hx hb dX1_one_33 (by decide) ?_
  exact W.zret (v := 1) hx hb hr rfl (sm_endi _ ⟨rfl, ⟨ho, ht, h, hV, hI, hW, hX, _, _, _, _, _, _, rfl, hAb, htx, hoo⟩⟩ hP hD hS) hS.2.2 dX1_one_34 hlk
set_option maxHeartbeats 4000000 in
set_option maxRecDepth 100000 in
theorem met_close (l : Launch) (D : va_G) (dB dN : ClassId) (sz tA pA : Nat) (w : va_W) (d : Nat) (msg : Nat → Int32) (n fd z : Nat) (tx oo : Nat → Int32) (hw : sm_DS dB dN pA d msg n fd z tx oo w) (msg2 : Nat → Int32) : Met l yX1_close (ws_ yX1_close cX1_close 1 (some .int)) ({ frames := 6, cells := 0, slots := 0, locals := 147 }) (va_Pc [.ref d] (sm_pre D dB dN (w) sz tA pA)) (sm_Qi D (fun r w' => r = 32 ∧ sm_DS dB dN pA d msg2 0 0 z tx (sm_od msg n oo) w') (va_A (w) sz)) 0 0 (va_A (w) sz) := by
  obtain ⟨ho, ht, h, hV, hI, hW, hX, fo, ft, fv, fi, fw, fx, rfl, hAb, htx, hoo⟩ := hw
  refine sm_met RX1 (sm_Qi D _) (by decide) rfl (Nat.le_of_ble_eq_true rfl) ?_
  intro p e s m below meth c ls A cx hnm hP hK hD hE hA hS hl
  obtain ⟨hx, hb, hr, hlk, hml, hown, hts⟩ := cx
  have hl : lv_has ls 1 [(0, .ref d)] := hl
  have hP : va_P D vwCl [(d, .inr (1, [.ref h, .ref ho, .int (nI fd), .ref ht, .int (nI z)])), (ho, .inl (dB, 64, .inl fo)), (ht, .inl (dB, 1024, .inl ft)), (h, .inr (0, [.ref pA, .ref hX, .int (nI (n % 4)), .long (lN n), .ref hV, .ref hI, .int (nI (n / 4 % 16)), .ref hW])), (hV, .inl (dN, 8, .inl fv)), (hI, .inl (dN, 16, .inl fi)), (hW, .inl (dN, 68, .inl fw)), (hX, .inl (dB, 4, .inl fx))] s.heap := hP
  have hD : va_D A [(d, .inr (1, [.ref h, .ref ho, .int (nI fd), .ref ht, .int (nI z)])), (ho, .inl (dB, 64, .inl fo)), (ht, .inl (dB, 1024, .inl ft)), (h, .inr (0, [.ref pA, .ref hX, .int (nI (n % 4)), .long (lN n), .ref hV, .ref hI, .int (nI (n / 4 % 16)), .ref hW])), (hV, .inl (dN, 8, .inl fv)), (hI, .inl (dN, 16, .inl fi)), (hW, .inl (dN, 68, .inl fw)), (hX, .inl (dB, 4, .inl fx))] := hD
  refine lv_aload_n hx hb dX1_close_0 rfl (lv_at hl 0 rfl) ?_
  refine lv_iconst (v := (0 : Int32)) hx hb dX1_close_1 (by decide) ?_
  refine va_put (D := D) (ci := 1) (v := .int (0 : Int32)) (ty := .int) (C := RX1) (T := TX1) (N := 5) hx hb hts in_X1 tyX1 tyX1_ok nmX1 hown hK hP hD hS 0 rfl rfl 2 (by decide) (hts _ q214) (fun _ h9 => h9) rfl (by decide +kernel) rfl rfl (Nat.le_of_ble_eq_true rfl) dX1_close_2 (fun H locs hP hD hS => ?_)
  have hP : va_P D vwCl [(d, .inr (1, [.ref h, .ref ho, .int (0 : Int32), .ref ht, .int (nI z)])), (ho, .inl (dB, 64, .inl fo)), (ht, .inl (dB, 1024, .inl ft)), (h, .inr (0, [.ref pA, .ref hX, .int (nI (n % 4)), .long (lN n), .ref hV, .ref hI, .int (nI (n / 4 % 16)), .ref hW])), (hV, .inl (dN, 8, .inl fv)), (hI, .inl (dN, 16, .inl fi)), (hW, .inl (dN, 68, .inl fw)), (hX, .inl (dB, 4, .inl fx))] H := hP
  have hD : va_D A [(d, .inr (1, [.ref h, .ref ho, .int (0 : Int32), .ref ht, .int (nI z)])), (ho, .inl (dB, 64, .inl fo)), (ht, .inl (dB, 1024, .inl ft)), (h, .inr (0, [.ref pA, .ref hX, .int (nI (n % 4)), .long (lN n), .ref hV, .ref hI, .int (nI (n / 4 % 16)), .ref hW])), (hV, .inl (dN, 8, .inl fv)), (hI, .inl (dN, 16, .inl fi)), (hW, .inl (dN, 68, .inl fw)), (hX, .inl (dB, 4, .inl fx))] := hD
  refine lv_aload_n hx hb dX1_close_5 rfl (lv_at hl 0 rfl) ?_
  refine va_get (D := D) (ci := 1) (v := .ref h) (C := RX1) (T := TX1) (N := 5) hx hb hts in_X1 hown hK hP 0 rfl rfl 0 (by decide) (hts _ q212) (fun _ h9 => h9) rfl dX1_close_6 ?_
  refine lv_aload_n hx hb dX1_close_9 rfl (lv_at hl 0 rfl) ?_
  refine va_get (D := D) (ci := 1) (v := .ref ho) (C := RX1) (T := TX1) (N := 5) hx hb hts in_X1 hown hK hP 0 rfl rfl 1 (by decide) (hts _ q213) (fun _ h9 => h9) rfl dX1_close_10 ?_
  refine lv_iconst (v := (0 : Int32)) hx hb dX1_close_13 (by decide) ?_
  have hPc := hP.sub (ws' := [(h, .inr (0, [.ref pA, .ref hX, .int (nI (n % 4)), .long (lN n), .ref hV, .ref hI, .int (nI (n / 4 % 16)), .ref hW])), (hV, .inl (dN, 8, .inl fv)), (hI, .inl (dN, 16, .inl fi)), (hW, .inl (dN, 68, .inl fw)), (hX, .inl (dB, 4, .inl fx)), (ho, .inl (dB, 64, .inl fo))]) [3, 4, 5, 6, 7, 1] rfl
  have hDc := hD.sub (ws' := [(h, .inr (0, [.ref pA, .ref hX, .int (nI (n % 4)), .long (lN n), .ref hV, .ref hI, .int (nI (n / 4 % 16)), .ref hW])), (hV, .inl (dN, 8, .inl fv)), (hI, .inl (dN, 16, .inl fi)), (hW, .inl (dN, 68, .inl fw)), (hX, .inl (dB, 4, .inl fx)), (ho, .inl (dB, 64, .inl fo))]) [3, 4, 5, 6, 7, 1] (by decide) rfl
  have hFc := va_free (wc := [(h, .inr (0, [.ref pA, .ref hX, .int (nI (n % 4)), .long (lN n), .ref hV, .ref hI, .int (nI (n / 4 % 16)), .ref hW])), (hV, .inl (dN, 8, .inl fv)), (hI, .inl (dN, 16, .inl fi)), (hW, .inl (dN, 68, .inl fw)), (hX, .inl (dB, 4, .inl fx)), (ho, .inl (dB, 64, .inl fo))]) hD hS hA [3, 4, 5, 6, 7, 1] rfl
  refine sm_back5i (wr := [(d, .inr (1, [.ref h, .ref ho, .int (0 : Int32), .ref ht, .int (nI z)])), (ht, .inl (dB, 1024, .inl ft))]) (va_runF (hK.1 0 _ rfl).2 (As := [.ref ho, .int (0 : Int32)]) (rest := []) ⟨hx, hb, hml, hown, hts⟩ (met_df l D dB dN H.size tA pA h hV hI hW hX fv fi fw fx msg n ho fo hAb) (va_cwF (C := RX3) (x := sm_iF) 2 hts (sm_gF q102 q105 q107 q12 q109) rfl rfl rfl hE.2.2.2.2.2.2.2.2.1 (by decide +kernel) ⟨Nat.le_of_ble_eq_true rfl, Nat.le_of_ble_eq_true rfl⟩) ⟨sm_blind, va_recv hK hP (ci := 0) (q0 := 3) rfl rfl, sm_go hK hPc hDc hE hS hFc _⟩ rfl rfl hl.1 rfl (lv_room (Nat.le_of_ble_eq_true rfl)) dX1_close_14 ⟨Nat.le_of_ble_eq_true rfl, Nat.le_of_ble_eq_true rfl⟩) hP hD hS hFc [3, 4, 5, 6, 7, 1] [0, 2] rfl rfl (by decide) (by decide) (fun r0 w1 H locs hw hP hD hS => ?_)
  obtain ⟨hr0, gv, gi, gw, gx, go, rfl, hg, hgo⟩ := hw
  have hP : va_P D vwCl [(d, .inr (1, [.ref h, .ref ho, .int (0 : Int32), .ref ht, .int (nI z)])), (ho, .inl (dB, 64, .inl go)), (ht, .inl (dB, 1024, .inl ft)), (h, .inr (0, [.ref pA, .ref hX, .int 0, .long 0, .ref hV, .ref hI, .int 0, .ref hW])), (hV, .inl (dN, 8, .inl gv)), (hI, .inl (dN, 16, .inl gi)), (hW, .inl (dN, 68, .inl gw)), (hX, .inl (dB, 4, .inl gx))] H := hP.sub [0, 7, 1, 2, 3, 4, 5, 6] rfl
  have hD : va_D A [(d, .inr (1, [.ref h, .ref ho, .int (0 : Int32), .ref ht, .int (nI z)])), (ho, .inl (dB, 64, .inl go)), (ht, .inl (dB, 1024, .inl ft)), (h, .inr (0, [.ref pA, .ref hX, .int 0, .long 0, .ref hV, .ref hI, .int 0, .ref hW])), (hV, .inl (dN, 8, .inl gv)), (hI, .inl (dN, 16, .inl gi)), (hW, .inl (dN, 68, .inl gw)), (hX, .inl (dB, 4, .inl gx))] := hD.sub [0, 7, 1, 2, 3, 4, 5, 6] (by decide) rfl
  subst hr0
  exact W.iret (v := 32) hx hb hr (sm_endi _ ⟨rfl, ⟨ho, ht, h, hV, hI, hW, hX, _, _, _, _, _, _, rfl, sm_Ab_0 msg2 hg, htx, fun j hj => by
    rw [hgo j hj]
    by_cases h32 : j < 32
    · rw [if_pos h32]; exact (if_pos h32).symm
    · rw [if_neg h32, hoo j hj]; exact (if_neg h32).symm⟩⟩ hP hD hS) hS.2.2 dX1_close_19 hlk
set_option maxHeartbeats 4000000 in
set_option maxRecDepth 100000 in
theorem met_drop (l : Launch) (D : va_G) (dB dN : ClassId) (sz tA pA : Nat) (w : va_W) (d : Nat) (msg : Nat → Int32) (n fd z : Nat) (tx oo : Nat → Int32) (hw : sm_DS dB dN pA d msg n fd z tx oo w) (msg2 : Nat → Int32) : Met l yX1_drop (ws_ yX1_drop cX1_drop 1 none) ({ frames := 2, cells := 0, slots := 0, locals := 41 }) (va_Pc [.ref d] (sm_pre D dB dN (w) sz tA pA)) (sm_Qv D (fun w' => sm_DS dB dN pA d msg2 0 0 z tx oo w') (va_A (w) sz)) 0 0 (va_A (w) sz) := by
  obtain ⟨ho, ht, h, hV, hI, hW, hX, fo, ft, fv, fi, fw, fx, rfl, hAb, htx, hoo⟩ := hw
  refine sm_met RX1 (sm_Qv D _) (by decide) rfl (Nat.le_of_ble_eq_true rfl) ?_
  intro p e s m below meth c ls A cx hnm hP hK hD hE hA hS hl
  obtain ⟨hx, hb, hr, hlk, hml, hown, hts⟩ := cx
  have hl : lv_has ls 1 [(0, .ref d)] := hl
  have hP : va_P D vwCl [(d, .inr (1, [.ref h, .ref ho, .int (nI fd), .ref ht, .int (nI z)])), (ho, .inl (dB, 64, .inl fo)), (ht, .inl (dB, 1024, .inl ft)), (h, .inr (0, [.ref pA, .ref hX, .int (nI (n % 4)), .long (lN n), .ref hV, .ref hI, .int (nI (n / 4 % 16)), .ref hW])), (hV, .inl (dN, 8, .inl fv)), (hI, .inl (dN, 16, .inl fi)), (hW, .inl (dN, 68, .inl fw)), (hX, .inl (dB, 4, .inl fx))] s.heap := hP
  have hD : va_D A [(d, .inr (1, [.ref h, .ref ho, .int (nI fd), .ref ht, .int (nI z)])), (ho, .inl (dB, 64, .inl fo)), (ht, .inl (dB, 1024, .inl ft)), (h, .inr (0, [.ref pA, .ref hX, .int (nI (n % 4)), .long (lN n), .ref hV, .ref hI, .int (nI (n / 4 % 16)), .ref hW])), (hV, .inl (dN, 8, .inl fv)), (hI, .inl (dN, 16, .inl fi)), (hW, .inl (dN, 68, .inl fw)), (hX, .inl (dB, 4, .inl fx))] := hD
  refine lv_aload_n hx hb dX1_drop_0 rfl (lv_at hl 0 rfl) ?_
  refine va_get (D := D) (ci := 1) (v := .ref h) (C := RX1) (T := TX1) (N := 5) hx hb hts in_X1 hown hK hP 0 rfl rfl 0 (by decide) (hts _ q212) (fun _ h9 => h9) rfl dX1_drop_1 ?_
  have hPc := hP.sub (ws' := [(h, .inr (0, [.ref pA, .ref hX, .int (nI (n % 4)), .long (lN n), .ref hV, .ref hI, .int (nI (n / 4 % 16)), .ref hW])), (hV, .inl (dN, 8, .inl fv)), (hI, .inl (dN, 16, .inl fi)), (hW, .inl (dN, 68, .inl fw)), (hX, .inl (dB, 4, .inl fx))]) [3, 4, 5, 6, 7] rfl
  have hDc := hD.sub (ws' := [(h, .inr (0, [.ref pA, .ref hX, .int (nI (n % 4)), .long (lN n), .ref hV, .ref hI, .int (nI (n / 4 % 16)), .ref hW])), (hV, .inl (dN, 8, .inl fv)), (hI, .inl (dN, 16, .inl fi)), (hW, .inl (dN, 68, .inl fw)), (hX, .inl (dB, 4, .inl fx))]) [3, 4, 5, 6, 7] (by decide) rfl
  have hFc := va_free (wc := [(h, .inr (0, [.ref pA, .ref hX, .int (nI (n % 4)), .long (lN n), .ref hV, .ref hI, .int (nI (n / 4 % 16)), .ref hW])), (hV, .inl (dN, 8, .inl fv)), (hI, .inl (dN, 16, .inl fi)), (hW, .inl (dN, 68, .inl fw)), (hX, .inl (dB, 4, .inl fx))]) hD hS hA [3, 4, 5, 6, 7] rfl
  refine sm_back5v (wr := [(d, .inr (1, [.ref h, .ref ho, .int (nI fd), .ref ht, .int (nI z)])), (ho, .inl (dB, 64, .inl fo)), (ht, .inl (dB, 1024, .inl ft))]) (va_runF (hK.1 0 _ rfl).2 (As := []) (rest := []) ⟨hx, hb, hml, hown, hts⟩ (met_rs l D dB dN s.heap.size tA pA h hV hI hW hX fv fi fw fx (nI (n / 4 % 16)) (nI (n % 4)) (lN n)) (va_cwF (C := RX3) (x := sm_iR) 0 hts (sm_gF q154 q157 q134 q12 q136) rfl rfl rfl hE.2.2.2.2.2.2.2.2.2 (by decide +kernel) ⟨Nat.le_of_ble_eq_true rfl, Nat.le_of_ble_eq_true rfl⟩) ⟨sm_blind, va_recv hK hP (ci := 0) (q0 := 3) rfl rfl, sm_go hK hPc hDc hE hS hFc _⟩ rfl rfl hl.1 rfl (lv_room (Nat.le_of_ble_eq_true rfl)) dX1_drop_4 ⟨Nat.le_of_ble_eq_true rfl, Nat.le_of_ble_eq_true rfl⟩) hP hD hS hFc [3, 4, 5, 6, 7] [0, 1, 2] rfl rfl (by decide) (by decide) (fun w1 H locs hw hP hD hS => ?_)
  obtain ⟨gv, gx, rfl, hg⟩ := hw
  have hP : va_P D vwCl [(d, .inr (1, [.ref h, .ref ho, .int (nI fd), .ref ht, .int (nI z)])), (ho, .inl (dB, 64, .inl fo)), (ht, .inl (dB, 1024, .inl ft)), (h, .inr (0, [.ref pA, .ref hX, .int 0, .long 0, .ref hV, .ref hI, .int 0, .ref hW])), (hV, .inl (dN, 8, .inl gv)), (hI, .inl (dN, 16, .inl fi)), (hW, .inl (dN, 68, .inl fw)), (hX, .inl (dB, 4, .inl gx))] H := hP.sub [0, 1, 2, 3, 4, 5, 6, 7] rfl
  have hD : va_D A [(d, .inr (1, [.ref h, .ref ho, .int (nI fd), .ref ht, .int (nI z)])), (ho, .inl (dB, 64, .inl fo)), (ht, .inl (dB, 1024, .inl ft)), (h, .inr (0, [.ref pA, .ref hX, .int 0, .long 0, .ref hV, .ref hI, .int 0, .ref hW])), (hV, .inl (dN, 8, .inl gv)), (hI, .inl (dN, 16, .inl fi)), (hW, .inl (dN, 68, .inl fw)), (hX, .inl (dB, 4, .inl gx))] := hD.sub [0, 1, 2, 3, 4, 5, 6, 7] (by decide) rfl
  refine lv_aload_n hx hb dX1_drop_9 rfl (lv_at hl 0 rfl) ?_
  refine lv_iconst (v := (0 : Int32)) hx hb dX1_drop_10 (by decide) ?_
  refine va_put (D := D) (ci := 1) (v := .int (0 : Int32)) (ty := .int) (C := RX1) (T := TX1) (N := 5) hx hb hts in_X1 tyX1 tyX1_ok nmX1 hown hK hP hD hS 0 rfl rfl 2 (by decide) (hts _ q214) (fun _ h9 => h9) rfl (by decide +kernel) rfl rfl (Nat.le_of_ble_eq_true rfl) dX1_drop_11 (fun H locs hP hD hS => ?_)
  have hP : va_P D vwCl [(d, .inr (1, [.ref h, .ref ho, .int (0 : Int32), .ref ht, .int (nI z)])), (ho, .inl (dB, 64, .inl fo)), (ht, .inl (dB, 1024, .inl ft)), (h, .inr (0, [.ref pA, .ref hX, .int 0, .long 0, .ref hV, .ref hI, .int 0, .ref hW])), (hV, .inl (dN, 8, .inl gv)), (hI, .inl (dN, 16, .inl fi)), (hW, .inl (dN, 68, .inl fw)), (hX, .inl (dB, 4, .inl gx))] H := hP
  have hD : va_D A [(d, .inr (1, [.ref h, .ref ho, .int (0 : Int32), .ref ht, .int (nI z)])), (ho, .inl (dB, 64, .inl fo)), (ht, .inl (dB, 1024, .inl ft)), (h, .inr (0, [.ref pA, .ref hX, .int 0, .long 0, .ref hV, .ref hI, .int 0, .ref hW])), (hV, .inl (dN, 8, .inl gv)), (hI, .inl (dN, 16, .inl fi)), (hW, .inl (dN, 68, .inl fw)), (hX, .inl (dB, 4, .inl gx))] := hD
  exact W.vret hx hb hr (sm_endv _ ⟨ho, ht, h, hV, hI, hW, hX, _, _, _, _, _, _, rfl, sm_Ab_0 msg2 hg, htx, hoo⟩ hP hD hS) hS.2.2 dX1_drop_14 hlk
end
section
/-! PLAIN: the text that the script gives, the two published sums -/
set_option maxRecDepth 100000
theorem sm_wl_tab {f : Nat → Int32} (wl : Nat → Int32) (h0 : ∀ j, j < 16 → wl j = f j) (h1 : ∀ i, i < 52 → wl (16 + i) = sm_st wl (16 + i)) : ∀ t, t ≤ 52 → ∀ j, j < 16 + t → sm_wl f t j = wl j := by
  intro t
  induction t with
  | zero => intro _ j hj; exact (h0 j hj).symm
  | succ t ih =>
    intro ht j hj
    show upd (sm_wl f t) (16 + t) (sm_st (sm_wl f t) (16 + t)) j = wl j
    by_cases e : j = 16 + t
    · rw [e, pk_us, h1 t (by omega)]
      exact sm_st_c (by omega) (ih (by omega))
    · rw [pk_un e]
      exact ih (by omega) j (by omega)
def sm_rnd (w : Nat → Int32) (t : Nat) (r : sm_R8) : sm_R8 := if t < 16 then sm_rd sm_FF0 sm_FF0 (sm_T t) (w t) (w (t + 4)) r else sm_rd sm_FF1 sm_GG1 (sm_T t) (w t) (w (t + 4)) r
theorem sm_rs_tab {w : Nat → Int32} {r : sm_R8} (S : Nat → sm_R8) (h0 : S 0 = r) (h1 : ∀ t, t < 64 → S (t + 1) = sm_rnd w t (S t)) : ∀ t, t ≤ 64 → sm_rs w r t = S t := by
  intro t
  induction t with
  | zero => intro _; exact h0.symm
  | succ t ih =>
    intro ht
    rw [h1 t (by omega), ← ih (by omega)]
    rfl
theorem sm_cmp_tab {fi : Nat → Int32} (wl : Nat → Int32) (S : Nat → sm_R8) (h0 : ∀ j, j < 16 → wl j = fi j) (h1 : ∀ i, i < 52 → wl (16 + i) = sm_st wl (16 + i)) (h2 : S 0 = sm_8 sm_iv) (h3 : ∀ t, t < 64 → S (t + 1) = sm_rnd wl t (S t)) (j : Nat) : sm_cmp sm_iv fi j = sm_iv j ^^^ sm_nth (S 64) j := by
  unfold sm_cmp
  rw [sm_rs_c (w := sm_wl fi 52) (v := wl) (fun i hi => sm_wl_tab wl h0 h1 52 (by decide) i (by omega)) (sm_8 sm_iv) 64 (by decide), sm_rs_tab S h2 h3 64 (by decide)]
abbrev sm_e8 (a b : sm_R8) : Prop := a.1 = b.1 ∧ a.2.1 = b.2.1 ∧ a.2.2.1 = b.2.2.1 ∧ a.2.2.2.1 = b.2.2.2.1 ∧ a.2.2.2.2.1 = b.2.2.2.2.1 ∧ a.2.2.2.2.2.1 = b.2.2.2.2.2.1 ∧ a.2.2.2.2.2.2.1 = b.2.2.2.2.2.2.1 ∧ a.2.2.2.2.2.2.2 = b.2.2.2.2.2.2.2
theorem sm_e8_eq {a b : sm_R8} (h : sm_e8 a b) : a = b := by
  obtain ⟨a1, a2, a3, a4, a5, a6, a7, a8⟩ := a
  obtain ⟨b1, b2, b3, b4, b5, b6, b7, b8⟩ := b
  obtain ⟨rfl, rfl, rfl, rfl, rfl, rfl, rfl, rfl⟩ := h
  rfl
def sm_msg0 (j : Nat) : Int32 := ([] : List Int32).getD j 0
def sm_out0 (j : Nat) : Int32 := ([26, 178, 29, 131, 85, 207, 161, 127, 142, 97, 25, 72, 49, 232, 26, 143, 34, 190, 200, 199, 40, 254, 251, 116, 126, 208, 53, 235, 80, 130, 170, 43] : List Int32).getD j 0
def sm_WL0 : List Int32 := [(-2147483648), 0, 0, 0, 0, 0, 0, 0, 0, 0, 0, 0, 0, 0, 0, 0, (-2143272960), 0, 0, 268455936, 0, 0, (-1403757564), 0, 0, (-1610600448), 0, 0, (-1538238460), 538968128, 0, 822105344, (-1610604544), 0, 2060809680, 168690198, 0, (-1442815232), 536870912, 0, 2052404624, 572653636, 268443664, (-1827646128), (-1442831872), 335545344, (-1409741991), 1217980537, (-1605349376), (-1432340944), (-2113929216), 134244352, 599083869, 1644306500, (-1320127983), 673253469, (-1432346080), (-2126512064), 1144951137, (-1635283823), 168101120, 680679483, 673185792, 8390272, (-1942079199), 1143087616, 185935665, 1888620757]
def sm_SL0 : List sm_R8 := [(1937774191, 1226093241, 388252375, (-628488704), (-1452330820), 372324522, (-477237683), (-1325724082)), ((-661955157), 1937774191, 694514322, 388252375, 595899023, (-1452330820), (-984567415), (-477237683)), (1740248475, (-661955157), 2940647, 694514322, (-1374633153), 595899023, (-2048570503), (-984567415)), ((-719207607), 1740248475, 381376433, 2940647, (-39512373), (-1374633153), (-1804002267), (-2048570503)), ((-1507309200), (-719207607), 1948989135, 381376433, 969876008, (-39512373), 436039814, (-1804002267)), (797323126, (-1507309200), 1132893098, 1948989135, 2076381607, 969876008, (-1235227352), 436039814), ((-2117029265), 797323126, 1351803212, 1132893098, (-104653860), 2076381607, 289525369, (-1235227352)), (953607077, (-2117029265), 207547487, 1351803212, 1664981238, (-104653860), (-1925456360), 289525369), ((-1460507849), 953607077, (-1587224829), 207547487, (-421975315), 1664981238, (-555233768), (-1925456360)), (202064979, (-1460507849), (-1379448207), (-1587224829), 1186691224, (-421975315), (-944563732), (-555233768)), (466508065, 202064979, (-455708847), (-1379448207), 1018024748, 1186691224, 1466906313, (-944563732)), ((-258854231), 466508065, 378054168, (-455708847), 88671368, 1018024748, (-993905189), 1466906313), (1338535341, (-258854231), (-1666039241), 378054168, (-1421568045), 88671368, (-1721637522), (-993905189)), (2030691410, 1338535341, 610620385, (-1666039241), (-1855808253), (-1421568045), 608184904, (-1721637522)), (1788075553, 2030691410, (-1864672609), 610620385, (-2040753317), (-1855808253), (-1096984028), 608184904), ((-1492327920), 1788075553, 331916530, (-1864672609), 709871425, (-2040753317), (-400782572), (-1096984028)), (806978911, (-1492327920), 666649301, 331916530, 1627584852, 709871425, (-1696845084), (-400782572)), ((-1525922671), 806978911, 432283982, 666649301, (-1284789301), 1627584852, 973689470, (-1696845084)), ((-111356099), (-1525922671), 856342112, 432283982, (-765594983), (-1284789301), (-895285225), 973689470), ((-1479324382), (-111356099), 411640650, 856342112, 851093780, (-765594983), 1583192925, (-895285225)), ((-1050271138), (-1479324382), (-1179747342), 411640650, 1652855266, 851093780, (-1798401297), 1583192925), ((-2052693100), (-1050271138), (-1499839153), (-1179747342), 1726241330, 1652855266, 1218549205, (-1798401297)), (798361397, (-2052693100), (-867910270), (-1499839153), 2134288741, 1726241330, (-1894575068), 1218549205), (615594303, 798361397, 1288120587, (-867910270), 1245641648, 2134288741, (-778881246), (-1894575068)), ((-1805189733), 615594303, 739142239, 1288120587, 2114449397, 1245641648, 1261173173, (-778881246)), (1459605416, (-1805189733), 1651670601, 739142239, (-1040706002), 2114449397, (-578661897), 1261173173), (299205422, 1459605416, (-839174360), 1651670601, (-2137420190), (-1040706002), 2141974591, (-578661897)), ((-1142546163), 299205422, (-6336339), (-839174360), (-1167532607), (-2137420190), (-1317662784), 2141974591), ((-4293797), (-1142546163), (-1425646557), (-6336339), (-993815053), (-1167532607), 1930691788, (-1317662784)), ((-1226269043), (-4293797), (-868082825), (-1425646557), (-558521718), (-993815053), (-301083834), 1930691788), (1214285687, (-1226269043), 2096543743, (-868082825), (-713347170), (-558521718), (-1348590052), (-301083834)), (103473406, 1214285687, (-784524435), 2096543743, 1416022897, (-713347170), 341243309, (-1348590052)), (1801469713, 103473406, (-1055986032), (-784524435), (-2081584017), 1416022897, 2096540633, 341243309), ((-449221836), 1801469713, 1438776332, (-1055986032), (-1914511356), (-2081584017), 1535812406, 2096540633), (343460995, (-449221836), (-1065475370), 1438776332, (-848521733), (-1914511356), 1669078892, 1535812406), (442917207, 343460995, 1926654410, (-1065475370), (-1064870100), (-848521733), 2387735, 1669078892), ((-405900790), 442917207, (-241629656), 1926654410, 1344973206, (-1064870100), (-1344378012), 2387735), ((-424479753), (-405900790), (-859656652), (-241629656), (-630691863), 1344973206, (-110754758), (-1344378012)), ((-1015870616), (-424479753), (-1662773809), (-859656652), 706590243, (-630691863), 1286766933, (-110754758)), (823775868, (-1015870616), 1709699021, (-1662773809), 1357477987, 706590243, 1062130499, 1286766933), ((-24129004), 823775868, (-434712186), 1709699021, (-185042366), 1357477987, (-1323740947), 1062130499), (1390933829, (-24129004), 866449506, (-434712186), 795730015, (-185042366), (-1021671605), (-1323740947)), (11656319, 1390933829, 530852349, 866449506, (-2146643733), 795730015, (-770201661), (-1021671605)), (989241725, 11656319, (-806450523), 530852349, (-346463538), (-2146643733), 49904495, (-770201661)), (1257663241, 989241725, 1673068033, (-806450523), (-1041966908), (-346463538), (-2024013722), 49904495), ((-1762655956), 1257663241, (-314377611), 1673068033, (-875989048), (-1041966908), 376920779, (-2024013722)), ((-1205459442), (-1762655956), (-321514859), (-314377611), 1330168141, (-875989048), (-970584282), 376920779), ((-1200137304), (-1205459442), (-536717011), (-321514859), (-949227014), 1330168141, (-1102684597), (-970584282)), (1711069116, (-1200137304), 1280056688, (-536717011), 6550584, (-949227014), 174750278, (-1102684597)), (1220877740, 1711069116, (-289975952), 1280056688, 1267660792, 6550584, (-1881785505), 174750278), ((-261777664), 1220877740, (-105940789), (-289975952), (-115751620), 1267660792, (-1581251809), (-1881785505)), (463216747, (-261777664), (-1975822191), (-105940789), 753313128, (-115751620), (-1077781385), (-1581251809)), (379652221, 463216747, (-886177312), (-1975822191), 1177447404, 753313128, 703056078, (-1077781385)), ((-311297676), 379652221, 943773239, (-886177312), 93854705, 1177447404, 725706549, 703056078), (194809237, (-311297676), 1108408877, 943773239, (-1237383632), 93854705, 1600270707, 725706549), ((-1939477595), 194809237, (-470619686), 1108408877, 601763311, (-1237383632), (-544723776), 1600270707), (957055475, (-1939477595), 958081559, (-470619686), (-2090878850), 601763311, 830845432, (-544723776)), (38445859, 957055475, (-875082984), 958081559, (-1489216955), (-2090878850), 1870208753, 830845432), ((-1976047652), 38445859, 386131570, (-875082984), 840057311, (-1489216955), (-1007412483), 1870208753), (2103670969, (-1976047652), (-1790556668), 386131570, 1535600396, 840057311, (-768787998), (-1007412483)), ((-1769388092), 2103670969, 1875884308, (-1790556668), 1045227192, 1535600396, 251236498, (-768787998)), (1207283982, (-1769388092), (-957254918), 1875884308, 881638415, 1045227192, 946003003, 251236498), ((-808672595), 1207283982, 311396653, (-957254918), (-1149971541), 881638415, 901902951, 946003003), (484119494, (-808672595), (-345891697), 311396653, 1053803486, (-1149971541), (-528898971), 901902951), (1764887532, 484119494, (-1723507809), (-345891697), (-1949173637), 1053803486, (-1654793306), (-528898971))]
def sm_W0 (j : Nat) : Int32 := sm_WL0.getD j 0
def sm_S0 (j : Nat) : sm_R8 := sm_SL0.getD j (0, 0, 0, 0, 0, 0, 0, 0)
theorem sm_k0_w : ∀ i, i < 52 → sm_W0 (16 + i) = sm_st sm_W0 (16 + i) := fun i hi => co_dec (P := fun i => sm_W0 (16 + i) = sm_st sm_W0 (16 + i)) (N := 52) (by decide +kernel) hi
theorem sm_k0_s : ∀ t, t < 64 → sm_S0 (t + 1) = sm_rnd sm_W0 t (sm_S0 t) := fun t ht => sm_e8_eq (co_dec (P := fun t => sm_e8 (sm_S0 (t + 1)) (sm_rnd sm_W0 t (sm_S0 t))) (N := 64) (by decide +kernel) ht)
theorem sm_k0_b : ∀ j, j < 16 → sm_W0 j = sm_plI (sm_pm sm_msg0 0) (0 / 4 + 1) (lN 0 <<< ((3 : Int32).toInt64 &&& 63)) j := fun j hj => co_dec (P := fun j => sm_W0 j = sm_plI (sm_pm sm_msg0 0) (0 / 4 + 1) (lN 0 <<< ((3 : Int32).toInt64 &&& 63)) j) (N := 16) (by decide +kernel) hj
theorem sm_k0_F (j : Nat) : sm_F sm_msg0 0 j = sm_iv j ^^^ sm_nth (sm_S0 64) j := by
  unfold sm_F
  have e : sm_plV (sm_pm sm_msg0 0) (0 / 4 + 1) = sm_iv := rfl
  rw [e]
  exact sm_cmp_tab sm_W0 sm_S0 sm_k0_b sm_k0_w rfl sm_k0_s j
theorem sm_k0_o : ∀ j, j < 32 → sm_ob (sm_iv (j / 4) ^^^ sm_nth (sm_S0 64) (j / 4)) (j % 4) &&& 255 = sm_out0 j := fun j hj => co_dec (P := fun j => sm_ob (sm_iv (j / 4) ^^^ sm_nth (sm_S0 64) (j / 4)) (j % 4) &&& 255 = sm_out0 j) (N := 32) (by decide +kernel) hj
/-- the published sum: what out answers behind the empty text -/
theorem sm_k0 {oo : Nat → Int32} : ∀ j, j < 32 → sm_od sm_msg0 0 oo j &&& 255 = sm_out0 j := by
  intro j hj
  unfold sm_od
  rw [if_pos hj, sm_k0_F]
  exact sm_k0_o j hj
def sm_msg1 (j : Nat) : Int32 := ([97, 98, 99] : List Int32).getD j 0
def sm_out1 (j : Nat) : Int32 := ([102, 199, 240, 244, 98, 238, 237, 217, 209, 242, 212, 107, 220, 16, 228, 226, 65, 103, 196, 135, 92, 242, 247, 162, 41, 125, 160, 43, 143, 75, 168, 224] : List Int32).getD j 0
def sm_WL1 : List Int32 := [1633837952, 0, 0, 0, 0, 0, 0, 0, 0, 0, 0, 0, 0, 0, 0, 24, (-1869422080), 0, 787974, 1906077933, 0, (-2147385313), (-1818264151), 0, 745513465, (-1381306604), 0, 98334, (-1701421175), 1232142408, 600737441, (-1294913765), (-505748680), (-133818361), 90007742, (-2033199999), 524582275, (-654164545), 408459488, (-536471545), 84800860, (-840953780), (-1514550955), (-1478557308), 1850133768, (-474300936), 1892328482, 55816016, (-1456620383), 1597231058, (-512790903), (-149952191), (-900439332), (-2052521646), 1991205526, (-920470094), 1748471029, (-1755819196), 151029539, (-2030375308), 716769456, 1248115792, (-2041680376), (-260151920), 844926840, (-1395949551), (-518145571), (-1180957371)]
def sm_SL1 : List sm_R8 := [(1937774191, 1226093241, 388252375, (-628488704), (-1452330820), 372324522, (-477237683), (-1325724082)), ((-1175600853), 1937774191, 694514322, 388252375, (-1297274380), (-1452330820), (-984567415), (-477237683)), ((-363707764), (-1175600853), 2940647, 694514322, (-1405797853), (-1297274380), (-2048570503), (-984567415)), (1621043280, (-363707764), (-612214925), 2940647, (-751118853), (-1405797853), 1336251753, (-2048570503)), (889421401, 1621043280, (-1534780972), (-612214925), (-1205843105), (-751118853), (-786603607), 1336251753), (530143078, 889421401, 1045471425, (-1534780972), (-1965944086), (-1205843105), (-1344366122), (-786603607)), (927599783, 530143078, 117224042, 1045471425, (-1393494471), (-1965944086), 1526579458, (-1344366122)), (856883456, 927599783, 850316351, 117224042, 865201290, (-1393494471), (-1756080496), 1526579458), (270707863, 856883456, (-1810280850), 850316351, 913461409, 865201290, (-1311938681), (-1756080496)), ((-730026164), 270707863, 637665382, (-1810280850), 1792308132, 913461409, 1683070095, (-1311938681)), (1505915979, (-730026164), 1163472416, 637665382, (-962343250), 1792308132, (-2062961774), 1683070095), (1209770656, 1505915979, (-111240792), 1163472416, 45070119, (-962343250), (-1658628445), (-2062961774)), (1766472969, 1209770656, (-2065131853), (-111240792), (-1647200884), 45070119, 1970681118, (-1658628445)), ((-1983132328), 1766472969, 927285392, (-2065131853), 1668340578, (-1647200884), (-1187506819), 1970681118), (617175740, (-1983132328), (-1803939118), 927285392, 441066836, 1668340578, (-1402671475), (-1187506819)), (2085787512, 617175740, (-1751469805), (-1803939118), 1055480115, 441066836, (-619504762), (-1402671475)), (886139166, 2085787512, (-1833600951), (-1751469805), 1643746886, 1055480115, 715182673, (-619504762)), (2037054129, 886139166, (-1523650312), (-1833600951), 108351733, 1643746886, (-912656566), 715182673), (2099760142, 2037054129, (-1563280279), (-1523650312), (-1278712165), 108351733, (-1305276468), (-912656566)), ((-679343407), 2099760142, (-705338638), (-1563280279), 1465661400, (-1278712165), (-2019019862), (-1305276468)), ((-128986254), (-679343407), 1335368954, (-705338638), (-1512248591), 1465661400, 886939203, (-2019019862)), (46495894, (-128986254), 68527023, 1335368954, 1951884929, (-1512248591), (-1094534431), 886939203), (1292644301, 46495894, (-1616452112), 68527023, 1466899721, 1951884929, 1468870375, (-1094534431)), ((-286342118), 1292644301, (-1963906043), (-1616452112), (-1252902639), 1466899721, 873177787, 1468870375), ((-211232136), (-286342118), 408918682, (-1963906043), 1787269170, (-1252902639), (-397755528), 873177787), (365826694, (-211232136), (-578275875), 408918682, 1644573524, 1787269170, (-930239855), (-397755528)), ((-1006816830), 365826694, (-776670746), (-578275875), 1303744323, 1644573524, (-2121051076), (-930239855)), (1648606814, (-1006816830), (-1675293653), (-776670746), 319902462, 1303744323, (-1700589519), (-2121051076)), ((-1521893718), 1648606814, (-94141049), (-1675293653), (-815406327), 319902462, 2048552364, (-1700589519)), ((-518080441), (-1521893718), (-2021868348), (-94141049), (-441037162), (-815406327), (-1745839990), 2048552364), ((-6574947), (-518080441), (-1820502710), (-2021868348), (-1743670163), (-441037162), 407796527, (-1745839990)), ((-1515937101), (-6574947), 1030787010, (-1820502710), (-382864150), (-1743670163), 1958161842, 407796527), ((-1985921447), (-1515937101), 928594943, 1030787010, 169866610, (-382864150), (-1553153907), 1958161842), (924892494, (-1985921447), 1229285195, 928594943, (-813885821), 169866610, (-1487451793), (-1553153907)), ((-1664284516), 924892494, 1115468563, 1229285195, (-628325537), (-813885821), (-1416605441), (-1487451793)), ((-945785779), (-1664284516), 1098554478, 1115468563, 156827419, (-628325537), (-1273070616), (-1416605441)), ((-648690707), (-945785779), (-1710147271), 1098554478, (-986451713), 156827419, 452908132, (-1273070616)), ((-515713237), (-648690707), 1088985999, (-1710147271), (-732916346), (-986451713), (-120042809), 452908132), ((-417004136), (-515713237), (-1417159758), 1088985999, (-939966509), (-732916346), (-2013386337), (-120042809)), (789824685, (-417004136), (-2052171838), (-1417159758), 443329481, (-939966509), (-1405705596), (-2013386337)), (435381241, 789824685, 1242247630, (-2052171838), (-1023231269), 443329481, (-23183415), (-1405705596)), (1440865762, 435381241, 663312990, 1242247630, 1167961295, (-1023231269), 1581831013, (-23183415)), ((-722145309), 1440865762, (-423103949), 663312990, 1559996506, 1167961295, (-690087915), 1581831013), (1222425698, (-722145309), (-1011104597), (-423103949), 1867106235, 1559996506, 1719282925, (-690087915)), ((-2110277472), 1222425698, (-371210327), (-1011104597), (-660789487), 1867106235, 1121118173, 1719282925), ((-664250055), (-2110277472), (-1183267695), (-371210327), (-1897366027), (-660789487), 1037793870, 1121118173), ((-771159418), (-664250055), 1869693188, (-1183267695), 777205285, (-1897366027), 948880617, 1037793870), ((-451905869), (-771159418), (-793611344), 1869693188, (-638017951), 777205285, (-273909949), 948880617), (1204141648, (-451905869), 303369636, (-793611344), 895972174, (-638017951), (-1322683751), (-273909949)), ((-1411531320), 1204141648, 552429514, 303369636, 1039981841, 895972174, (-217133116), (-1322683751)), ((-1116700669), (-1411531320), (-1954766705), 552429514, (-1823913024), 1039981841, (-1703826629), (-217133116)), (367195603, (-1116700669), (-1149529769), (-1954766705), (-1013617601), (-1823913024), (-393613338), (-1703826629)), (327312518, 367195603, (-520091782), (-1149529769), (-855005924), (-1013617601), 1577359946, (-393613338)), (1241574703, 327312518, (-974412245), (-520091782), 121763445, (-855005924), 1644043435, 1577359946), ((-197054846), 1241574703, 80284711, (-974412245), 1948876924, 121763445, 686188621, 1644043435), (1419621559, (-197054846), 31088276, 80284711, (-155445779), 1948876924, (-1280820721), 686188621), (581408133, 1419621559, (-2107832856), 31088276, (-1655852646), (-155445779), 65249612, (-1280820721)), (807689080, 581408133, 996765353, (-2107832856), (-159363966), (-1655852646), (-1351633440), 65249612), (1704472911, 807689080, 1328220741, 996765353, (-182276686), (-159363966), (-1932203411), (-1351633440)), ((-1009374807), 1704472911, 1219948640, 1328220741, 351995748, (-182276686), 1679275010, (-1932203411)), ((-575626646), (-1009374807), 811769547, 1219948640, 1486847324, 351995748, 1838655765, 1679275010), (1896041841, (-575626646), (-1403825273), 811769547, 349554678, 1486847324, 991995864, 1838655765), (1583573835, 1896041841, 1631901115, (-1403825273), 164419934, 349554678, (-354237189), 991995864), (737828704, 1583573835, 110813922, 1631901115, 1254346504, 164419934, 1068541614, (-354237189)), (357033627, 737828704, (-959015236), 110813922, (-402066373), 1254346504, (-890220954), 1068541614)]
def sm_W1 (j : Nat) : Int32 := sm_WL1.getD j 0
def sm_S1 (j : Nat) : sm_R8 := sm_SL1.getD j (0, 0, 0, 0, 0, 0, 0, 0)
theorem sm_k1_w : ∀ i, i < 52 → sm_W1 (16 + i) = sm_st sm_W1 (16 + i) := fun i hi => co_dec (P := fun i => sm_W1 (16 + i) = sm_st sm_W1 (16 + i)) (N := 52) (by decide +kernel) hi
theorem sm_k1_s : ∀ t, t < 64 → sm_S1 (t + 1) = sm_rnd sm_W1 t (sm_S1 t) := fun t ht => sm_e8_eq (co_dec (P := fun t => sm_e8 (sm_S1 (t + 1)) (sm_rnd sm_W1 t (sm_S1 t))) (N := 64) (by decide +kernel) ht)
theorem sm_k1_b : ∀ j, j < 16 → sm_W1 j = sm_plI (sm_pm sm_msg1 3) (3 / 4 + 1) (lN 3 <<< ((3 : Int32).toInt64 &&& 63)) j := fun j hj => co_dec (P := fun j => sm_W1 j = sm_plI (sm_pm sm_msg1 3) (3 / 4 + 1) (lN 3 <<< ((3 : Int32).toInt64 &&& 63)) j) (N := 16) (by decide +kernel) hj
theorem sm_k1_F (j : Nat) : sm_F sm_msg1 3 j = sm_iv j ^^^ sm_nth (sm_S1 64) j := by
  unfold sm_F
  have e : sm_plV (sm_pm sm_msg1 3) (3 / 4 + 1) = sm_iv := rfl
  rw [e]
  exact sm_cmp_tab sm_W1 sm_S1 sm_k1_b sm_k1_w rfl sm_k1_s j
theorem sm_k1_o : ∀ j, j < 32 → sm_ob (sm_iv (j / 4) ^^^ sm_nth (sm_S1 64) (j / 4)) (j % 4) &&& 255 = sm_out1 j := fun j hj => co_dec (P := fun j => sm_ob (sm_iv (j / 4) ^^^ sm_nth (sm_S1 64) (j / 4)) (j % 4) &&& 255 = sm_out1 j) (N := 32) (by decide +kernel) hj
/-- the published sum: what out answers behind abc -/
theorem sm_k1 {oo : Nat → Int32} : ∀ j, j < 32 → sm_od sm_msg1 3 oo j &&& 255 = sm_out1 j := by
  intro j hj
  unfold sm_od
  rw [if_pos hj, sm_k1_F]
  exact sm_k1_o j hj
theorem sm_By0 : sm_By sm_msg0 := fun _ => rfl
theorem sm_By1 : sm_By sm_msg1 := fun j => match j with
  | 0 => rfl
  | 1 => rfl
  | 2 => rfl
  | _ + 3 => rfl
/-- the step of an array that is filled -/
theorem sm_kst {f L : Nat → Int32} {k : Nat} {v : Int32} (h : ∀ i, i < k → f i = L i) (hv : v = L k) : ∀ i, i < k + 1 → upd f k v i = L i := by
  intro i hi
  by_cases e : i = k
  · rw [e, pk_us]
    exact hv
  · rw [pk_un e]
    exact h i (by omega)
/-- the script's cell k, 0 behind its end -/
def sm_cell (xs : Nat → Int32) (L k : Nat) : Int32 := if k < L then xs k else 0
/-- the text that the script gives: bytes of its cells from the third on -/
def sm_tx (xs : Nat → Int32) (L j : Nat) : Int32 := sm_wb (sm_cell xs L (2 + j / 4)) (j % 4)
theorem sm_wb_By (x : Int32) (k : Nat) : vp_nar .byte (sm_wb x k) = sm_wb x k := by
  unfold sm_wb
  match k with
  | 0 => exact pk_vb _
  | 1 => exact pk_vb _
  | 2 => exact pk_vb _
  | _ + 3 => exact pk_vb _
theorem sm_tx_By (xs : Nat → Int32) (L : Nat) : sm_By (sm_tx xs L) := fun j => sm_wb_By _ _
/-- the desk's text behind t puts -/
def sm_tk (xs : Nat → Int32) (L : Nat) : Nat → Nat → Int32
  | 0 => fun _ => 0
  | t + 1 => sm_p4 (sm_tk xs L t) (16 * t) (sm_cell xs L (2 + 4 * t)) (sm_cell xs L (2 + 4 * t + 1)) (sm_cell xs L (2 + 4 * t + 2)) (sm_cell xs L (2 + 4 * t + 3))
theorem sm_p4_lo {f : Nat → Int32} {k j : Nat} {a b c x : Int32} (h : j < k) : sm_p4 f k a b c x j = f j := by
  unfold sm_p4
  rw [sm_w4_out (by omega), sm_w4_out (by omega), sm_w4_out (by omega), sm_w4_out (by omega)]
theorem sm_p4_in {xs : Nat → Int32} {L : Nat} {f : Nat → Int32} {t j : Nat} (h1 : 16 * t ≤ j) (h2 : j < 16 * t + 16) : sm_p4 f (16 * t) (sm_cell xs L (2 + 4 * t)) (sm_cell xs L (2 + 4 * t + 1)) (sm_cell xs L (2 + 4 * t + 2)) (sm_cell xs L (2 + 4 * t + 3)) j = sm_tx xs L j := by
  unfold sm_p4 sm_tx
  rcases Nat.lt_or_ge j (16 * t + 4) with q | q
  · have e : j = 16 * t + j % 4 := by omega
    rw [sm_w4_out (by omega), sm_w4_out (by omega), sm_w4_out (by omega), show 2 + j / 4 = 2 + 4 * t by omega]
    conv => lhs; rw [e]
    exact sm_w4_in (by omega)
  · rcases Nat.lt_or_ge j (16 * t + 8) with q2 | q2
    · have e : j = 16 * t + 4 + j % 4 := by omega
      rw [sm_w4_out (by omega), sm_w4_out (by omega), show 2 + j / 4 = 2 + 4 * t + 1 by omega]
      conv => lhs; rw [e]
      exact sm_w4_in (by omega)
    · rcases Nat.lt_or_ge j (16 * t + 12) with q3 | q3
      · have e : j = 16 * t + 8 + j % 4 := by omega
        rw [sm_w4_out (by omega), show 2 + j / 4 = 2 + 4 * t + 2 by omega]
        conv => lhs; rw [e]
        exact sm_w4_in (by omega)
      · have e : j = 16 * t + 12 + j % 4 := by omega
        rw [show 2 + j / 4 = 2 + 4 * t + 3 by omega]
        conv => lhs; rw [e]
        exact sm_w4_in (by omega)
theorem sm_tk_tx (xs : Nat → Int32) (L : Nat) : ∀ t j, j < 16 * t → sm_tk xs L t j = sm_tx xs L j := by
  intro t
  induction t with
  | zero => intro j hj; exact absurd hj (by omega)
  | succ t ih =>
    intro j hj
    rcases Nat.lt_or_ge j (16 * t) with q | q
    · exact (sm_p4_lo q).trans (ih j q)
    · exact sm_p4_in q (by omega)
/-- the byte that the law feeds alone -/
theorem sm_one (xs : Nat → Int32) (L j : Nat) : (sm_cell xs L (2 + j / 4) >>> (nI (24 - 8 * (j % 4)) &&& 31)).toInt8.toInt32 = sm_tx xs L j := by
  unfold sm_tx
  have h : j % 4 < 4 := Nat.mod_lt _ (by decide)
  generalize j % 4 = r at h
  generalize sm_cell xs L (2 + j / 4) = x
  match r, h with
  | 0, _ => rfl
  | 1, _ => rfl
  | 2, _ => rfl
  | 3, _ => exact congrArg (fun y : Int32 => y.toInt8.toInt32) (sb_shr0 x)
theorem sm_od_od {msg : Nat → Int32} {n : Nat} {oo : Nat → Int32} : ∀ j, j < 64 → sm_od msg n (sm_od msg n oo) j = sm_od msg n oo j := by
  intro j _
  unfold sm_od
  by_cases h : j < 32
  · rw [if_pos h, if_pos h]
  · rw [if_neg h]
end
section
/-! THE LAW'S PARTS: cell, made, same, known -/
set_option maxRecDepth 100000
theorem sm_cmP {D : va_G} {cl : List vw_C} {a b : va_W} {H : Heap} (h : va_P D cl (a ++ b) H) : va_P D cl (b ++ a) H := (sm_Psp h).2.app (sm_Psp h).1
theorem sm_cmD {A : Nat → Prop} {a b : va_W} (h : va_D A (a ++ b)) : va_D A (b ++ a) := (sm_Dsp h).2.1.app (sm_Dsp h).1 (fun i j p q hi hj e => (sm_Dsp h).2.2 j i q p hj hi e.symm)
/-- the second block goes in front -/
theorem sm_swP {D : va_G} {cl : List vw_C} {a b r : va_W} {H : Heap} (h : va_P D cl (a ++ (b ++ r)) H) : va_P D cl (b ++ (a ++ r)) H := (sm_Psp (sm_Psp h).2).1.app ((sm_Psp h).1.app (sm_Psp (sm_Psp h).2).2)
theorem sm_swD {A : Nat → Prop} {a b r : va_W} (h : va_D A (a ++ (b ++ r))) : va_D A (b ++ (a ++ r)) := by
  rw [← List.append_assoc] at h ⊢
  obtain ⟨hab, hr, hx⟩ := sm_Dsp h
  refine (sm_cmD hab).app hr (fun i j p q hi hj e => ?_)
  rcases List.mem_append.mp (List.mem_of_getElem? hi) with m | m
  · obtain ⟨k, hk⟩ := List.getElem?_of_mem m
    exact hx (a.length + k) j p q (by rw [List.getElem?_append_right (by omega), Nat.add_sub_cancel_left]; exact hk) hj e
  · obtain ⟨k, hk⟩ := List.getElem?_of_mem m
    exact hx k j p q (by rw [List.getElem?_append_left (List.getElem?_eq_some_iff.mp hk).1]; exact hk) hj e
theorem sm_DS_rc {s : State} {D : va_G} {dB dN : ClassId} {pA d : Nat} {msg : Nat → Int32} {n fd z : Nat} {tx oo : Nat → Int32} {w : va_W} {H : Heap} {tys : List (ClassId × FieldType)} (hw : sm_DS dB dN pA d msg n fd z tx oo w) (hK : va_K D vwCl tys s) (hP : va_P D vwCl w H) : ∃ cell : Cell, H[d]? = some cell ∧ cell.vm.isStatics = false ∧ s.vm.findClass RX1 = some cell.cls := by
  obtain ⟨ho, ht, h, hV, hI, hW, hX, fo, ft, fv, fi, fw, fx, rfl, hAb, htx, hoo⟩ := hw
  exact va_recv hK hP (ci := 1) (q0 := 0) rfl rfl
theorem sm_f0 {A0 : Nat → Prop} {wc wb : va_W} {H0 H : Heap} {locs : List Loc} (hD : va_D A0 (wc ++ wb)) (hS : va_S A0 H0 H locs) (hA : ∀ q, H0.size ≤ q → A0 q) : ∀ q, va_A wc H.size q → A0 q := sm_freeB (wa := []) (wc := wc) (wb := wb) hD hS hA
section Blocks
variable {p : Program} {l : Launch} {e : Env} {R : Room} {s : State} {m : MethodId} {args : Array Value} {below : List Frame} {meth : Method} {c : Code} {H : Heap} {locs : List Loc} {cells slots : Nat} {Q : State → Prop}
variable {pc : Nat} {ls : Array Slot} {rest st0 : List Value} {a : Array Value} {A : Nat → Prop} {mc ms : Nat} {D : va_G} {wc wb : va_W}
theorem sm_b0v {post : va_W → Prop} (hr : va_Run p l e R s m args below meth c H locs cells slots mc ms (F0 m pc ls st0) rest (sm_Qv D post (va_A wc H.size) a) (va_A wc H.size)) (hP : va_P D vwCl (wc ++ wb) H) (hD : va_D A (wc ++ wb)) (hS : va_S A s.heap H locs) (hF : ∀ q, va_A wc H.size q → A q)
    (kk : ∀ (w1 : va_W) (H1 : Heap) (locs1 : List Loc), post w1 → va_P D vwCl (w1 ++ wb) H1 → va_D A (w1 ++ wb) → va_S A s.heap H1 locs1 → W p l e R s m args below meth c H1 locs1 (cells + mc) (slots + ms) Q (F0 m (pc + 3) ls rest)) : W p l e R s m args below meth c H locs cells slots Q (F0 m pc ls st0) :=
  sm_bbv (wa := []) (wc := wc) (wb := wb) hr hP hD hS hF kk
theorem sm_b0i {post : Int32 → va_W → Prop} (hr : va_Run p l e R s m args below meth c H locs cells slots mc ms (F0 m pc ls st0) rest (sm_Qi D post (va_A wc H.size) a) (va_A wc H.size)) (hP : va_P D vwCl (wc ++ wb) H) (hD : va_D A (wc ++ wb)) (hS : va_S A s.heap H locs) (hF : ∀ q, va_A wc H.size q → A q)
    (kk : ∀ (r : Int32) (w1 : va_W) (H1 : Heap) (locs1 : List Loc), post r w1 → va_P D vwCl (w1 ++ wb) H1 → va_D A (w1 ++ wb) → va_S A s.heap H1 locs1 → W p l e R s m args below meth c H1 locs1 (cells + mc) (slots + ms) Q (F0 m (pc + 3) ls (.int r :: rest))) : W p l e R s m args below meth c H locs cells slots Q (F0 m pc ls st0) :=
  sm_bbi (wa := []) (wc := wc) (wb := wb) hr hP hD hS hF kk
theorem sm_b0r {post : Nat → va_W → Prop} (hr : va_Run p l e R s m args below meth c H locs cells slots mc ms (F0 m pc ls st0) rest (sm_Qr D post (va_A wc H.size) a) (va_A wc H.size)) (hP : va_P D vwCl (wc ++ wb) H) (hD : va_D A (wc ++ wb)) (hS : va_S A s.heap H locs) (hF : ∀ q, va_A wc H.size q → A q)
    (kk : ∀ (r : Nat) (w1 : va_W) (H1 : Heap) (locs1 : List Loc), post r w1 → va_P D vwCl (w1 ++ wb) H1 → va_D A (w1 ++ wb) → va_S A s.heap H1 locs1 → W p l e R s m args below meth c H1 locs1 (cells + mc) (slots + ms) Q (F0 m (pc + 3) ls (.ref r :: rest))) : W p l e R s m args below meth c H locs cells slots Q (F0 m pc ls st0) :=
  sm_bbr (wa := []) (wc := wc) (wb := wb) hr hP hD hS hF kk
end Blocks
set_option maxHeartbeats 4000000 in
set_option maxRecDepth 100000 in
theorem met_outD (l : Launch) (D : va_G) (dB dN : ClassId) (pA : Nat) (w : va_W) (d : Nat) (msg : Nat → Int32) (n fd z : Nat) (tx oo : Nat → Int32) (hw : sm_DS dB dN pA d msg n fd z tx oo w) (k : Nat) (hk : k < 64) : Met l yX1_out (ws_ yX1_out cX1_out 2 (some .int)) ({ frames := 0, cells := 0, slots := 0, locals := 0 }) (va_Pc [.ref d, .int (nI k)] (sm_pr0 D dB dN w)) (vp_Si (fun r => r = oo k &&& 255)) 0 0 (fun _ => False) := by
  obtain ⟨ho, ht, h, hV, hI, hW, hX, fo, ft, fv, fi, fw, fx, rfl, hAb, htx, hoo⟩ := hw
  refine sm_enter RX1 (by decide) rfl (Nat.le_of_ble_eq_true rfl) ?_
  intro p e s m below meth c ls cx hnm hpre hl
  obtain ⟨hx, hb, hr, hlk, hml, hown, hts⟩ := cx
  obtain ⟨hP, hK⟩ := hpre
  have hl : lv_has ls 2 [(0, .ref d), (1, .int (nI k))] := hl
  have hP : va_P D vwCl [(d, .inr (1, [.ref h, .ref ho, .int (nI fd), .ref ht, .int (nI z)])), (ho, .inl (dB, 64, .inl fo)), (ht, .inl (dB, 1024, .inl ft)), (h, .inr (0, [.ref pA, .ref hX, .int (nI (n % 4)), .long (lN n), .ref hV, .ref hI, .int (nI (n / 4 % 16)), .ref hW])), (hV, .inl (dN, 8, .inl fv)), (hI, .inl (dN, 16, .inl fi)), (hW, .inl (dN, 68, .inl fw)), (hX, .inl (dB, 4, .inl fx))] s.heap := hP
  refine lv_aload_n hx hb dX1_out_0 rfl (lv_at hl 0 rfl) ?_
  refine va_get (D := D) (ci := 1) (v := .ref ho) (C := RX1) (T := TX1) (N := 5) hx hb hts in_X1 hown hK hP 0 rfl rfl 1 (by decide) (hts _ q213) (fun _ h9 => h9) rfl dX1_out_1 ?_
  refine lv_iload_n hx hb dX1_out_4 rfl (lv_at hl 1 rfl) ?_
  refine lv_ldc (v := (2147483647 : Int32)) hx hb hown (hts _ q26) dX1_out_5 ?_
  refine lv_iand hx hb dX1_out_7 ?_
  refine lv_topi (fun y_ ey_ => ?_)
  have ey_ : y_ = nI k := ey_.trans ((sm_m_and (nI k)).trans (by rw [sm_m_nI (by omega)]))
  subst ey_
  refine lv_bipush (v := (64 : Int32)) hx hb dX1_out_8 (by decide) ?_
  refine lv_irem hx hb dX1_out_10 (by decide) ?_
  refine lv_topi (fun y_ ey_ => ?_)
  have ey_ : y_ = nI k := ey_.trans ((sm_rem (a := k) (d := 64) (by omega) (by decide) (by decide) rfl).trans (by rw [Nat.mod_eq_of_lt hk]))
  subst ey_
  refine sm_bld hx hb hK hP 1 0 rfl rfl k rfl hk (by decide) dX1_out_11 ?_
  refine lv_sipush (v := (255 : Int32)) hx hb dX1_out_12 (by decide) ?_
  refine lv_iand hx hb dX1_out_15 ?_
  exact W.iret hx hb hr (fun t ht hW => ⟨_, rfl, by rw [hoo k hk], ht⟩) (fun _ h => by cases h) dX1_out_16 hlk
theorem sm_blindC {av : List Value} {b L : Nat} {f : Nat → Value} : FrameBlind (va_Pc av (fun U => va_T .int b L f (fun _ => False) U U.heap)) := fun a U g mk q => ⟨q.1, q.2.moved (u := U) (U := U.calling g mk a) (Vm.Alike.refl U.vm)⟩
theorem sm_goC {A : Nat → Prop} {s : State} {H : Heap} {locs : List Loc} {b L : Nat} {f : Nat → Value} (hT : va_T .int b L f A s s.heap) (hS : va_S A s.heap H locs) (av : List Value) : ∀ U : State, U.heap = H → s.WarmedH U.vm → va_Pc av (fun U => va_T .int b L f (fun _ => False) U U.heap) av.toArray U := by
  intro U hU hW
  refine ⟨rfl, ?_⟩
  show va_T .int b L f (fun _ => False) U U.heap
  rw [hU]
  exact ((hT.kept hS.2.1).narrow (fun _ h => h.elim)).moved hW.alike
set_option maxHeartbeats 4000000 in
set_option maxRecDepth 100000 in
/-- cell(s, k): the script's k-th int, 0 behind its end -/
theorem met_cell (l : Launch) (b L : Nat) (xs : Nat → Int32) (k : Nat) (hL : L < 2 ^ 31) (hk : k < 2 ^ 31) : Met l yX0_cell (ws_ yX0_cell cX0_cell 2 (some .int)) ({ frames := 0, cells := 0, slots := 0, locals := 0 }) (va_Pc [.ref b, .int (nI k)] (fun U => va_T .int b L (fun j => .int (xs j)) (fun _ => False) U U.heap)) (vp_Si (fun r => r = sm_cell xs L k)) 0 0 (fun _ => False) := by
  refine sm_enter RX0 (by decide) rfl (Nat.le_of_ble_eq_true rfl) ?_
  intro p e s m below meth c ls cx hnm hT hl
  obtain ⟨hx, hb, hr, hlk, hml, hown, hts⟩ := cx
  have hl : lv_has ls 2 [(0, .ref b), (1, .int (nI k))] := hl
  have hS : va_S (fun _ => False) s.heap s.heap [] := va_S.rf
  have hT : va_T .int b L (fun j => .int (xs j)) (fun _ => False) s s.heap := hT
  refine lv_iload_n hx hb dX0_cell_0 rfl (lv_at hl 1 rfl) ?_
  refine lv_aload_n hx hb dX0_cell_1 rfl (lv_at hl 0 rfl) ?_
  refine va_tlen (v := nI L) hx hb hT hS rfl dX0_cell_2 ?_
  refine lv_icmp_ge (tgt := 12) hx hb dX0_cell_3 (by decide) (fun hc => ?_) (fun hc => ?_)
  · have hc : L ≤ k := (nI_leI hL hk).mp hc
    refine lv_iconst (v := (0 : Int32)) hx hb dX0_cell_12 (by decide) ?_
    exact W.iret hx hb hr (fun t ht hW => ⟨_, rfl, (if_neg (by omega)).symm, ht⟩) (fun _ h => by cases h) dX0_cell_13 hlk
  · have hc : k < L := Nat.lt_of_not_le fun z => hc (nI_le z hk)
    refine lv_aload_n hx hb dX0_cell_6 rfl (lv_at hl 0 rfl) ?_
    refine lv_iload_n hx hb dX0_cell_7 rfl (lv_at hl 1 rfl) ?_
    refine sm_sld hx hb hT hS k rfl hc hL dX0_cell_8 ?_
    refine lv_goto (tgt := 13) hx hb dX0_cell_9 (by decide) ?_
    exact W.iret hx hb hr (fun t ht hW => ⟨_, rfl, (if_pos hc).symm, ht⟩) (fun _ h => by cases h) dX0_cell_13 hlk
set_option maxHeartbeats 4000000 in
set_option maxRecDepth 100000 in
theorem lp_sm {p : Program} {l : Launch} {e : Env} {R : Room} {s : State} {m : MethodId} {av : Array Value} {below : List Frame} {meth : Method} {c : Code} {H : Heap} {locs : List Loc} {cells slots : Nat} {Q : State → Prop} {D : va_G} {dB dN : ClassId} {pA : Nat} {w1 w2 : va_W} {d1 d2 : Nat} {g1 g2 : Nat → Int32} {n1 n2 f1 f2 z1 z2 : Nat} {t1 t2 o1 o2 : Nat → Int32} (hw1 : sm_DS dB dN pA d1 g1 n1 f1 z1 t1 o1 w1) (hw2 : sm_DS dB dN pA d2 g2 n2 f2 z2 t2 o2 w2) (cx : sm_Cx p s m meth c av cX0_same 3 RX0 (some .boolean)) (hRf : 1 ≤ R.frames) (hRl : 21 ≤ R.locals) (hf : cells ≤ R.cells ∧ slots ≤ R.slots) (hK : va_K D vwCl (sm_ty dB dN) s) (hP1 : va_P D vwCl w1 H) (hP2 : va_P D vwCl w2 H) (ho : ∀ j, j < 64 → o1 j = o2 j)
    (kk : ∀ ls : Array Slot, W p l e R s m av below meth c H locs cells slots Q (F0 m 29 ls [])) :
    ∀ (k i : Nat) (ls : Array Slot), i + k = 64 → lv_has ls 3 [(0, .ref d1), (1, .ref d2), (2, .int (nI i))] → W p l e R s m av below meth c H locs cells slots Q (F0 m 2 ls []) := by
  obtain ⟨hx, hb, hr, hlk, hml, hown, hts⟩ := cx
  intro k
  induction k with
  | zero =>
    intro i ls hi hl
    have hi6 : i = 64 := by omega
    subst hi6
    refine lv_iload_n hx hb dX0_same_2 rfl (lv_at hl 2 rfl) ?_
    refine lv_bipush (v := (64 : Int32)) hx hb dX0_same_3 (by decide) ?_
    refine lv_icmp_ge (tgt := 29) hx hb dX0_same_5 (by decide) (fun _ => ?_) (fun hc => absurd (Int32.le_refl _) hc)
    exact kk ls
  | succ k ih =>
    intro i ls hi hl
    refine lv_iload_n hx hb dX0_same_2 rfl (lv_at hl 2 rfl) ?_
    refine lv_bipush (v := (64 : Int32)) hx hb dX0_same_3 (by decide) ?_
    refine lv_icmp_ge (tgt := 29) hx hb dX0_same_5 (by decide) (fun hc => absurd hc (nI_ge (show i < 64 by omega) (by decide))) (fun _ => ?_)
    refine lv_aload_n hx hb dX0_same_8 rfl (lv_at hl 0 rfl) ?_
    refine lv_iload_n hx hb dX0_same_9 rfl (lv_at hl 2 rfl) ?_
    refine vp_callSi (W.runV (As := [.int (nI i)]) (rest := []) ⟨hx, hb, hml, hown, hts⟩ (met_outD l D dB dN pA w1 d1 g1 n1 f1 z1 t1 o1 hw1 i (by omega)) (cwV 1 hts (lw_V q247 q248 q249 q10 q250) rfl rfl rfl (by decide +kernel) ⟨hRf, hRl⟩) ⟨sm_blind0, sm_DS_rc hw1 hK hP1, sm_go0 hK hP1 _⟩ rfl rfl hl.1 rfl (lv_room (Nat.le_of_ble_eq_true rfl)) dX0_same_10 hf) (fun r1 hr1 => ?_)
    refine lv_aload_n hx hb dX0_same_13 rfl (lv_at hl 1 rfl) ?_
    refine lv_iload_n hx hb dX0_same_14 rfl (lv_at hl 2 rfl) ?_
    refine vp_callSi (W.runV (As := [.int (nI i)]) (rest := [.int r1]) ⟨hx, hb, hml, hown, hts⟩ (met_outD l D dB dN pA w2 d2 g2 n2 f2 z2 t2 o2 hw2 i (by omega)) (cwV 1 hts (lw_V q247 q248 q249 q10 q250) rfl rfl rfl (by decide +kernel) ⟨hRf, hRl⟩) ⟨sm_blind0, sm_DS_rc hw2 hK hP2, sm_go0 hK hP2 _⟩ rfl rfl hl.1 rfl (lv_room (Nat.le_of_ble_eq_true rfl)) dX0_same_15 hf) (fun r2 hr2 => ?_)
    refine lv_icmp_eq (tgt := 23) hx hb dX0_same_18 (by decide) (fun _ => ?_) (fun hc => absurd (by rw [hr1, hr2, ho i (by omega)]) hc)
    refine lv_iinc (v := (nI (i + 1))) (lv' := [(2, .int (nI (i + 1))), (0, .ref d1), (1, .ref d2)]) hx hb dX0_same_23 hl (k := 2) rfl (sm_i1 i) (by decide) rfl (fun ls hl => ?_)
    refine lv_goto (tgt := 2) hx hb dX0_same_26 (by decide) ?_
    exact ih (i + 1) ls (by omega) (lv_sub hl [1, 2, 0] rfl)
set_option maxHeartbeats 4000000 in
set_option maxRecDepth 100000 in
/-- same(x, y): true where out answers alike -/
theorem met_same (l : Launch) (D : va_G) (dB dN : ClassId) (pA : Nat) {w1 w2 : va_W} {d1 d2 : Nat} {g1 g2 : Nat → Int32} {n1 n2 f1 f2 z1 z2 : Nat} {t1 t2 o1 o2 : Nat → Int32} (hw1 : sm_DS dB dN pA d1 g1 n1 f1 z1 t1 o1 w1) (hw2 : sm_DS dB dN pA d2 g2 n2 f2 z2 t2 o2 w2) (ho : ∀ j, j < 64 → o1 j = o2 j) : Met l yX0_same (ws_ yX0_same cX0_same 3 (some .boolean)) ({ frames := 1, cells := 0, slots := 0, locals := 21 }) (va_Pc [.ref d1, .ref d2] (sm_pr0 D dB dN (w1 ++ w2))) (vp_Si (fun r => r = 1)) 0 0 (fun _ => False) := by
  refine sm_enter RX0 (by decide) rfl (Nat.le_of_ble_eq_true rfl) ?_
  intro p e s m below meth c ls cx hnm hpre hl
  obtain ⟨hx, hb, hr, hlk, hml, hown, hts⟩ := cx
  obtain ⟨hP, hK⟩ := hpre
  have hl : lv_has ls 3 [(0, .ref d1), (1, .ref d2)] := hl
  refine lv_iconst (v := (0 : Int32)) hx hb dX0_same_0 (by decide) ?_
  refine lv_istore_n (lv' := [(2, .int (0 : Int32)), (0, .ref d1), (1, .ref d2)]) hx hb dX0_same_1 rfl hl (by decide) rfl (fun ls hl => ?_)
  refine lp_sm hw1 hw2 ⟨hx, hb, hr, hlk, hml, hown, hts⟩ (Nat.le_of_ble_eq_true rfl) (Nat.le_of_ble_eq_true rfl) ⟨Nat.le_of_ble_eq_true rfl, Nat.le_of_ble_eq_true rfl⟩ hK (sm_Psp hP).1 (sm_Psp hP).2 ho (fun ls => ?_) 64 0 ls rfl (lv_sub hl [1, 2, 0] rfl)
  refine lv_iconst (v := (1 : Int32)) hx hb dX0_same_29 (by decide) ?_
  exact W.zret (v := 1) hx hb hr rfl (fun t ht hW => ⟨_, rfl, rfl, ht⟩) (fun _ h => by cases h) dX0_same_30 hlk
set_option maxHeartbeats 4000000 in
set_option maxRecDepth 100000 in
theorem lp_md {p : Program} {l : Launch} {e : Env} {R : Room} {s : State} {m : MethodId} {av : Array Value} {below : List Frame} {meth : Method} {c : Code} {cells slots : Nat} {Q : State → Prop} {D : va_G} {dB dN : ClassId} {tA pA : Nat} {A : Nat → Prop} {b L d : Nat} {xs msg : Nat → Int32} {kd : Int32} {wb : va_W} (cx : sm_Cx p s m meth c av cX0_made 4 RX0 (some (.object "SmDigestDesk"))) (hRf : 2 ≤ R.frames) (hRl : 46 ≤ R.locals) (hf : cells ≤ R.cells ∧ slots ≤ R.slots) (hL : L < 2 ^ 31) (hK : va_K D vwCl (sm_ty dB dN) s) (hE : sm_E A tA pA s s.heap) (hA : ∀ q, s.heap.size ≤ q → A q) (hT : va_T .int b L (fun j => .int (xs j)) A s s.heap)
    (kk : ∀ (w : va_W) (H : Heap) (locs : List Loc) (ls : Array Slot), sm_DS dB dN pA d msg 0 0 160 (sm_tk xs L 10) (fun _ => 0) w → va_P D vwCl (w ++ wb) H → va_D A (w ++ wb) → va_S A s.heap H locs → lv_has ls 4 [(0, .ref b), (1, .int kd), (2, .ref d)] → W p l e R s m av below meth c H locs cells slots Q (F0 m 53 ls [])) :
    ∀ (k t : Nat) (w : va_W) (H : Heap) (locs : List Loc) (ls : Array Slot), t + k = 10 → sm_DS dB dN pA d msg 0 0 (16 * t) (sm_tk xs L t) (fun _ => 0) w → va_P D vwCl (w ++ wb) H → va_D A (w ++ wb) → va_S A s.heap H locs → lv_has ls 4 [(0, .ref b), (1, .int kd), (2, .ref d), (3, .int (nI (2 + 4 * t)))] → W p l e R s m av below meth c H locs cells slots Q (F0 m 10 ls []) := by
  obtain ⟨hx, hb, hr, hlk, hml, hown, hts⟩ := cx
  intro k
  induction k with
  | zero =>
    intro t w H locs ls ht hw hP hD hS hl
    have ht10 : t = 10 := by omega
    subst ht10
    refine lv_iload_n hx hb dX0_made_10 rfl (lv_at hl 3 rfl) ?_
    refine lv_bipush (v := (42 : Int32)) hx hb dX0_made_11 (by decide) ?_
    refine lv_icmp_ge (tgt := 53) hx hb dX0_made_13 (by decide) (fun _ => ?_) (fun hc => absurd (Int32.le_refl _) hc)
    exact kk w H locs ls hw hP hD hS (lv_sub hl [0, 1, 2] rfl)
  | succ k ih =>
    intro t w H locs ls ht hw hP hD hS hl
    refine lv_iload_n hx hb dX0_made_10 rfl (lv_at hl 3 rfl) ?_
    refine lv_bipush (v := (42 : Int32)) hx hb dX0_made_11 (by decide) ?_
    refine lv_icmp_ge (tgt := 53) hx hb dX0_made_13 (by decide) (fun hc => absurd hc (nI_ge (show 2 + 4 * t < 42 by omega) (by decide))) (fun _ => ?_)
    refine lv_aload_n hx hb dX0_made_16 rfl (lv_at hl 2 rfl) ?_
    refine lv_aload_n hx hb dX0_made_17 rfl (lv_at hl 0 rfl) ?_
    refine lv_iload_n hx hb dX0_made_18 rfl (lv_at hl 3 rfl) ?_
    refine vp_callSi (W.runS (As := [.ref b, .int (nI (2 + 4 * t))]) (rest := [.ref d]) ⟨hx, hb, hml, hown, hts⟩ (met_cell l b L xs (2 + 4 * t) hL (by omega)) (va_cwS 2 hts (lw_S q160 q161 q9 q162) rfl rfl rfl (by decide +kernel) ⟨Nat.le_trans (Nat.le_of_ble_eq_true rfl) hRf, Nat.le_trans (Nat.le_of_ble_eq_true rfl) hRl⟩) ⟨sm_blindC, sm_goC hT hS _⟩ rfl rfl hl.1 rfl (lv_room (Nat.le_of_ble_eq_true rfl)) dX0_made_19 hf) (fun c0 hc0 => ?_)
    refine lv_aload_n hx hb dX0_made_22 rfl (lv_at hl 0 rfl) ?_
    refine lv_iload_n hx hb dX0_made_23 rfl (lv_at hl 3 rfl) ?_
    refine lv_iconst (v := (1 : Int32)) hx hb dX0_made_24 (by decide) ?_
    refine lv_iadd hx hb dX0_made_25 ?_
    refine lv_topi (fun y_ ey_ => ?_)
    have ey_ : y_ = nI (2 + 4 * t + 1) := ey_.trans (nI_add (2 + 4 * t) 1)
    subst ey_
    refine vp_callSi (W.runS (As := [.ref b, .int (nI (2 + 4 * t + 1))]) (rest := [.int c0, .ref d]) ⟨hx, hb, hml, hown, hts⟩ (met_cell l b L xs (2 + 4 * t + 1) hL (by omega)) (va_cwS 2 hts (lw_S q160 q161 q9 q162) rfl rfl rfl (by decide +kernel) ⟨Nat.le_trans (Nat.le_of_ble_eq_true rfl) hRf, Nat.le_trans (Nat.le_of_ble_eq_true rfl) hRl⟩) ⟨sm_blindC, sm_goC hT hS _⟩ rfl rfl hl.1 rfl (lv_room (Nat.le_of_ble_eq_true rfl)) dX0_made_26 hf) (fun c1 hc1 => ?_)
    refine lv_aload_n hx hb dX0_made_29 rfl (lv_at hl 0 rfl) ?_
    refine lv_iload_n hx hb dX0_made_30 rfl (lv_at hl 3 rfl) ?_
    refine lv_iconst (v := (2 : Int32)) hx hb dX0_made_31 (by decide) ?_
    refine lv_iadd hx hb dX0_made_32 ?_
    refine lv_topi (fun y_ ey_ => ?_)
    have ey_ : y_ = nI (2 + 4 * t + 2) := ey_.trans (nI_add (2 + 4 * t) 2)
    subst ey_
    refine vp_callSi (W.runS (As := [.ref b, .int (nI (2 + 4 * t + 2))]) (rest := [.int c1, .int c0, .ref d]) ⟨hx, hb, hml, hown, hts⟩ (met_cell l b L xs (2 + 4 * t + 2) hL (by omega)) (va_cwS 2 hts (lw_S q160 q161 q9 q162) rfl rfl rfl (by decide +kernel) ⟨Nat.le_trans (Nat.le_of_ble_eq_true rfl) hRf, Nat.le_trans (Nat.le_of_ble_eq_true rfl) hRl⟩) ⟨sm_blindC, sm_goC hT hS _⟩ rfl rfl hl.1 rfl (lv_room (Nat.le_of_ble_eq_true rfl)) dX0_made_33 hf) (fun c2 hc2 => ?_)
    refine lv_aload_n hx hb dX0_made_36 rfl (lv_at hl 0 rfl) ?_
    refine lv_iload_n hx hb dX0_made_37 rfl (lv_at hl 3 rfl) ?_
    refine lv_iconst (v := (3 : Int32)) hx hb dX0_made_38 (by decide) ?_
    refine lv_iadd hx hb dX0_made_39 ?_
    refine lv_topi (fun y_ ey_ => ?_)
    have ey_ : y_ = nI (2 + 4 * t + 3) := ey_.trans (nI_add (2 + 4 * t) 3)
    subst ey_
    refine vp_callSi (W.runS (As := [.ref b, .int (nI (2 + 4 * t + 3))]) (rest := [.int c2, .int c1, .int c0, .ref d]) ⟨hx, hb, hml, hown, hts⟩ (met_cell l b L xs (2 + 4 * t + 3) hL (by omega)) (va_cwS 2 hts (lw_S q160 q161 q9 q162) rfl rfl rfl (by decide +kernel) ⟨Nat.le_trans (Nat.le_of_ble_eq_true rfl) hRf, Nat.le_trans (Nat.le_of_ble_eq_true rfl) hRl⟩) ⟨sm_blindC, sm_goC hT hS _⟩ rfl rfl hl.1 rfl (lv_room (Nat.le_of_ble_eq_true rfl)) dX0_made_40 hf) (fun c3 hc3 => ?_)
    have hPw := (sm_Psp (a := w) hP).1
    have hDw := (sm_Dsp (a := w) hD).1
    have hFc := sm_f0 (wc := w) hD hS hA
    refine sm_b0i (wc := w) (wb := wb) (va_runV (As := [.int c0, .int c1, .int c2, .int c3]) (rest := []) ⟨hx, hb, hml, hown, hts⟩ (met_put l D dB dN H.size tA pA w d msg 0 0 (16 * t) (sm_tk xs L t) (fun _ => 0) hw c0 c1 c2 c3 (by omega)) (cwV 4 hts (lw_V q228 q229 q230 q10 q231) rfl rfl rfl (by decide +kernel) ⟨Nat.le_trans (Nat.le_of_ble_eq_true rfl) hRf, Nat.le_trans (Nat.le_of_ble_eq_true rfl) hRl⟩) ⟨sm_blind, sm_DS_rc hw hK hPw, sm_go hK hPw hDw hE hS hFc _⟩ rfl rfl hl.1 rfl (lv_room (Nat.le_of_ble_eq_true rfl)) dX0_made_43 hf) hP hD hS hFc (fun r0 w2 H locs hw_ hP hD hS => ?_)
    obtain ⟨hr0, hw2⟩ := hw_
    subst hc0 hc1 hc2 hc3
    refine lv_pop hx hb dX0_made_46 rfl ?_
    refine lv_iinc (v := (nI (2 + 4 * (t + 1)))) (lv' := [(3, .int (nI (2 + 4 * (t + 1)))), (0, .ref b), (1, .int kd), (2, .ref d)]) hx hb dX0_made_47 hl (k := 3) rfl (sm_i4 (2 + 4 * t)) (by decide) rfl (fun ls hl => ?_)
    refine lv_goto (tgt := 10) hx hb dX0_made_50 (by decide) ?_
    exact ih (t + 1) w2 H locs ls (by omega) hw2 hP hD hS (lv_sub hl [1, 2, 3, 0] rfl)
theorem sm_blind2 {av : List Value} {D : va_G} {dB dN : ClassId} {sz tA pA b L : Nat} {f : Nat → Value} : FrameBlind (va_Pc av (fun U => sm_pre D dB dN [] sz tA pA U ∧ va_T .int b L f (va_A [] sz) U U.heap)) := fun a U g mk q => by
  obtain ⟨q0, q1, qT⟩ := q
  exact ⟨q0, (sm_blind (av := av) (D := D) a U g mk ⟨q0, q1⟩).2, qT.moved (u := U) (U := U.calling g mk a) (Vm.Alike.refl U.vm)⟩
theorem sm_go2 {A : Nat → Prop} {s : State} {H : Heap} {locs : List Loc} {D : va_G} {dB dN : ClassId} {tA pA b L : Nat} {f : Nat → Value} (hK : va_K D vwCl (sm_ty dB dN) s) (hE : sm_E A tA pA s s.heap) (hT : va_T .int b L f A s s.heap) (hS : va_S A s.heap H locs) (hF : ∀ q, va_A [] H.size q → A q) (av : List Value) :
    ∀ U : State, U.heap = H → s.WarmedH U.vm → va_Pc av (fun U => sm_pre D dB dN [] H.size tA pA U ∧ va_T .int b L f (va_A [] H.size) U U.heap) av.toArray U := by
  intro U hU hW
  refine ⟨rfl, (sm_go (wc := []) (A := A) hK (fun k q h => by simp at h) ⟨fun i j p q h => by simp at h, fun k q h => by simp at h⟩ hE hS hF av U hU hW).2, ?_⟩
  show va_T .int b L f (va_A [] H.size) U U.heap
  rw [hU]
  exact ((hT.kept hS.2.1).narrow hF).moved hW.alike
set_option maxHeartbeats 4000000 in
set_option maxRecDepth 100000 in
/-- made(s, kind): a new desk, with the script's text -/
theorem met_made (l : Launch) (D : va_G) (dB dN : ClassId) (sz tA pA : Nat) (b L : Nat) (xs msg : Nat → Int32) (kd : Int32) (hL : L < 2 ^ 31) : Met l yX0_made (ws_ yX0_made cX0_made 4 (some (.object "SmDigestDesk"))) ({ frames := 5, cells := 13, slots := 1301, locals := 103 }) (va_Pc [.ref b, .int kd] (fun U => sm_pre D dB dN [] sz tA pA U ∧ va_T .int b L (fun j => .int (xs j)) (va_A [] sz) U U.heap)) (sm_Qr D (fun d w => sm_DS dB dN pA d msg 0 0 (sm_m (sm_cell xs L 1) % (160 + 1)) (sm_tk xs L 10) (fun _ => 0) w) (va_A [] sz)) 13 1301 (va_A [] sz) := by
  refine sm_enter RX0 (by decide) rfl (Nat.le_of_ble_eq_true rfl) ?_
  intro p e s m below meth c ls cx hnm hpre hl
  obtain ⟨hx, hb, hr, hlk, hml, hown, hts⟩ := cx
  obtain ⟨⟨hsz, hP, hK, hD0, hE⟩, hT⟩ := hpre
  subst hsz
  have hD := hD0.self (sz := s.heap.size)
  generalize hAe : va_A [] s.heap.size = A at hD hE hT ⊢
  have hA : ∀ q : Nat, s.heap.size ≤ q → A q := fun q h => by rw [← hAe]; exact Or.inr h
  have hS : va_S A s.heap s.heap [] := va_S.rf
  have hl : lv_has ls 4 [(0, .ref b), (1, .int kd)] := hl
  refine va_new (ci := 1) (fs := [.null, .null, .int 0, .null, .int 0]) (C := RX1) (T := TX1) (N := 5) hx hb hts in_X1 tyX1 tyX1_ok hown (hts _ q166) (hts _ q24) (hts _ q10) hK hP hD hS hA rfl (fun j hj => by rcases (show j = 0 ∨ j = 1 ∨ j = 2 ∨ j = 3 ∨ j = 4 by omega) with rfl | rfl | rfl | rfl | rfl <;> rfl) (Nat.le_of_ble_eq_true rfl) (Nat.le_of_ble_eq_true rfl) dX0_made_0 (fun d H hP hD hS => ?_)
  have hP := sm_cmP hP
  have hD := sm_cmD hD
  have hP : va_P D vwCl ([(d, .inr (1, [.null, .null, .int 0, .null, .int 0]))] ++ ([] : va_W)) H := hP
  have hD : va_D A ([(d, .inr (1, [.null, .null, .int 0, .null, .int 0]))] ++ ([] : va_W)) := hD
  refine lv_dup hx hb dX0_made_3 rfl ?_
  have hPw := (sm_Psp (a := [(d, .inr (1, [.null, .null, .int 0, .null, .int 0]))]) (b := ([] : va_W)) hP).1
  have hDw := (sm_Dsp (a := [(d, .inr (1, [.null, .null, .int 0, .null, .int 0]))]) (b := ([] : va_W)) hD).1
  have hFc := sm_f0 (wc := [(d, .inr (1, [.null, .null, .int 0, .null, .int 0]))]) (wb := ([] : va_W)) hD hS hA
  refine sm_b0v (wc := [(d, .inr (1, [.null, .null, .int 0, .null, .int 0]))]) (wb := ([] : va_W)) (va_runI (As := []) (rest := [.ref d]) ⟨hx, hb, hml, hown, hts⟩ (met_dn l D dB dN H.size tA pA d msg) (cwI 0 hts (lw_meth q169) rfl rfl rfl (hts _ q10) (hts _ q167) (hts _ q168) rfl (by decide +kernel) ⟨Nat.le_of_ble_eq_true rfl, Nat.le_of_ble_eq_true rfl⟩) ⟨sm_blind, sm_go hK hPw hDw hE hS hFc _⟩ rfl rfl hl.1 rfl (lv_room (Nat.le_of_ble_eq_true rfl)) dX0_made_4 ⟨Nat.le_of_ble_eq_true rfl, Nat.le_of_ble_eq_true rfl⟩) hP hD hS hFc (fun w1 H locs hw1 hP hD hS => ?_)
  refine lv_astore_n (lv' := [(2, .ref d), (0, .ref b), (1, .int kd)]) hx hb dX0_made_7 rfl hl (by decide) rfl (fun ls hl => ?_)
  refine lv_iconst (v := (2 : Int32)) hx hb dX0_made_8 (by decide) ?_
  refine lv_topi (fun y_ ey_ => ?_)
  have ey_ : y_ = nI (2 + 4 * 0) := ey_.trans rfl
  subst ey_
  refine lv_istore_n (lv' := [(3, .int (nI (2 + 4 * 0))), (2, .ref d), (0, .ref b), (1, .int kd)]) hx hb dX0_made_9 rfl hl (by decide) rfl (fun ls hl => ?_)
  refine lp_md (msg := msg) (wb := []) ⟨hx, hb, hr, hlk, hml, hown, hts⟩ (Nat.le_of_ble_eq_true rfl) (Nat.le_of_ble_eq_true rfl) ⟨Nat.le_of_ble_eq_true rfl, Nat.le_of_ble_eq_true rfl⟩ hL hK hE hA hT (fun w H locs ls hw hP hD hS hl => ?_) 10 0 w1 H _ ls rfl hw1 hP hD hS (lv_sub hl [2, 3, 1, 0] rfl)
  refine lv_aload_n hx hb dX0_made_53 rfl (lv_at hl 2 rfl) ?_
  refine lv_aload_n hx hb dX0_made_54 rfl (lv_at hl 0 rfl) ?_
  refine lv_iconst (v := (1 : Int32)) hx hb dX0_made_55 (by decide) ?_
  refine vp_callSi (W.runS (As := [.ref b, .int (nI 1)]) (rest := [.ref d]) ⟨hx, hb, hml, hown, hts⟩ (met_cell l b L xs 1 hL (by omega)) (va_cwS 2 hts (lw_S q160 q161 q9 q162) rfl rfl rfl (by decide +kernel) ⟨Nat.le_of_ble_eq_true rfl, Nat.le_of_ble_eq_true rfl⟩) ⟨sm_blindC, sm_goC hT hS _⟩ rfl rfl hl.1 rfl (lv_room (Nat.le_of_ble_eq_true rfl)) dX0_made_56 ⟨Nat.le_of_ble_eq_true rfl, Nat.le_of_ble_eq_true rfl⟩) (fun c1 hc1 => ?_)
  subst hc1
  have hPw := (sm_Psp (a := w) hP).1
  have hDw := (sm_Dsp (a := w) hD).1
  have hFc := sm_f0 (wc := w) hD hS hA
  refine sm_b0v (wc := w) (wb := ([] : va_W)) (va_runV (As := [.int (sm_cell xs L 1)]) (rest := []) ⟨hx, hb, hml, hown, hts⟩ (met_trim l D dB dN H.size tA pA w d msg 0 0 160 (sm_tk xs L 10) (fun _ => 0) hw (sm_cell xs L 1) (by decide)) (cwV 1 hts (lw_V q236 q237 q238 q10 q239) rfl rfl rfl (by decide +kernel) ⟨Nat.le_of_ble_eq_true rfl, Nat.le_of_ble_eq_true rfl⟩) ⟨sm_blind, sm_DS_rc hw hK hPw, sm_go hK hPw hDw hE hS hFc _⟩ rfl rfl hl.1 rfl (lv_room (Nat.le_of_ble_eq_true rfl)) dX0_made_59 ⟨Nat.le_of_ble_eq_true rfl, Nat.le_of_ble_eq_true rfl⟩) hP hD hS hFc (fun w3 H locs hw_ hP hD hS => ?_)
  have hw3 := hw_
  refine lv_aload_n hx hb dX0_made_62 rfl (lv_at hl 2 rfl) ?_
  refine lv_iload_n hx hb dX0_made_63 rfl (lv_at hl 1 rfl) ?_
  have hPw := (sm_Psp (a := w3) hP).1
  have hDw := (sm_Dsp (a := w3) hD).1
  have hFc := sm_f0 (wc := w3) hD hS hA
  refine sm_b0v (wc := w3) (wb := ([] : va_W)) (va_runV (As := [.int kd]) (rest := []) ⟨hx, hb, hml, hown, hts⟩ (met_begin l D dB dN H.size tA pA w3 d msg 0 0 (sm_m (sm_cell xs L 1) % (160 + 1)) (sm_tk xs L 10) (fun _ => 0) hw3 msg kd) (cwV 1 hts (lw_V q240 q241 q242 q10 q243) rfl rfl rfl (by decide +kernel) ⟨Nat.le_of_ble_eq_true rfl, Nat.le_of_ble_eq_true rfl⟩) ⟨sm_blind, sm_DS_rc hw3 hK hPw, sm_go hK hPw hDw hE hS hFc _⟩ rfl rfl hl.1 rfl (lv_room (Nat.le_of_ble_eq_true rfl)) dX0_made_64 ⟨Nat.le_of_ble_eq_true rfl, Nat.le_of_ble_eq_true rfl⟩) hP hD hS hFc (fun w4 H locs hw_ hP hD hS => ?_)
  have hw4 := hw_
  refine lv_aload_n hx hb dX0_made_67 rfl (lv_at hl 2 rfl) ?_
  have hP : va_P D vwCl w4 H := (sm_Psp hP).1
  have hD : va_D A w4 := (sm_Dsp hD).1
  refine W.widen (k := 13) (n := 1301) (Nat.le_of_ble_eq_true rfl) (Nat.le_of_ble_eq_true rfl) ?_
  exact W.aret (v := .ref d) hx hb hr (Or.inl ⟨_, rfl⟩) (Or.inr ⟨d, rfl⟩) (sm_endr w4 hw4 hP hD hS) hS.2.2 dX0_made_68 hlk
set_option maxHeartbeats 4000000 in
set_option maxRecDepth 100000 in
theorem lp_k0 {p : Program} {l : Launch} {e : Env} {R : Room} {s : State} {m : MethodId} {av : Array Value} {below : List Frame} {meth : Method} {c : Code} {H : Heap} {locs : List Loc} {cells slots : Nat} {Q : State → Prop} {D : va_G} {dB dN : ClassId} {pA : Nat} {w r : va_W} {d q : Nat} {g0 : Nat → Int32} {n fd z : Nat} {tx oo f : Nat → Int32} (hw : sm_DS dB dN pA d g0 n fd z tx oo w) (cx : sm_Cx p s m meth c av cX0_known 5 RX0 (some .boolean)) (hRf : 1 ≤ R.frames) (hRl : 21 ≤ R.locals) (hf : cells ≤ R.cells ∧ slots ≤ R.slots) (hK : va_K D vwCl (sm_ty dB dN) s) (hP : va_P D vwCl ([(q, .inl (dN, 32, .inl f))] ++ (w ++ r)) H) (ho : ∀ j, j < 32 → oo j &&& 255 = f j)
    (kk : ∀ ls : Array Slot, lv_has ls 5 [(0, .ref d)] → W p l e R s m av below meth c H locs cells slots Q (F0 m 259 ls [])) :
    ∀ (k i : Nat) (ls : Array Slot), i + k = 32 → lv_has ls 5 [(0, .ref d), (1, .ref q), (2, .int (nI i))] → W p l e R s m av below meth c H locs cells slots Q (F0 m 234 ls []) := by
  obtain ⟨hx, hb, hr, hlk, hml, hown, hts⟩ := cx
  intro k
  induction k with
  | zero =>
    intro i ls hi hl
    have hi3 : i = 32 := by omega
    subst hi3
    refine lv_iload_n hx hb dX0_known_234 rfl (lv_at hl 2 rfl) ?_
    refine lv_bipush (v := (32 : Int32)) hx hb dX0_known_235 (by decide) ?_
    refine lv_icmp_ge (tgt := 259) hx hb dX0_known_237 (by decide) (fun _ => ?_) (fun hc => absurd (Int32.le_refl _) hc)
    exact kk ls (lv_sub hl [0] rfl)
  | succ k ih =>
    intro i ls hi hl
    refine lv_iload_n hx hb dX0_known_234 rfl (lv_at hl 2 rfl) ?_
    refine lv_bipush (v := (32 : Int32)) hx hb dX0_known_235 (by decide) ?_
    refine lv_icmp_ge (tgt := 259) hx hb dX0_known_237 (by decide) (fun hc => absurd hc (nI_ge (show i < 32 by omega) (by decide))) (fun _ => ?_)
    refine lv_aload_n hx hb dX0_known_240 rfl (lv_at hl 0 rfl) ?_
    refine lv_iload_n hx hb dX0_known_241 rfl (lv_at hl 2 rfl) ?_
    have hPw := (sm_Psp (sm_Psp hP).2).1
    refine vp_callSi (W.runV (As := [.int (nI i)]) (rest := []) ⟨hx, hb, hml, hown, hts⟩ (met_outD l D dB dN pA w d g0 n fd z tx oo hw i (by omega)) (cwV 1 hts (lw_V q247 q248 q249 q10 q250) rfl rfl rfl (by decide +kernel) ⟨hRf, hRl⟩) ⟨sm_blind0, sm_DS_rc hw hK hPw, sm_go0 hK hPw _⟩ rfl rfl hl.1 rfl (lv_room (Nat.le_of_ble_eq_true rfl)) dX0_known_242 hf) (fun r1 hr1 => ?_)
    refine lv_aload_n hx hb dX0_known_245 rfl (lv_at hl 1 rfl) ?_
    refine lv_iload_n hx hb dX0_known_246 rfl (lv_at hl 2 rfl) ?_
    refine sm_ild hx hb hK hP 0 1 rfl rfl i rfl (by omega) (by decide) dX0_known_247 ?_
    refine lv_icmp_eq (tgt := 253) hx hb dX0_known_248 (by decide) (fun _ => ?_) (fun hc => absurd (by rw [hr1, ho i (by omega)]) hc)
    refine lv_iinc (v := (nI (i + 1))) (lv' := [(2, .int (nI (i + 1))), (0, .ref d), (1, .ref q)]) hx hb dX0_known_253 hl (k := 2) rfl (sm_i1 i) (by decide) rfl (fun ls hl => ?_)
    refine lv_goto (tgt := 234) hx hb dX0_known_256 (by decide) ?_
    exact ih (i + 1) ls (by omega) (lv_sub hl [1, 2, 0] rfl)
set_option maxHeartbeats 4000000 in
set_option maxRecDepth 100000 in
theorem lp_k1 {p : Program} {l : Launch} {e : Env} {R : Room} {s : State} {m : MethodId} {av : Array Value} {below : List Frame} {meth : Method} {c : Code} {H : Heap} {locs : List Loc} {cells slots : Nat} {Q : State → Prop} {D : va_G} {dB dN : ClassId} {pA : Nat} {w r : va_W} {d q : Nat} {g0 : Nat → Int32} {n fd z : Nat} {tx oo f : Nat → Int32} (hw : sm_DS dB dN pA d g0 n fd z tx oo w) (cx : sm_Cx p s m meth c av cX0_known 5 RX0 (some .boolean)) (hRf : 1 ≤ R.frames) (hRl : 21 ≤ R.locals) (hf : cells ≤ R.cells ∧ slots ≤ R.slots) (hK : va_K D vwCl (sm_ty dB dN) s) (hP : va_P D vwCl ([(q, .inl (dN, 32, .inl f))] ++ (w ++ r)) H) (ho : ∀ j, j < 32 → oo j &&& 255 = f j)
    (kk : ∀ ls : Array Slot, lv_has ls 5 [(2, .ref d)] → W p l e R s m av below meth c H locs cells slots Q (F0 m 542 ls [])) :
    ∀ (k i : Nat) (ls : Array Slot), i + k = 32 → lv_has ls 5 [(2, .ref d), (3, .ref q), (4, .int (nI i))] → W p l e R s m av below meth c H locs cells slots Q (F0 m 514 ls []) := by
  obtain ⟨hx, hb, hr, hlk, hml, hown, hts⟩ := cx
  intro k
  induction k with
  | zero =>
    intro i ls hi hl
    have hi3 : i = 32 := by omega
    subst hi3
    refine lv_iload hx hb dX0_known_514 (lv_at hl 2 rfl) ?_
    refine lv_bipush (v := (32 : Int32)) hx hb dX0_known_516 (by decide) ?_
    refine lv_icmp_ge (tgt := 542) hx hb dX0_known_518 (by decide) (fun _ => ?_) (fun hc => absurd (Int32.le_refl _) hc)
    exact kk ls (lv_sub hl [0] rfl)
  | succ k ih =>
    intro i ls hi hl
    refine lv_iload hx hb dX0_known_514 (lv_at hl 2 rfl) ?_
    refine lv_bipush (v := (32 : Int32)) hx hb dX0_known_516 (by decide) ?_
    refine lv_icmp_ge (tgt := 542) hx hb dX0_known_518 (by decide) (fun hc => absurd hc (nI_ge (show i < 32 by omega) (by decide))) (fun _ => ?_)
    refine lv_aload_n hx hb dX0_known_521 rfl (lv_at hl 0 rfl) ?_
    refine lv_iload hx hb dX0_known_522 (lv_at hl 2 rfl) ?_
    have hPw := (sm_Psp (sm_Psp hP).2).1
    refine vp_callSi (W.runV (As := [.int (nI i)]) (rest := []) ⟨hx, hb, hml, hown, hts⟩ (met_outD l D dB dN pA w d g0 n fd z tx oo hw i (by omega)) (cwV 1 hts (lw_V q247 q248 q249 q10 q250) rfl rfl rfl (by decide +kernel) ⟨hRf, hRl⟩) ⟨sm_blind0, sm_DS_rc hw hK hPw, sm_go0 hK hPw _⟩ rfl rfl hl.1 rfl (lv_room (Nat.le_of_ble_eq_true rfl)) dX0_known_524 hf) (fun r1 hr1 => ?_)
    refine lv_aload_n hx hb dX0_known_527 rfl (lv_at hl 1 rfl) ?_
    refine lv_iload hx hb dX0_known_528 (lv_at hl 2 rfl) ?_
    refine sm_ild hx hb hK hP 0 1 rfl rfl i rfl (by omega) (by decide) dX0_known_530 ?_
    refine lv_icmp_eq (tgt := 536) hx hb dX0_known_531 (by decide) (fun _ => ?_) (fun hc => absurd (by rw [hr1, ho i (by omega)]) hc)
    refine lv_iinc (v := (nI (i + 1))) (lv' := [(4, .int (nI (i + 1))), (2, .ref d), (3, .ref q)]) hx hb dX0_known_536 hl (k := 2) rfl (sm_i1 i) (by decide) rfl (fun ls hl => ?_)
    refine lv_goto (tgt := 514) hx hb dX0_known_539 (by decide) ?_
    exact ih (i + 1) ls (by omega) (lv_sub hl [1, 2, 0] rfl)
set_option maxHeartbeats 4000000 in
set_option maxRecDepth 100000 in
/-- known(): the published sums come out -/
theorem met_known (l : Launch) (D : va_G) (dB dN : ClassId) (sz tA pA : Nat) : Met l yX0_known (ws_ yX0_known cX0_known 5 (some .boolean)) ({ frames := 7, cells := 28, slots := 2666, locals := 167 }) (va_Pc [] (sm_pre D dB dN [] sz tA pA)) (sm_Qi D (fun r _ => r = 1) (va_A [] sz)) 28 2666 (va_A [] sz) := by
  refine sm_met RX0 (sm_Qi D _) (by decide) rfl (Nat.le_of_ble_eq_true rfl) ?_
  intro p e s m below meth c ls A cx hnm hP hK hD hE hA hS hl
  obtain ⟨hx, hb, hr, hlk, hml, hown, hts⟩ := cx
  have hl : lv_has ls 5 [] := hl
  refine va_new (ci := 1) (fs := [.null, .null, .int 0, .null, .int 0]) (C := RX1) (T := TX1) (N := 5) hx hb hts in_X1 tyX1 tyX1_ok hown (hts _ q166) (hts _ q24) (hts _ q10) hK hP hD hS hA rfl (fun j hj => by rcases (show j = 0 ∨ j = 1 ∨ j = 2 ∨ j = 3 ∨ j = 4 by omega) with rfl | rfl | rfl | rfl | rfl <;> rfl) (Nat.le_of_ble_eq_true rfl) (Nat.le_of_ble_eq_true rfl) dX0_known_0 (fun d H hP hD hS => ?_)
  have hP := sm_cmP hP
  have hD := sm_cmD hD
  have hP : va_P D vwCl ([(d, .inr (1, [.null, .null, .int 0, .null, .int 0]))] ++ ([] : va_W)) H := hP
  have hD : va_D A ([(d, .inr (1, [.null, .null, .int 0, .null, .int 0]))] ++ ([] : va_W)) := hD
  refine lv_dup hx hb dX0_known_3 rfl ?_
  have hPw := (sm_Psp (a := [(d, .inr (1, [.null, .null, .int 0, .null, .int 0]))]) (b := ([] : va_W)) hP).1
  have hDw := (sm_Dsp (a := [(d, .inr (1, [.null, .null, .int 0, .null, .int 0]))]) (b := ([] : va_W)) hD).1
  have hFc := sm_f0 (wc := [(d, .inr (1, [.null, .null, .int 0, .null, .int 0]))]) (wb := ([] : va_W)) hD hS hA
  refine sm_b0v (wc := [(d, .inr (1, [.null, .null, .int 0, .null, .int 0]))]) (wb := ([] : va_W)) (va_runI (As := []) (rest := [.ref d]) ⟨hx, hb, hml, hown, hts⟩ (met_dn l D dB dN H.size tA pA d sm_msg0) (cwI 0 hts (lw_meth q169) rfl rfl rfl (hts _ q10) (hts _ q167) (hts _ q168) rfl (by decide +kernel) ⟨Nat.le_of_ble_eq_true rfl, Nat.le_of_ble_eq_true rfl⟩) ⟨sm_blind, sm_go hK hPw hDw hE hS hFc _⟩ rfl rfl hl.1 rfl (lv_room (Nat.le_of_ble_eq_true rfl)) dX0_known_4 ⟨Nat.le_of_ble_eq_true rfl, Nat.le_of_ble_eq_true rfl⟩) hP hD hS hFc (fun w0 H locs hw0 hP hD hS => ?_)
  refine lv_astore_n (lv' := [(0, .ref d)]) hx hb dX0_known_7 rfl hl (by decide) rfl (fun ls hl => ?_)
  refine lv_aload_n hx hb dX0_known_8 rfl (lv_at hl 0 rfl) ?_
  refine lv_iconst (v := (0 : Int32)) hx hb dX0_known_9 (by decide) ?_
  have hPw := (sm_Psp (a := w0) hP).1
  have hDw := (sm_Dsp (a := w0) hD).1
  have hFc := sm_f0 (wc := w0) hD hS hA
  refine sm_b0v (wc := w0) (wb := ([] : va_W)) (va_runV (As := [.int (0 : Int32)]) (rest := []) ⟨hx, hb, hml, hown, hts⟩ (met_begin l D dB dN H.size tA pA w0 d sm_msg0 0 0 0 (fun _ => 0) (fun _ => 0) hw0 sm_msg0 0) (cwV 1 hts (lw_V q240 q241 q242 q10 q243) rfl rfl rfl (by decide +kernel) ⟨Nat.le_of_ble_eq_true rfl, Nat.le_of_ble_eq_true rfl⟩) ⟨sm_blind, sm_DS_rc hw0 hK hPw, sm_go hK hPw hDw hE hS hFc _⟩ rfl rfl hl.1 rfl (lv_room (Nat.le_of_ble_eq_true rfl)) dX0_known_10 ⟨Nat.le_of_ble_eq_true rfl, Nat.le_of_ble_eq_true rfl⟩) hP hD hS hFc (fun w1 H locs hw_ hP hD hS => ?_)
  have hw1 := hw_
  refine lv_aload_n hx hb dX0_known_13 rfl (lv_at hl 0 rfl) ?_
  refine lv_iconst (v := (0 : Int32)) hx hb dX0_known_14 (by decide) ?_
  refine lv_iconst (v := (0 : Int32)) hx hb dX0_known_15 (by decide) ?_
  have hPw := (sm_Psp (a := w1) hP).1
  have hDw := (sm_Dsp (a := w1) hD).1
  have hFc := sm_f0 (wc := w1) hD hS hA
  refine sm_b0i (wc := w1) (wb := ([] : va_W)) (va_runV (As := [.int (0 : Int32), .int (0 : Int32)]) (rest := []) ⟨hx, hb, hml, hown, hts⟩ (met_feed l D dB dN H.size tA pA w1 d sm_msg0 0 0 0 (fun _ => 0) (fun _ => 0) hw1 0 0 0 0 rfl rfl (by decide) (by decide) (fun j hj => absurd hj (by omega)) sm_By0) (cwV 2 hts (lw_V q17 q18 q19 q10 q20) rfl rfl rfl (by decide +kernel) ⟨Nat.le_of_ble_eq_true rfl, Nat.le_of_ble_eq_true rfl⟩) ⟨sm_blind, sm_DS_rc hw1 hK hPw, sm_go hK hPw hDw hE hS hFc _⟩ rfl rfl hl.1 rfl (lv_room (Nat.le_of_ble_eq_true rfl)) dX0_known_16 ⟨Nat.le_of_ble_eq_true rfl, Nat.le_of_ble_eq_true rfl⟩) hP hD hS hFc (fun r2 w2 H locs hw_ hP hD hS => ?_)
  obtain ⟨hr2, hw2⟩ := hw_
  refine lv_pop hx hb dX0_known_19 rfl ?_
  refine lv_aload_n hx hb dX0_known_20 rfl (lv_at hl 0 rfl) ?_
  have hPw := (sm_Psp (a := w2) hP).1
  have hDw := (sm_Dsp (a := w2) hD).1
  have hFc := sm_f0 (wc := w2) hD hS hA
  refine sm_b0i (wc := w2) (wb := ([] : va_W)) (va_runV (As := []) (rest := []) ⟨hx, hb, hml, hown, hts⟩ (met_close l D dB dN H.size tA pA w2 d sm_msg0 (0 + 0) (0 + 0) 0 (fun _ => 0) (fun _ => 0) hw2 sm_msg0) (cwV 0 hts (lw_V q97 q98 q99 q10 q100) rfl rfl rfl (by decide +kernel) ⟨Nat.le_of_ble_eq_true rfl, Nat.le_of_ble_eq_true rfl⟩) ⟨sm_blind, sm_DS_rc hw2 hK hPw, sm_go hK hPw hDw hE hS hFc _⟩ rfl rfl hl.1 rfl (lv_room (Nat.le_of_ble_eq_true rfl)) dX0_known_21 ⟨Nat.le_of_ble_eq_true rfl, Nat.le_of_ble_eq_true rfl⟩) hP hD hS hFc (fun r3 w3 H locs hw_ hP hD hS => ?_)
  obtain ⟨hr3, hw3⟩ := hw_
  refine lv_pop hx hb dX0_known_24 rfl ?_
  refine lv_bipush (v := (32 : Int32)) hx hb dX0_known_25 (by decide) ?_
  refine sm_newa (atype := .int) hx hb (hts _ q211) rfl hK hP hD hS hA 1 rfl 32 (fun _ => rfl) rfl (by decide) (Nat.le_of_ble_eq_true rfl) (Nat.le_of_ble_eq_true rfl) (Nat.le_of_ble_eq_true rfl) dX0_known_27 (fun q H hP hD hS => ?_)
  have hP := sm_cmP hP
  have hD := sm_cmD hD
  have hP : va_P D vwCl ([(q, .inl (dN, 32, .inl (fun _ => 0)))] ++ (w3 ++ ([] : va_W))) H := hP
  have hD : va_D A ([(q, .inl (dN, 32, .inl (fun _ => 0)))] ++ (w3 ++ ([] : va_W))) := hD
  have hq : ∀ i, i < 0 → (fun _ : Nat => (0 : Int32)) i = sm_out0 i := fun i hi => absurd hi (by omega)
  refine lv_dup hx hb dX0_known_29 rfl ?_
  refine lv_iconst (v := (0 : Int32)) hx hb dX0_known_30 (by decide) ?_
  refine lv_bipush (v := (26 : Int32)) hx hb dX0_known_31 (by decide) ?_
  refine sm_ist hx hb hK hP hD hS 0 1 rfl rfl 0 rfl (by decide) (by decide) dX0_known_33 (fun H locs hP hD hS => ?_)
  have hP : va_P D vwCl ([(q, .inl (dN, 32, .inl (upd (fun _ => 0) 0 (26 : Int32))))] ++ (w3 ++ ([] : va_W))) H := hP
  have hD : va_D A ([(q, .inl (dN, 32, .inl (upd (fun _ => 0) 0 (26 : Int32))))] ++ (w3 ++ ([] : va_W))) := hD
  obtain ⟨f0, hf0⟩ : ∃ g_ : Nat → Int32, g_ = upd (fun _ => 0) 0 (26 : Int32) ∧ ∀ i, i < 1 → g_ i = sm_out0 i := ⟨_, rfl, sm_kst hq rfl⟩
  rw [← hf0.1] at hP hD
  have hq := hf0.2
  have hP : va_P D vwCl ([(q, .inl (dN, 32, .inl f0))] ++ (w3 ++ ([] : va_W))) H := hP
  have hD : va_D A ([(q, .inl (dN, 32, .inl f0))] ++ (w3 ++ ([] : va_W))) := hD
  refine lv_dup hx hb dX0_known_34 rfl ?_
  refine lv_iconst (v := (1 : Int32)) hx hb dX0_known_35 (by decide) ?_
  refine lv_sipush (v := (178 : Int32)) hx hb dX0_known_36 (by decide) ?_
  refine sm_ist hx hb hK hP hD hS 0 1 rfl rfl 1 rfl (by decide) (by decide) dX0_known_39 (fun H locs hP hD hS => ?_)
  have hP : va_P D vwCl ([(q, .inl (dN, 32, .inl (upd f0 1 (178 : Int32))))] ++ (w3 ++ ([] : va_W))) H := hP
  have hD : va_D A ([(q, .inl (dN, 32, .inl (upd f0 1 (178 : Int32))))] ++ (w3 ++ ([] : va_W))) := hD
  obtain ⟨f1, hf1⟩ : ∃ g_ : Nat → Int32, g_ = upd f0 1 (178 : Int32) ∧ ∀ i, i < 2 → g_ i = sm_out0 i := ⟨_, rfl, sm_kst hq rfl⟩
  rw [← hf1.1] at hP hD
  have hq := hf1.2
  have hP : va_P D vwCl ([(q, .inl (dN, 32, .inl f1))] ++ (w3 ++ ([] : va_W))) H := hP
  have hD : va_D A ([(q, .inl (dN, 32, .inl f1))] ++ (w3 ++ ([] : va_W))) := hD
  refine lv_dup hx hb dX0_known_40 rfl ?_
  refine lv_iconst (v := (2 : Int32)) hx hb dX0_known_41 (by decide) ?_
  refine lv_bipush (v := (29 : Int32)) hx hb dX0_known_42 (by decide) ?_
  refine sm_ist hx hb hK hP hD hS 0 1 rfl rfl 2 rfl (by decide) (by decide) dX0_known_44 (fun H locs hP hD hS => ?_)
  have hP : va_P D vwCl ([(q, .inl (dN, 32, .inl (upd f1 2 (29 : Int32))))] ++ (w3 ++ ([] : va_W))) H := hP
  have hD : va_D A ([(q, .inl (dN, 32, .inl (upd f1 2 (29 : Int32))))] ++ (w3 ++ ([] : va_W))) := hD
  obtain ⟨f2, hf2⟩ : ∃ g_ : Nat → Int32, g_ = upd f1 2 (29 : Int32) ∧ ∀ i, i < 3 → g_ i = sm_out0 i := ⟨_, rfl, sm_kst hq rfl⟩
  rw [← hf2.1] at hP hD
  have hq := hf2.2
  have hP : va_P D vwCl ([(q, .inl (dN, 32, .inl f2))] ++ (w3 ++ ([] : va_W))) H := hP
  have hD : va_D A ([(q, .inl (dN, 32, .inl f2))] ++ (w3 ++ ([] : va_W))) := hD
  refine lv_dup hx hb dX0_known_45 rfl ?_
  refine lv_iconst (v := (3 : Int32)) hx hb dX0_known_46 (by decide) ?_
  refine lv_sipush (v := (131 : Int32)) hx hb dX0_known_47 (by decide) ?_
  refine sm_ist hx hb hK hP hD hS 0 1 rfl rfl 3 rfl (by decide) (by decide) dX0_known_50 (fun H locs hP hD hS => ?_)
  have hP : va_P D vwCl ([(q, .inl (dN, 32, .inl (upd f2 3 (131 : Int32))))] ++ (w3 ++ ([] : va_W))) H := hP
  have hD : va_D A ([(q, .inl (dN, 32, .inl (upd f2 3 (131 : Int32))))] ++ (w3 ++ ([] : va_W))) := hD
  obtain ⟨f3, hf3⟩ : ∃ g_ : Nat → Int32, g_ = upd f2 3 (131 : Int32) ∧ ∀ i, i < 4 → g_ i = sm_out0 i := ⟨_, rfl, sm_kst hq rfl⟩
  rw [← hf3.1] at hP hD
  have hq := hf3.2
  have hP : va_P D vwCl ([(q, .inl (dN, 32, .inl f3))] ++ (w3 ++ ([] : va_W))) H := hP
  have hD : va_D A ([(q, .inl (dN, 32, .inl f3))] ++ (w3 ++ ([] : va_W))) := hD
  refine lv_dup hx hb dX0_known_51 rfl ?_
  refine lv_iconst (v := (4 : Int32)) hx hb dX0_known_52 (by decide) ?_
  refine lv_bipush (v := (85 : Int32)) hx hb dX0_known_53 (by decide) ?_
  refine sm_ist hx hb hK hP hD hS 0 1 rfl rfl 4 rfl (by decide) (by decide) dX0_known_55 (fun H locs hP hD hS => ?_)
  have hP : va_P D vwCl ([(q, .inl (dN, 32, .inl (upd f3 4 (85 : Int32))))] ++ (w3 ++ ([] : va_W))) H := hP
  have hD : va_D A ([(q, .inl (dN, 32, .inl (upd f3 4 (85 : Int32))))] ++ (w3 ++ ([] : va_W))) := hD
  obtain ⟨f4, hf4⟩ : ∃ g_ : Nat → Int32, g_ = upd f3 4 (85 : Int32) ∧ ∀ i, i < 5 → g_ i = sm_out0 i := ⟨_, rfl, sm_kst hq rfl⟩
  rw [← hf4.1] at hP hD
  have hq := hf4.2
  have hP : va_P D vwCl ([(q, .inl (dN, 32, .inl f4))] ++ (w3 ++ ([] : va_W))) H := hP
  have hD : va_D A ([(q, .inl (dN, 32, .inl f4))] ++ (w3 ++ ([] : va_W))) := hD
  refine lv_dup hx hb dX0_known_56 rfl ?_
  refine lv_iconst (v := (5 : Int32)) hx hb dX0_known_57 (by decide) ?_
  refine lv_sipush (v := (207 : Int32)) hx hb dX0_known_58 (by decide) ?_
  refine sm_ist hx hb hK hP hD hS 0 1 rfl rfl 5 rfl (by decide) (by decide) dX0_known_61 (fun H locs hP hD hS => ?_)
  have hP : va_P D vwCl ([(q, .inl (dN, 32, .inl (upd f4 5 (207 : Int32))))] ++ (w3 ++ ([] : va_W))) H := hP
  have hD : va_D A ([(q, .inl (dN, 32, .inl (upd f4 5 (207 : Int32))))] ++ (w3 ++ ([] : va_W))) := hD
  obtain ⟨f5, hf5⟩ : ∃ g_ : Nat → Int32, g_ = upd f4 5 (207 : Int32) ∧ ∀ i, i < 6 → g_ i = sm_out0 i := ⟨_, rfl, sm_kst hq rfl⟩
  rw [← hf5.1] at hP hD
  have hq := hf5.2
  have hP : va_P D vwCl ([(q, .inl (dN, 32, .inl f5))] ++ (w3 ++ ([] : va_W))) H := hP
  have hD : va_D A ([(q, .inl (dN, 32, .inl f5))] ++ (w3 ++ ([] : va_W))) := hD
  refine lv_dup hx hb dX0_known_62 rfl ?_
  refine lv_bipush (v := (6 : Int32)) hx hb dX0_known_63 (by decide) ?_
  refine lv_sipush (v := (161 : Int32)) hx hb dX0_known_65 (by decide) ?_
  refine sm_ist hx hb hK hP hD hS 0 1 rfl rfl 6 rfl (by decide) (by decide) dX0_known_68 (fun H locs hP hD hS => ?_)
  have hP : va_P D vwCl ([(q, .inl (dN, 32, .inl (upd f5 6 (161 : Int32))))] ++ (w3 ++ ([] : va_W))) H := hP
  have hD : va_D A ([(q, .inl (dN, 32, .inl (upd f5 6 (161 : Int32))))] ++ (w3 ++ ([] : va_W))) := hD
  obtain ⟨f6, hf6⟩ : ∃ g_ : Nat → Int32, g_ = upd f5 6 (161 : Int32) ∧ ∀ i, i < 7 → g_ i = sm_out0 i := ⟨_, rfl, sm_kst hq rfl⟩
  rw [← hf6.1] at hP hD
  have hq := hf6.2
  have hP : va_P D vwCl ([(q, .inl (dN, 32, .inl f6))] ++ (w3 ++ ([] : va_W))) H := hP
  have hD : va_D A ([(q, .inl (dN, 32, .inl f6))] ++ (w3 ++ ([] : va_W))) := hD
  refine lv_dup hx hb dX0_known_69 rfl ?_
  refine lv_bipush (v := (7 : Int32)) hx hb dX0_known_70 (by decide) ?_
  refine lv_bipush (v := (127 : Int32)) hx hb dX0_known_72 (by decide) ?_
  refine sm_ist hx hb hK hP hD hS 0 1 rfl rfl 7 rfl (by decide) (by decide) dX0_known_74 (fun H locs hP hD hS => ?_)
  have hP : va_P D vwCl ([(q, .inl (dN, 32, .inl (upd f6 7 (127 : Int32))))] ++ (w3 ++ ([] : va_W))) H := hP
  have hD : va_D A ([(q, .inl (dN, 32, .inl (upd f6 7 (127 : Int32))))] ++ (w3 ++ ([] : va_W))) := hD
  obtain ⟨f7, hf7⟩ : ∃ g_ : Nat → Int32, g_ = upd f6 7 (127 : Int32) ∧ ∀ i, i < 8 → g_ i = sm_out0 i := ⟨_, rfl, sm_kst hq rfl⟩
  rw [← hf7.1] at hP hD
  have hq := hf7.2
  have hP : va_P D vwCl ([(q, .inl (dN, 32, .inl f7))] ++ (w3 ++ ([] : va_W))) H := hP
  have hD : va_D A ([(q, .inl (dN, 32, .inl f7))] ++ (w3 ++ ([] : va_W))) := hD
  refine lv_dup hx hb dX0_known_75 rfl ?_
  refine lv_bipush (v := (8 : Int32)) hx hb dX0_known_76 (by decide) ?_
  refine lv_sipush (v := (142 : Int32)) hx hb dX0_known_78 (by decide) ?_
  refine sm_ist hx hb hK hP hD hS 0 1 rfl rfl 8 rfl (by decide) (by decide) dX0_known_81 (fun H locs hP hD hS => ?_)
  have hP : va_P D vwCl ([(q, .inl (dN, 32, .inl (upd f7 8 (142 : Int32))))] ++ (w3 ++ ([] : va_W))) H := hP
  have hD : va_D A ([(q, .inl (dN, 32, .inl (upd f7 8 (142 : Int32))))] ++ (w3 ++ ([] : va_W))) := hD
  obtain ⟨f8, hf8⟩ : ∃ g_ : Nat → Int32, g_ = upd f7 8 (142 : Int32) ∧ ∀ i, i < 9 → g_ i = sm_out0 i := ⟨_, rfl, sm_kst hq rfl⟩
  rw [← hf8.1] at hP hD
  have hq := hf8.2
  have hP : va_P D vwCl ([(q, .inl (dN, 32, .inl f8))] ++ (w3 ++ ([] : va_W))) H := hP
  have hD : va_D A ([(q, .inl (dN, 32, .inl f8))] ++ (w3 ++ ([] : va_W))) := hD
  refine lv_dup hx hb dX0_known_82 rfl ?_
  refine lv_bipush (v := (9 : Int32)) hx hb dX0_known_83 (by decide) ?_
  refine lv_bipush (v := (97 : Int32)) hx hb dX0_known_85 (by decide) ?_
  refine sm_ist hx hb hK hP hD hS 0 1 rfl rfl 9 rfl (by decide) (by decide) dX0_known_87 (fun H locs hP hD hS => ?_)
  have hP : va_P D vwCl ([(q, .inl (dN, 32, .inl (upd f8 9 (97 : Int32))))] ++ (w3 ++ ([] : va_W))) H := hP
  have hD : va_D A ([(q, .inl (dN, 32, .inl (upd f8 9 (97 : Int32))))] ++ (w3 ++ ([] : va_W))) := hD
  obtain ⟨f9, hf9⟩ : ∃ g_ : Nat → Int32, g_ = upd f8 9 (97 : Int32) ∧ ∀ i, i < 10 → g_ i = sm_out0 i := ⟨_, rfl, sm_kst hq rfl⟩
  rw [← hf9.1] at hP hD
  have hq := hf9.2
  have hP : va_P D vwCl ([(q, .inl (dN, 32, .inl f9))] ++ (w3 ++ ([] : va_W))) H := hP
  have hD : va_D A ([(q, .inl (dN, 32, .inl f9))] ++ (w3 ++ ([] : va_W))) := hD
  refine lv_dup hx hb dX0_known_88 rfl ?_
  refine lv_bipush (v := (10 : Int32)) hx hb dX0_known_89 (by decide) ?_
  refine lv_bipush (v := (25 : Int32)) hx hb dX0_known_91 (by decide) ?_
  refine sm_ist hx hb hK hP hD hS 0 1 rfl rfl 10 rfl (by decide) (by decide) dX0_known_93 (fun H locs hP hD hS => ?_)
  have hP : va_P D vwCl ([(q, .inl (dN, 32, .inl (upd f9 10 (25 : Int32))))] ++ (w3 ++ ([] : va_W))) H := hP
  have hD : va_D A ([(q, .inl (dN, 32, .inl (upd f9 10 (25 : Int32))))] ++ (w3 ++ ([] : va_W))) := hD
  obtain ⟨f10, hf10⟩ : ∃ g_ : Nat → Int32, g_ = upd f9 10 (25 : Int32) ∧ ∀ i, i < 11 → g_ i = sm_out0 i := ⟨_, rfl, sm_kst hq rfl⟩
  rw [← hf10.1] at hP hD
  have hq := hf10.2
  have hP : va_P D vwCl ([(q, .inl (dN, 32, .inl f10))] ++ (w3 ++ ([] : va_W))) H := hP
  have hD : va_D A ([(q, .inl (dN, 32, .inl f10))] ++ (w3 ++ ([] : va_W))) := hD
  refine lv_dup hx hb dX0_known_94 rfl ?_
  refine lv_bipush (v := (11 : Int32)) hx hb dX0_known_95 (by decide) ?_
  refine lv_bipush (v := (72 : Int32)) hx hb dX0_known_97 (by decide) ?_
  refine sm_ist hx hb hK hP hD hS 0 1 rfl rfl 11 rfl (by decide) (by decide) dX0_known_99 (fun H locs hP hD hS => ?_)
  have hP : va_P D vwCl ([(q, .inl (dN, 32, .inl (upd f10 11 (72 : Int32))))] ++ (w3 ++ ([] : va_W))) H := hP
  have hD : va_D A ([(q, .inl (dN, 32, .inl (upd f10 11 (72 : Int32))))] ++ (w3 ++ ([] : va_W))) := hD
  obtain ⟨f11, hf11⟩ : ∃ g_ : Nat → Int32, g_ = upd f10 11 (72 : Int32) ∧ ∀ i, i < 12 → g_ i = sm_out0 i := ⟨_, rfl, sm_kst hq rfl⟩
  rw [← hf11.1] at hP hD
  have hq := hf11.2
  have hP : va_P D vwCl ([(q, .inl (dN, 32, .inl f11))] ++ (w3 ++ ([] : va_W))) H := hP
  have hD : va_D A ([(q, .inl (dN, 32, .inl f11))] ++ (w3 ++ ([] : va_W))) := hD
  refine lv_dup hx hb dX0_known_100 rfl ?_
  refine lv_bipush (v := (12 : Int32)) hx hb dX0_known_101 (by decide) ?_
  refine lv_bipush (v := (49 : Int32)) hx hb dX0_known_103 (by decide) ?_
  refine sm_ist hx hb hK hP hD hS 0 1 rfl rfl 12 rfl (by decide) (by decide) dX0_known_105 (fun H locs hP hD hS => ?_)
  have hP : va_P D vwCl ([(q, .inl (dN, 32, .inl (upd f11 12 (49 : Int32))))] ++ (w3 ++ ([] : va_W))) H := hP
  have hD : va_D A ([(q, .inl (dN, 32, .inl (upd f11 12 (49 : Int32))))] ++ (w3 ++ ([] : va_W))) := hD
  obtain ⟨f12, hf12⟩ : ∃ g_ : Nat → Int32, g_ = upd f11 12 (49 : Int32) ∧ ∀ i, i < 13 → g_ i = sm_out0 i := ⟨_, rfl, sm_kst hq rfl⟩
  rw [← hf12.1] at hP hD
  have hq := hf12.2
  have hP : va_P D vwCl ([(q, .inl (dN, 32, .inl f12))] ++ (w3 ++ ([] : va_W))) H := hP
  have hD : va_D A ([(q, .inl (dN, 32, .inl f12))] ++ (w3 ++ ([] : va_W))) := hD
  refine lv_dup hx hb dX0_known_106 rfl ?_
  refine lv_bipush (v := (13 : Int32)) hx hb dX0_known_107 (by decide) ?_
  refine lv_sipush (v := (232 : Int32)) hx hb dX0_known_109 (by decide) ?_
  refine sm_ist hx hb hK hP hD hS 0 1 rfl rfl 13 rfl (by decide) (by decide) dX0_known_112 (fun H locs hP hD hS => ?_)
  have hP : va_P D vwCl ([(q, .inl (dN, 32, .inl (upd f12 13 (232 : Int32))))] ++ (w3 ++ ([] : va_W))) H := hP
  have hD : va_D A ([(q, .inl (dN, 32, .inl (upd f12 13 (232 : Int32))))] ++ (w3 ++ ([] : va_W))) := hD
  obtain ⟨f13, hf13⟩ : ∃ g_ : Nat → Int32, g_ = upd f12 13 (232 : Int32) ∧ ∀ i, i < 14 → g_ i = sm_out0 i := ⟨_, rfl, sm_kst hq rfl⟩
  rw [← hf13.1] at hP hD
  have hq := hf13.2
  have hP : va_P D vwCl ([(q, .inl (dN, 32, .inl f13))] ++ (w3 ++ ([] : va_W))) H := hP
  have hD : va_D A ([(q, .inl (dN, 32, .inl f13))] ++ (w3 ++ ([] : va_W))) := hD
  refine lv_dup hx hb dX0_known_113 rfl ?_
  refine lv_bipush (v := (14 : Int32)) hx hb dX0_known_114 (by decide) ?_
  refine lv_bipush (v := (26 : Int32)) hx hb dX0_known_116 (by decide) ?_
  refine sm_ist hx hb hK hP hD hS 0 1 rfl rfl 14 rfl (by decide) (by decide) dX0_known_118 (fun H locs hP hD hS => ?_)
  have hP : va_P D vwCl ([(q, .inl (dN, 32, .inl (upd f13 14 (26 : Int32))))] ++ (w3 ++ ([] : va_W))) H := hP
  have hD : va_D A ([(q, .inl (dN, 32, .inl (upd f13 14 (26 : Int32))))] ++ (w3 ++ ([] : va_W))) := hD
  obtain ⟨f14, hf14⟩ : ∃ g_ : Nat → Int32, g_ = upd f13 14 (26 : Int32) ∧ ∀ i, i < 15 → g_ i = sm_out0 i := ⟨_, rfl, sm_kst hq rfl⟩
  rw [← hf14.1] at hP hD
  have hq := hf14.2
  have hP : va_P D vwCl ([(q, .inl (dN, 32, .inl f14))] ++ (w3 ++ ([] : va_W))) H := hP
  have hD : va_D A ([(q, .inl (dN, 32, .inl f14))] ++ (w3 ++ ([] : va_W))) := hD
  refine lv_dup hx hb dX0_known_119 rfl ?_
  refine lv_bipush (v := (15 : Int32)) hx hb dX0_known_120 (by decide) ?_
  refine lv_sipush (v := (143 : Int32)) hx hb dX0_known_122 (by decide) ?_
  refine sm_ist hx hb hK hP hD hS 0 1 rfl rfl 15 rfl (by decide) (by decide) dX0_known_125 (fun H locs hP hD hS => ?_)
  have hP : va_P D vwCl ([(q, .inl (dN, 32, .inl (upd f14 15 (143 : Int32))))] ++ (w3 ++ ([] : va_W))) H := hP
  have hD : va_D A ([(q, .inl (dN, 32, .inl (upd f14 15 (143 : Int32))))] ++ (w3 ++ ([] : va_W))) := hD
  obtain ⟨f15, hf15⟩ : ∃ g_ : Nat → Int32, g_ = upd f14 15 (143 : Int32) ∧ ∀ i, i < 16 → g_ i = sm_out0 i := ⟨_, rfl, sm_kst hq rfl⟩
  rw [← hf15.1] at hP hD
  have hq := hf15.2
  have hP : va_P D vwCl ([(q, .inl (dN, 32, .inl f15))] ++ (w3 ++ ([] : va_W))) H := hP
  have hD : va_D A ([(q, .inl (dN, 32, .inl f15))] ++ (w3 ++ ([] : va_W))) := hD
  refine lv_dup hx hb dX0_known_126 rfl ?_
  refine lv_bipush (v := (16 : Int32)) hx hb dX0_known_127 (by decide) ?_
  refine lv_bipush (v := (34 : Int32)) hx hb dX0_known_129 (by decide) ?_
  refine sm_ist hx hb hK hP hD hS 0 1 rfl rfl 16 rfl (by decide) (by decide) dX0_known_131 (fun H locs hP hD hS => ?_)
  have hP : va_P D vwCl ([(q, .inl (dN, 32, .inl (upd f15 16 (34 : Int32))))] ++ (w3 ++ ([] : va_W))) H := hP
  have hD : va_D A ([(q, .inl (dN, 32, .inl (upd f15 16 (34 : Int32))))] ++ (w3 ++ ([] : va_W))) := hD
  obtain ⟨f16, hf16⟩ : ∃ g_ : Nat → Int32, g_ = upd f15 16 (34 : Int32) ∧ ∀ i, i < 17 → g_ i = sm_out0 i := ⟨_, rfl, sm_kst hq rfl⟩
  rw [← hf16.1] at hP hD
  have hq := hf16.2
  have hP : va_P D vwCl ([(q, .inl (dN, 32, .inl f16))] ++ (w3 ++ ([] : va_W))) H := hP
  have hD : va_D A ([(q, .inl (dN, 32, .inl f16))] ++ (w3 ++ ([] : va_W))) := hD
  refine lv_dup hx hb dX0_known_132 rfl ?_
  refine lv_bipush (v := (17 : Int32)) hx hb dX0_known_133 (by decide) ?_
  refine lv_sipush (v := (190 : Int32)) hx hb dX0_known_135 (by decide) ?_
  refine sm_ist hx hb hK hP hD hS 0 1 rfl rfl 17 rfl (by decide) (by decide) dX0_known_138 (fun H locs hP hD hS => ?_)
  have hP : va_P D vwCl ([(q, .inl (dN, 32, .inl (upd f16 17 (190 : Int32))))] ++ (w3 ++ ([] : va_W))) H := hP
  have hD : va_D A ([(q, .inl (dN, 32, .inl (upd f16 17 (190 : Int32))))] ++ (w3 ++ ([] : va_W))) := hD
  obtain ⟨f17, hf17⟩ : ∃ g_ : Nat → Int32, g_ = upd f16 17 (190 : Int32) ∧ ∀ i, i < 18 → g_ i = sm_out0 i := ⟨_, rfl, sm_kst hq rfl⟩
  rw [← hf17.1] at hP hD
  have hq := hf17.2
  have hP : va_P D vwCl ([(q, .inl (dN, 32, .inl f17))] ++ (w3 ++ ([] : va_W))) H := hP
  have hD : va_D A ([(q, .inl (dN, 32, .inl f17))] ++ (w3 ++ ([] : va_W))) := hD
  refine lv_dup hx hb dX0_known_139 rfl ?_
  refine lv_bipush (v := (18 : Int32)) hx hb dX0_known_140 (by decide) ?_
  refine lv_sipush (v := (200 : Int32)) hx hb dX0_known_142 (by decide) ?_
  refine sm_ist hx hb hK hP hD hS 0 1 rfl rfl 18 rfl (by decide) (by decide) dX0_known_145 (fun H locs hP hD hS => ?_)
  have hP : va_P D vwCl ([(q, .inl (dN, 32, .inl (upd f17 18 (200 : Int32))))] ++ (w3 ++ ([] : va_W))) H := hP
  have hD : va_D A ([(q, .inl (dN, 32, .inl (upd f17 18 (200 : Int32))))] ++ (w3 ++ ([] : va_W))) := hD
  obtain ⟨f18, hf18⟩ : ∃ g_ : Nat → Int32, g_ = upd f17 18 (200 : Int32) ∧ ∀ i, i < 19 → g_ i = sm_out0 i := ⟨_, rfl, sm_kst hq rfl⟩
  rw [← hf18.1] at hP hD
  have hq := hf18.2
  have hP : va_P D vwCl ([(q, .inl (dN, 32, .inl f18))] ++ (w3 ++ ([] : va_W))) H := hP
  have hD : va_D A ([(q, .inl (dN, 32, .inl f18))] ++ (w3 ++ ([] : va_W))) := hD
  refine lv_dup hx hb dX0_known_146 rfl ?_
  refine lv_bipush (v := (19 : Int32)) hx hb dX0_known_147 (by decide) ?_
  refine lv_sipush (v := (199 : Int32)) hx hb dX0_known_149 (by decide) ?_
  refine sm_ist hx hb hK hP hD hS 0 1 rfl rfl 19 rfl (by decide) (by decide) dX0_known_152 (fun H locs hP hD hS => ?_)
  have hP : va_P D vwCl ([(q, .inl (dN, 32, .inl (upd f18 19 (199 : Int32))))] ++ (w3 ++ ([] : va_W))) H := hP
  have hD : va_D A ([(q, .inl (dN, 32, .inl (upd f18 19 (199 : Int32))))] ++ (w3 ++ ([] : va_W))) := hD
  obtain ⟨f19, hf19⟩ : ∃ g_ : Nat → Int32, g_ = upd f18 19 (199 : Int32) ∧ ∀ i, i < 20 → g_ i = sm_out0 i := ⟨_, rfl, sm_kst hq rfl⟩
  rw [← hf19.1] at hP hD
  have hq := hf19.2
  have hP : va_P D vwCl ([(q, .inl (dN, 32, .inl f19))] ++ (w3 ++ ([] : va_W))) H := hP
  have hD : va_D A ([(q, .inl (dN, 32, .inl f19))] ++ (w3 ++ ([] : va_W))) := hD
  refine lv_dup hx hb dX0_known_153 rfl ?_
  refine lv_bipush (v := (20 : Int32)) hx hb dX0_known_154 (by decide) ?_
  refine lv_bipush (v := (40 : Int32)) hx hb dX0_known_156 (by decide) ?_
  refine sm_ist hx hb hK hP hD hS 0 1 rfl rfl 20 rfl (by decide) (by decide) dX0_known_158 (fun H locs hP hD hS => ?_)
  have hP : va_P D vwCl ([(q, .inl (dN, 32, .inl (upd f19 20 (40 : Int32))))] ++ (w3 ++ ([] : va_W))) H := hP
  have hD : va_D A ([(q, .inl (dN, 32, .inl (upd f19 20 (40 : Int32))))] ++ (w3 ++ ([] : va_W))) := hD
  obtain ⟨f20, hf20⟩ : ∃ g_ : Nat → Int32, g_ = upd f19 20 (40 : Int32) ∧ ∀ i, i < 21 → g_ i = sm_out0 i := ⟨_, rfl, sm_kst hq rfl⟩
  rw [← hf20.1] at hP hD
  have hq := hf20.2
  have hP : va_P D vwCl ([(q, .inl (dN, 32, .inl f20))] ++ (w3 ++ ([] : va_W))) H := hP
  have hD : va_D A ([(q, .inl (dN, 32, .inl f20))] ++ (w3 ++ ([] : va_W))) := hD
  refine lv_dup hx hb dX0_known_159 rfl ?_
  refine lv_bipush (v := (21 : Int32)) hx hb dX0_known_160 (by decide) ?_
  refine lv_sipush (v := (254 : Int32)) hx hb dX0_known_162 (by decide) ?_
  refine sm_ist hx hb hK hP hD hS 0 1 rfl rfl 21 rfl (by decide) (by decide) dX0_known_165 (fun H locs hP hD hS => ?_)
  have hP : va_P D vwCl ([(q, .inl (dN, 32, .inl (upd f20 21 (254 : Int32))))] ++ (w3 ++ ([] : va_W))) H := hP
  have hD : va_D A ([(q, .inl (dN, 32, .inl (upd f20 21 (254 : Int32))))] ++ (w3 ++ ([] : va_W))) := hD
  obtain ⟨f21, hf21⟩ : ∃ g_ : Nat → Int32, g_ = upd f20 21 (254 : Int32) ∧ ∀ i, i < 22 → g_ i = sm_out0 i := ⟨_, rfl, sm_kst hq rfl⟩
  rw [← hf21.1] at hP hD
  have hq := hf21.2
  have hP : va_P D vwCl ([(q, .inl (dN, 32, .inl f21))] ++ (w3 ++ ([] : va_W))) H := hP
  have hD : va_D A ([(q, .inl (dN, 32, .inl f21))] ++ (w3 ++ ([] : va_W))) := hD
  refine lv_dup hx hb dX0_known_166 rfl ?_
  refine lv_bipush (v := (22 : Int32)) hx hb dX0_known_167 (by decide) ?_
  refine lv_sipush (v := (251 : Int32)) hx hb dX0_known_169 (by decide) ?_
  refine sm_ist hx hb hK hP hD hS 0 1 rfl rfl 22 rfl (by decide) (by decide) dX0_known_172 (fun H locs hP hD hS => ?_)
  have hP : va_P D vwCl ([(q, .inl (dN, 32, .inl (upd f21 22 (251 : Int32))))] ++ (w3 ++ ([] : va_W))) H := hP
  have hD : va_D A ([(q, .inl (dN, 32, .inl (upd f21 22 (251 : Int32))))] ++ (w3 ++ ([] : va_W))) := hD
  obtain ⟨f22, hf22⟩ : ∃ g_ : Nat → Int32, g_ = upd f21 22 (251 : Int32) ∧ ∀ i, i < 23 → g_ i = sm_out0 i := ⟨_, rfl, sm_kst hq rfl⟩
  rw [← hf22.1] at hP hD
  have hq := hf22.2
  have hP : va_P D vwCl ([(q, .inl (dN, 32, .inl f22))] ++ (w3 ++ ([] : va_W))) H := hP
  have hD : va_D A ([(q, .inl (dN, 32, .inl f22))] ++ (w3 ++ ([] : va_W))) := hD
  refine lv_dup hx hb dX0_known_173 rfl ?_
  refine lv_bipush (v := (23 : Int32)) hx hb dX0_known_174 (by decide) ?_
  refine lv_bipush (v := (116 : Int32)) hx hb dX0_known_176 (by decide) ?_
  refine sm_ist hx hb hK hP hD hS 0 1 rfl rfl 23 rfl (by decide) (by decide) dX0_known_178 (fun H locs hP hD hS => ?_)
  have hP : va_P D vwCl ([(q, .inl (dN, 32, .inl (upd f22 23 (116 : Int32))))] ++ (w3 ++ ([] : va_W))) H := hP
  have hD : va_D A ([(q, .inl (dN, 32, .inl (upd f22 23 (116 : Int32))))] ++ (w3 ++ ([] : va_W))) := hD
  obtain ⟨f23, hf23⟩ : ∃ g_ : Nat → Int32, g_ = upd f22 23 (116 : Int32) ∧ ∀ i, i < 24 → g_ i = sm_out0 i := ⟨_, rfl, sm_kst hq rfl⟩
  rw [← hf23.1] at hP hD
  have hq := hf23.2
  have hP : va_P D vwCl ([(q, .inl (dN, 32, .inl f23))] ++ (w3 ++ ([] : va_W))) H := hP
  have hD : va_D A ([(q, .inl (dN, 32, .inl f23))] ++ (w3 ++ ([] : va_W))) := hD
  refine lv_dup hx hb dX0_known_179 rfl ?_
  refine lv_bipush (v := (24 : Int32)) hx hb dX0_known_180 (by decide) ?_
  refine lv_bipush (v := (126 : Int32)) hx hb dX0_known_182 (by decide) ?_
  refine sm_ist hx hb hK hP hD hS 0 1 rfl rfl 24 rfl (by decide) (by decide) dX0_known_184 (fun H locs hP hD hS => ?_)
  have hP : va_P D vwCl ([(q, .inl (dN, 32, .inl (upd f23 24 (126 : Int32))))] ++ (w3 ++ ([] : va_W))) H := hP
  have hD : va_D A ([(q, .inl (dN, 32, .inl (upd f23 24 (126 : Int32))))] ++ (w3 ++ ([] : va_W))) := hD
  obtain ⟨f24, hf24⟩ : ∃ g_ : Nat → Int32, g_ = upd f23 24 (126 : Int32) ∧ ∀ i, i < 25 → g_ i = sm_out0 i := ⟨_, rfl, sm_kst hq rfl⟩
  rw [← hf24.1] at hP hD
  have hq := hf24.2
  have hP : va_P D vwCl ([(q, .inl (dN, 32, .inl f24))] ++ (w3 ++ ([] : va_W))) H := hP
  have hD : va_D A ([(q, .inl (dN, 32, .inl f24))] ++ (w3 ++ ([] : va_W))) := hD
  refine lv_dup hx hb dX0_known_185 rfl ?_
  refine lv_bipush (v := (25 : Int32)) hx hb dX0_known_186 (by decide) ?_
  refine lv_sipush (v := (208 : Int32)) hx hb dX0_known_188 (by decide) ?_
  refine sm_ist hx hb hK hP hD hS 0 1 rfl rfl 25 rfl (by decide) (by decide) dX0_known_191 (fun H locs hP hD hS => ?_)
  have hP : va_P D vwCl ([(q, .inl (dN, 32, .inl (upd f24 25 (208 : Int32))))] ++ (w3 ++ ([] : va_W))) H := hP
  have hD : va_D A ([(q, .inl (dN, 32, .inl (upd f24 25 (208 : Int32))))] ++ (w3 ++ ([] : va_W))) := hD
  obtain ⟨f25, hf25⟩ : ∃ g_ : Nat → Int32, g_ = upd f24 25 (208 : Int32) ∧ ∀ i, i < 26 → g_ i = sm_out0 i := ⟨_, rfl, sm_kst hq rfl⟩
  rw [← hf25.1] at hP hD
  have hq := hf25.2
  have hP : va_P D vwCl ([(q, .inl (dN, 32, .inl f25))] ++ (w3 ++ ([] : va_W))) H := hP
  have hD : va_D A ([(q, .inl (dN, 32, .inl f25))] ++ (w3 ++ ([] : va_W))) := hD
  refine lv_dup hx hb dX0_known_192 rfl ?_
  refine lv_bipush (v := (26 : Int32)) hx hb dX0_known_193 (by decide) ?_
  refine lv_bipush (v := (53 : Int32)) hx hb dX0_known_195 (by decide) ?_
  refine sm_ist hx hb hK hP hD hS 0 1 rfl rfl 26 rfl (by decide) (by decide) dX0_known_197 (fun H locs hP hD hS => ?_)
  have hP : va_P D vwCl ([(q, .inl (dN, 32, .inl (upd f25 26 (53 : Int32))))] ++ (w3 ++ ([] : va_W))) H := hP
  have hD : va_D A ([(q, .inl (dN, 32, .inl (upd f25 26 (53 : Int32))))] ++ (w3 ++ ([] : va_W))) := hD
  obtain ⟨f26, hf26⟩ : ∃ g_ : Nat → Int32, g_ = upd f25 26 (53 : Int32) ∧ ∀ i, i < 27 → g_ i = sm_out0 i := ⟨_, rfl, sm_kst hq rfl⟩
  rw [← hf26.1] at hP hD
  have hq := hf26.2
  have hP : va_P D vwCl ([(q, .inl (dN, 32, .inl f26))] ++ (w3 ++ ([] : va_W))) H := hP
  have hD : va_D A ([(q, .inl (dN, 32, .inl f26))] ++ (w3 ++ ([] : va_W))) := hD
  refine lv_dup hx hb dX0_known_198 rfl ?_
  refine lv_bipush (v := (27 : Int32)) hx hb dX0_known_199 (by decide) ?_
  refine lv_sipush (v := (235 : Int32)) hx hb dX0_known_201 (by decide) ?_
  refine sm_ist hx hb hK hP hD hS 0 1 rfl rfl 27 rfl (by decide) (by decide) dX0_known_204 (fun H locs hP hD hS => ?_)
  have hP : va_P D vwCl ([(q, .inl (dN, 32, .inl (upd f26 27 (235 : Int32))))] ++ (w3 ++ ([] : va_W))) H := hP
  have hD : va_D A ([(q, .inl (dN, 32, .inl (upd f26 27 (235 : Int32))))] ++ (w3 ++ ([] : va_W))) := hD
  obtain ⟨f27, hf27⟩ : ∃ g_ : Nat → Int32, g_ = upd f26 27 (235 : Int32) ∧ ∀ i, i < 28 → g_ i = sm_out0 i := ⟨_, rfl, sm_kst hq rfl⟩
  rw [← hf27.1] at hP hD
  have hq := hf27.2
  have hP : va_P D vwCl ([(q, .inl (dN, 32, .inl f27))] ++ (w3 ++ ([] : va_W))) H := hP
  have hD : va_D A ([(q, .inl (dN, 32, .inl f27))] ++ (w3 ++ ([] : va_W))) := hD
  refine lv_dup hx hb dX0_known_205 rfl ?_
  refine lv_bipush (v := (28 : Int32)) hx hb dX0_known_206 (by decide) ?_
  refine lv_bipush (v := (80 : Int32)) hx hb dX0_known_208 (by decide) ?_
  refine sm_ist hx hb hK hP hD hS 0 1 rfl rfl 28 rfl (by decide) (by decide) dX0_known_210 (fun H locs hP hD hS => ?_)
  have hP : va_P D vwCl ([(q, .inl (dN, 32, .inl (upd f27 28 (80 : Int32))))] ++ (w3 ++ ([] : va_W))) H := hP
  have hD : va_D A ([(q, .inl (dN, 32, .inl (upd f27 28 (80 : Int32))))] ++ (w3 ++ ([] : va_W))) := hD
  obtain ⟨f28, hf28⟩ : ∃ g_ : Nat → Int32, g_ = upd f27 28 (80 : Int32) ∧ ∀ i, i < 29 → g_ i = sm_out0 i := ⟨_, rfl, sm_kst hq rfl⟩
  rw [← hf28.1] at hP hD
  have hq := hf28.2
  have hP : va_P D vwCl ([(q, .inl (dN, 32, .inl f28))] ++ (w3 ++ ([] : va_W))) H := hP
  have hD : va_D A ([(q, .inl (dN, 32, .inl f28))] ++ (w3 ++ ([] : va_W))) := hD
  refine lv_dup hx hb dX0_known_211 rfl ?_
  refine lv_bipush (v := (29 : Int32)) hx hb dX0_known_212 (by decide) ?_
  refine lv_sipush (v := (130 : Int32)) hx hb dX0_known_214 (by decide) ?_
  refine sm_ist hx hb hK hP hD hS 0 1 rfl rfl 29 rfl (by decide) (by decide) dX0_known_217 (fun H locs hP hD hS => ?_)
  have hP : va_P D vwCl ([(q, .inl (dN, 32, .inl (upd f28 29 (130 : Int32))))] ++ (w3 ++ ([] : va_W))) H := hP
  have hD : va_D A ([(q, .inl (dN, 32, .inl (upd f28 29 (130 : Int32))))] ++ (w3 ++ ([] : va_W))) := hD
  obtain ⟨f29, hf29⟩ : ∃ g_ : Nat → Int32, g_ = upd f28 29 (130 : Int32) ∧ ∀ i, i < 30 → g_ i = sm_out0 i := ⟨_, rfl, sm_kst hq rfl⟩
  rw [← hf29.1] at hP hD
  have hq := hf29.2
  have hP : va_P D vwCl ([(q, .inl (dN, 32, .inl f29))] ++ (w3 ++ ([] : va_W))) H := hP
  have hD : va_D A ([(q, .inl (dN, 32, .inl f29))] ++ (w3 ++ ([] : va_W))) := hD
  refine lv_dup hx hb dX0_known_218 rfl ?_
  refine lv_bipush (v := (30 : Int32)) hx hb dX0_known_219 (by decide) ?_
  refine lv_sipush (v := (170 : Int32)) hx hb dX0_known_221 (by decide) ?_
  refine sm_ist hx hb hK hP hD hS 0 1 rfl rfl 30 rfl (by decide) (by decide) dX0_known_224 (fun H locs hP hD hS => ?_)
  have hP : va_P D vwCl ([(q, .inl (dN, 32, .inl (upd f29 30 (170 : Int32))))] ++ (w3 ++ ([] : va_W))) H := hP
  have hD : va_D A ([(q, .inl (dN, 32, .inl (upd f29 30 (170 : Int32))))] ++ (w3 ++ ([] : va_W))) := hD
  obtain ⟨f30, hf30⟩ : ∃ g_ : Nat → Int32, g_ = upd f29 30 (170 : Int32) ∧ ∀ i, i < 31 → g_ i = sm_out0 i := ⟨_, rfl, sm_kst hq rfl⟩
  rw [← hf30.1] at hP hD
  have hq := hf30.2
  have hP : va_P D vwCl ([(q, .inl (dN, 32, .inl f30))] ++ (w3 ++ ([] : va_W))) H := hP
  have hD : va_D A ([(q, .inl (dN, 32, .inl f30))] ++ (w3 ++ ([] : va_W))) := hD
  refine lv_dup hx hb dX0_known_225 rfl ?_
  refine lv_bipush (v := (31 : Int32)) hx hb dX0_known_226 (by decide) ?_
  refine lv_bipush (v := (43 : Int32)) hx hb dX0_known_228 (by decide) ?_
  refine sm_ist hx hb hK hP hD hS 0 1 rfl rfl 31 rfl (by decide) (by decide) dX0_known_230 (fun H locs hP hD hS => ?_)
  have hP : va_P D vwCl ([(q, .inl (dN, 32, .inl (upd f30 31 (43 : Int32))))] ++ (w3 ++ ([] : va_W))) H := hP
  have hD : va_D A ([(q, .inl (dN, 32, .inl (upd f30 31 (43 : Int32))))] ++ (w3 ++ ([] : va_W))) := hD
  obtain ⟨f31, hf31⟩ : ∃ g_ : Nat → Int32, g_ = upd f30 31 (43 : Int32) ∧ ∀ i, i < 32 → g_ i = sm_out0 i := ⟨_, rfl, sm_kst hq rfl⟩
  rw [← hf31.1] at hP hD
  have hq := hf31.2
  have hP : va_P D vwCl ([(q, .inl (dN, 32, .inl f31))] ++ (w3 ++ ([] : va_W))) H := hP
  have hD : va_D A ([(q, .inl (dN, 32, .inl f31))] ++ (w3 ++ ([] : va_W))) := hD
  refine lv_astore_n (lv' := [(1, .ref q), (0, .ref d)]) hx hb dX0_known_231 rfl hl (by decide) rfl (fun ls hl => ?_)
  refine lv_iconst (v := (0 : Int32)) hx hb dX0_known_232 (by decide) ?_
  refine lv_topi (fun y_ ey_ => ?_)
  have ey_ : y_ = nI 0 := ey_.trans rfl
  subst ey_
  refine lv_istore_n (lv' := [(2, .int (nI 0)), (1, .ref q), (0, .ref d)]) hx hb dX0_known_233 rfl hl (by decide) rfl (fun ls hl => ?_)
  refine lp_k0 hw3 ⟨hx, hb, hr, hlk, hml, hown, hts⟩ (Nat.le_of_ble_eq_true rfl) (Nat.le_of_ble_eq_true rfl) ⟨Nat.le_of_ble_eq_true rfl, Nat.le_of_ble_eq_true rfl⟩ hK hP (fun j hj => (sm_k0 j hj).trans (hq j hj).symm) (fun ls hl => ?_) 32 0 ls rfl (lv_sub hl [2, 1, 0] rfl)
  have hP : va_P D vwCl [] H := fun k q h => by simp at h
  have hD : va_D A [] := ⟨fun i j p q h => by simp at h, fun k q h => by simp at h⟩
  refine va_new (ci := 1) (fs := [.null, .null, .int 0, .null, .int 0]) (C := RX1) (T := TX1) (N := 5) hx hb hts in_X1 tyX1 tyX1_ok hown (hts _ q166) (hts _ q24) (hts _ q10) hK hP hD hS hA rfl (fun j hj => by rcases (show j = 0 ∨ j = 1 ∨ j = 2 ∨ j = 3 ∨ j = 4 by omega) with rfl | rfl | rfl | rfl | rfl <;> rfl) (Nat.le_of_ble_eq_true rfl) (Nat.le_of_ble_eq_true rfl) dX0_known_259 (fun d2 H hP hD hS => ?_)
  have hP := sm_cmP hP
  have hD := sm_cmD hD
  have hP : va_P D vwCl ([(d2, .inr (1, [.null, .null, .int 0, .null, .int 0]))] ++ ([] : va_W)) H := hP
  have hD : va_D A ([(d2, .inr (1, [.null, .null, .int 0, .null, .int 0]))] ++ ([] : va_W)) := hD
  refine lv_dup hx hb dX0_known_262 rfl ?_
  have hPw := (sm_Psp (a := [(d2, .inr (1, [.null, .null, .int 0, .null, .int 0]))]) (b := ([] : va_W)) hP).1
  have hDw := (sm_Dsp (a := [(d2, .inr (1, [.null, .null, .int 0, .null, .int 0]))]) (b := ([] : va_W)) hD).1
  have hFc := sm_f0 (wc := [(d2, .inr (1, [.null, .null, .int 0, .null, .int 0]))]) (wb := ([] : va_W)) hD hS hA
  refine sm_b0v (wc := [(d2, .inr (1, [.null, .null, .int 0, .null, .int 0]))]) (wb := ([] : va_W)) (va_runI (As := []) (rest := [.ref d2]) ⟨hx, hb, hml, hown, hts⟩ (met_dn l D dB dN H.size tA pA d2 sm_msg1) (cwI 0 hts (lw_meth q169) rfl rfl rfl (hts _ q10) (hts _ q167) (hts _ q168) rfl (by decide +kernel) ⟨Nat.le_of_ble_eq_true rfl, Nat.le_of_ble_eq_true rfl⟩) ⟨sm_blind, sm_go hK hPw hDw hE hS hFc _⟩ rfl rfl hl.1 rfl (lv_room (Nat.le_of_ble_eq_true rfl)) dX0_known_263 ⟨Nat.le_of_ble_eq_true rfl, Nat.le_of_ble_eq_true rfl⟩) hP hD hS hFc (fun w0 H locs hw0 hP hD hS => ?_)
  refine lv_astore_n (lv' := [(2, .ref d2), (0, .ref d)]) hx hb dX0_known_266 rfl hl (by decide) rfl (fun ls hl => ?_)
  refine lv_aload_n hx hb dX0_known_267 rfl (lv_at hl 0 rfl) ?_
  refine lv_ldc (v := (1633837824 : Int32)) hx hb hown (hts _ q254) dX0_known_268 ?_
  refine lv_iconst (v := (0 : Int32)) hx hb dX0_known_270 (by decide) ?_
  refine lv_iconst (v := (0 : Int32)) hx hb dX0_known_271 (by decide) ?_
  refine lv_iconst (v := (0 : Int32)) hx hb dX0_known_272 (by decide) ?_
  have hPw := (sm_Psp (a := w0) hP).1
  have hDw := (sm_Dsp (a := w0) hD).1
  have hFc := sm_f0 (wc := w0) hD hS hA
  refine sm_b0i (wc := w0) (wb := ([] : va_W)) (va_runV (As := [.int (1633837824 : Int32), .int (0 : Int32), .int (0 : Int32), .int (0 : Int32)]) (rest := []) ⟨hx, hb, hml, hown, hts⟩ (met_put l D dB dN H.size tA pA w0 d2 sm_msg1 0 0 0 (fun _ => 0) (fun _ => 0) hw0 1633837824 0 0 0 (by decide)) (cwV 4 hts (lw_V q228 q229 q230 q10 q231) rfl rfl rfl (by decide +kernel) ⟨Nat.le_of_ble_eq_true rfl, Nat.le_of_ble_eq_true rfl⟩) ⟨sm_blind, sm_DS_rc hw0 hK hPw, sm_go hK hPw hDw hE hS hFc _⟩ rfl rfl hl.1 rfl (lv_room (Nat.le_of_ble_eq_true rfl)) dX0_known_273 ⟨Nat.le_of_ble_eq_true rfl, Nat.le_of_ble_eq_true rfl⟩) hP hD hS hFc (fun r1 w1 H locs hw_ hP hD hS => ?_)
  obtain ⟨hr1, hw1⟩ := hw_
  refine lv_pop hx hb dX0_known_276 rfl ?_
  refine lv_aload_n hx hb dX0_known_277 rfl (lv_at hl 0 rfl) ?_
  refine lv_iconst (v := (3 : Int32)) hx hb dX0_known_278 (by decide) ?_
  have hPw := (sm_Psp (a := w1) hP).1
  have hDw := (sm_Dsp (a := w1) hD).1
  have hFc := sm_f0 (wc := w1) hD hS hA
  refine sm_b0v (wc := w1) (wb := ([] : va_W)) (va_runV (As := [.int (3 : Int32)]) (rest := []) ⟨hx, hb, hml, hown, hts⟩ (met_trim l D dB dN H.size tA pA w1 d2 sm_msg1 0 0 (0 + 16) (sm_p4 (fun _ => 0) 0 1633837824 0 0 0) (fun _ => 0) hw1 3 (by decide)) (cwV 1 hts (lw_V q236 q237 q238 q10 q239) rfl rfl rfl (by decide +kernel) ⟨Nat.le_of_ble_eq_true rfl, Nat.le_of_ble_eq_true rfl⟩) ⟨sm_blind, sm_DS_rc hw1 hK hPw, sm_go hK hPw hDw hE hS hFc _⟩ rfl rfl hl.1 rfl (lv_room (Nat.le_of_ble_eq_true rfl)) dX0_known_279 ⟨Nat.le_of_ble_eq_true rfl, Nat.le_of_ble_eq_true rfl⟩) hP hD hS hFc (fun w2 H locs hw_ hP hD hS => ?_)
  have hw2 := hw_
  have hw2 : sm_DS dB dN pA d2 sm_msg1 0 0 3 (sm_p4 (fun _ => 0) 0 1633837824 0 0 0) (fun _ => 0) w2 := hw2
  refine lv_aload_n hx hb dX0_known_282 rfl (lv_at hl 0 rfl) ?_
  refine lv_iconst (v := (0 : Int32)) hx hb dX0_known_283 (by decide) ?_
  have hPw := (sm_Psp (a := w2) hP).1
  have hDw := (sm_Dsp (a := w2) hD).1
  have hFc := sm_f0 (wc := w2) hD hS hA
  refine sm_b0v (wc := w2) (wb := ([] : va_W)) (va_runV (As := [.int (0 : Int32)]) (rest := []) ⟨hx, hb, hml, hown, hts⟩ (met_begin l D dB dN H.size tA pA w2 d2 sm_msg1 0 0 3 (sm_p4 (fun _ => 0) 0 1633837824 0 0 0) (fun _ => 0) hw2 sm_msg1 0) (cwV 1 hts (lw_V q240 q241 q242 q10 q243) rfl rfl rfl (by decide +kernel) ⟨Nat.le_of_ble_eq_true rfl, Nat.le_of_ble_eq_true rfl⟩) ⟨sm_blind, sm_DS_rc hw2 hK hPw, sm_go hK hPw hDw hE hS hFc _⟩ rfl rfl hl.1 rfl (lv_room (Nat.le_of_ble_eq_true rfl)) dX0_known_284 ⟨Nat.le_of_ble_eq_true rfl, Nat.le_of_ble_eq_true rfl⟩) hP hD hS hFc (fun w3 H locs hw_ hP hD hS => ?_)
  have hw3 := hw_
  refine lv_aload_n hx hb dX0_known_287 rfl (lv_at hl 0 rfl) ?_
  refine lv_iconst (v := (0 : Int32)) hx hb dX0_known_288 (by decide) ?_
  refine lv_iconst (v := (3 : Int32)) hx hb dX0_known_289 (by decide) ?_
  have hPw := (sm_Psp (a := w3) hP).1
  have hDw := (sm_Dsp (a := w3) hD).1
  have hFc := sm_f0 (wc := w3) hD hS hA
  refine sm_b0i (wc := w3) (wb := ([] : va_W)) (va_runV (As := [.int (0 : Int32), .int (3 : Int32)]) (rest := []) ⟨hx, hb, hml, hown, hts⟩ (met_feed l D dB dN H.size tA pA w3 d2 sm_msg1 0 0 3 (sm_p4 (fun _ => 0) 0 1633837824 0 0 0) (fun _ => 0) hw3 0 3 0 3 rfl rfl (by decide) (by decide) (fun j hj => co_dec (P := fun j => (sm_p4 (fun _ => 0) 0 1633837824 0 0 0) (0 + j) = sm_msg1 (0 + j)) (N := 3) (by decide +kernel) hj) sm_By1) (cwV 2 hts (lw_V q17 q18 q19 q10 q20) rfl rfl rfl (by decide +kernel) ⟨Nat.le_of_ble_eq_true rfl, Nat.le_of_ble_eq_true rfl⟩) ⟨sm_blind, sm_DS_rc hw3 hK hPw, sm_go hK hPw hDw hE hS hFc _⟩ rfl rfl hl.1 rfl (lv_room (Nat.le_of_ble_eq_true rfl)) dX0_known_290 ⟨Nat.le_of_ble_eq_true rfl, Nat.le_of_ble_eq_true rfl⟩) hP hD hS hFc (fun r4 w4 H locs hw_ hP hD hS => ?_)
  obtain ⟨hr4, hw4⟩ := hw_
  refine lv_pop hx hb dX0_known_293 rfl ?_
  refine lv_aload_n hx hb dX0_known_294 rfl (lv_at hl 0 rfl) ?_
  have hPw := (sm_Psp (a := w4) hP).1
  have hDw := (sm_Dsp (a := w4) hD).1
  have hFc := sm_f0 (wc := w4) hD hS hA
  refine sm_b0i (wc := w4) (wb := ([] : va_W)) (va_runV (As := []) (rest := []) ⟨hx, hb, hml, hown, hts⟩ (met_close l D dB dN H.size tA pA w4 d2 sm_msg1 (0 + 3) (0 + 3) 3 (sm_p4 (fun _ => 0) 0 1633837824 0 0 0) (fun _ => 0) hw4 sm_msg1) (cwV 0 hts (lw_V q97 q98 q99 q10 q100) rfl rfl rfl (by decide +kernel) ⟨Nat.le_of_ble_eq_true rfl, Nat.le_of_ble_eq_true rfl⟩) ⟨sm_blind, sm_DS_rc hw4 hK hPw, sm_go hK hPw hDw hE hS hFc _⟩ rfl rfl hl.1 rfl (lv_room (Nat.le_of_ble_eq_true rfl)) dX0_known_295 ⟨Nat.le_of_ble_eq_true rfl, Nat.le_of_ble_eq_true rfl⟩) hP hD hS hFc (fun r5 w5 H locs hw_ hP hD hS => ?_)
  obtain ⟨hr5, hw5⟩ := hw_
  refine lv_pop hx hb dX0_known_298 rfl ?_
  refine lv_bipush (v := (32 : Int32)) hx hb dX0_known_299 (by decide) ?_
  refine sm_newa (atype := .int) hx hb (hts _ q211) rfl hK hP hD hS hA 1 rfl 32 (fun _ => rfl) rfl (by decide) (Nat.le_of_ble_eq_true rfl) (Nat.le_of_ble_eq_true rfl) (Nat.le_of_ble_eq_true rfl) dX0_known_301 (fun q2 H hP hD hS => ?_)
  have hP := sm_cmP hP
  have hD := sm_cmD hD
  have hP : va_P D vwCl ([(q2, .inl (dN, 32, .inl (fun _ => 0)))] ++ (w5 ++ ([] : va_W))) H := hP
  have hD : va_D A ([(q2, .inl (dN, 32, .inl (fun _ => 0)))] ++ (w5 ++ ([] : va_W))) := hD
  have hq : ∀ i, i < 0 → (fun _ : Nat => (0 : Int32)) i = sm_out1 i := fun i hi => absurd hi (by omega)
  refine lv_dup hx hb dX0_known_303 rfl ?_
  refine lv_iconst (v := (0 : Int32)) hx hb dX0_known_304 (by decide) ?_
  refine lv_bipush (v := (102 : Int32)) hx hb dX0_known_305 (by decide) ?_
  refine sm_ist hx hb hK hP hD hS 0 1 rfl rfl 0 rfl (by decide) (by decide) dX0_known_307 (fun H locs hP hD hS => ?_)
  have hP : va_P D vwCl ([(q2, .inl (dN, 32, .inl (upd (fun _ => 0) 0 (102 : Int32))))] ++ (w5 ++ ([] : va_W))) H := hP
  have hD : va_D A ([(q2, .inl (dN, 32, .inl (upd (fun _ => 0) 0 (102 : Int32))))] ++ (w5 ++ ([] : va_W))) := hD
  obtain ⟨f0, hf0⟩ : ∃ g_ : Nat → Int32, g_ = upd (fun _ => 0) 0 (102 : Int32) ∧ ∀ i, i < 1 → g_ i = sm_out1 i := ⟨_, rfl, sm_kst hq rfl⟩
  rw [← hf0.1] at hP hD
  have hq := hf0.2
  have hP : va_P D vwCl ([(q2, .inl (dN, 32, .inl f0))] ++ (w5 ++ ([] : va_W))) H := hP
  have hD : va_D A ([(q2, .inl (dN, 32, .inl f0))] ++ (w5 ++ ([] : va_W))) := hD
  refine lv_dup hx hb dX0_known_308 rfl ?_
  refine lv_iconst (v := (1 : Int32)) hx hb dX0_known_309 (by decide) ?_
  refine lv_sipush (v := (199 : Int32)) hx hb dX0_known_310 (by decide) ?_
  refine sm_ist hx hb hK hP hD hS 0 1 rfl rfl 1 rfl (by decide) (by decide) dX0_known_313 (fun H locs hP hD hS => ?_)
  have hP : va_P D vwCl ([(q2, .inl (dN, 32, .inl (upd f0 1 (199 : Int32))))] ++ (w5 ++ ([] : va_W))) H := hP
  have hD : va_D A ([(q2, .inl (dN, 32, .inl (upd f0 1 (199 : Int32))))] ++ (w5 ++ ([] : va_W))) := hD
  obtain ⟨f1, hf1⟩ : ∃ g_ : Nat → Int32, g_ = upd f0 1 (199 : Int32) ∧ ∀ i, i < 2 → g_ i = sm_out1 i := ⟨_, rfl, sm_kst hq rfl⟩
  rw [← hf1.1] at hP hD
  have hq := hf1.2
  have hP : va_P D vwCl ([(q2, .inl (dN, 32, .inl f1))] ++ (w5 ++ ([] : va_W))) H := hP
  have hD : va_D A ([(q2, .inl (dN, 32, .inl f1))] ++ (w5 ++ ([] : va_W))) := hD
  refine lv_dup hx hb dX0_known_314 rfl ?_
  refine lv_iconst (v := (2 : Int32)) hx hb dX0_known_315 (by decide) ?_
  refine lv_sipush (v := (240 : Int32)) hx hb dX0_known_316 (by decide) ?_
  refine sm_ist hx hb hK hP hD hS 0 1 rfl rfl 2 rfl (by decide) (by decide) dX0_known_319 (fun H locs hP hD hS => ?_)
  have hP : va_P D vwCl ([(q2, .inl (dN, 32, .inl (upd f1 2 (240 : Int32))))] ++ (w5 ++ ([] : va_W))) H := hP
  have hD : va_D A ([(q2, .inl (dN, 32, .inl (upd f1 2 (240 : Int32))))] ++ (w5 ++ ([] : va_W))) := hD
  obtain ⟨f2, hf2⟩ : ∃ g_ : Nat → Int32, g_ = upd f1 2 (240 : Int32) ∧ ∀ i, i < 3 → g_ i = sm_out1 i := ⟨_, rfl, sm_kst hq rfl⟩
  rw [← hf2.1] at hP hD
  have hq := hf2.2
  have hP : va_P D vwCl ([(q2, .inl (dN, 32, .inl f2))] ++ (w5 ++ ([] : va_W))) H := hP
  have hD : va_D A ([(q2, .inl (dN, 32, .inl f2))] ++ (w5 ++ ([] : va_W))) := hD
  refine lv_dup hx hb dX0_known_320 rfl ?_
  refine lv_iconst (v := (3 : Int32)) hx hb dX0_known_321 (by decide) ?_
  refine lv_sipush (v := (244 : Int32)) hx hb dX0_known_322 (by decide) ?_
  refine sm_ist hx hb hK hP hD hS 0 1 rfl rfl 3 rfl (by decide) (by decide) dX0_known_325 (fun H locs hP hD hS => ?_)
  have hP : va_P D vwCl ([(q2, .inl (dN, 32, .inl (upd f2 3 (244 : Int32))))] ++ (w5 ++ ([] : va_W))) H := hP
  have hD : va_D A ([(q2, .inl (dN, 32, .inl (upd f2 3 (244 : Int32))))] ++ (w5 ++ ([] : va_W))) := hD
  obtain ⟨f3, hf3⟩ : ∃ g_ : Nat → Int32, g_ = upd f2 3 (244 : Int32) ∧ ∀ i, i < 4 → g_ i = sm_out1 i := ⟨_, rfl, sm_kst hq rfl⟩
  rw [← hf3.1] at hP hD
  have hq := hf3.2
  have hP : va_P D vwCl ([(q2, .inl (dN, 32, .inl f3))] ++ (w5 ++ ([] : va_W))) H := hP
  have hD : va_D A ([(q2, .inl (dN, 32, .inl f3))] ++ (w5 ++ ([] : va_W))) := hD
  refine lv_dup hx hb dX0_known_326 rfl ?_
  refine lv_iconst (v := (4 : Int32)) hx hb dX0_known_327 (by decide) ?_
  refine lv_bipush (v := (98 : Int32)) hx hb dX0_known_328 (by decide) ?_
  refine sm_ist hx hb hK hP hD hS 0 1 rfl rfl 4 rfl (by decide) (by decide) dX0_known_330 (fun H locs hP hD hS => ?_)
  have hP : va_P D vwCl ([(q2, .inl (dN, 32, .inl (upd f3 4 (98 : Int32))))] ++ (w5 ++ ([] : va_W))) H := hP
  have hD : va_D A ([(q2, .inl (dN, 32, .inl (upd f3 4 (98 : Int32))))] ++ (w5 ++ ([] : va_W))) := hD
  obtain ⟨f4, hf4⟩ : ∃ g_ : Nat → Int32, g_ = upd f3 4 (98 : Int32) ∧ ∀ i, i < 5 → g_ i = sm_out1 i := ⟨_, rfl, sm_kst hq rfl⟩
  rw [← hf4.1] at hP hD
  have hq := hf4.2
  have hP : va_P D vwCl ([(q2, .inl (dN, 32, .inl f4))] ++ (w5 ++ ([] : va_W))) H := hP
  have hD : va_D A ([(q2, .inl (dN, 32, .inl f4))] ++ (w5 ++ ([] : va_W))) := hD
  refine lv_dup hx hb dX0_known_331 rfl ?_
  refine lv_iconst (v := (5 : Int32)) hx hb dX0_known_332 (by decide) ?_
  refine lv_sipush (v := (238 : Int32)) hx hb dX0_known_333 (by decide) ?_
  refine sm_ist hx hb hK hP hD hS 0 1 rfl rfl 5 rfl (by decide) (by decide) dX0_known_336 (fun H locs hP hD hS => ?_)
  have hP : va_P D vwCl ([(q2, .inl (dN, 32, .inl (upd f4 5 (238 : Int32))))] ++ (w5 ++ ([] : va_W))) H := hP
  have hD : va_D A ([(q2, .inl (dN, 32, .inl (upd f4 5 (238 : Int32))))] ++ (w5 ++ ([] : va_W))) := hD
  obtain ⟨f5, hf5⟩ : ∃ g_ : Nat → Int32, g_ = upd f4 5 (238 : Int32) ∧ ∀ i, i < 6 → g_ i = sm_out1 i := ⟨_, rfl, sm_kst hq rfl⟩
  rw [← hf5.1] at hP hD
  have hq := hf5.2
  have hP : va_P D vwCl ([(q2, .inl (dN, 32, .inl f5))] ++ (w5 ++ ([] : va_W))) H := hP
  have hD : va_D A ([(q2, .inl (dN, 32, .inl f5))] ++ (w5 ++ ([] : va_W))) := hD
  refine lv_dup hx hb dX0_known_337 rfl ?_
  refine lv_bipush (v := (6 : Int32)) hx hb dX0_known_338 (by decide) ?_
  refine lv_sipush (v := (237 : Int32)) hx hb dX0_known_340 (by decide) ?_
  refine sm_ist hx hb hK hP hD hS 0 1 rfl rfl 6 rfl (by decide) (by decide) dX0_known_343 (fun H locs hP hD hS => ?_)
  have hP : va_P D vwCl ([(q2, .inl (dN, 32, .inl (upd f5 6 (237 : Int32))))] ++ (w5 ++ ([] : va_W))) H := hP
  have hD : va_D A ([(q2, .inl (dN, 32, .inl (upd f5 6 (237 : Int32))))] ++ (w5 ++ ([] : va_W))) := hD
  obtain ⟨f6, hf6⟩ : ∃ g_ : Nat → Int32, g_ = upd f5 6 (237 : Int32) ∧ ∀ i, i < 7 → g_ i = sm_out1 i := ⟨_, rfl, sm_kst hq rfl⟩
  rw [← hf6.1] at hP hD
  have hq := hf6.2
  have hP : va_P D vwCl ([(q2, .inl (dN, 32, .inl f6))] ++ (w5 ++ ([] : va_W))) H := hP
  have hD : va_D A ([(q2, .inl (dN, 32, .inl f6))] ++ (w5 ++ ([] : va_W))) := hD
  refine lv_dup hx hb dX0_known_344 rfl ?_
  refine lv_bipush (v := (7 : Int32)) hx hb dX0_known_345 (by decide) ?_
  refine lv_sipush (v := (217 : Int32)) hx hb dX0_known_347 (by decide) ?_
  refine sm_ist hx hb hK hP hD hS 0 1 rfl rfl 7 rfl (by decide) (by decide) dX0_known_350 (fun H locs hP hD hS => ?_)
  have hP : va_P D vwCl ([(q2, .inl (dN, 32, .inl (upd f6 7 (217 : Int32))))] ++ (w5 ++ ([] : va_W))) H := hP
  have hD : va_D A ([(q2, .inl (dN, 32, .inl (upd f6 7 (217 : Int32))))] ++ (w5 ++ ([] : va_W))) := hD
  obtain ⟨f7, hf7⟩ : ∃ g_ : Nat → Int32, g_ = upd f6 7 (217 : Int32) ∧ ∀ i, i < 8 → g_ i = sm_out1 i := ⟨_, rfl, sm_kst hq rfl⟩
  rw [← hf7.1] at hP hD
  have hq := hf7.2
  have hP : va_P D vwCl ([(q2, .inl (dN, 32, .inl f7))] ++ (w5 ++ ([] : va_W))) H := hP
  have hD : va_D A ([(q2, .inl (dN, 32, .inl f7))] ++ (w5 ++ ([] : va_W))) := hD
  refine lv_dup hx hb dX0_known_351 rfl ?_
  refine lv_bipush (v := (8 : Int32)) hx hb dX0_known_352 (by decide) ?_
  refine lv_sipush (v := (209 : Int32)) hx hb dX0_known_354 (by decide) ?_
  refine sm_ist hx hb hK hP hD hS 0 1 rfl rfl 8 rfl (by decide) (by decide) dX0_known_357 (fun H locs hP hD hS => ?_)
  have hP : va_P D vwCl ([(q2, .inl (dN, 32, .inl (upd f7 8 (209 : Int32))))] ++ (w5 ++ ([] : va_W))) H := hP
  have hD : va_D A ([(q2, .inl (dN, 32, .inl (upd f7 8 (209 : Int32))))] ++ (w5 ++ ([] : va_W))) := hD
  obtain ⟨f8, hf8⟩ : ∃ g_ : Nat → Int32, g_ = upd f7 8 (209 : Int32) ∧ ∀ i, i < 9 → g_ i = sm_out1 i := ⟨_, rfl, sm_kst hq rfl⟩
  rw [← hf8.1] at hP hD
  have hq := hf8.2
  have hP : va_P D vwCl ([(q2, .inl (dN, 32, .inl f8))] ++ (w5 ++ ([] : va_W))) H := hP
  have hD : va_D A ([(q2, .inl (dN, 32, .inl f8))] ++ (w5 ++ ([] : va_W))) := hD
  refine lv_dup hx hb dX0_known_358 rfl ?_
  refine lv_bipush (v := (9 : Int32)) hx hb dX0_known_359 (by decide) ?_
  refine lv_sipush (v := (242 : Int32)) hx hb dX0_known_361 (by decide) ?_
  refine sm_ist hx hb hK hP hD hS 0 1 rfl rfl 9 rfl (by decide) (by decide) dX0_known_364 (fun H locs hP hD hS => ?_)
  have hP : va_P D vwCl ([(q2, .inl (dN, 32, .inl (upd f8 9 (242 : Int32))))] ++ (w5 ++ ([] : va_W))) H := hP
  have hD : va_D A ([(q2, .inl (dN, 32, .inl (upd f8 9 (242 : Int32))))] ++ (w5 ++ ([] : va_W))) := hD
  obtain ⟨f9, hf9⟩ : ∃ g_ : Nat → Int32, g_ = upd f8 9 (242 : Int32) ∧ ∀ i, i < 10 → g_ i = sm_out1 i := ⟨_, rfl, sm_kst hq rfl⟩
  rw [← hf9.1] at hP hD
  have hq := hf9.2
  have hP : va_P D vwCl ([(q2, .inl (dN, 32, .inl f9))] ++ (w5 ++ ([] : va_W))) H := hP
  have hD : va_D A ([(q2, .inl (dN, 32, .inl f9))] ++ (w5 ++ ([] : va_W))) := hD
  refine lv_dup hx hb dX0_known_365 rfl ?_
  refine lv_bipush (v := (10 : Int32)) hx hb dX0_known_366 (by decide) ?_
  refine lv_sipush (v := (212 : Int32)) hx hb dX0_known_368 (by decide) ?_
  refine sm_ist hx hb hK hP hD hS 0 1 rfl rfl 10 rfl (by decide) (by decide) dX0_known_371 (fun H locs hP hD hS => ?_)
  have hP : va_P D vwCl ([(q2, .inl (dN, 32, .inl (upd f9 10 (212 : Int32))))] ++ (w5 ++ ([] : va_W))) H := hP
  have hD : va_D A ([(q2, .inl (dN, 32, .inl (upd f9 10 (212 : Int32))))] ++ (w5 ++ ([] : va_W))) := hD
  obtain ⟨f10, hf10⟩ : ∃ g_ : Nat → Int32, g_ = upd f9 10 (212 : Int32) ∧ ∀ i, i < 11 → g_ i = sm_out1 i := ⟨_, rfl, sm_kst hq rfl⟩
  rw [← hf10.1] at hP hD
  have hq := hf10.2
  have hP : va_P D vwCl ([(q2, .inl (dN, 32, .inl f10))] ++ (w5 ++ ([] : va_W))) H := hP
  have hD : va_D A ([(q2, .inl (dN, 32, .inl f10))] ++ (w5 ++ ([] : va_W))) := hD
  refine lv_dup hx hb dX0_known_372 rfl ?_
  refine lv_bipush (v := (11 : Int32)) hx hb dX0_known_373 (by decide) ?_
  refine lv_bipush (v := (107 : Int32)) hx hb dX0_known_375 (by decide) ?_
  refine sm_ist hx hb hK hP hD hS 0 1 rfl rfl 11 rfl (by decide) (by decide) dX0_known_377 (fun H locs hP hD hS => ?_)
  have hP : va_P D vwCl ([(q2, .inl (dN, 32, .inl (upd f10 11 (107 : Int32))))] ++ (w5 ++ ([] : va_W))) H := hP
  have hD : va_D A ([(q2, .inl (dN, 32, .inl (upd f10 11 (107 : Int32))))] ++ (w5 ++ ([] : va_W))) := hD
  obtain ⟨f11, hf11⟩ : ∃ g_ : Nat → Int32, g_ = upd f10 11 (107 : Int32) ∧ ∀ i, i < 12 → g_ i = sm_out1 i := ⟨_, rfl, sm_kst hq rfl⟩
  rw [← hf11.1] at hP hD
  have hq := hf11.2
  have hP : va_P D vwCl ([(q2, .inl (dN, 32, .inl f11))] ++ (w5 ++ ([] : va_W))) H := hP
  have hD : va_D A ([(q2, .inl (dN, 32, .inl f11))] ++ (w5 ++ ([] : va_W))) := hD
  refine lv_dup hx hb dX0_known_378 rfl ?_
  refine lv_bipush (v := (12 : Int32)) hx hb dX0_known_379 (by decide) ?_
  refine lv_sipush (v := (220 : Int32)) hx hb dX0_known_381 (by decide) ?_
  refine sm_ist hx hb hK hP hD hS 0 1 rfl rfl 12 rfl (by decide) (by decide) dX0_known_384 (fun H locs hP hD hS => ?_)
  have hP : va_P D vwCl ([(q2, .inl (dN, 32, .inl (upd f11 12 (220 : Int32))))] ++ (w5 ++ ([] : va_W))) H := hP
  have hD : va_D A ([(q2, .inl (dN, 32, .inl (upd f11 12 (220 : Int32))))] ++ (w5 ++ ([] : va_W))) := hD
  obtain ⟨f12, hf12⟩ : ∃ g_ : Nat → Int32, g_ = upd f11 12 (220 : Int32) ∧ ∀ i, i < 13 → g_ i = sm_out1 i := ⟨_, rfl, sm_kst hq rfl⟩
  rw [← hf12.1] at hP hD
  have hq := hf12.2
  have hP : va_P D vwCl ([(q2, .inl (dN, 32, .inl f12))] ++ (w5 ++ ([] : va_W))) H := hP
  have hD : va_D A ([(q2, .inl (dN, 32, .inl f12))] ++ (w5 ++ ([] : va_W))) := hD
  refine lv_dup hx hb dX0_known_385 rfl ?_
  refine lv_bipush (v := (13 : Int32)) hx hb dX0_known_386 (by decide) ?_
  refine lv_bipush (v := (16 : Int32)) hx hb dX0_known_388 (by decide) ?_
  refine sm_ist hx hb hK hP hD hS 0 1 rfl rfl 13 rfl (by decide) (by decide) dX0_known_390 (fun H locs hP hD hS => ?_)
  have hP : va_P D vwCl ([(q2, .inl (dN, 32, .inl (upd f12 13 (16 : Int32))))] ++ (w5 ++ ([] : va_W))) H := hP
  have hD : va_D A ([(q2, .inl (dN, 32, .inl (upd f12 13 (16 : Int32))))] ++ (w5 ++ ([] : va_W))) := hD
  obtain ⟨f13, hf13⟩ : ∃ g_ : Nat → Int32, g_ = upd f12 13 (16 : Int32) ∧ ∀ i, i < 14 → g_ i = sm_out1 i := ⟨_, rfl, sm_kst hq rfl⟩
  rw [← hf13.1] at hP hD
  have hq := hf13.2
  have hP : va_P D vwCl ([(q2, .inl (dN, 32, .inl f13))] ++ (w5 ++ ([] : va_W))) H := hP
  have hD : va_D A ([(q2, .inl (dN, 32, .inl f13))] ++ (w5 ++ ([] : va_W))) := hD
  refine lv_dup hx hb dX0_known_391 rfl ?_
  refine lv_bipush (v := (14 : Int32)) hx hb dX0_known_392 (by decide) ?_
  refine lv_sipush (v := (228 : Int32)) hx hb dX0_known_394 (by decide) ?_
  refine sm_ist hx hb hK hP hD hS 0 1 rfl rfl 14 rfl (by decide) (by decide) dX0_known_397 (fun H locs hP hD hS => ?_)
  have hP : va_P D vwCl ([(q2, .inl (dN, 32, .inl (upd f13 14 (228 : Int32))))] ++ (w5 ++ ([] : va_W))) H := hP
  have hD : va_D A ([(q2, .inl (dN, 32, .inl (upd f13 14 (228 : Int32))))] ++ (w5 ++ ([] : va_W))) := hD
  obtain ⟨f14, hf14⟩ : ∃ g_ : Nat → Int32, g_ = upd f13 14 (228 : Int32) ∧ ∀ i, i < 15 → g_ i = sm_out1 i := ⟨_, rfl, sm_kst hq rfl⟩
  rw [← hf14.1] at hP hD
  have hq := hf14.2
  have hP : va_P D vwCl ([(q2, .inl (dN, 32, .inl f14))] ++ (w5 ++ ([] : va_W))) H := hP
  have hD : va_D A ([(q2, .inl (dN, 32, .inl f14))] ++ (w5 ++ ([] : va_W))) := hD
  refine lv_dup hx hb dX0_known_398 rfl ?_
  refine lv_bipush (v := (15 : Int32)) hx hb dX0_known_399 (by decide) ?_
  refine lv_sipush (v := (226 : Int32)) hx hb dX0_known_401 (by decide) ?_
  refine sm_ist hx hb hK hP hD hS 0 1 rfl rfl 15 rfl (by decide) (by decide) dX0_known_404 (fun H locs hP hD hS => ?_)
  have hP : va_P D vwCl ([(q2, .inl (dN, 32, .inl (upd f14 15 (226 : Int32))))] ++ (w5 ++ ([] : va_W))) H := hP
  have hD : va_D A ([(q2, .inl (dN, 32, .inl (upd f14 15 (226 : Int32))))] ++ (w5 ++ ([] : va_W))) := hD
  obtain ⟨f15, hf15⟩ : ∃ g_ : Nat → Int32, g_ = upd f14 15 (226 : Int32) ∧ ∀ i, i < 16 → g_ i = sm_out1 i := ⟨_, rfl, sm_kst hq rfl⟩
  rw [← hf15.1] at hP hD
  have hq := hf15.2
  have hP : va_P D vwCl ([(q2, .inl (dN, 32, .inl f15))] ++ (w5 ++ ([] : va_W))) H := hP
  have hD : va_D A ([(q2, .inl (dN, 32, .inl f15))] ++ (w5 ++ ([] : va_W))) := hD
  refine lv_dup hx hb dX0_known_405 rfl ?_
  refine lv_bipush (v := (16 : Int32)) hx hb dX0_known_406 (by decide) ?_
  refine lv_bipush (v := (65 : Int32)) hx hb dX0_known_408 (by decide) ?_
  refine sm_ist hx hb hK hP hD hS 0 1 rfl rfl 16 rfl (by decide) (by decide) dX0_known_410 (fun H locs hP hD hS => ?_)
  have hP : va_P D vwCl ([(q2, .inl (dN, 32, .inl (upd f15 16 (65 : Int32))))] ++ (w5 ++ ([] : va_W))) H := hP
  have hD : va_D A ([(q2, .inl (dN, 32, .inl (upd f15 16 (65 : Int32))))] ++ (w5 ++ ([] : va_W))) := hD
  obtain ⟨f16, hf16⟩ : ∃ g_ : Nat → Int32, g_ = upd f15 16 (65 : Int32) ∧ ∀ i, i < 17 → g_ i = sm_out1 i := ⟨_, rfl, sm_kst hq rfl⟩
  rw [← hf16.1] at hP hD
  have hq := hf16.2
  have hP : va_P D vwCl ([(q2, .inl (dN, 32, .inl f16))] ++ (w5 ++ ([] : va_W))) H := hP
  have hD : va_D A ([(q2, .inl (dN, 32, .inl f16))] ++ (w5 ++ ([] : va_W))) := hD
  refine lv_dup hx hb dX0_known_411 rfl ?_
  refine lv_bipush (v := (17 : Int32)) hx hb dX0_known_412 (by decide) ?_
  refine lv_bipush (v := (103 : Int32)) hx hb dX0_known_414 (by decide) ?_
  refine sm_ist hx hb hK hP hD hS 0 1 rfl rfl 17 rfl (by decide) (by decide) dX0_known_416 (fun H locs hP hD hS => ?_)
  have hP : va_P D vwCl ([(q2, .inl (dN, 32, .inl (upd f16 17 (103 : Int32))))] ++ (w5 ++ ([] : va_W))) H := hP
  have hD : va_D A ([(q2, .inl (dN, 32, .inl (upd f16 17 (103 : Int32))))] ++ (w5 ++ ([] : va_W))) := hD
  obtain ⟨f17, hf17⟩ : ∃ g_ : Nat → Int32, g_ = upd f16 17 (103 : Int32) ∧ ∀ i, i < 18 → g_ i = sm_out1 i := ⟨_, rfl, sm_kst hq rfl⟩
  rw [← hf17.1] at hP hD
  have hq := hf17.2
  have hP : va_P D vwCl ([(q2, .inl (dN, 32, .inl f17))] ++ (w5 ++ ([] : va_W))) H := hP
  have hD : va_D A ([(q2, .inl (dN, 32, .inl f17))] ++ (w5 ++ ([] : va_W))) := hD
  refine lv_dup hx hb dX0_known_417 rfl ?_
  refine lv_bipush (v := (18 : Int32)) hx hb dX0_known_418 (by decide) ?_
  refine lv_sipush (v := (196 : Int32)) hx hb dX0_known_420 (by decide) ?_
  refine sm_ist hx hb hK hP hD hS 0 1 rfl rfl 18 rfl (by decide) (by decide) dX0_known_423 (fun H locs hP hD hS => ?_)
  have hP : va_P D vwCl ([(q2, .inl (dN, 32, .inl (upd f17 18 (196 : Int32))))] ++ (w5 ++ ([] : va_W))) H := hP
  have hD : va_D A ([(q2, .inl (dN, 32, .inl (upd f17 18 (196 : Int32))))] ++ (w5 ++ ([] : va_W))) := hD
  obtain ⟨f18, hf18⟩ : ∃ g_ : Nat → Int32, g_ = upd f17 18 (196 : Int32) ∧ ∀ i, i < 19 → g_ i = sm_out1 i := ⟨_, rfl, sm_kst hq rfl⟩
  rw [← hf18.1] at hP hD
  have hq := hf18.2
  have hP : va_P D vwCl ([(q2, .inl (dN, 32, .inl f18))] ++ (w5 ++ ([] : va_W))) H := hP
  have hD : va_D A ([(q2, .inl (dN, 32, .inl f18))] ++ (w5 ++ ([] : va_W))) := hD
  refine lv_dup hx hb dX0_known_424 rfl ?_
  refine lv_bipush (v := (19 : Int32)) hx hb dX0_known_425 (by decide) ?_
  refine lv_sipush (v := (135 : Int32)) hx hb dX0_known_427 (by decide) ?_
  refine sm_ist hx hb hK hP hD hS 0 1 rfl rfl 19 rfl (by decide) (by decide) dX0_known_430 (fun H locs hP hD hS => ?_)
  have hP : va_P D vwCl ([(q2, .inl (dN, 32, .inl (upd f18 19 (135 : Int32))))] ++ (w5 ++ ([] : va_W))) H := hP
  have hD : va_D A ([(q2, .inl (dN, 32, .inl (upd f18 19 (135 : Int32))))] ++ (w5 ++ ([] : va_W))) := hD
  obtain ⟨f19, hf19⟩ : ∃ g_ : Nat → Int32, g_ = upd f18 19 (135 : Int32) ∧ ∀ i, i < 20 → g_ i = sm_out1 i := ⟨_, rfl, sm_kst hq rfl⟩
  rw [← hf19.1] at hP hD
  have hq := hf19.2
  have hP : va_P D vwCl ([(q2, .inl (dN, 32, .inl f19))] ++ (w5 ++ ([] : va_W))) H := hP
  have hD : va_D A ([(q2, .inl (dN, 32, .inl f19))] ++ (w5 ++ ([] : va_W))) := hD
  refine lv_dup hx hb dX0_known_431 rfl ?_
  refine lv_bipush (v := (20 : Int32)) hx hb dX0_known_432 (by decide) ?_
  refine lv_bipush (v := (92 : Int32)) hx hb dX0_known_434 (by decide) ?_
  refine sm_ist hx hb hK hP hD hS 0 1 rfl rfl 20 rfl (by decide) (by decide) dX0_known_436 (fun H locs hP hD hS => ?_)
  have hP : va_P D vwCl ([(q2, .inl (dN, 32, .inl (upd f19 20 (92 : Int32))))] ++ (w5 ++ ([] : va_W))) H := hP
  have hD : va_D A ([(q2, .inl (dN, 32, .inl (upd f19 20 (92 : Int32))))] ++ (w5 ++ ([] : va_W))) := hD
  obtain ⟨f20, hf20⟩ : ∃ g_ : Nat → Int32, g_ = upd f19 20 (92 : Int32) ∧ ∀ i, i < 21 → g_ i = sm_out1 i := ⟨_, rfl, sm_kst hq rfl⟩
  rw [← hf20.1] at hP hD
  have hq := hf20.2
  have hP : va_P D vwCl ([(q2, .inl (dN, 32, .inl f20))] ++ (w5 ++ ([] : va_W))) H := hP
  have hD : va_D A ([(q2, .inl (dN, 32, .inl f20))] ++ (w5 ++ ([] : va_W))) := hD
  refine lv_dup hx hb dX0_known_437 rfl ?_
  refine lv_bipush (v := (21 : Int32)) hx hb dX0_known_438 (by decide) ?_
  refine lv_sipush (v := (242 : Int32)) hx hb dX0_known_440 (by decide) ?_
  refine sm_ist hx hb hK hP hD hS 0 1 rfl rfl 21 rfl (by decide) (by decide) dX0_known_443 (fun H locs hP hD hS => ?_)
  have hP : va_P D vwCl ([(q2, .inl (dN, 32, .inl (upd f20 21 (242 : Int32))))] ++ (w5 ++ ([] : va_W))) H := hP
  have hD : va_D A ([(q2, .inl (dN, 32, .inl (upd f20 21 (242 : Int32))))] ++ (w5 ++ ([] : va_W))) := hD
  obtain ⟨f21, hf21⟩ : ∃ g_ : Nat → Int32, g_ = upd f20 21 (242 : Int32) ∧ ∀ i, i < 22 → g_ i = sm_out1 i := ⟨_, rfl, sm_kst hq rfl⟩
  rw [← hf21.1] at hP hD
  have hq := hf21.2
  have hP : va_P D vwCl ([(q2, .inl (dN, 32, .inl f21))] ++ (w5 ++ ([] : va_W))) H := hP
  have hD : va_D A ([(q2, .inl (dN, 32, .inl f21))] ++ (w5 ++ ([] : va_W))) := hD
  refine lv_dup hx hb dX0_known_444 rfl ?_
  refine lv_bipush (v := (22 : Int32)) hx hb dX0_known_445 (by decide) ?_
  refine lv_sipush (v := (247 : Int32)) hx hb dX0_known_447 (by decide) ?_
  refine sm_ist hx hb hK hP hD hS 0 1 rfl rfl 22 rfl (by decide) (by decide) dX0_known_450 (fun H locs hP hD hS => ?_)
  have hP : va_P D vwCl ([(q2, .inl (dN, 32, .inl (upd f21 22 (247 : Int32))))] ++ (w5 ++ ([] : va_W))) H := hP
  have hD : va_D A ([(q2, .inl (dN, 32, .inl (upd f21 22 (247 : Int32))))] ++ (w5 ++ ([] : va_W))) := hD
  obtain ⟨f22, hf22⟩ : ∃ g_ : Nat → Int32, g_ = upd f21 22 (247 : Int32) ∧ ∀ i, i < 23 → g_ i = sm_out1 i := ⟨_, rfl, sm_kst hq rfl⟩
  rw [← hf22.1] at hP hD
  have hq := hf22.2
  have hP : va_P D vwCl ([(q2, .inl (dN, 32, .inl f22))] ++ (w5 ++ ([] : va_W))) H := hP
  have hD : va_D A ([(q2, .inl (dN, 32, .inl f22))] ++ (w5 ++ ([] : va_W))) := hD
  refine lv_dup hx hb dX0_known_451 rfl ?_
  refine lv_bipush (v := (23 : Int32)) hx hb dX0_known_452 (by decide) ?_
  refine lv_sipush (v := (162 : Int32)) hx hb dX0_known_454 (by decide) ?_
  refine sm_ist hx hb hK hP hD hS 0 1 rfl rfl 23 rfl (by decide) (by decide) dX0_known_457 (fun H locs hP hD hS => ?_)
  have hP : va_P D vwCl ([(q2, .inl (dN, 32, .inl (upd f22 23 (162 : Int32))))] ++ (w5 ++ ([] : va_W))) H := hP
  have hD : va_D A ([(q2, .inl (dN, 32, .inl (upd f22 23 (162 : Int32))))] ++ (w5 ++ ([] : va_W))) := hD
  obtain ⟨f23, hf23⟩ : ∃ g_ : Nat → Int32, g_ = upd f22 23 (162 : Int32) ∧ ∀ i, i < 24 → g_ i = sm_out1 i := ⟨_, rfl, sm_kst hq rfl⟩
  rw [← hf23.1] at hP hD
  have hq := hf23.2
  have hP : va_P D vwCl ([(q2, .inl (dN, 32, .inl f23))] ++ (w5 ++ ([] : va_W))) H := hP
  have hD : va_D A ([(q2, .inl (dN, 32, .inl f23))] ++ (w5 ++ ([] : va_W))) := hD
  refine lv_dup hx hb dX0_known_458 rfl ?_
  refine lv_bipush (v := (24 : Int32)) hx hb dX0_known_459 (by decide) ?_
  refine lv_bipush (v := (41 : Int32)) hx hb dX0_known_461 (by decide) ?_
  refine sm_ist hx hb hK hP hD hS 0 1 rfl rfl 24 rfl (by decide) (by decide) dX0_known_463 (fun H locs hP hD hS => ?_)
  have hP : va_P D vwCl ([(q2, .inl (dN, 32, .inl (upd f23 24 (41 : Int32))))] ++ (w5 ++ ([] : va_W))) H := hP
  have hD : va_D A ([(q2, .inl (dN, 32, .inl (upd f23 24 (41 : Int32))))] ++ (w5 ++ ([] : va_W))) := hD
  obtain ⟨f24, hf24⟩ : ∃ g_ : Nat → Int32, g_ = upd f23 24 (41 : Int32) ∧ ∀ i, i < 25 → g_ i = sm_out1 i := ⟨_, rfl, sm_kst hq rfl⟩
  rw [← hf24.1] at hP hD
  have hq := hf24.2
  have hP : va_P D vwCl ([(q2, .inl (dN, 32, .inl f24))] ++ (w5 ++ ([] : va_W))) H := hP
  have hD : va_D A ([(q2, .inl (dN, 32, .inl f24))] ++ (w5 ++ ([] : va_W))) := hD
  refine lv_dup hx hb dX0_known_464 rfl ?_
  refine lv_bipush (v := (25 : Int32)) hx hb dX0_known_465 (by decide) ?_
  refine lv_bipush (v := (125 : Int32)) hx hb dX0_known_467 (by decide) ?_
  refine sm_ist hx hb hK hP hD hS 0 1 rfl rfl 25 rfl (by decide) (by decide) dX0_known_469 (fun H locs hP hD hS => ?_)
  have hP : va_P D vwCl ([(q2, .inl (dN, 32, .inl (upd f24 25 (125 : Int32))))] ++ (w5 ++ ([] : va_W))) H := hP
  have hD : va_D A ([(q2, .inl (dN, 32, .inl (upd f24 25 (125 : Int32))))] ++ (w5 ++ ([] : va_W))) := hD
  obtain ⟨f25, hf25⟩ : ∃ g_ : Nat → Int32, g_ = upd f24 25 (125 : Int32) ∧ ∀ i, i < 26 → g_ i = sm_out1 i := ⟨_, rfl, sm_kst hq rfl⟩
  rw [← hf25.1] at hP hD
  have hq := hf25.2
  have hP : va_P D vwCl ([(q2, .inl (dN, 32, .inl f25))] ++ (w5 ++ ([] : va_W))) H := hP
  have hD : va_D A ([(q2, .inl (dN, 32, .inl f25))] ++ (w5 ++ ([] : va_W))) := hD
  refine lv_dup hx hb dX0_known_470 rfl ?_
  refine lv_bipush (v := (26 : Int32)) hx hb dX0_known_471 (by decide) ?_
  refine lv_sipush (v := (160 : Int32)) hx hb dX0_known_473 (by decide) ?_
  refine sm_ist hx hb hK hP hD hS 0 1 rfl rfl 26 rfl (by decide) (by decide) dX0_known_476 (fun H locs hP hD hS => ?_)
  have hP : va_P D vwCl ([(q2, .inl (dN, 32, .inl (upd f25 26 (160 : Int32))))] ++ (w5 ++ ([] : va_W))) H := hP
  have hD : va_D A ([(q2, .inl (dN, 32, .inl (upd f25 26 (160 : Int32))))] ++ (w5 ++ ([] : va_W))) := hD
  obtain ⟨f26, hf26⟩ : ∃ g_ : Nat → Int32, g_ = upd f25 26 (160 : Int32) ∧ ∀ i, i < 27 → g_ i = sm_out1 i := ⟨_, rfl, sm_kst hq rfl⟩
  rw [← hf26.1] at hP hD
  have hq := hf26.2
  have hP : va_P D vwCl ([(q2, .inl (dN, 32, .inl f26))] ++ (w5 ++ ([] : va_W))) H := hP
  have hD : va_D A ([(q2, .inl (dN, 32, .inl f26))] ++ (w5 ++ ([] : va_W))) := hD
  refine lv_dup hx hb dX0_known_477 rfl ?_
  refine lv_bipush (v := (27 : Int32)) hx hb dX0_known_478 (by decide) ?_
  refine lv_bipush (v := (43 : Int32)) hx hb dX0_known_480 (by decide) ?_
  refine sm_ist hx hb hK hP hD hS 0 1 rfl rfl 27 rfl (by decide) (by decide) dX0_known_482 (fun H locs hP hD hS => ?_)
  have hP : va_P D vwCl ([(q2, .inl (dN, 32, .inl (upd f26 27 (43 : Int32))))] ++ (w5 ++ ([] : va_W))) H := hP
  have hD : va_D A ([(q2, .inl (dN, 32, .inl (upd f26 27 (43 : Int32))))] ++ (w5 ++ ([] : va_W))) := hD
  obtain ⟨f27, hf27⟩ : ∃ g_ : Nat → Int32, g_ = upd f26 27 (43 : Int32) ∧ ∀ i, i < 28 → g_ i = sm_out1 i := ⟨_, rfl, sm_kst hq rfl⟩
  rw [← hf27.1] at hP hD
  have hq := hf27.2
  have hP : va_P D vwCl ([(q2, .inl (dN, 32, .inl f27))] ++ (w5 ++ ([] : va_W))) H := hP
  have hD : va_D A ([(q2, .inl (dN, 32, .inl f27))] ++ (w5 ++ ([] : va_W))) := hD
  refine lv_dup hx hb dX0_known_483 rfl ?_
  refine lv_bipush (v := (28 : Int32)) hx hb dX0_known_484 (by decide) ?_
  refine lv_sipush (v := (143 : Int32)) hx hb dX0_known_486 (by decide) ?_
  refine sm_ist hx hb hK hP hD hS 0 1 rfl rfl 28 rfl (by decide) (by decide) dX0_known_489 (fun H locs hP hD hS => ?_)
  have hP : va_P D vwCl ([(q2, .inl (dN, 32, .inl (upd f27 28 (143 : Int32))))] ++ (w5 ++ ([] : va_W))) H := hP
  have hD : va_D A ([(q2, .inl (dN, 32, .inl (upd f27 28 (143 : Int32))))] ++ (w5 ++ ([] : va_W))) := hD
  obtain ⟨f28, hf28⟩ : ∃ g_ : Nat → Int32, g_ = upd f27 28 (143 : Int32) ∧ ∀ i, i < 29 → g_ i = sm_out1 i := ⟨_, rfl, sm_kst hq rfl⟩
  rw [← hf28.1] at hP hD
  have hq := hf28.2
  have hP : va_P D vwCl ([(q2, .inl (dN, 32, .inl f28))] ++ (w5 ++ ([] : va_W))) H := hP
  have hD : va_D A ([(q2, .inl (dN, 32, .inl f28))] ++ (w5 ++ ([] : va_W))) := hD
  refine lv_dup hx hb dX0_known_490 rfl ?_
  refine lv_bipush (v := (29 : Int32)) hx hb dX0_known_491 (by decide) ?_
  refine lv_bipush (v := (75 : Int32)) hx hb dX0_known_493 (by decide) ?_
  refine sm_ist hx hb hK hP hD hS 0 1 rfl rfl 29 rfl (by decide) (by decide) dX0_known_495 (fun H locs hP hD hS => ?_)
  have hP : va_P D vwCl ([(q2, .inl (dN, 32, .inl (upd f28 29 (75 : Int32))))] ++ (w5 ++ ([] : va_W))) H := hP
  have hD : va_D A ([(q2, .inl (dN, 32, .inl (upd f28 29 (75 : Int32))))] ++ (w5 ++ ([] : va_W))) := hD
  obtain ⟨f29, hf29⟩ : ∃ g_ : Nat → Int32, g_ = upd f28 29 (75 : Int32) ∧ ∀ i, i < 30 → g_ i = sm_out1 i := ⟨_, rfl, sm_kst hq rfl⟩
  rw [← hf29.1] at hP hD
  have hq := hf29.2
  have hP : va_P D vwCl ([(q2, .inl (dN, 32, .inl f29))] ++ (w5 ++ ([] : va_W))) H := hP
  have hD : va_D A ([(q2, .inl (dN, 32, .inl f29))] ++ (w5 ++ ([] : va_W))) := hD
  refine lv_dup hx hb dX0_known_496 rfl ?_
  refine lv_bipush (v := (30 : Int32)) hx hb dX0_known_497 (by decide) ?_
  refine lv_sipush (v := (168 : Int32)) hx hb dX0_known_499 (by decide) ?_
  refine sm_ist hx hb hK hP hD hS 0 1 rfl rfl 30 rfl (by decide) (by decide) dX0_known_502 (fun H locs hP hD hS => ?_)
  have hP : va_P D vwCl ([(q2, .inl (dN, 32, .inl (upd f29 30 (168 : Int32))))] ++ (w5 ++ ([] : va_W))) H := hP
  have hD : va_D A ([(q2, .inl (dN, 32, .inl (upd f29 30 (168 : Int32))))] ++ (w5 ++ ([] : va_W))) := hD
  obtain ⟨f30, hf30⟩ : ∃ g_ : Nat → Int32, g_ = upd f29 30 (168 : Int32) ∧ ∀ i, i < 31 → g_ i = sm_out1 i := ⟨_, rfl, sm_kst hq rfl⟩
  rw [← hf30.1] at hP hD
  have hq := hf30.2
  have hP : va_P D vwCl ([(q2, .inl (dN, 32, .inl f30))] ++ (w5 ++ ([] : va_W))) H := hP
  have hD : va_D A ([(q2, .inl (dN, 32, .inl f30))] ++ (w5 ++ ([] : va_W))) := hD
  refine lv_dup hx hb dX0_known_503 rfl ?_
  refine lv_bipush (v := (31 : Int32)) hx hb dX0_known_504 (by decide) ?_
  refine lv_sipush (v := (224 : Int32)) hx hb dX0_known_506 (by decide) ?_
  refine sm_ist hx hb hK hP hD hS 0 1 rfl rfl 31 rfl (by decide) (by decide) dX0_known_509 (fun H locs hP hD hS => ?_)
  have hP : va_P D vwCl ([(q2, .inl (dN, 32, .inl (upd f30 31 (224 : Int32))))] ++ (w5 ++ ([] : va_W))) H := hP
  have hD : va_D A ([(q2, .inl (dN, 32, .inl (upd f30 31 (224 : Int32))))] ++ (w5 ++ ([] : va_W))) := hD
  obtain ⟨f31, hf31⟩ : ∃ g_ : Nat → Int32, g_ = upd f30 31 (224 : Int32) ∧ ∀ i, i < 32 → g_ i = sm_out1 i := ⟨_, rfl, sm_kst hq rfl⟩
  rw [← hf31.1] at hP hD
  have hq := hf31.2
  have hP : va_P D vwCl ([(q2, .inl (dN, 32, .inl f31))] ++ (w5 ++ ([] : va_W))) H := hP
  have hD : va_D A ([(q2, .inl (dN, 32, .inl f31))] ++ (w5 ++ ([] : va_W))) := hD
  refine lv_astore_n (lv' := [(3, .ref q2), (2, .ref d2), (0, .ref d)]) hx hb dX0_known_510 rfl hl (by decide) rfl (fun ls hl => ?_)
  refine lv_iconst (v := (0 : Int32)) hx hb dX0_known_511 (by decide) ?_
  refine lv_topi (fun y_ ey_ => ?_)
  have ey_ : y_ = nI 0 := ey_.trans rfl
  subst ey_
  refine lv_istore (lv' := [(4, .int (nI 0)), (3, .ref q2), (2, .ref d2), (0, .ref d)]) hx hb dX0_known_512 hl (by decide) rfl (fun ls hl => ?_)
  refine lp_k1 hw5 ⟨hx, hb, hr, hlk, hml, hown, hts⟩ (Nat.le_of_ble_eq_true rfl) (Nat.le_of_ble_eq_true rfl) ⟨Nat.le_of_ble_eq_true rfl, Nat.le_of_ble_eq_true rfl⟩ hK hP (fun j hj => (sm_k1 j hj).trans (hq j hj).symm) (fun ls hl => ?_) 32 0 ls rfl (lv_sub hl [2, 1, 0] rfl)
  refine lv_iconst (v := (1 : Int32)) hx hb dX0_known_542 (by decide) ?_
  refine W.widen (k := 28) (n := 2666) (Nat.le_of_ble_eq_true rfl) (Nat.le_of_ble_eq_true rfl) ?_
  exact W.zret (v := 1) hx hb hr rfl (sm_endi _ (by rfl) hP hD hS) hS.2.2 dX0_known_543 hlk
end
section
/-! THE LAW'S WALK -/
set_option maxRecDepth 100000
theorem sm_modN {n d : Nat} (hn : n < 2 ^ 31) (h : n < d) : n = sm_m (nI n) % d := by
  rw [sm_m_nI hn, Nat.mod_eq_of_lt h]
theorem sm_mod0 (d : Nat) : 0 = sm_m 0 % d := (Nat.zero_mod d).symm
theorem sm_txe {xs : Nat → Int32} {L : Nat} {a j : Nat} (h : a + j < 160) : sm_tk xs L 10 (a + j) = sm_tx xs L (a + j) := sm_tk_tx xs L 10 (a + j) h
set_option maxHeartbeats 4000000 in
set_option maxRecDepth 100000 in
/-- the pieces: nine of them, the last takes what is left -/
theorem lp_pc {p : Program} {l : Launch} {e : Env} {R : Room} {s : State} {m : MethodId} {av : Array Value} {below : List Frame} {meth : Method} {c : Code} {cells slots : Nat} {Q : State → Prop} {D : va_G} {dB dN : ClassId} {tA pA : Nat} {A : Nat → Prop} {b L z d1 d2 d3 d4 : Nat} {xs : Nat → Int32} {wb : va_W} (cx : sm_Cx p s m meth c av code 10 RX0 ret) (hRf : 5 ≤ R.frames) (hRl : 131 ≤ R.locals) (hf : cells ≤ R.cells ∧ slots ≤ R.slots) (hL : L < 2 ^ 31) (hz : z ≤ 160) (hK : va_K D vwCl (sm_ty dB dN) s) (hE : sm_E A tA pA s s.heap) (hA : ∀ q, s.heap.size ≤ q → A q) (hT : va_T .int b L (fun j => .int (xs j)) A s s.heap)
    (kk : ∀ (w : va_W) (H : Heap) (locs : List Loc) (ls : Array Slot), sm_DS dB dN pA d2 (sm_tx xs L) z z z (sm_tk xs L 10) (fun _ => 0) w → va_P D vwCl (w ++ wb) H → va_D A (w ++ wb) → va_S A s.heap H locs → lv_has ls 10 [(0, .ref b), (1, .int (nI z)), (2, .int (nI 0)), (3, .ref d1), (4, .ref d2), (5, .ref d3), (6, .ref d4)] → W p l e R s m av below meth c H locs cells slots Q (F0 m 139 ls [])) :
    ∀ (k t a : Nat) (w : va_W) (H : Heap) (locs : List Loc) (ls : Array Slot), t + k = 9 → a ≤ z → (t = 9 → a = z) → sm_DS dB dN pA d2 (sm_tx xs L) a a z (sm_tk xs L 10) (fun _ => 0) w → va_P D vwCl (w ++ wb) H → va_D A (w ++ wb) → va_S A s.heap H locs → lv_has ls 10 [(0, .ref b), (1, .int (nI z)), (2, .int (nI 0)), (3, .ref d1), (4, .ref d2), (5, .ref d3), (6, .ref d4), (7, .int (nI a)), (8, .int (nI (42 + t)))] → W p l e R s m av below meth c H locs cells slots Q (F0 m 73 ls []) := by
  obtain ⟨hx, hb, hr, hlk, hml, hown, hts⟩ := cx
  intro k
  induction k with
  | zero =>
    intro t a w H locs ls ht ha h9 hw hP hD hS hl
    have ht9 : t = 9 := by omega
    subst ht9
    have haz : a = z := h9 rfl
    subst haz
    refine lv_iload hx hb dL_law_73 (lv_at hl 8 rfl) ?_
    refine lv_bipush (v := (51 : Int32)) hx hb dL_law_75 (by decide) ?_
    refine lv_icmp_ge (tgt := 139) hx hb dL_law_77 (by decide) (fun _ => ?_) (fun hc => absurd (Int32.le_refl _) hc)
    exact kk w H locs ls hw hP hD hS (lv_sub hl [0, 1, 2, 3, 4, 5, 6] rfl)
  | succ k ih =>
    intro t a w H locs ls ht ha h9 hw hP hD hS hl
    refine lv_iload hx hb dL_law_73 (lv_at hl 8 rfl) ?_
    refine lv_bipush (v := (51 : Int32)) hx hb dL_law_75 (by decide) ?_
    refine lv_icmp_ge (tgt := 139) hx hb dL_law_77 (by decide) (fun hc => absurd hc (nI_ge (show 42 + t < 51 by omega) (by decide))) (fun _ => ?_)
    have behind : ∀ (n : Nat) (ls : Array Slot), n ≤ z - a → (t = 8 → a + n = z) → lv_has ls 10 [(0, .ref b), (1, .int (nI z)), (2, .int (nI 0)), (3, .ref d1), (4, .ref d2), (5, .ref d3), (6, .ref d4), (7, .int (nI a)), (8, .int (nI (42 + t))), (9, .int (nI n))] → W p l e R s m av below meth c H locs cells slots Q (F0 m 112 ls []) := by
      intro n ls hn h8 hl
      refine lv_aload hx hb dL_law_112 (lv_at hl 4 rfl) ?_
      refine lv_iload hx hb dL_law_114 (lv_at hl 7 rfl) ?_
      refine lv_iload hx hb dL_law_116 (lv_at hl 9 rfl) ?_
      have hPw := (sm_Psp (a := w) hP).1
      have hDw := (sm_Dsp (a := w) hD).1
      have hFc := sm_f0 (wc := w) hD hS hA
      refine sm_b0i (wc := w) (wb := wb) (va_runV (As := [.int (nI a), .int (nI n)]) (rest := []) ⟨hx, hb, hml, hown, hts⟩ (met_feed l D dB dN H.size tA pA w d2 (sm_tx xs L) a a z (sm_tk xs L 10) (fun _ => 0) hw (nI a) (nI n) a n (sm_modN (by omega) (by omega)) (sm_modN (by omega) (by omega)) (by omega) (by omega) (fun j hj => sm_txe (by omega)) (sm_tx_By xs L)) (cwV 2 hts (lw_V q17 q18 q19 q10 q20) rfl rfl rfl (by decide +kernel) ⟨Nat.le_trans (Nat.le_of_ble_eq_true rfl) hRf, Nat.le_trans (Nat.le_of_ble_eq_true rfl) hRl⟩) ⟨sm_blind, sm_DS_rc hw hK hPw, sm_go hK hPw hDw hE hS hFc _⟩ rfl rfl hl.1 rfl (lv_room (Nat.le_of_ble_eq_true rfl)) dL_law_118 hf) hP hD hS hFc (fun r w2 H locs hw_ hP hD hS => ?_)
      obtain ⟨hr1, hw2⟩ := hw_
      subst hr1
      refine lv_if_ne (tgt := 126) hx hb dL_law_121 (by decide) (fun _ => ?_) (fun hc => absurd hc (by decide))
      refine lv_iload hx hb dL_law_126 (lv_at hl 7 rfl) ?_
      refine lv_iload hx hb dL_law_128 (lv_at hl 9 rfl) ?_
      refine lv_iadd hx hb dL_law_130 ?_
      refine lv_topi (fun y_ ey_ => ?_)
      have ey_ : y_ = nI (a + n) := ey_.trans (nI_add _ _)
      subst ey_
      refine lv_istore (lv' := [(7, .int (nI (a + n))), (0, .ref b), (1, .int (nI z)), (2, .int (nI 0)), (3, .ref d1), (4, .ref d2), (5, .ref d3), (6, .ref d4), (8, .int (nI (42 + t))), (9, .int (nI n))]) hx hb dL_law_131 hl (by decide) rfl (fun ls hl => ?_)
      refine lv_iinc (v := (nI (42 + (t + 1)))) (lv' := [(8, .int (nI (42 + (t + 1)))), (7, .int (nI (a + n))), (0, .ref b), (1, .int (nI z)), (2, .int (nI 0)), (3, .ref d1), (4, .ref d2), (5, .ref d3), (6, .ref d4), (9, .int (nI n))]) hx hb dL_law_133 hl (k := 8) rfl (sm_i1 (42 + t)) (by decide) rfl (fun ls hl => ?_)
      refine lv_goto (tgt := 73) hx hb dL_law_136 (by decide) ?_
      exact ih (t + 1) (a + n) w2 H locs ls (by omega) (by omega) (fun h => h8 (by omega)) hw2 hP hD hS (lv_sub hl [2, 3, 4, 5, 6, 7, 8, 1, 0] rfl)
    rcases Nat.lt_or_ge t 8 with h8 | h8
    · refine lv_iload hx hb dL_law_80 (lv_at hl 8 rfl) ?_
      refine lv_bipush (v := (50 : Int32)) hx hb dL_law_82 (by decide) ?_
      refine lv_icmp_ne (tgt := 94) hx hb dL_law_84 (by decide) (fun _ => ?_) (fun hc => absurd hc (fun z9 => absurd ((nI_eq (a := 42 + t) (b := 50) (by omega) (by decide)).mp z9) (by omega)))
      refine lv_aload_n hx hb dL_law_94 rfl (lv_at hl 0 rfl) ?_
      refine lv_iload hx hb dL_law_95 (lv_at hl 8 rfl) ?_
      refine vp_callSi (W.runS (As := [.ref b, .int (nI (42 + t))]) (rest := []) ⟨hx, hb, hml, hown, hts⟩ (met_cell l b L xs (42 + t) hL (by omega)) (va_cwS 2 hts (lw_S q160 q161 q9 q162) rfl rfl rfl (by decide +kernel) ⟨Nat.le_trans (Nat.le_of_ble_eq_true rfl) hRf, Nat.le_trans (Nat.le_of_ble_eq_true rfl) hRl⟩) ⟨sm_blindC, sm_goC hT hS _⟩ rfl rfl hl.1 rfl (lv_room (Nat.le_of_ble_eq_true rfl)) dL_law_97 hf) (fun ck hck => ?_)
      refine lv_ldc (v := (2147483647 : Int32)) hx hb hown (hts _ q255) dL_law_100 ?_
      refine lv_iand hx hb dL_law_102 ?_
      refine lv_topi (fun y_ ey_ => ?_)
      have ey_ : y_ = nI (sm_m ck) := ey_.trans (sm_m_and ck)
      subst ey_
      refine lv_iload_n hx hb dL_law_103 rfl (lv_at hl 1 rfl) ?_
      refine lv_iload hx hb dL_law_104 (lv_at hl 7 rfl) ?_
      refine lv_isub hx hb dL_law_106 ?_
      refine lv_topi (fun y_ ey_ => ?_)
      have ey_ : y_ = nI (z - a) := ey_.trans (pk_sub ha)
      subst ey_
      refine lv_iconst (v := (1 : Int32)) hx hb dL_law_107 (by decide) ?_
      refine lv_iadd hx hb dL_law_108 ?_
      refine lv_topi (fun y_ ey_ => ?_)
      have ey_ : y_ = nI (z - a + 1) := ey_.trans (nI_1 _)
      subst ey_
      refine lv_irem hx hb dL_law_109 (nI_ne0 (Nat.succ_pos _) (by omega)) ?_
      refine lv_topi (fun y_ ey_ => ?_)
      have ey_ : y_ = nI (sm_m ck % (z - a + 1)) := ey_.trans (sm_rem (sm_m_lt ck) (Nat.succ_pos _) (by omega) rfl)
      subst ey_
      refine lv_topi (fun y_ ey_ => ?_)
      have ey_ : y_ = nI (sm_m ck % (z - a + 1)) := ey_.trans rfl
      subst ey_
      refine lv_istore (lv' := [(9, .int (nI (sm_m ck % (z - a + 1)))), (0, .ref b), (1, .int (nI z)), (2, .int (nI 0)), (3, .ref d1), (4, .ref d2), (5, .ref d3), (6, .ref d4), (7, .int (nI a)), (8, .int (nI (42 + t)))]) hx hb dL_law_110 hl (by decide) rfl (fun ls hl => ?_)
      exact behind (sm_m ck % (z - a + 1)) ls (Nat.lt_succ_iff.mp (Nat.mod_lt _ (Nat.succ_pos _))) (fun h => absurd h (by omega)) (lv_sub hl [1, 2, 3, 4, 5, 6, 7, 8, 9, 0] rfl)
    · have ht8 : t = 8 := by omega
      subst ht8
      refine lv_iload hx hb dL_law_80 (lv_at hl 8 rfl) ?_
      refine lv_bipush (v := (50 : Int32)) hx hb dL_law_82 (by decide) ?_
      refine lv_icmp_ne (tgt := 94) hx hb dL_law_84 (by decide) (fun hc => absurd rfl hc) (fun _ => ?_)
      refine lv_iload_n hx hb dL_law_87 rfl (lv_at hl 1 rfl) ?_
      refine lv_iload hx hb dL_law_88 (lv_at hl 7 rfl) ?_
      refine lv_isub hx hb dL_law_90 ?_
      refine lv_topi (fun y_ ey_ => ?_)
      have ey_ : y_ = nI (z - a) := ey_.trans (pk_sub ha)
      subst ey_
      refine lv_goto (tgt := 110) hx hb dL_law_91 (by decide) ?_
      refine lv_topi (fun y_ ey_ => ?_)
      have ey_ : y_ = nI (z - a) := ey_.trans rfl
      subst ey_
      refine lv_istore (lv' := [(9, .int (nI (z - a))), (0, .ref b), (1, .int (nI z)), (2, .int (nI 0)), (3, .ref d1), (4, .ref d2), (5, .ref d3), (6, .ref d4), (7, .int (nI a)), (8, .int (nI (42 + 8)))]) hx hb dL_law_110 hl (by decide) rfl (fun ls hl => ?_)
      exact behind (z - a) ls (Nat.le_refl _) (fun _ => by omega) (lv_sub hl [1, 2, 3, 4, 5, 6, 7, 8, 9, 0] rfl)
set_option maxHeartbeats 4000000 in
set_option maxRecDepth 100000 in
/-- byte by byte -/
theorem lp_by {p : Program} {l : Launch} {e : Env} {R : Room} {s : State} {m : MethodId} {av : Array Value} {below : List Frame} {meth : Method} {c : Code} {cells slots : Nat} {Q : State → Prop} {D : va_G} {dB dN : ClassId} {tA pA : Nat} {A : Nat → Prop} {b L z d1 d2 d3 d4 : Nat} {xs : Nat → Int32} {wb : va_W} (cx : sm_Cx p s m meth c av code 10 RX0 ret) (hRf : 5 ≤ R.frames) (hRl : 131 ≤ R.locals) (hf : cells ≤ R.cells ∧ slots ≤ R.slots) (hL : L < 2 ^ 31) (hz : z ≤ 160) (hK : va_K D vwCl (sm_ty dB dN) s) (hE : sm_E A tA pA s s.heap) (hA : ∀ q, s.heap.size ≤ q → A q) (hT : va_T .int b L (fun j => .int (xs j)) A s s.heap)
    (kk : ∀ (w : va_W) (H : Heap) (locs : List Loc) (ls : Array Slot), sm_DS dB dN pA d3 (sm_tx xs L) z z z (sm_tk xs L 10) (fun _ => 0) w → va_P D vwCl (w ++ wb) H → va_D A (w ++ wb) → va_S A s.heap H locs → lv_has ls 10 [(0, .ref b), (1, .int (nI z)), (2, .int (nI 0)), (3, .ref d1), (4, .ref d2), (5, .ref d3), (6, .ref d4)] → W p l e R s m av below meth c H locs cells slots Q (F0 m 185 ls [])) :
    ∀ (k i : Nat) (w : va_W) (H : Heap) (locs : List Loc) (ls : Array Slot), i + k = z → sm_DS dB dN pA d3 (sm_tx xs L) i i z (sm_tk xs L 10) (fun _ => 0) w → va_P D vwCl (w ++ wb) H → va_D A (w ++ wb) → va_S A s.heap H locs → lv_has ls 10 [(0, .ref b), (1, .int (nI z)), (2, .int (nI 0)), (3, .ref d1), (4, .ref d2), (5, .ref d3), (6, .ref d4), (8, .int (nI i))] → W p l e R s m av below meth c H locs cells slots Q (F0 m 142 ls []) := by
  obtain ⟨hx, hb, hr, hlk, hml, hown, hts⟩ := cx
  intro k
  induction k with
  | zero =>
    intro i w H locs ls hi hw hP hD hS hl
    have hiz : i = z := by omega
    subst hiz
    refine lv_iload hx hb dL_law_142 (lv_at hl 7 rfl) ?_
    refine lv_iload_n hx hb dL_law_144 rfl (lv_at hl 1 rfl) ?_
    refine lv_icmp_ge (tgt := 185) hx hb dL_law_145 (by decide) (fun _ => ?_) (fun hc => absurd (Int32.le_refl _) hc)
    exact kk w H locs ls hw hP hD hS (lv_sub hl [0, 1, 2, 3, 4, 5, 6] rfl)
  | succ k ih =>
    intro i w H locs ls hi hw hP hD hS hl
    refine lv_iload hx hb dL_law_142 (lv_at hl 7 rfl) ?_
    refine lv_iload_n hx hb dL_law_144 rfl (lv_at hl 1 rfl) ?_
    refine lv_icmp_ge (tgt := 185) hx hb dL_law_145 (by decide) (fun hc => absurd hc (nI_ge (show i < z by omega) (by omega))) (fun _ => ?_)
    refine lv_aload hx hb dL_law_148 (lv_at hl 5 rfl) ?_
    refine lv_aload_n hx hb dL_law_150 rfl (lv_at hl 0 rfl) ?_
    refine lv_iconst (v := (2 : Int32)) hx hb dL_law_151 (by decide) ?_
    refine lv_iload hx hb dL_law_152 (lv_at hl 7 rfl) ?_
    refine lv_iconst (v := (4 : Int32)) hx hb dL_law_154 (by decide) ?_
    refine lv_idiv hx hb dL_law_155 (by decide) ?_
    refine lv_topi (fun y_ ey_ => ?_)
    have ey_ : y_ = nI (i / 4) := ey_.trans (pk_div (a := i) (d := 4) (by omega) (by decide) (by decide))
    subst ey_
    refine lv_iadd hx hb dL_law_156 ?_
    refine lv_topi (fun y_ ey_ => ?_)
    have ey_ : y_ = nI (2 + i / 4) := ey_.trans (nI_add 2 (i / 4))
    subst ey_
    refine vp_callSi (W.runS (As := [.ref b, .int (nI (2 + i / 4))]) (rest := [.ref d3]) ⟨hx, hb, hml, hown, hts⟩ (met_cell l b L xs (2 + i / 4) hL (by omega)) (va_cwS 2 hts (lw_S q160 q161 q9 q162) rfl rfl rfl (by decide +kernel) ⟨Nat.le_trans (Nat.le_of_ble_eq_true rfl) hRf, Nat.le_trans (Nat.le_of_ble_eq_true rfl) hRl⟩) ⟨sm_blindC, sm_goC hT hS _⟩ rfl rfl hl.1 rfl (lv_room (Nat.le_of_ble_eq_true rfl)) dL_law_157 hf) (fun ci hci => ?_)
    subst hci
    refine lv_bipush (v := (24 : Int32)) hx hb dL_law_160 (by decide) ?_
    refine lv_bipush (v := (8 : Int32)) hx hb dL_law_162 (by decide) ?_
    refine lv_iload hx hb dL_law_164 (lv_at hl 7 rfl) ?_
    refine lv_iconst (v := (4 : Int32)) hx hb dL_law_166 (by decide) ?_
    refine lv_irem hx hb dL_law_167 (by decide) ?_
    refine lv_topi (fun y_ ey_ => ?_)
    have ey_ : y_ = nI (i % 4) := ey_.trans (sm_rem (a := i) (d := 4) (by omega) (by decide) (by decide) rfl)
    subst ey_
    refine lv_imul hx hb dL_law_168 ?_
    refine lv_topi (fun y_ ey_ => ?_)
    have ey_ : y_ = nI (8 * (i % 4)) := ey_.trans (pk_mul 8 (i % 4))
    subst ey_
    refine lv_isub hx hb dL_law_169 ?_
    refine lv_topi (fun y_ ey_ => ?_)
    have ey_ : y_ = nI (24 - 8 * (i % 4)) := ey_.trans (pk_sub (a := 24) (b := 8 * (i % 4)) (by omega))
    subst ey_
    refine lv_ishr hx hb dL_law_170 ?_
    have hPw := (sm_Psp (a := w) hP).1
    have hDw := (sm_Dsp (a := w) hD).1
    have hFc := sm_f0 (wc := w) hD hS hA
    refine sm_b0i (wc := w) (wb := wb) (va_runV (As := [.int ((sm_cell xs L (2 + i / 4)) >>> ((nI (24 - 8 * (i % 4))) &&& 31))]) (rest := []) ⟨hx, hb, hml, hown, hts⟩ (met_one l D dB dN H.size tA pA w d3 (sm_tx xs L) i i z (sm_tk xs L 10) (fun _ => 0) hw ((sm_cell xs L (2 + i / 4)) >>> ((nI (24 - 8 * (i % 4))) &&& 31)) (sm_one xs L i) (by omega)) (cwV 1 hts (lw_V q84 q85 q86 q10 q87) rfl rfl rfl (by decide +kernel) ⟨Nat.le_trans (Nat.le_of_ble_eq_true rfl) hRf, Nat.le_trans (Nat.le_of_ble_eq_true rfl) hRl⟩) ⟨sm_blind, sm_DS_rc hw hK hPw, sm_go hK hPw hDw hE hS hFc _⟩ rfl rfl hl.1 rfl (lv_room (Nat.le_of_ble_eq_true rfl)) dL_law_171 hf) hP hD hS hFc (fun r w2 H locs hw_ hP hD hS => ?_)
    obtain ⟨hr1, hw2⟩ := hw_
    subst hr1
    refine lv_if_ne (tgt := 179) hx hb dL_law_174 (by decide) (fun _ => ?_) (fun hc => absurd hc (by decide))
    refine lv_iinc (v := (nI (i + 1))) (lv' := [(8, .int (nI (i + 1))), (0, .ref b), (1, .int (nI z)), (2, .int (nI 0)), (3, .ref d1), (4, .ref d2), (5, .ref d3), (6, .ref d4)]) hx hb dL_law_179 hl (k := 7) rfl (sm_i1 i) (by decide) rfl (fun ls hl => ?_)
    refine lv_goto (tgt := 142) hx hb dL_law_182 (by decide) ?_
    exact ih (i + 1) w2 H locs ls (by omega) hw2 hP hD hS (lv_sub hl [1, 2, 3, 4, 5, 6, 7, 0] rfl)
set_option maxHeartbeats 4000000 in
set_option maxRecDepth 100000 in
theorem law_walk {p : Program} {l : Launch} {e : Env} {s : State} {m : MethodId} {below : List Frame} {meth : Method} {c : Code} {Q : State → Prop} {D : va_G} {dB dN : ClassId} {tA pA b L : Nat} {xs : Nat → Int32} {A : Nat → Prop} (cx : sm_Cx p s m meth c #[Value.ref b] code 10 RX0 ret) (hL : L < 2 ^ 31) (hK : va_K D vwCl (sm_ty dB dN) s) (hE : sm_E A tA pA s s.heap) (hA : ∀ q, s.heap.size ≤ q → A q) (hT : va_T .int b L (fun j => .int (xs j)) A s s.heap)
    (kk : ∀ (H : Heap) (locs : List Loc) (ls : Array Slot), va_S A s.heap H locs → W p l e room_1 s m #[Value.ref b] below meth c H locs 80 7870 Q (F0 m 311 ls [.int 1])) {ls : Array Slot} (hl : lv_has ls 10 [(0, .ref b)]) : W p l e room_1 s m #[Value.ref b] below meth c s.heap [] 0 0 Q (F0 m 0 ls []) := by
  obtain ⟨hx, hb, hr, hlk, hml, hown, hts⟩ := cx
  have hS : va_S A s.heap s.heap [] := va_S.rf
  have hP : va_P D vwCl [] s.heap := fun k q h => by simp at h
  have hD : va_D A [] := ⟨fun i j p q h => by simp at h, fun k q h => by simp at h⟩
  have hFc := sm_f0 (wc := []) (wb := ([] : va_W)) hD hS hA
  refine sm_b0i (wc := []) (wb := ([] : va_W)) (va_runS (As := []) (rest := []) ⟨hx, hb, hml, hown, hts⟩ (met_known l D dB dN s.heap.size tA pA) (va_cwS 0 hts (lw_S q251 q252 q9 q253) rfl rfl rfl (by decide +kernel) ⟨Nat.le_of_ble_eq_true rfl, Nat.le_of_ble_eq_true rfl⟩) ⟨sm_blind, sm_go hK hP hD hE hS hFc _⟩ rfl rfl hl.1 rfl (lv_room (Nat.le_of_ble_eq_true rfl)) dL_law_0 ⟨Nat.le_of_ble_eq_true rfl, Nat.le_of_ble_eq_true rfl⟩) hP hD hS hFc (fun r w0 H locs hr0 hP hD hS => ?_)
  have hr0 : r = 1 := hr0
  subst hr0
  have hP : va_P D vwCl [] H := fun k q h => by simp at h
  have hD : va_D A [] := ⟨fun i j p q h => by simp at h, fun k q h => by simp at h⟩
  refine lv_if_ne (tgt := 8) hx hb dL_law_3 (by decide) (fun _ => ?_) (fun hc => absurd hc (by decide))
  refine lv_aload_n hx hb dL_law_8 rfl (lv_at hl 0 rfl) ?_
  refine lv_iconst (v := (1 : Int32)) hx hb dL_law_9 (by decide) ?_
  refine vp_callSi (W.runS (As := [.ref b, .int (nI 1)]) (rest := []) ⟨hx, hb, hml, hown, hts⟩ (met_cell l b L xs 1 hL (by omega)) (va_cwS 2 hts (lw_S q160 q161 q9 q162) rfl rfl rfl (by decide +kernel) ⟨Nat.le_of_ble_eq_true rfl, Nat.le_of_ble_eq_true rfl⟩) ⟨sm_blindC, sm_goC hT hS _⟩ rfl rfl hl.1 rfl (lv_room (Nat.le_of_ble_eq_true rfl)) dL_law_10 ⟨Nat.le_of_ble_eq_true rfl, Nat.le_of_ble_eq_true rfl⟩) (fun c1 hc1 => ?_)
  subst hc1
  obtain ⟨z, hzz⟩ : ∃ z : Nat, z = sm_m (sm_cell xs L 1) % (160 + 1) := ⟨_, rfl⟩
  have hz : z ≤ 160 := by rw [hzz]; exact Nat.lt_succ_iff.mp (Nat.mod_lt _ (by decide))
  refine lv_ldc (v := (2147483647 : Int32)) hx hb hown (hts _ q255) dL_law_13 ?_
  refine lv_iand hx hb dL_law_15 ?_
  refine lv_topi (fun y_ ey_ => ?_)
  have ey_ : y_ = nI (sm_m (sm_cell xs L 1)) := ey_.trans (sm_m_and _)
  subst ey_
  refine lv_sipush (v := (161 : Int32)) hx hb dL_law_16 (by decide) ?_
  refine lv_irem hx hb dL_law_19 (by decide) ?_
  refine lv_topi (fun y_ ey_ => ?_)
  have ey_ : y_ = nI z := ey_.trans ((sm_rem (a := sm_m (sm_cell xs L 1)) (d := 161) (sm_m_lt _) (by decide) (by decide) rfl).trans (by rw [hzz]))
  subst ey_
  refine lv_topi (fun y_ ey_ => ?_)
  have ey_ : y_ = nI z := ey_.trans rfl
  subst ey_
  refine lv_istore_n (lv' := [(1, .int (nI z)), (0, .ref b)]) hx hb dL_law_20 rfl hl (by decide) rfl (fun ls hl => ?_)
  refine lv_iconst (v := (0 : Int32)) hx hb dL_law_21 (by decide) ?_
  refine lv_topi (fun y_ ey_ => ?_)
  have ey_ : y_ = nI 0 := ey_.trans rfl
  subst ey_
  refine lv_istore_n (lv' := [(2, .int (nI 0)), (1, .int (nI z)), (0, .ref b)]) hx hb dL_law_22 rfl hl (by decide) rfl (fun ls hl => ?_)
  refine lv_iload_n hx hb dL_law_23 rfl (lv_at hl 0 rfl) ?_
  refine lv_iconst (v := (1 : Int32)) hx hb dL_law_24 (by decide) ?_
  refine lv_icmp_ge (tgt := 310) hx hb dL_law_25 (by decide) (fun hc => absurd hc (by decide)) (fun _ => ?_)
  refine lv_aload_n hx hb dL_law_28 rfl (lv_at hl 2 rfl) ?_
  refine lv_iload_n hx hb dL_law_29 rfl (lv_at hl 0 rfl) ?_
  have hFc := sm_f0 (wc := []) (wb := ([] : va_W)) hD hS hA
  refine sm_b0r (wc := []) (wb := ([] : va_W)) (va_runS (As := [.ref b, .int (nI 0)]) (rest := []) ⟨hx, hb, hml, hown, hts⟩ (met_made l D dB dN H.size tA pA b L xs (sm_tx xs L) (nI 0) hL) (va_cwS 2 hts (lw_S q163 q164 q9 q165) rfl rfl rfl (by decide +kernel) ⟨Nat.le_of_ble_eq_true rfl, Nat.le_of_ble_eq_true rfl⟩) ⟨sm_blind2, sm_go2 hK hE hT hS hFc _⟩ rfl rfl hl.1 rfl (lv_room (Nat.le_of_ble_eq_true rfl)) dL_law_30 ⟨Nat.le_of_ble_eq_true rfl, Nat.le_of_ble_eq_true rfl⟩) hP hD hS hFc (fun d1 w1 H locs hw1 hP hD hS => ?_)
  rw [← hzz] at hw1
  have hw1 : sm_DS dB dN pA d1 (sm_tx xs L) 0 0 z (sm_tk xs L 10) (fun _ => 0) w1 := hw1
  refine lv_astore_n (lv' := [(3, .ref d1), (2, .int (nI 0)), (1, .int (nI z)), (0, .ref b)]) hx hb dL_law_33 rfl hl (by decide) rfl (fun ls hl => ?_)
  refine lv_aload_n hx hb dL_law_34 rfl (lv_at hl 3 rfl) ?_
  refine lv_iload_n hx hb dL_law_35 rfl (lv_at hl 1 rfl) ?_
  have hFc := sm_f0 (wc := []) (wb := (w1 ++ ([] : va_W))) hD hS hA
  refine sm_b0r (wc := []) (wb := (w1 ++ ([] : va_W))) (va_runS (As := [.ref b, .int (nI 0)]) (rest := []) ⟨hx, hb, hml, hown, hts⟩ (met_made l D dB dN H.size tA pA b L xs (sm_tx xs L) (nI 0) hL) (va_cwS 2 hts (lw_S q163 q164 q9 q165) rfl rfl rfl (by decide +kernel) ⟨Nat.le_of_ble_eq_true rfl, Nat.le_of_ble_eq_true rfl⟩) ⟨sm_blind2, sm_go2 hK hE hT hS hFc _⟩ rfl rfl hl.1 rfl (lv_room (Nat.le_of_ble_eq_true rfl)) dL_law_36 ⟨Nat.le_of_ble_eq_true rfl, Nat.le_of_ble_eq_true rfl⟩) hP hD hS hFc (fun d2 w2 H locs hw2 hP hD hS => ?_)
  rw [← hzz] at hw2
  have hw2 : sm_DS dB dN pA d2 (sm_tx xs L) 0 0 z (sm_tk xs L 10) (fun _ => 0) w2 := hw2
  refine lv_astore (lv' := [(4, .ref d2), (3, .ref d1), (2, .int (nI 0)), (1, .int (nI z)), (0, .ref b)]) hx hb dL_law_39 hl (by decide) rfl (fun ls hl => ?_)
  refine lv_aload_n hx hb dL_law_41 rfl (lv_at hl 4 rfl) ?_
  refine lv_iload_n hx hb dL_law_42 rfl (lv_at hl 2 rfl) ?_
  have hFc := sm_f0 (wc := []) (wb := (w2 ++ (w1 ++ ([] : va_W)))) hD hS hA
  refine sm_b0r (wc := []) (wb := (w2 ++ (w1 ++ ([] : va_W)))) (va_runS (As := [.ref b, .int (nI 0)]) (rest := []) ⟨hx, hb, hml, hown, hts⟩ (met_made l D dB dN H.size tA pA b L xs (sm_tx xs L) (nI 0) hL) (va_cwS 2 hts (lw_S q163 q164 q9 q165) rfl rfl rfl (by decide +kernel) ⟨Nat.le_of_ble_eq_true rfl, Nat.le_of_ble_eq_true rfl⟩) ⟨sm_blind2, sm_go2 hK hE hT hS hFc _⟩ rfl rfl hl.1 rfl (lv_room (Nat.le_of_ble_eq_true rfl)) dL_law_43 ⟨Nat.le_of_ble_eq_true rfl, Nat.le_of_ble_eq_true rfl⟩) hP hD hS hFc (fun d3 w3 H locs hw3 hP hD hS => ?_)
  rw [← hzz] at hw3
  have hw3 : sm_DS dB dN pA d3 (sm_tx xs L) 0 0 z (sm_tk xs L 10) (fun _ => 0) w3 := hw3
  refine lv_astore (lv' := [(5, .ref d3), (4, .ref d2), (3, .ref d1), (2, .int (nI 0)), (1, .int (nI z)), (0, .ref b)]) hx hb dL_law_46 hl (by decide) rfl (fun ls hl => ?_)
  refine lv_aload_n hx hb dL_law_48 rfl (lv_at hl 5 rfl) ?_
  refine lv_iload_n hx hb dL_law_49 rfl (lv_at hl 3 rfl) ?_
  have hFc := sm_f0 (wc := []) (wb := (w3 ++ (w2 ++ (w1 ++ ([] : va_W))))) hD hS hA
  refine sm_b0r (wc := []) (wb := (w3 ++ (w2 ++ (w1 ++ ([] : va_W))))) (va_runS (As := [.ref b, .int (nI 0)]) (rest := []) ⟨hx, hb, hml, hown, hts⟩ (met_made l D dB dN H.size tA pA b L xs (fun j => sm_tx xs L (sm_m (sm_cell xs L 50) % (z + 1) + j)) (nI 0) hL) (va_cwS 2 hts (lw_S q163 q164 q9 q165) rfl rfl rfl (by decide +kernel) ⟨Nat.le_of_ble_eq_true rfl, Nat.le_of_ble_eq_true rfl⟩) ⟨sm_blind2, sm_go2 hK hE hT hS hFc _⟩ rfl rfl hl.1 rfl (lv_room (Nat.le_of_ble_eq_true rfl)) dL_law_50 ⟨Nat.le_of_ble_eq_true rfl, Nat.le_of_ble_eq_true rfl⟩) hP hD hS hFc (fun d4 w4 H locs hw4 hP hD hS => ?_)
  rw [← hzz] at hw4
  have hw4 : sm_DS dB dN pA d4 (fun j => sm_tx xs L (sm_m (sm_cell xs L 50) % (z + 1) + j)) 0 0 z (sm_tk xs L 10) (fun _ => 0) w4 := hw4
  refine lv_astore (lv' := [(6, .ref d4), (5, .ref d3), (4, .ref d2), (3, .ref d1), (2, .int (nI 0)), (1, .int (nI z)), (0, .ref b)]) hx hb dL_law_53 hl (by decide) rfl (fun ls hl => ?_)
  refine lv_aload_n hx hb dL_law_55 rfl (lv_at hl 3 rfl) ?_
  refine lv_iconst (v := (0 : Int32)) hx hb dL_law_56 (by decide) ?_
  refine lv_iload_n hx hb dL_law_57 rfl (lv_at hl 5 rfl) ?_
  have hP : va_P D vwCl (w1 ++ (w4 ++ (w3 ++ (w2 ++ ([] : va_W))))) H := by simpa only [List.append_assoc] using sm_swP (a := (w4 ++ (w3 ++ w2))) (b := w1) (r := ([] : va_W)) (by simpa only [List.append_assoc] using hP)
  have hD : va_D A (w1 ++ (w4 ++ (w3 ++ (w2 ++ ([] : va_W))))) := by simpa only [List.append_assoc] using sm_swD (a := (w4 ++ (w3 ++ w2))) (b := w1) (r := ([] : va_W)) (by simpa only [List.append_assoc] using hD)
  have hPw := (sm_Psp (a := w1) hP).1
  have hDw := (sm_Dsp (a := w1) hD).1
  have hFc := sm_f0 (wc := w1) hD hS hA
  refine sm_b0i (wc := w1) (wb := (w4 ++ (w3 ++ (w2 ++ ([] : va_W))))) (va_runV (As := [.int (0 : Int32), .int (nI z)]) (rest := []) ⟨hx, hb, hml, hown, hts⟩ (met_feed l D dB dN H.size tA pA w1 d1 (sm_tx xs L) 0 0 z (sm_tk xs L 10) (fun _ => 0) hw1 0 (nI z) 0 z (sm_mod0 _) (sm_modN (by omega) (by omega)) (by omega) (by omega) (fun j hj => sm_txe (by omega)) (sm_tx_By xs L)) (cwV 2 hts (lw_V q17 q18 q19 q10 q20) rfl rfl rfl (by decide +kernel) ⟨Nat.le_of_ble_eq_true rfl, Nat.le_of_ble_eq_true rfl⟩) ⟨sm_blind, sm_DS_rc hw1 hK hPw, sm_go hK hPw hDw hE hS hFc _⟩ rfl rfl hl.1 rfl (lv_room (Nat.le_of_ble_eq_true rfl)) dL_law_58 ⟨Nat.le_of_ble_eq_true rfl, Nat.le_of_ble_eq_true rfl⟩) hP hD hS hFc (fun r1 u1 H locs hw_ hP hD hS => ?_)
  obtain ⟨hr1, hu1⟩ := hw_
  subst hr1
  have hu1 : sm_DS dB dN pA d1 (sm_tx xs L) z z z (sm_tk xs L 10) (fun _ => 0) u1 := by simpa only [Nat.zero_add] using hu1
  refine lv_if_ne (tgt := 66) hx hb dL_law_61 (by decide) (fun _ => ?_) (fun hc => absurd hc (by decide))
  refine lv_iconst (v := (0 : Int32)) hx hb dL_law_66 (by decide) ?_
  refine lv_topi (fun y_ ey_ => ?_)
  have ey_ : y_ = nI 0 := ey_.trans rfl
  subst ey_
  refine lv_istore (lv' := [(7, .int (nI 0)), (6, .ref d4), (5, .ref d3), (4, .ref d2), (3, .ref d1), (2, .int (nI 0)), (1, .int (nI z)), (0, .ref b)]) hx hb dL_law_67 hl (by decide) rfl (fun ls hl => ?_)
  refine lv_bipush (v := (42 : Int32)) hx hb dL_law_69 (by decide) ?_
  refine lv_topi (fun y_ ey_ => ?_)
  have ey_ : y_ = nI (42 + 0) := ey_.trans rfl
  subst ey_
  refine lv_istore (lv' := [(8, .int (nI (42 + 0))), (7, .int (nI 0)), (6, .ref d4), (5, .ref d3), (4, .ref d2), (3, .ref d1), (2, .int (nI 0)), (1, .int (nI z)), (0, .ref b)]) hx hb dL_law_71 hl (by decide) rfl (fun ls hl => ?_)
  have hP : va_P D vwCl (w2 ++ (u1 ++ (w4 ++ (w3 ++ ([] : va_W))))) H := by simpa only [List.append_assoc] using sm_swP (a := (u1 ++ (w4 ++ w3))) (b := w2) (r := ([] : va_W)) (by simpa only [List.append_assoc] using hP)
  have hD : va_D A (w2 ++ (u1 ++ (w4 ++ (w3 ++ ([] : va_W))))) := by simpa only [List.append_assoc] using sm_swD (a := (u1 ++ (w4 ++ w3))) (b := w2) (r := ([] : va_W)) (by simpa only [List.append_assoc] using hD)
  refine lp_pc (wb := (u1 ++ (w4 ++ (w3 ++ ([] : va_W))))) ⟨hx, hb, hr, hlk, hml, hown, hts⟩ (Nat.le_of_ble_eq_true rfl) (Nat.le_of_ble_eq_true rfl) ⟨Nat.le_of_ble_eq_true rfl, Nat.le_of_ble_eq_true rfl⟩ hL hz hK hE hA hT (fun u2 H locs ls hu2 hP hD hS hl => ?_) 9 0 0 w2 H locs ls rfl (Nat.zero_le _) (fun h => absurd h (by decide)) hw2 hP hD hS (lv_sub hl [8, 7, 6, 5, 4, 3, 2, 1, 0] rfl)
  refine lv_iconst (v := (0 : Int32)) hx hb dL_law_139 (by decide) ?_
  refine lv_topi (fun y_ ey_ => ?_)
  have ey_ : y_ = nI 0 := ey_.trans rfl
  subst ey_
  refine lv_istore (lv' := [(8, .int (nI 0)), (0, .ref b), (1, .int (nI z)), (2, .int (nI 0)), (3, .ref d1), (4, .ref d2), (5, .ref d3), (6, .ref d4)]) hx hb dL_law_140 hl (by decide) rfl (fun ls hl => ?_)
  have hP : va_P D vwCl (w3 ++ (u2 ++ (u1 ++ (w4 ++ ([] : va_W))))) H := by simpa only [List.append_assoc] using sm_swP (a := (u2 ++ (u1 ++ w4))) (b := w3) (r := ([] : va_W)) (by simpa only [List.append_assoc] using hP)
  have hD : va_D A (w3 ++ (u2 ++ (u1 ++ (w4 ++ ([] : va_W))))) := by simpa only [List.append_assoc] using sm_swD (a := (u2 ++ (u1 ++ w4))) (b := w3) (r := ([] : va_W)) (by simpa only [List.append_assoc] using hD)
  refine lp_by (wb := (u2 ++ (u1 ++ (w4 ++ ([] : va_W))))) ⟨hx, hb, hr, hlk, hml, hown, hts⟩ (Nat.le_of_ble_eq_true rfl) (Nat.le_of_ble_eq_true rfl) ⟨Nat.le_of_ble_eq_true rfl, Nat.le_of_ble_eq_true rfl⟩ hL hz hK hE hA hT (fun u3 H locs ls hu3 hP hD hS hl => ?_) z 0 w3 H locs ls (Nat.zero_add _) hw3 hP hD hS (lv_sub hl [1, 2, 3, 4, 5, 6, 7, 0] rfl)
  refine lv_aload hx hb dL_law_185 (lv_at hl 6 rfl) ?_
  refine lv_aload_n hx hb dL_law_187 rfl (lv_at hl 0 rfl) ?_
  refine lv_bipush (v := (50 : Int32)) hx hb dL_law_188 (by decide) ?_
  refine vp_callSi (W.runS (As := [.ref b, .int (nI 50)]) (rest := [.ref d4]) ⟨hx, hb, hml, hown, hts⟩ (met_cell l b L xs 50 hL (by omega)) (va_cwS 2 hts (lw_S q160 q161 q9 q162) rfl rfl rfl (by decide +kernel) ⟨Nat.le_of_ble_eq_true rfl, Nat.le_of_ble_eq_true rfl⟩) ⟨sm_blindC, sm_goC hT hS _⟩ rfl rfl hl.1 rfl (lv_room (Nat.le_of_ble_eq_true rfl)) dL_law_190 ⟨Nat.le_of_ble_eq_true rfl, Nat.le_of_ble_eq_true rfl⟩) (fun c50 hc50 => ?_)
  refine lv_aload_n hx hb dL_law_193 rfl (lv_at hl 0 rfl) ?_
  refine lv_bipush (v := (51 : Int32)) hx hb dL_law_194 (by decide) ?_
  refine vp_callSi (W.runS (As := [.ref b, .int (nI 51)]) (rest := [.int c50, .ref d4]) ⟨hx, hb, hml, hown, hts⟩ (met_cell l b L xs 51 hL (by omega)) (va_cwS 2 hts (lw_S q160 q161 q9 q162) rfl rfl rfl (by decide +kernel) ⟨Nat.le_of_ble_eq_true rfl, Nat.le_of_ble_eq_true rfl⟩) ⟨sm_blindC, sm_goC hT hS _⟩ rfl rfl hl.1 rfl (lv_room (Nat.le_of_ble_eq_true rfl)) dL_law_196 ⟨Nat.le_of_ble_eq_true rfl, Nat.le_of_ble_eq_true rfl⟩) (fun c51 hc51 => ?_)
  subst hc50 hc51
  have hf0 : sm_m (sm_cell xs L 50) % (z + 1) ≤ z := Nat.lt_succ_iff.mp (Nat.mod_lt _ (Nat.succ_pos _))
  have hc0 : sm_m (sm_cell xs L 51) % (z - sm_m (sm_cell xs L 50) % (z + 1) + 1) ≤ z - sm_m (sm_cell xs L 50) % (z + 1) := Nat.lt_succ_iff.mp (Nat.mod_lt _ (Nat.succ_pos _))
  have hP : va_P D vwCl (w4 ++ (u3 ++ (u2 ++ (u1 ++ ([] : va_W))))) H := by simpa only [List.append_assoc] using sm_swP (a := (u3 ++ (u2 ++ u1))) (b := w4) (r := ([] : va_W)) (by simpa only [List.append_assoc] using hP)
  have hD : va_D A (w4 ++ (u3 ++ (u2 ++ (u1 ++ ([] : va_W))))) := by simpa only [List.append_assoc] using sm_swD (a := (u3 ++ (u2 ++ u1))) (b := w4) (r := ([] : va_W)) (by simpa only [List.append_assoc] using hD)
  have hPw := (sm_Psp (a := w4) hP).1
  have hDw := (sm_Dsp (a := w4) hD).1
  have hFc := sm_f0 (wc := w4) hD hS hA
  refine sm_b0i (wc := w4) (wb := (u3 ++ (u2 ++ (u1 ++ ([] : va_W))))) (va_runV (As := [.int (sm_cell xs L 50), .int (sm_cell xs L 51)]) (rest := []) ⟨hx, hb, hml, hown, hts⟩ (met_feed l D dB dN H.size tA pA w4 d4 (fun j => sm_tx xs L (sm_m (sm_cell xs L 50) % (z + 1) + j)) 0 0 z (sm_tk xs L 10) (fun _ => 0) hw4 (sm_cell xs L 50) (sm_cell xs L 51) _ _ rfl rfl (by omega) (by omega) (fun j hj => by
      show sm_tk xs L 10 _ = sm_tx xs L (sm_m (sm_cell xs L 50) % (z + 1) + (0 + j))
      rw [Nat.zero_add]
      exact sm_txe (by omega)) (fun j => sm_wb_By _ _)) (cwV 2 hts (lw_V q17 q18 q19 q10 q20) rfl rfl rfl (by decide +kernel) ⟨Nat.le_of_ble_eq_true rfl, Nat.le_of_ble_eq_true rfl⟩) ⟨sm_blind, sm_DS_rc hw4 hK hPw, sm_go hK hPw hDw hE hS hFc _⟩ rfl rfl hl.1 rfl (lv_room (Nat.le_of_ble_eq_true rfl)) dL_law_199 ⟨Nat.le_of_ble_eq_true rfl, Nat.le_of_ble_eq_true rfl⟩) hP hD hS hFc (fun r2 u4 H locs hw_ hP hD hS => ?_)
  obtain ⟨hr2, hu4⟩ := hw_
  refine lv_pop hx hb dL_law_202 rfl ?_
  refine lv_aload hx hb dL_law_203 (lv_at hl 6 rfl) ?_
  have hPw := (sm_Psp (a := u4) hP).1
  have hDw := (sm_Dsp (a := u4) hD).1
  have hFc := sm_f0 (wc := u4) hD hS hA
  refine sm_b0v (wc := u4) (wb := (u3 ++ (u2 ++ (u1 ++ ([] : va_W))))) (va_runV (As := []) (rest := []) ⟨hx, hb, hml, hown, hts⟩ (met_drop l D dB dN H.size tA pA u4 d4 (fun j => sm_tx xs L (sm_m (sm_cell xs L 50) % (z + 1) + j)) _ _ z (sm_tk xs L 10) (fun _ => 0) hu4 (sm_tx xs L)) (cwV 0 hts (lw_V q149 q150 q151 q10 q152) rfl rfl rfl (by decide +kernel) ⟨Nat.le_of_ble_eq_true rfl, Nat.le_of_ble_eq_true rfl⟩) ⟨sm_blind, sm_DS_rc hu4 hK hPw, sm_go hK hPw hDw hE hS hFc _⟩ rfl rfl hl.1 rfl (lv_room (Nat.le_of_ble_eq_true rfl)) dL_law_205 ⟨Nat.le_of_ble_eq_true rfl, Nat.le_of_ble_eq_true rfl⟩) hP hD hS hFc (fun v4 H locs hw_ hP hD hS => ?_)
  have hv4 := hw_
  refine lv_aload hx hb dL_law_208 (lv_at hl 6 rfl) ?_
  refine lv_iconst (v := (0 : Int32)) hx hb dL_law_210 (by decide) ?_
  refine lv_iload_n hx hb dL_law_211 rfl (lv_at hl 1 rfl) ?_
  have hPw := (sm_Psp (a := v4) hP).1
  have hDw := (sm_Dsp (a := v4) hD).1
  have hFc := sm_f0 (wc := v4) hD hS hA
  refine sm_b0i (wc := v4) (wb := (u3 ++ (u2 ++ (u1 ++ ([] : va_W))))) (va_runV (As := [.int (0 : Int32), .int (nI z)]) (rest := []) ⟨hx, hb, hml, hown, hts⟩ (met_feed l D dB dN H.size tA pA v4 d4 (sm_tx xs L) 0 0 z (sm_tk xs L 10) (fun _ => 0) hv4 0 (nI z) 0 z (sm_mod0 _) (sm_modN (by omega) (by omega)) (by omega) (by omega) (fun j hj => sm_txe (by omega)) (sm_tx_By xs L)) (cwV 2 hts (lw_V q17 q18 q19 q10 q20) rfl rfl rfl (by decide +kernel) ⟨Nat.le_of_ble_eq_true rfl, Nat.le_of_ble_eq_true rfl⟩) ⟨sm_blind, sm_DS_rc hv4 hK hPw, sm_go hK hPw hDw hE hS hFc _⟩ rfl rfl hl.1 rfl (lv_room (Nat.le_of_ble_eq_true rfl)) dL_law_212 ⟨Nat.le_of_ble_eq_true rfl, Nat.le_of_ble_eq_true rfl⟩) hP hD hS hFc (fun r3 x4 H locs hw_ hP hD hS => ?_)
  obtain ⟨hr3, hx4⟩ := hw_
  have hx4 : sm_DS dB dN pA d4 (sm_tx xs L) z z z (sm_tk xs L 10) (fun _ => 0) x4 := by simpa only [Nat.zero_add] using hx4
  refine lv_pop hx hb dL_law_215 rfl ?_
  refine lv_aload_n hx hb dL_law_216 rfl (lv_at hl 3 rfl) ?_
  have hP : va_P D vwCl (u1 ++ (x4 ++ (u3 ++ (u2 ++ ([] : va_W))))) H := by simpa only [List.append_assoc] using sm_swP (a := (x4 ++ (u3 ++ u2))) (b := u1) (r := ([] : va_W)) (by simpa only [List.append_assoc] using hP)
  have hD : va_D A (u1 ++ (x4 ++ (u3 ++ (u2 ++ ([] : va_W))))) := by simpa only [List.append_assoc] using sm_swD (a := (x4 ++ (u3 ++ u2))) (b := u1) (r := ([] : va_W)) (by simpa only [List.append_assoc] using hD)
  have hPw := (sm_Psp (a := u1) hP).1
  have hDw := (sm_Dsp (a := u1) hD).1
  have hFc := sm_f0 (wc := u1) hD hS hA
  refine sm_b0i (wc := u1) (wb := (x4 ++ (u3 ++ (u2 ++ ([] : va_W))))) (va_runV (As := []) (rest := []) ⟨hx, hb, hml, hown, hts⟩ (met_close l D dB dN H.size tA pA u1 d1 (sm_tx xs L) z z z (sm_tk xs L 10) (fun _ => 0) hu1 (sm_tx xs L)) (cwV 0 hts (lw_V q97 q98 q99 q10 q100) rfl rfl rfl (by decide +kernel) ⟨Nat.le_of_ble_eq_true rfl, Nat.le_of_ble_eq_true rfl⟩) ⟨sm_blind, sm_DS_rc hu1 hK hPw, sm_go hK hPw hDw hE hS hFc _⟩ rfl rfl hl.1 rfl (lv_room (Nat.le_of_ble_eq_true rfl)) dL_law_217 ⟨Nat.le_of_ble_eq_true rfl, Nat.le_of_ble_eq_true rfl⟩) hP hD hS hFc (fun r4 y1 H locs hw_ hP hD hS => ?_)
  obtain ⟨hr4, hy1⟩ := hw_
  subst hr4
  refine lv_topi (fun y_ ey_ => ?_)
  have ey_ : y_ = 32 := ey_.trans rfl
  subst ey_
  refine lv_istore (lv' := [(8, .int 32), (0, .ref b), (1, .int (nI z)), (2, .int (nI 0)), (3, .ref d1), (4, .ref d2), (5, .ref d3), (6, .ref d4)]) hx hb dL_law_220 hl (by decide) rfl (fun ls hl => ?_)
  refine lv_aload hx hb dL_law_222 (lv_at hl 5 rfl) ?_
  have hP : va_P D vwCl (u2 ++ (y1 ++ (x4 ++ (u3 ++ ([] : va_W))))) H := by simpa only [List.append_assoc] using sm_swP (a := (y1 ++ (x4 ++ u3))) (b := u2) (r := ([] : va_W)) (by simpa only [List.append_assoc] using hP)
  have hD : va_D A (u2 ++ (y1 ++ (x4 ++ (u3 ++ ([] : va_W))))) := by simpa only [List.append_assoc] using sm_swD (a := (y1 ++ (x4 ++ u3))) (b := u2) (r := ([] : va_W)) (by simpa only [List.append_assoc] using hD)
  have hPw := (sm_Psp (a := u2) hP).1
  have hDw := (sm_Dsp (a := u2) hD).1
  have hFc := sm_f0 (wc := u2) hD hS hA
  refine sm_b0i (wc := u2) (wb := (y1 ++ (x4 ++ (u3 ++ ([] : va_W))))) (va_runV (As := []) (rest := []) ⟨hx, hb, hml, hown, hts⟩ (met_close l D dB dN H.size tA pA u2 d2 (sm_tx xs L) z z z (sm_tk xs L 10) (fun _ => 0) hu2 (sm_tx xs L)) (cwV 0 hts (lw_V q97 q98 q99 q10 q100) rfl rfl rfl (by decide +kernel) ⟨Nat.le_of_ble_eq_true rfl, Nat.le_of_ble_eq_true rfl⟩) ⟨sm_blind, sm_DS_rc hu2 hK hPw, sm_go hK hPw hDw hE hS hFc _⟩ rfl rfl hl.1 rfl (lv_room (Nat.le_of_ble_eq_true rfl)) dL_law_224 ⟨Nat.le_of_ble_eq_true rfl, Nat.le_of_ble_eq_true rfl⟩) hP hD hS hFc (fun r5 y2 H locs hw_ hP hD hS => ?_)
  obtain ⟨hr5, hy2⟩ := hw_
  subst hr5
  refine lv_iload hx hb dL_law_227 (lv_at hl 0 rfl) ?_
  refine lv_icmp_ne (tgt := 279) hx hb dL_law_229 (by decide) (fun hc => absurd rfl hc) (fun _ => ?_)
  refine lv_aload hx hb dL_law_232 (lv_at hl 6 rfl) ?_
  have hP : va_P D vwCl (u3 ++ (y2 ++ (y1 ++ (x4 ++ ([] : va_W))))) H := by simpa only [List.append_assoc] using sm_swP (a := (y2 ++ (y1 ++ x4))) (b := u3) (r := ([] : va_W)) (by simpa only [List.append_assoc] using hP)
  have hD : va_D A (u3 ++ (y2 ++ (y1 ++ (x4 ++ ([] : va_W))))) := by simpa only [List.append_assoc] using sm_swD (a := (y2 ++ (y1 ++ x4))) (b := u3) (r := ([] : va_W)) (by simpa only [List.append_assoc] using hD)
  have hPw := (sm_Psp (a := u3) hP).1
  have hDw := (sm_Dsp (a := u3) hD).1
  have hFc := sm_f0 (wc := u3) hD hS hA
  refine sm_b0i (wc := u3) (wb := (y2 ++ (y1 ++ (x4 ++ ([] : va_W))))) (va_runV (As := []) (rest := []) ⟨hx, hb, hml, hown, hts⟩ (met_close l D dB dN H.size tA pA u3 d3 (sm_tx xs L) z z z (sm_tk xs L 10) (fun _ => 0) hu3 (sm_tx xs L)) (cwV 0 hts (lw_V q97 q98 q99 q10 q100) rfl rfl rfl (by decide +kernel) ⟨Nat.le_of_ble_eq_true rfl, Nat.le_of_ble_eq_true rfl⟩) ⟨sm_blind, sm_DS_rc hu3 hK hPw, sm_go hK hPw hDw hE hS hFc _⟩ rfl rfl hl.1 rfl (lv_room (Nat.le_of_ble_eq_true rfl)) dL_law_234 ⟨Nat.le_of_ble_eq_true rfl, Nat.le_of_ble_eq_true rfl⟩) hP hD hS hFc (fun r6 y3 H locs hw_ hP hD hS => ?_)
  obtain ⟨hr6, hy3⟩ := hw_
  subst hr6
  refine lv_iload hx hb dL_law_237 (lv_at hl 0 rfl) ?_
  refine lv_icmp_ne (tgt := 279) hx hb dL_law_239 (by decide) (fun hc => absurd rfl hc) (fun _ => ?_)
  refine lv_aload hx hb dL_law_242 (lv_at hl 7 rfl) ?_
  have hP : va_P D vwCl (x4 ++ (y3 ++ (y2 ++ (y1 ++ ([] : va_W))))) H := by simpa only [List.append_assoc] using sm_swP (a := (y3 ++ (y2 ++ y1))) (b := x4) (r := ([] : va_W)) (by simpa only [List.append_assoc] using hP)
  have hD : va_D A (x4 ++ (y3 ++ (y2 ++ (y1 ++ ([] : va_W))))) := by simpa only [List.append_assoc] using sm_swD (a := (y3 ++ (y2 ++ y1))) (b := x4) (r := ([] : va_W)) (by simpa only [List.append_assoc] using hD)
  have hPw := (sm_Psp (a := x4) hP).1
  have hDw := (sm_Dsp (a := x4) hD).1
  have hFc := sm_f0 (wc := x4) hD hS hA
  refine sm_b0i (wc := x4) (wb := (y3 ++ (y2 ++ (y1 ++ ([] : va_W))))) (va_runV (As := []) (rest := []) ⟨hx, hb, hml, hown, hts⟩ (met_close l D dB dN H.size tA pA x4 d4 (sm_tx xs L) z z z (sm_tk xs L 10) (fun _ => 0) hx4 (sm_tx xs L)) (cwV 0 hts (lw_V q97 q98 q99 q10 q100) rfl rfl rfl (by decide +kernel) ⟨Nat.le_of_ble_eq_true rfl, Nat.le_of_ble_eq_true rfl⟩) ⟨sm_blind, sm_DS_rc hx4 hK hPw, sm_go hK hPw hDw hE hS hFc _⟩ rfl rfl hl.1 rfl (lv_room (Nat.le_of_ble_eq_true rfl)) dL_law_244 ⟨Nat.le_of_ble_eq_true rfl, Nat.le_of_ble_eq_true rfl⟩) hP hD hS hFc (fun r7 y4 H locs hw_ hP hD hS => ?_)
  obtain ⟨hr7, hy4⟩ := hw_
  subst hr7
  refine lv_iload hx hb dL_law_247 (lv_at hl 0 rfl) ?_
  refine lv_icmp_ne (tgt := 279) hx hb dL_law_249 (by decide) (fun hc => absurd rfl hc) (fun _ => ?_)
  refine lv_aload_n hx hb dL_law_252 rfl (lv_at hl 4 rfl) ?_
  refine lv_aload hx hb dL_law_253 (lv_at hl 5 rfl) ?_
  have hPw : va_P D vwCl (y1 ++ y2) H := va_P.app (sm_Psp (sm_Psp (sm_Psp (sm_Psp hP).2).2).2).1 (sm_Psp (sm_Psp (sm_Psp hP).2).2).1
  refine vp_callSi (W.runS (As := [.ref d1, .ref d2]) (rest := []) ⟨hx, hb, hml, hown, hts⟩ (met_same l D dB dN pA hy1 hy2 (fun _ _ => rfl)) (va_cwS 2 hts (lw_S q244 q245 q9 q246) rfl rfl rfl (by decide +kernel) ⟨Nat.le_of_ble_eq_true rfl, Nat.le_of_ble_eq_true rfl⟩) ⟨sm_blind0, sm_go0 hK hPw _⟩ rfl rfl hl.1 rfl (lv_room (Nat.le_of_ble_eq_true rfl)) dL_law_255 ⟨Nat.le_of_ble_eq_true rfl, Nat.le_of_ble_eq_true rfl⟩) (fun q1 hq1 => ?_)
  subst hq1
  refine lv_if_eq (tgt := 279) hx hb dL_law_258 (by decide) (fun hc => absurd hc (by decide)) (fun _ => ?_)
  refine lv_aload_n hx hb dL_law_261 rfl (lv_at hl 4 rfl) ?_
  refine lv_aload hx hb dL_law_262 (lv_at hl 6 rfl) ?_
  have hPw : va_P D vwCl (y1 ++ y3) H := va_P.app (sm_Psp (sm_Psp (sm_Psp (sm_Psp hP).2).2).2).1 (sm_Psp (sm_Psp hP).2).1
  refine vp_callSi (W.runS (As := [.ref d1, .ref d3]) (rest := []) ⟨hx, hb, hml, hown, hts⟩ (met_same l D dB dN pA hy1 hy3 (fun _ _ => rfl)) (va_cwS 2 hts (lw_S q244 q245 q9 q246) rfl rfl rfl (by decide +kernel) ⟨Nat.le_of_ble_eq_true rfl, Nat.le_of_ble_eq_true rfl⟩) ⟨sm_blind0, sm_go0 hK hPw _⟩ rfl rfl hl.1 rfl (lv_room (Nat.le_of_ble_eq_true rfl)) dL_law_264 ⟨Nat.le_of_ble_eq_true rfl, Nat.le_of_ble_eq_true rfl⟩) (fun q2 hq2 => ?_)
  subst hq2
  refine lv_if_eq (tgt := 279) hx hb dL_law_267 (by decide) (fun hc => absurd hc (by decide)) (fun _ => ?_)
  refine lv_aload_n hx hb dL_law_270 rfl (lv_at hl 4 rfl) ?_
  refine lv_aload hx hb dL_law_271 (lv_at hl 7 rfl) ?_
  have hPw : va_P D vwCl (y1 ++ y4) H := va_P.app (sm_Psp (sm_Psp (sm_Psp (sm_Psp hP).2).2).2).1 (sm_Psp hP).1
  refine vp_callSi (W.runS (As := [.ref d1, .ref d4]) (rest := []) ⟨hx, hb, hml, hown, hts⟩ (met_same l D dB dN pA hy1 hy4 (fun _ _ => rfl)) (va_cwS 2 hts (lw_S q244 q245 q9 q246) rfl rfl rfl (by decide +kernel) ⟨Nat.le_of_ble_eq_true rfl, Nat.le_of_ble_eq_true rfl⟩) ⟨sm_blind0, sm_go0 hK hPw _⟩ rfl rfl hl.1 rfl (lv_room (Nat.le_of_ble_eq_true rfl)) dL_law_273 ⟨Nat.le_of_ble_eq_true rfl, Nat.le_of_ble_eq_true rfl⟩) (fun q3 hq3 => ?_)
  subst hq3
  refine lv_if_ne (tgt := 281) hx hb dL_law_276 (by decide) (fun _ => ?_) (fun hc => absurd hc (by decide))
  refine lv_aload_n hx hb dL_law_281 rfl (lv_at hl 4 rfl) ?_
  refine lv_iconst (v := (0 : Int32)) hx hb dL_law_282 (by decide) ?_
  refine lv_iload_n hx hb dL_law_283 rfl (lv_at hl 2 rfl) ?_
  have hP : va_P D vwCl (y1 ++ (y4 ++ (y3 ++ (y2 ++ ([] : va_W))))) H := by simpa only [List.append_assoc] using sm_swP (a := (y4 ++ (y3 ++ y2))) (b := y1) (r := ([] : va_W)) (by simpa only [List.append_assoc] using hP)
  have hD : va_D A (y1 ++ (y4 ++ (y3 ++ (y2 ++ ([] : va_W))))) := by simpa only [List.append_assoc] using sm_swD (a := (y4 ++ (y3 ++ y2))) (b := y1) (r := ([] : va_W)) (by simpa only [List.append_assoc] using hD)
  have hPw := (sm_Psp (a := y1) hP).1
  have hDw := (sm_Dsp (a := y1) hD).1
  have hFc := sm_f0 (wc := y1) hD hS hA
  refine sm_b0i (wc := y1) (wb := (y4 ++ (y3 ++ (y2 ++ ([] : va_W))))) (va_runV (As := [.int (0 : Int32), .int (nI z)]) (rest := []) ⟨hx, hb, hml, hown, hts⟩ (met_feed l D dB dN H.size tA pA y1 d1 (sm_tx xs L) 0 0 z (sm_tk xs L 10) (sm_od (sm_tx xs L) z (fun _ => 0)) hy1 0 (nI z) 0 z (sm_mod0 _) (sm_modN (by omega) (by omega)) (by omega) (by omega) (fun j hj => sm_txe (by omega)) (sm_tx_By xs L)) (cwV 2 hts (lw_V q17 q18 q19 q10 q20) rfl rfl rfl (by decide +kernel) ⟨Nat.le_of_ble_eq_true rfl, Nat.le_of_ble_eq_true rfl⟩) ⟨sm_blind, sm_DS_rc hy1 hK hPw, sm_go hK hPw hDw hE hS hFc _⟩ rfl rfl hl.1 rfl (lv_room (Nat.le_of_ble_eq_true rfl)) dL_law_284 ⟨Nat.le_of_ble_eq_true rfl, Nat.le_of_ble_eq_true rfl⟩) hP hD hS hFc (fun r8 a1 H locs hw_ hP hD hS => ?_)
  obtain ⟨hr8, ha1⟩ := hw_
  have ha1 : sm_DS dB dN pA d1 (sm_tx xs L) z z z (sm_tk xs L 10) (sm_od (sm_tx xs L) z (fun _ => 0)) a1 := by simpa only [Nat.zero_add] using ha1
  refine lv_pop hx hb dL_law_287 rfl ?_
  refine lv_aload_n hx hb dL_law_288 rfl (lv_at hl 4 rfl) ?_
  have hPw := (sm_Psp (a := a1) hP).1
  have hDw := (sm_Dsp (a := a1) hD).1
  have hFc := sm_f0 (wc := a1) hD hS hA
  refine sm_b0i (wc := a1) (wb := (y4 ++ (y3 ++ (y2 ++ ([] : va_W))))) (va_runV (As := []) (rest := []) ⟨hx, hb, hml, hown, hts⟩ (met_close l D dB dN H.size tA pA a1 d1 (sm_tx xs L) z z z (sm_tk xs L 10) (sm_od (sm_tx xs L) z (fun _ => 0)) ha1 (sm_tx xs L)) (cwV 0 hts (lw_V q97 q98 q99 q10 q100) rfl rfl rfl (by decide +kernel) ⟨Nat.le_of_ble_eq_true rfl, Nat.le_of_ble_eq_true rfl⟩) ⟨sm_blind, sm_DS_rc ha1 hK hPw, sm_go hK hPw hDw hE hS hFc _⟩ rfl rfl hl.1 rfl (lv_room (Nat.le_of_ble_eq_true rfl)) dL_law_289 ⟨Nat.le_of_ble_eq_true rfl, Nat.le_of_ble_eq_true rfl⟩) hP hD hS hFc (fun r9 e1 H locs hw_ hP hD hS => ?_)
  obtain ⟨hr9, he1⟩ := hw_
  refine lv_pop hx hb dL_law_292 rfl ?_
  refine lv_aload_n hx hb dL_law_293 rfl (lv_at hl 4 rfl) ?_
  refine lv_aload hx hb dL_law_294 (lv_at hl 5 rfl) ?_
  have hPw : va_P D vwCl (e1 ++ y2) H := va_P.app (sm_Psp hP).1 (sm_Psp (sm_Psp (sm_Psp (sm_Psp hP).2).2).2).1
  refine vp_callSi (W.runS (As := [.ref d1, .ref d2]) (rest := []) ⟨hx, hb, hml, hown, hts⟩ (met_same l D dB dN pA he1 hy2 sm_od_od) (va_cwS 2 hts (lw_S q244 q245 q9 q246) rfl rfl rfl (by decide +kernel) ⟨Nat.le_of_ble_eq_true rfl, Nat.le_of_ble_eq_true rfl⟩) ⟨sm_blind0, sm_go0 hK hPw _⟩ rfl rfl hl.1 rfl (lv_room (Nat.le_of_ble_eq_true rfl)) dL_law_296 ⟨Nat.le_of_ble_eq_true rfl, Nat.le_of_ble_eq_true rfl⟩) (fun q4 hq4 => ?_)
  subst hq4
  refine lv_if_ne (tgt := 304) hx hb dL_law_299 (by decide) (fun _ => ?_) (fun hc => absurd hc (by decide))
  refine lv_iinc (v := (nI 1)) (lv' := [(2, .int (nI 1)), (8, .int 32), (0, .ref b), (1, .int (nI z)), (3, .ref d1), (4, .ref d2), (5, .ref d3), (6, .ref d4)]) hx hb dL_law_304 hl (k := 3) rfl (sm_i1 0) (by decide) rfl (fun ls hl => ?_)
  refine lv_goto (tgt := 23) hx hb dL_law_307 (by decide) ?_
  refine lv_iload_n hx hb dL_law_23 rfl (lv_at hl 0 rfl) ?_
  refine lv_iconst (v := (1 : Int32)) hx hb dL_law_24 (by decide) ?_
  refine lv_icmp_ge (tgt := 310) hx hb dL_law_25 (by decide) (fun _ => ?_) (fun hc => absurd (Int32.le_refl _) hc)
  refine lv_iconst (v := (1 : Int32)) hx hb dL_law_310 (by decide) ?_
  refine W.widen (k := 80) (n := 7870) (Nat.le_of_ble_eq_true rfl) (Nat.le_of_ble_eq_true rfl) ?_
  exact kk H locs ls hS
end
section
set_option maxRecDepth 100000
/-! THE CLAIM OUT OF ONE WALK OF THE LAW'S BODY. Your part is whole_start (and what it stands on); all else here is the same for every law, but numbers. -/
def R_law : String := "SmDigestDeskLaw"
def lw_P (b : Addr) (xs : List Int32) (args : Array Value) (s : State) : Prop := args = #[.ref b] ∧ s.IntsAt b xs ∧ xs.length ≤ 60 ∧ (Jvm.Cond.and given_1 narrow_1).before args s = true
def lw_Q (_ : Array Value) (s : State) (o : Outcome) (t : State) : Prop := o = .returned (some (.int 1)) ∧ Framed s o t [] 600000 7302250
def lw_Z (below : List Frame) (a : Array Value) (s : State) : State → Prop := fun t => ∃ o, t.status = .running ∧ Ended t below o ∧ lw_Q a s o t
/-- the law's own end, with 1 on the stack, nothing written that was there before, its room as the claim has it -/
theorem lw_ret {p : Program} {l : Launch} {e : Env} {s : State} {m : MethodId} {below : List Frame} {meth : Method} {c : Code} {b : Nat} (hx : p.tables.exec = Jvm.exec) (hb : c.code = code) (hr : meth.sig.returnType = ret) (hlocks : meth.locks = false) {pc : Nat} {H : Heap} {ls : Array Slot} (hdg : decode code pc = .ok (.ireturn, 1)) : W p l e room_1 s m #[Value.ref b] below meth c H [] 600000 7302250 (lw_Z below #[Value.ref b] s) (F0 m pc ls [.int 1]) := by
  intro T hT X
  obtain ⟨fs, hret, hrun, hended, hW, hframe⟩ := X.leave (v := some (.int 1)) (hlocks := hlocks) (fun h => by rw [hr] at h; cases h)
  have hmeth' : T.vm.method? m = some meth := X.method'
  refine ⟨T.setFrames fs, ?_, .returned (some (.int 1)), hrun, hended, rfl, ⟨_, rfl⟩, hW, hframe⟩
  jvm_step X.here [X.here.top, hx, hb, hdg, hmeth', hr, ret, narrow_b1]
  (try refine ⟨rfl, ?_⟩); (try refine ⟨rfl, ?_⟩)
  first | (intro acts; rw [hret _ acts rfl rfl rfl]) | rw [hret _ _ rfl rfl rfl]
  exact Steps.refl _
/-- what holds at the law's entry: the machine, the code, the tables' words (any of lw_tbl by 'hts w (by decide +kernel)'), the script of L ints xs at the cell b, what the Statement gives of the start (any of its parts by flat_of_before) -/
def lw_At (p : Program) (s : State) (m : MethodId) (meth : Method) (c : Code) (b L : Nat) (xs : Nat → Int32) : Prop :=
  p.tables.exec = Jvm.exec ∧ c.code = code ∧ meth.sig.returnType = ret ∧ c.maxLocals = 10 ∧ s.vm.findClass R_law = some m.cls ∧ (∀ w ∈ lw_tbl, w.before #[Value.ref b] s = true) ∧ va_X b L xs s s.heap ∧ b < s.heap.size ∧ meth.locks = false ∧ (Jvm.Cond.and given_1 narrow_1).before #[Value.ref b] s = true
-- ===== YOUR PART BEGINS =====
theorem sm_hK {s : State} {args : Array Value} (hts0 : ∀ w ∈ lw_tbl, w.before args s = true) : ∃ (D : va_G) (dB dN : ClassId), va_K D vwCl (sm_ty dB dN) s := by
  obtain ⟨c0, iS0, hKn0⟩ := u_known (C := RX3) (T := TX3) (N := 8) (n := 8) hts0 (fun w h => lw_all_tbl (in_X3 w h)) (hts0 _ (lw_all_tbl q60))
  obtain ⟨c1, iS1, hKn1⟩ := u_known (C := RX1) (T := TX1) (N := 5) (n := 5) hts0 (fun w h => lw_all_tbl (in_X1 w h)) (hts0 _ (lw_all_tbl q24))
  obtain ⟨dB, kB, xB, b1, b2, b3⟩ := Cond.arrayClass_spec (hts0 _ (lw_all_tbl q210))
  obtain ⟨dN, kN, xN, n1, n2, n3⟩ := Cond.arrayClass_spec (hts0 _ (lw_all_tbl q211))
  refine ⟨(fun k => if k = 0 then c0 else c1, fun k => if k = 0 then iS0 else iS1), dB, dN, ?_, ?_⟩
  · intro k q hq
    match k, hq with
    | 0, hq => cases hq; exact hKn0
    | 1, hq => cases hq; exact hKn1
    | k + 2, hq => simp [vwCl] at hq
  · intro k q hq
    match k, hq with
    | 0, hq => cases hq; exact ⟨fun n z => ⟨fun k h => (by cases h), kB, b2, xB, b3⟩, b1⟩
    | 1, hq => cases hq; exact ⟨fun n z => ⟨fun k h => (by cases h), kN, n2, xN, n3⟩, n1⟩
    | k + 2, hq => simp [sm_ty] at hq
/-- the table's rows in the Statement -/
theorem sm_rows : ∀ j, j < 64 → Cond.eq (.elem (.static "SM3Digest" "T" "[I") (.int (Int32.ofNat j))) (.int (sm_T j)) ∈ flatC (Jvm.Cond.and given_1 narrow_1) := fun j hj => co_dec (P := fun j => Cond.eq (.elem (.static "SM3Digest" "T" "[I") (.int (Int32.ofNat j))) (.int (sm_T j)) ∈ flatC (Jvm.Cond.and given_1 narrow_1)) (N := 64) (by decide +kernel) hj
theorem sm_hE {s : State} {args : Array Value} {A : Nat → Prop} (hts0 : ∀ w ∈ lw_tbl, w.before args s = true) (hgv : (Jvm.Cond.and given_1 narrow_1).before args s = true) (hA : ∀ a : Nat, a < s.heap.size → ¬ A a) : ∃ tA pA : Nat, sm_E A tA pA s s.heap := by
  have hs := flat_of_before _ hgv
  obtain ⟨tA, ht, hT⟩ := va_Tof (tm := .static "SM3Digest" "T" "[I") (ty := .int) (N := 64) (f := fun j => .int (sm_T j)) (A := A) (by decide) (hs _ (by decide +kernel)) (va_eqt (z := Int32.ofNat 64) (hs _ (by decide +kernel))) (fun j hj => va_eqt (hs _ (sm_rows j hj))) hA
  obtain ⟨pA, _, _, _, hp, -⟩ := Cond.exactly_spec (hs (.exactly (.static "CryptoServicePurpose" "ANY" "LCryptoServicePurpose;") "CryptoServicePurpose") (by decide +kernel))
  refine ⟨tA, pA, va_Zof (hts0 _ q63) (hts0 _ (lw_all_tbl q12)) ht hA, hT, va_Zof (hts0 _ q178) (hts0 _ (lw_all_tbl q14)) hp hA, va_Nw.of rfl (hts0 _ q45), va_Nw.of rfl (hts0 _ q118), va_Nw.of rfl (hts0 _ q124), ?_, ?_, ?_, ?_⟩
  · exact va_Fw.of (hts0 _ q34) (hts0 _ q33) (hts0 _ q39) (hts0 _ q37) (hts0 _ q35)
  · exact va_Fw.of (hts0 _ q91) (hts0 _ q90) (hts0 _ q95) (hts0 _ q93) (hts0 _ q35)
  · exact va_Fw.of (hts0 _ q104) (hts0 _ q103) (hts0 _ q108) (hts0 _ q106) (hts0 _ q35)
  · exact va_Fw.of (hts0 _ q156) (hts0 _ q155) (hts0 _ q159) (hts0 _ q158) (hts0 _ q35)
/-- YOUR PART: from the entry, for every script of at most 60 ints, the law comes to its end with true ('hflags': the launch's flags, for a law that throws: no stack traces) -/
theorem whole_start {p : Program} {e : Env} {s : State} {m : MethodId} {below : List Frame} {meth : Method} {c : Code} (l : Launch) (hflags : l.flags = flags0) {b L : Nat} {xs : Nat → Int32} (hL : L ≤ 60) (C0 : lw_At p s m meth c b L xs) : W p l e room_1 s m #[Value.ref b] below meth c s.heap [] 0 0 (lw_Z below #[Value.ref b] s) (entryFrame m ([Value.ref b] : List Value).toArray 10) := by
  obtain ⟨hx, hb, hr, hml, hown, hts0, hX, hbl, hlk, hgv⟩ := id C0
  obtain ⟨A, hAe⟩ : ∃ A : Nat → Prop, A = fun q : Nat => s.heap.size ≤ q := ⟨_, rfl⟩
  have hA : ∀ q, s.heap.size ≤ q → A q := by rw [hAe]; exact fun _ h => h
  have hA2 : ∀ q, A q → s.heap.size ≤ q := by rw [hAe]; exact fun _ h => h
  have hA3 : ∀ a : Nat, a < s.heap.size → ¬ A a := fun a h z => absurd (hA2 a z) (Nat.not_le.mpr h)
  obtain ⟨D, dB, dN, hK⟩ := sm_hK hts0
  obtain ⟨tA, pA, hE⟩ := sm_hE (A := A) hts0 hgv hA3
  have hT : va_T .int b L (fun j => .int (xs j)) A s s.heap := by
    obtain ⟨scr, h1, h2, h3, h4, h5⟩ := hX
    exact ⟨scr, h1, h2, h3, Nat.le_of_eq h4.symm, by rw [h4] <;> rfl, h5, hA3 b hbl⟩
  have hl := lv_entry ([.ref b]) (n := 10) (Nat.le_of_ble_eq_true rfl)
  rw [lg_entry_eq]
  exact law_walk ⟨hx, hb, hr, hlk, hml, hown, fun w h => hts0 w (lw_all_tbl h)⟩ (by omega) hK hE hA hT (fun H locs ls hS => by
    refine va_forget (fun q hq => hA2 _ (hS.2.2 q hq)) ?_
    refine W.widen (k := 600000) (n := 7302250) (Nat.le_of_ble_eq_true rfl) (Nat.le_of_ble_eq_true rfl) ?_
    exact lw_ret hx hb hr hlk dL_law_311) hl
-- ===== YOUR PART ENDS =====
set_option maxHeartbeats 4000000 in
theorem lw_walk (l : Launch) (hflags : l.flags = flags0) (b : Addr) (xs : List Int32) : MetFree l x (headSpec (Jvm.Cond.code x code maxLocals ret :: tables_1) room_1) (lw_P b xs) (fun _ _ _ _ _ => True) lw_Q := by
  refine MetFree.of_bodyS (code := code) (maxLocals := maxLocals) (ret := ret) (by decide) ?_ ?_
  · intro args s m h hn
    obtain ⟨meth, c, h1, h2, h3, h4, h5, h6, -, -⟩ := Cond.code_spec hn (atoms_spec (ws := Jvm.Cond.code x code maxLocals ret :: tables_1) h _ List.mem_cons_self)
    exact ⟨meth, c, h1, h2, h3, h4, h5, h6⟩
  · intro p e s m args below meth c s₁ B hml0 hP _
    obtain ⟨rfl, hx, hbd, hgv⟩ := hP
    obtain ⟨scr, harrAt, hlist, hof, hsmall⟩ := hx
    obtain ⟨hcb, hkn, -, -⟩ := State.arrayAt?_spec harrAt
    have hown : s.vm.findClass R_law = some m.cls := findClass_of_methodNamed B.named
    have hts0 : ∀ c ∈ (Jvm.Cond.code x code maxLocals ret :: tables_1), c.before #[Value.ref b] s = true := atoms_spec (ws := Jvm.Cond.code x code maxLocals ret :: tables_1) B.pre
    have hts : ∀ w ∈ lw_tbl, w.before #[Value.ref b] s = true := k2_hts_sels lw_privs (fun w hw => hts0 w (List.mem_cons_of_mem _ hw)) lw_privs_ok
    have hml : c.maxLocals = 10 := B.maxLocals_eq (hts0 _ List.mem_cons_self)
    have X₀ : Stand p l e room_1 s m #[Value.ref b] below meth c s₁ [] 0 0 := Stand.of_body B
    have hh0 : s₁.heap = s.heap := by rw [B.state]; rfl
    have hsz : scr.slots.size = xs.length := by rw [← Array.length_toList, hlist, List.length_map]
    have hval : ∀ j : Nat, j < xs.length → scr.slots[j]? = some (.int (xs.getD j 0)) := fun j hj => by
      rw [← Array.getElem?_toList, hlist]
      simp [hj]
    have hbl : b < s.heap.size := (Array.getElem?_eq_some_iff.mp hcb).1
    have hX : va_X b xs.length (fun j => xs.getD j 0) s s.heap := ⟨scr, hcb, hof, hkn, hsz, hval⟩
    have K : W p l e room_1 s m #[Value.ref b] below meth c s₁.heap [] 0 0 (lw_Z below #[Value.ref b] s) (entryFrame m ([Value.ref b] : List Value).toArray 10) := by
      rw [hh0]
      exact whole_start l hflags hbd ⟨B.exec, B.bytes, B.returns, hml, hown, hts, hX, hbl, B.notSynchronized, hgv⟩
    obtain ⟨t, a1, o, b1, b2, b3⟩ := K s₁ rfl X₀
    exact ⟨t, o, a1, b1, b2, b3⟩
theorem lw_pre_spec {args : Array Value} {s : State} (h : (Jvm.Cond.and given_1 narrow_1).before args s = true) (hr : rest_1_c.before args s = true) : ∃ (b : Addr) (xs : List Int32), lw_P b xs args s := by
  have hs := flat_of_before _ h
  have hq := flat_of_before _ hr
  have hc : (Cond.count 1).before args s = true := hs _ (by decide +kernel)
  have harr : (Cond.arrayOf (.arg 0) .int).before args s = true := hs _ (by decide +kernel)
  have hle : (Cond.le (.length (.arg 0)) (.int 60)).before args s = true := hs _ (by decide +kernel)
  have hlen : (Cond.isInt (.length (.arg 0))).before args s = true := hq _ (by decide +kernel)
  have hall : (Cond.all (.arg 0) (.isInt (.elem (.arg 0) (.index 0)))).before args s = true := hq _ (by decide +kernel)
  obtain ⟨b, xs, hb, hx⟩ := State.ints_of_pre rfl harr hlen hall
  have hsm : xs.length < 2 ^ 31 := hx.choose_spec.2.2.2
  have hev : (Term.length (.arg 0)).eval args s none [] s = some (.int xs.length.toInt32) := hx.length_eval hb
  have hv := Cond.le_ints hev (show (Term.int 60).eval args s none [] s = some (.int 60) from rfl)
  have hd : xs.length.toInt32 ≤ 60 := by
    simpa [Cond.before, Cond.holds, hv] using hle
  have hN : xs.length ≤ 60 := (Int32.ofNat_le_ofNat hsm (by decide)).mp (show Int32.ofNat xs.length ≤ Int32.ofNat 60 from hd)
  exact ⟨b, xs, Cond.one_arg hc (show args[0]? = some (.ref b) from hb), hx, hN, h⟩
theorem lw_comes (l : Launch) (hflags : l.flags = flags0) : Comes l x (Jvm.Cond.code x code maxLocals ret :: tables_1) room_1 (fun tb e args s => Calls_1 tb e args s ∧ rest_1 tb e args s ∧ Pre_1 tb e args s)
    (fun _ _ args s o t => lw_Q args s o t) := by
  intro p e ha hc hk s m args below hf hfit hheap happ hpre
  obtain ⟨b, xs, hP⟩ := lw_pre_spec hpre.2.2 hpre.2.1
  obtain ⟨k, o, h1, h2, h3, hQ⟩ := lw_walk l hflags b xs p e ha hc hk s m args below hf ((Spec.applies_iff_loose hf).mp happ).1 hP trivial
  exact ⟨k, o, h1, h2, h3, hQ⟩
theorem lw_frame {s t : State} {o : Outcome} {args : Array Value} (h : Framed s o t [] 600000 7302250) :
    Framed s o t (fieldLocs frame_1_writes args s ++ arrayLocs frame_1_arrays args s ++ staticLocs frame_1_statics s) 600000 7302250 := h
theorem lw_limb (L : Cond) (hL : ∀ (args : Array Value) (s t : State), L.after args s (.returned (some (.int 1))) t = true) :
    ArmFor flags0 classFile x code maxLocals ret World_1 tables_1 room_1 Calls_1 rest_1 Pre_1
      (fun tb e a s o t => postC L tb e a s o t ∧ Framed s o t (fieldLocs frame_1_writes a s ++ arrayLocs frame_1_arrays a s ++ staticLocs frame_1_statics s) 600000 7302250) := by
  intro l hflags _ _ p e ha hc hk s m args below hf hfit hheap happ hpre
  obtain ⟨k, o, h1, h2, h3, rfl, hF⟩ := lw_comes l hflags p e ha hc hk s m args below hf hfit hheap happ hpre
  exact ⟨k, _, h1, h2, h3, hL args s _, lw_frame hF⟩
theorem i_vc : Claimed_1_1 ∧ Claimed_1_2 := ⟨lw_limb limb_1_1 (fun args s t => by simp [limb_1_1, Cond.after, Cond.holds, Cond.value]), lw_limb limb_1_2 (fun args s t => Cond.after_iff.mpr (by
  first | (rw [show limb_1_2 = Cond.eq .result (.int 1) from rfl, Cond.eq_ints (x := 1) (y := 1) rfl rfl]; simp; done) | (simp [limb_1_2, Cond.value, Term.eval]; done)))⟩
end
