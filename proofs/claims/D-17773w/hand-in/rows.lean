section
-- ===== PART A: goes FIRST, ahead of the names: the tables' words, and 'selects' of the private methods out of them =====
/-- a private method of a class that the tables say can be made, by its rows of tables_1 -/
def lw_okq (q : MethodName × Nat) : Prop := (q.1.cls ≠ "java/lang/invoke/MethodHandle" ∧ q.1.cls ≠ "java/lang/invoke/VarHandle") ∧ Cond.instantiable q.1.cls q.2 ∈ tables_1 ∧ Cond.privateMethod q.1 ∈ tables_1 ∧ Cond.instanceMethod q.1 ∈ tables_1
set_option maxRecDepth 100000
theorem lw_p0 : lw_okq (⟨"MurmurDesk", "from", "(I)I"⟩, 2) := ⟨⟨by decide +kernel, by decide +kernel⟩, List.mem_of_getElem? (i := 6) rfl, List.mem_of_getElem? (i := 33) rfl, List.mem_of_getElem? (i := 34) rfl⟩
theorem lw_p1 : lw_okq (⟨"MurmurDesk", "part", "(II)[B"⟩, 2) := ⟨⟨by decide +kernel, by decide +kernel⟩, List.mem_of_getElem? (i := 6) rfl, List.mem_of_getElem? (i := 55) rfl, List.mem_of_getElem? (i := 56) rfl⟩
theorem lw_p2 : lw_okq (⟨"MurmurDesk", "count", "(II)I"⟩, 2) := ⟨⟨by decide +kernel, by decide +kernel⟩, List.mem_of_getElem? (i := 6) rfl, List.mem_of_getElem? (i := 59) rfl, List.mem_of_getElem? (i := 60) rfl⟩
def lw_privs_1 : List (MethodName × Nat) := [(⟨"MurmurDesk", "from", "(I)I"⟩, 2), (⟨"MurmurDesk", "part", "(II)[B"⟩, 2), (⟨"MurmurDesk", "count", "(II)I"⟩, 2)]
theorem lw_r1 : ∀ q ∈ lw_privs_1, lw_okq q := List.forall_mem_cons.mpr ⟨lw_p0, List.forall_mem_cons.mpr ⟨lw_p1, List.forall_mem_cons.mpr ⟨lw_p2, fun _ h => absurd h List.not_mem_nil⟩⟩⟩
def lw_privs : List (MethodName × Nat) := lw_privs_1
def lw_tbl : List Cond := k2_sels lw_privs ++ tables_1
theorem lw_privs_ok : ∀ q ∈ lw_privs, lw_okq q := lw_r1
-- ===== ONE list of words for every method: the tables' words that hold all through a run =====
def lw_all : List Cond := lw_tbl.filter goodWord
/-- a word of the tables by its place: claim/WORDS.tsv -/
theorem lw_w {w : Cond} (i : Nat) (h : lw_tbl[i]? = some w) (g : goodWord w = true) : w ∈ lw_all := List.mem_filter.mpr ⟨List.mem_of_getElem? h, g⟩
theorem lw_all_tbl {w : Cond} (h : w ∈ lw_all) : w ∈ lw_tbl := (List.mem_filter.mp h).1
theorem lw_self : GoodIn lw_all lw_all := fun w h => ⟨h, good_of_word (List.mem_filter.mp h).2⟩
/-- a class's field words, by their places -/
theorem lw_in (ws : List Cond) (ps : List Nat) (hp : ws = ps.filterMap (fun i => lw_tbl[i]?)) (hg : ws.all goodWord = true) : ∀ w ∈ ws, w ∈ lw_all := by
  intro w h
  have h1 := List.all_eq_true.mp hg w h
  rw [hp] at h
  obtain ⟨i, -, hi⟩ := List.mem_filterMap.mp h
  exact lw_w i hi h1
/-- the words of a contract for the method y with code b, L locals, answer r -/
abbrev ws_ (y : MethodName) (b : ByteArray) (L : Nat) (r : Option FieldType) : List Cond := Cond.code y b L r :: lw_all
theorem lw_meth {y : MethodName} {b : ByteArray} {L : Nat} {r : Option FieldType} (h : Cond.code y b L r ∈ lw_all) : GoodIn lw_all (ws_ y b L r) := by
  intro w hw
  rcases List.mem_cons.mp hw with e | e
  · rw [e]
    exact lw_self _ h
  · exact lw_self _ e
theorem lw_app {a c : List Cond} (ha : ∀ w ∈ a, w ∈ lw_all) (hc : GoodIn lw_all c) : GoodIn lw_all (a ++ c) := by
  intro w hw
  rcases List.mem_append.mp hw with e | e
  · exact lw_self w (ha w e)
  · exact hc w e
/-- what a call through an object asks: cwV n hts (lw_V ..) -/
theorem lw_V {own : String} {idx : Nat} {C : String} {y : MethodName} {b : ByteArray} {L : Nat} {r : Option FieldType} (h1 : Cond.methodLink own idx y ∈ lw_all) (h2 : Cond.instanceMethod y ∈ lw_all) (h3 : Cond.selects C y y ∈ lw_all) (h4 : Cond.initialized C ∈ lw_all) (h5 : Cond.code y b L r ∈ lw_all) : GoodIn lw_all (wsV own idx C y (ws_ y b L r)) := by
  refine lw_app ?_ (lw_meth h5)
  intro w hw
  simp only [List.mem_cons, List.not_mem_nil, or_false] at hw
  rcases hw with e | e | e | e
  · rw [e]; exact h1
  · rw [e]; exact h2
  · rw [e]; exact h3
  · rw [e]; exact h4
/-- what a static call asks: va_cwS n hts (lw_S ..) -/
theorem lw_S {own : String} {idx : Nat} {y : MethodName} {b : ByteArray} {L : Nat} {r : Option FieldType} (h1 : Cond.methodLink own idx y ∈ lw_all) (h2 : Cond.static y ∈ lw_all) (h3 : Cond.initialized y.cls ∈ lw_all) (h4 : Cond.code y b L r ∈ lw_all) : GoodIn lw_all (va_wsS own idx y (ws_ y b L r)) := by
  refine lw_app ?_ (lw_meth h4)
  intro w hw
  simp only [List.mem_cons, List.not_mem_nil, or_false] at hw
  rcases hw with e | e | e
  · rw [e]; exact h1
  · rw [e]; exact h2
  · rw [e]; exact h3
/-- the words of a contract for a method WITH HANDLERS (hh: its table) -/
abbrev wsW_ (y : MethodName) (b : ByteArray) (L : Nat) (r : Option FieldType) (hh : List (Nat × Nat × Nat × Nat)) : List Cond := Cond.codeWith y b L r hh :: lw_all
theorem lw_methW {y : MethodName} {b : ByteArray} {L : Nat} {r : Option FieldType} {hh : List (Nat × Nat × Nat × Nat)} (h : Cond.codeWith y b L r hh ∈ lw_all) : GoodIn lw_all (wsW_ y b L r hh) := by
  intro w hw
  rcases List.mem_cons.mp hw with e | e
  · rw [e]
    exact lw_self _ h
  · exact lw_self _ e
/-- any list of words by their places (lw_in), good -/
theorem lw_good {ws : List Cond} (h : ∀ w ∈ ws, w ∈ lw_all) : GoodIn lw_all ws := fun w hw => lw_self w (h w hw)
/-- what a call of a method with handlers asks: vx_cwVW n hts (lw_VW ..), vx_cwSW n hts (lw_SW ..) -/
theorem lw_VW {own : String} {idx : Nat} {C : String} {y : MethodName} {b : ByteArray} {L : Nat} {r : Option FieldType} {hh : List (Nat × Nat × Nat × Nat)} (h1 : Cond.methodLink own idx y ∈ lw_all) (h2 : Cond.instanceMethod y ∈ lw_all) (h3 : Cond.selects C y y ∈ lw_all) (h4 : Cond.initialized C ∈ lw_all) (h5 : Cond.codeWith y b L r hh ∈ lw_all) : GoodIn lw_all (wsV own idx C y (wsW_ y b L r hh)) := by
  refine lw_app ?_ (lw_methW h5)
  intro w hw
  simp only [List.mem_cons, List.not_mem_nil, or_false] at hw
  rcases hw with e | e | e | e
  · rw [e]; exact h1
  · rw [e]; exact h2
  · rw [e]; exact h3
  · rw [e]; exact h4
theorem lw_SW {own : String} {idx : Nat} {y : MethodName} {b : ByteArray} {L : Nat} {r : Option FieldType} {hh : List (Nat × Nat × Nat × Nat)} (h1 : Cond.methodLink own idx y ∈ lw_all) (h2 : Cond.static y ∈ lw_all) (h3 : Cond.initialized y.cls ∈ lw_all) (h4 : Cond.codeWith y b L r hh ∈ lw_all) : GoodIn lw_all (va_wsS own idx y (wsW_ y b L r hh)) := by
  refine lw_app ?_ (lw_methW h4)
  intro w hw
  simp only [List.mem_cons, List.not_mem_nil, or_false] at hw
  rcases hw with e | e | e
  · rw [e]; exact h1
  · rw [e]; exact h2
  · rw [e]; exact h3
/-- a word by its place in its run of the tables -/
theorem lw_at {r : List Cond} (hr : ∀ w ∈ r, w ∈ lw_tbl) {w : Cond} (i : Nat) (h : r[i]? = some w) : w ∈ lw_tbl := hr w (List.mem_of_getElem? h)
theorem lw_g {w : Cond} (h : w ∈ lw_tbl) (g : goodWord w = true) : w ∈ lw_all := List.mem_filter.mpr ⟨h, g⟩
theorem lw_ms : ∀ w ∈ k2_sels lw_privs, w ∈ lw_tbl := fun w h => show w ∈ k2_sels lw_privs ++ tables_1 from List.mem_append_left _ h
theorem lw_m0 : ∀ w ∈ tables_1, w ∈ lw_tbl := fun w h => show w ∈ k2_sels lw_privs ++ tables_1 from List.mem_append_right (k2_sels lw_privs) h
theorem qs0 : (Cond.selects "MurmurDesk" ⟨"MurmurDesk", "from", "(I)I"⟩ ⟨"MurmurDesk", "from", "(I)I"⟩) ∈ lw_all := lw_g (lw_at lw_ms 0 rfl) rfl
theorem qs1 : (Cond.selects "MurmurDesk" ⟨"MurmurDesk", "part", "(II)[B"⟩ ⟨"MurmurDesk", "part", "(II)[B"⟩) ∈ lw_all := lw_g (lw_at lw_ms 1 rfl) rfl
theorem qs2 : (Cond.selects "MurmurDesk" ⟨"MurmurDesk", "count", "(II)I"⟩ ⟨"MurmurDesk", "count", "(II)I"⟩) ∈ lw_all := lw_g (lw_at lw_ms 2 rfl) rfl
-- ===== end of PART A; then your names; then what follows =====
/-! DECODE ROWS BY BYTES: one lemma an opcode; a method's code is cut into short pieces once, and a row reads its own piece alone. -/
set_option maxRecDepth 100000
/-- the code has just these bytes from pc on -/
def DkAt (code : ByteArray) (pc : Nat) (bs : List UInt8) : Prop := ∀ (j : Nat) (b : UInt8), bs[j]? = some b → code.data.toList[pc + j]? = some b
/-- the piece W has the bytes bs from its place j on -/
def dkIn (W : List UInt8) (j : Nat) (bs : List UInt8) : Bool := decide ((W.drop j).take bs.length = bs)
theorem dk_seg {l W T : List UInt8} {o o2 : Nat} (h : l.drop o = W ++ T) (n : Nat) (hn : W.length = n) (ho : o + n = o2) : l.drop o2 = T := by
  subst ho
  rw [← List.drop_drop, h, List.drop_left' hn]
theorem dk_at {code : ByteArray} {W T bs : List UInt8} {o pc : Nat} (h : code.data.toList.drop o = W ++ T) (j : Nat) (hp : o + j = pc) (hw : dkIn W j bs = true) : DkAt code pc bs := by
  subst hp
  intro i b e
  have h1 := of_decide_eq_true hw
  have h2 : i < bs.length := (List.getElem?_eq_some_iff.mp e).1
  have h3 : W[j + i]? = some b := by
    rw [← h1, List.getElem?_take, if_pos h2, List.getElem?_drop] at e
    exact e
  have h4 : j + i < W.length := (List.getElem?_eq_some_iff.mp h3).1
  have h5 : (code.data.toList.drop o)[j + i]? = some b := by
    rw [h, List.getElem?_append_left h4]
    exact h3
  rw [List.getElem?_drop, ← Nat.add_assoc] at h5
  exact h5
theorem dk_u1 {A : ByteArray} {p : Nat} {b : UInt8} (h : A.data.toList[p]? = some b) : (Reader.u1 : Reader DecodeError Nat) A p = .ok (b.toNat, p + 1) := by
  obtain ⟨h1, h2⟩ := List.getElem?_eq_some_iff.mp h
  have h3 : p < A.size := by simpa using h1
  have h4 : A[p]'h3 = b := h2
  have e : (Reader.u1 : Reader DecodeError Nat) A p = (if h : p < A.size then .ok (A[p].toNat, p + 1) else .error (HasTruncated.truncated p)) := by
    show (do if h : p < A.size then do set (p + 1); Pure.pure A[p].toNat else MonadExcept.throw (HasTruncated.truncated p) : Reader DecodeError Nat) A p = _
    by_cases hi : p < A.size
    · rw [dif_pos hi, dif_pos hi]; rfl
    · rw [dif_neg hi, dif_neg hi]; rfl
  rw [e, dif_pos h3, h4]
theorem dk_bind {α β : Type} {r : Reader DecodeError α} {f : α → Reader DecodeError β} {A : ByteArray} {p s : Nat} {a : α} (h : r A p = .ok (a, s)) : (r >>= f) A p = f a A s := by
  show (do let (a, s) ← r A p; f a A s : Except DecodeError (β × Nat)) = _
  rw [h]
  rfl
theorem dk_map {α β : Type} {r : Reader DecodeError α} {g : α → β} {A : ByteArray} {p s : Nat} {a : α} (h : r A p = .ok (a, s)) : (g <$> r) A p = .ok (g a, s) := by
  show (do let (a, s) ← r A p; .ok (g a, s) : Except DecodeError (β × Nat)) = _
  rw [h]
  rfl
theorem dk_u2 {A : ByteArray} {p : Nat} {a b : UInt8} (h : A.data.toList[p]? = some a) (h2 : A.data.toList[p + 1]? = some b) : (Reader.u2 : Reader DecodeError Nat) A p = .ok (a.toNat * 256 + b.toNat, p + 2) := by
  show (Reader.u1 >>= fun hi => Reader.u1 >>= fun lo => Pure.pure (hi * 256 + lo) : Reader DecodeError Nat) A p = _
  rw [dk_bind (dk_u1 h), dk_bind (dk_u1 h2)]
  rfl
theorem dk_of {code : ByteArray} {pc n : Nat} {i : Instr} (h : Decoder.instr pc code pc = .ok (i, pc + n)) : decode code pc = .ok (i, n) := by
  have e : decode code pc = (match Decoder.instr pc code pc with | .error x => .error x | .ok (j, s) => .ok (j, s - pc)) := by
    show (do let (j, s) ← Decoder.instr pc code pc; Pure.pure (j, s - pc) : Except DecodeError (Instr × Nat)) = _
    cases Decoder.instr pc code pc <;> rfl
  rw [e, h]
  show Except.ok (i, pc + n - pc) = _
  rw [Nat.add_sub_cancel_left]
theorem dk_2 {code : ByteArray} {pc : Nat} (h : DkAt code pc [2]) : decode code pc = .ok (.iconst (-1), 1) := dk_of ((dk_bind (dk_u1 (h 0 _ rfl))).trans rfl)
theorem dk_3 {code : ByteArray} {pc : Nat} (h : DkAt code pc [3]) : decode code pc = .ok (.iconst 0, 1) := dk_of ((dk_bind (dk_u1 (h 0 _ rfl))).trans rfl)
theorem dk_4 {code : ByteArray} {pc : Nat} (h : DkAt code pc [4]) : decode code pc = .ok (.iconst 1, 1) := dk_of ((dk_bind (dk_u1 (h 0 _ rfl))).trans rfl)
theorem dk_5 {code : ByteArray} {pc : Nat} (h : DkAt code pc [5]) : decode code pc = .ok (.iconst 2, 1) := dk_of ((dk_bind (dk_u1 (h 0 _ rfl))).trans rfl)
theorem dk_6 {code : ByteArray} {pc : Nat} (h : DkAt code pc [6]) : decode code pc = .ok (.iconst 3, 1) := dk_of ((dk_bind (dk_u1 (h 0 _ rfl))).trans rfl)
theorem dk_7 {code : ByteArray} {pc : Nat} (h : DkAt code pc [7]) : decode code pc = .ok (.iconst 4, 1) := dk_of ((dk_bind (dk_u1 (h 0 _ rfl))).trans rfl)
theorem dk_8 {code : ByteArray} {pc : Nat} (h : DkAt code pc [8]) : decode code pc = .ok (.iconst 5, 1) := dk_of ((dk_bind (dk_u1 (h 0 _ rfl))).trans rfl)
theorem dk_9 {code : ByteArray} {pc : Nat} (h : DkAt code pc [9]) : decode code pc = .ok (.lconst 0, 1) := dk_of ((dk_bind (dk_u1 (h 0 _ rfl))).trans rfl)
theorem dk_16 {code : ByteArray} {pc : Nat} (a : UInt8) (h : DkAt code pc [16, a]) : decode code pc = .ok (.bipush (Reader.signed 8 a.toNat), 2) := dk_of ((dk_bind (dk_u1 (h 0 _ rfl))).trans ((dk_bind (dk_map (dk_u1 (h 1 _ rfl)))).trans rfl))
theorem dk_17 {code : ByteArray} {pc : Nat} (a b : UInt8) (h : DkAt code pc [17, a, b]) : decode code pc = .ok (.sipush (Reader.signed 16 (a.toNat * 256 + b.toNat)), 3) := dk_of ((dk_bind (dk_u1 (h 0 _ rfl))).trans ((dk_bind (dk_map (dk_u2 (h 1 _ rfl) (h 2 _ rfl)))).trans rfl))
theorem dk_18 {code : ByteArray} {pc : Nat} (a : UInt8) (h : DkAt code pc [18, a]) : decode code pc = .ok (.ldc a.toNat, 2) := dk_of ((dk_bind (dk_u1 (h 0 _ rfl))).trans ((dk_bind (dk_u1 (h 1 _ rfl))).trans rfl))
theorem dk_20 {code : ByteArray} {pc : Nat} (a b : UInt8) (h : DkAt code pc [20, a, b]) : decode code pc = .ok (.ldc2_w (a.toNat * 256 + b.toNat), 3) := dk_of ((dk_bind (dk_u1 (h 0 _ rfl))).trans ((dk_bind (dk_u2 (h 1 _ rfl) (h 2 _ rfl))).trans rfl))
theorem dk_21 {code : ByteArray} {pc : Nat} (a : UInt8) (h : DkAt code pc [21, a]) : decode code pc = .ok (.iload a.toNat, 2) := dk_of ((dk_bind (dk_u1 (h 0 _ rfl))).trans ((dk_bind (dk_u1 (h 1 _ rfl))).trans rfl))
theorem dk_22 {code : ByteArray} {pc : Nat} (a : UInt8) (h : DkAt code pc [22, a]) : decode code pc = .ok (.lload a.toNat, 2) := dk_of ((dk_bind (dk_u1 (h 0 _ rfl))).trans ((dk_bind (dk_u1 (h 1 _ rfl))).trans rfl))
theorem dk_25 {code : ByteArray} {pc : Nat} (a : UInt8) (h : DkAt code pc [25, a]) : decode code pc = .ok (.aload a.toNat, 2) := dk_of ((dk_bind (dk_u1 (h 0 _ rfl))).trans ((dk_bind (dk_u1 (h 1 _ rfl))).trans rfl))
theorem dk_26 {code : ByteArray} {pc : Nat} (h : DkAt code pc [26]) : decode code pc = .ok (.iload_n 0, 1) := dk_of ((dk_bind (dk_u1 (h 0 _ rfl))).trans rfl)
theorem dk_27 {code : ByteArray} {pc : Nat} (h : DkAt code pc [27]) : decode code pc = .ok (.iload_n 1, 1) := dk_of ((dk_bind (dk_u1 (h 0 _ rfl))).trans rfl)
theorem dk_28 {code : ByteArray} {pc : Nat} (h : DkAt code pc [28]) : decode code pc = .ok (.iload_n 2, 1) := dk_of ((dk_bind (dk_u1 (h 0 _ rfl))).trans rfl)
theorem dk_29 {code : ByteArray} {pc : Nat} (h : DkAt code pc [29]) : decode code pc = .ok (.iload_n 3, 1) := dk_of ((dk_bind (dk_u1 (h 0 _ rfl))).trans rfl)
theorem dk_30 {code : ByteArray} {pc : Nat} (h : DkAt code pc [30]) : decode code pc = .ok (.lload_n 0, 1) := dk_of ((dk_bind (dk_u1 (h 0 _ rfl))).trans rfl)
theorem dk_32 {code : ByteArray} {pc : Nat} (h : DkAt code pc [32]) : decode code pc = .ok (.lload_n 2, 1) := dk_of ((dk_bind (dk_u1 (h 0 _ rfl))).trans rfl)
theorem dk_33 {code : ByteArray} {pc : Nat} (h : DkAt code pc [33]) : decode code pc = .ok (.lload_n 3, 1) := dk_of ((dk_bind (dk_u1 (h 0 _ rfl))).trans rfl)
theorem dk_42 {code : ByteArray} {pc : Nat} (h : DkAt code pc [42]) : decode code pc = .ok (.aload_n 0, 1) := dk_of ((dk_bind (dk_u1 (h 0 _ rfl))).trans rfl)
theorem dk_43 {code : ByteArray} {pc : Nat} (h : DkAt code pc [43]) : decode code pc = .ok (.aload_n 1, 1) := dk_of ((dk_bind (dk_u1 (h 0 _ rfl))).trans rfl)
theorem dk_44 {code : ByteArray} {pc : Nat} (h : DkAt code pc [44]) : decode code pc = .ok (.aload_n 2, 1) := dk_of ((dk_bind (dk_u1 (h 0 _ rfl))).trans rfl)
theorem dk_46 {code : ByteArray} {pc : Nat} (h : DkAt code pc [46]) : decode code pc = .ok (.iaload, 1) := dk_of ((dk_bind (dk_u1 (h 0 _ rfl))).trans rfl)
theorem dk_47 {code : ByteArray} {pc : Nat} (h : DkAt code pc [47]) : decode code pc = .ok (.laload, 1) := dk_of ((dk_bind (dk_u1 (h 0 _ rfl))).trans rfl)
theorem dk_51 {code : ByteArray} {pc : Nat} (h : DkAt code pc [51]) : decode code pc = .ok (.baload, 1) := dk_of ((dk_bind (dk_u1 (h 0 _ rfl))).trans rfl)
theorem dk_54 {code : ByteArray} {pc : Nat} (a : UInt8) (h : DkAt code pc [54, a]) : decode code pc = .ok (.istore a.toNat, 2) := dk_of ((dk_bind (dk_u1 (h 0 _ rfl))).trans ((dk_bind (dk_u1 (h 1 _ rfl))).trans rfl))
theorem dk_55 {code : ByteArray} {pc : Nat} (a : UInt8) (h : DkAt code pc [55, a]) : decode code pc = .ok (.lstore a.toNat, 2) := dk_of ((dk_bind (dk_u1 (h 0 _ rfl))).trans ((dk_bind (dk_u1 (h 1 _ rfl))).trans rfl))
theorem dk_58 {code : ByteArray} {pc : Nat} (a : UInt8) (h : DkAt code pc [58, a]) : decode code pc = .ok (.astore a.toNat, 2) := dk_of ((dk_bind (dk_u1 (h 0 _ rfl))).trans ((dk_bind (dk_u1 (h 1 _ rfl))).trans rfl))
theorem dk_62 {code : ByteArray} {pc : Nat} (h : DkAt code pc [62]) : decode code pc = .ok (.istore_n 3, 1) := dk_of ((dk_bind (dk_u1 (h 0 _ rfl))).trans rfl)
theorem dk_63 {code : ByteArray} {pc : Nat} (h : DkAt code pc [63]) : decode code pc = .ok (.lstore_n 0, 1) := dk_of ((dk_bind (dk_u1 (h 0 _ rfl))).trans rfl)
theorem dk_65 {code : ByteArray} {pc : Nat} (h : DkAt code pc [65]) : decode code pc = .ok (.lstore_n 2, 1) := dk_of ((dk_bind (dk_u1 (h 0 _ rfl))).trans rfl)
theorem dk_66 {code : ByteArray} {pc : Nat} (h : DkAt code pc [66]) : decode code pc = .ok (.lstore_n 3, 1) := dk_of ((dk_bind (dk_u1 (h 0 _ rfl))).trans rfl)
theorem dk_75 {code : ByteArray} {pc : Nat} (h : DkAt code pc [75]) : decode code pc = .ok (.astore_n 0, 1) := dk_of ((dk_bind (dk_u1 (h 0 _ rfl))).trans rfl)
theorem dk_76 {code : ByteArray} {pc : Nat} (h : DkAt code pc [76]) : decode code pc = .ok (.astore_n 1, 1) := dk_of ((dk_bind (dk_u1 (h 0 _ rfl))).trans rfl)
theorem dk_77 {code : ByteArray} {pc : Nat} (h : DkAt code pc [77]) : decode code pc = .ok (.astore_n 2, 1) := dk_of ((dk_bind (dk_u1 (h 0 _ rfl))).trans rfl)
theorem dk_79 {code : ByteArray} {pc : Nat} (h : DkAt code pc [79]) : decode code pc = .ok (.iastore, 1) := dk_of ((dk_bind (dk_u1 (h 0 _ rfl))).trans rfl)
theorem dk_80 {code : ByteArray} {pc : Nat} (h : DkAt code pc [80]) : decode code pc = .ok (.lastore, 1) := dk_of ((dk_bind (dk_u1 (h 0 _ rfl))).trans rfl)
theorem dk_84 {code : ByteArray} {pc : Nat} (h : DkAt code pc [84]) : decode code pc = .ok (.bastore, 1) := dk_of ((dk_bind (dk_u1 (h 0 _ rfl))).trans rfl)
theorem dk_87 {code : ByteArray} {pc : Nat} (h : DkAt code pc [87]) : decode code pc = .ok (.pop, 1) := dk_of ((dk_bind (dk_u1 (h 0 _ rfl))).trans rfl)
theorem dk_89 {code : ByteArray} {pc : Nat} (h : DkAt code pc [89]) : decode code pc = .ok (.dup, 1) := dk_of ((dk_bind (dk_u1 (h 0 _ rfl))).trans rfl)
theorem dk_96 {code : ByteArray} {pc : Nat} (h : DkAt code pc [96]) : decode code pc = .ok (.iadd, 1) := dk_of ((dk_bind (dk_u1 (h 0 _ rfl))).trans rfl)
theorem dk_97 {code : ByteArray} {pc : Nat} (h : DkAt code pc [97]) : decode code pc = .ok (.ladd, 1) := dk_of ((dk_bind (dk_u1 (h 0 _ rfl))).trans rfl)
theorem dk_100 {code : ByteArray} {pc : Nat} (h : DkAt code pc [100]) : decode code pc = .ok (.isub, 1) := dk_of ((dk_bind (dk_u1 (h 0 _ rfl))).trans rfl)
theorem dk_104 {code : ByteArray} {pc : Nat} (h : DkAt code pc [104]) : decode code pc = .ok (.imul, 1) := dk_of ((dk_bind (dk_u1 (h 0 _ rfl))).trans rfl)
theorem dk_105 {code : ByteArray} {pc : Nat} (h : DkAt code pc [105]) : decode code pc = .ok (.lmul, 1) := dk_of ((dk_bind (dk_u1 (h 0 _ rfl))).trans rfl)
theorem dk_108 {code : ByteArray} {pc : Nat} (h : DkAt code pc [108]) : decode code pc = .ok (.idiv, 1) := dk_of ((dk_bind (dk_u1 (h 0 _ rfl))).trans rfl)
theorem dk_112 {code : ByteArray} {pc : Nat} (h : DkAt code pc [112]) : decode code pc = .ok (.irem, 1) := dk_of ((dk_bind (dk_u1 (h 0 _ rfl))).trans rfl)
theorem dk_116 {code : ByteArray} {pc : Nat} (h : DkAt code pc [116]) : decode code pc = .ok (.ineg, 1) := dk_of ((dk_bind (dk_u1 (h 0 _ rfl))).trans rfl)
theorem dk_120 {code : ByteArray} {pc : Nat} (h : DkAt code pc [120]) : decode code pc = .ok (.ishl, 1) := dk_of ((dk_bind (dk_u1 (h 0 _ rfl))).trans rfl)
theorem dk_121 {code : ByteArray} {pc : Nat} (h : DkAt code pc [121]) : decode code pc = .ok (.lshl, 1) := dk_of ((dk_bind (dk_u1 (h 0 _ rfl))).trans rfl)
theorem dk_122 {code : ByteArray} {pc : Nat} (h : DkAt code pc [122]) : decode code pc = .ok (.ishr, 1) := dk_of ((dk_bind (dk_u1 (h 0 _ rfl))).trans rfl)
theorem dk_124 {code : ByteArray} {pc : Nat} (h : DkAt code pc [124]) : decode code pc = .ok (.iushr, 1) := dk_of ((dk_bind (dk_u1 (h 0 _ rfl))).trans rfl)
theorem dk_125 {code : ByteArray} {pc : Nat} (h : DkAt code pc [125]) : decode code pc = .ok (.lushr, 1) := dk_of ((dk_bind (dk_u1 (h 0 _ rfl))).trans rfl)
theorem dk_126 {code : ByteArray} {pc : Nat} (h : DkAt code pc [126]) : decode code pc = .ok (.iand, 1) := dk_of ((dk_bind (dk_u1 (h 0 _ rfl))).trans rfl)
theorem dk_127 {code : ByteArray} {pc : Nat} (h : DkAt code pc [127]) : decode code pc = .ok (.land, 1) := dk_of ((dk_bind (dk_u1 (h 0 _ rfl))).trans rfl)
theorem dk_128 {code : ByteArray} {pc : Nat} (h : DkAt code pc [128]) : decode code pc = .ok (.ior, 1) := dk_of ((dk_bind (dk_u1 (h 0 _ rfl))).trans rfl)
theorem dk_129 {code : ByteArray} {pc : Nat} (h : DkAt code pc [129]) : decode code pc = .ok (.lor, 1) := dk_of ((dk_bind (dk_u1 (h 0 _ rfl))).trans rfl)
theorem dk_130 {code : ByteArray} {pc : Nat} (h : DkAt code pc [130]) : decode code pc = .ok (.ixor, 1) := dk_of ((dk_bind (dk_u1 (h 0 _ rfl))).trans rfl)
theorem dk_131 {code : ByteArray} {pc : Nat} (h : DkAt code pc [131]) : decode code pc = .ok (.lxor, 1) := dk_of ((dk_bind (dk_u1 (h 0 _ rfl))).trans rfl)
theorem dk_132 {code : ByteArray} {pc : Nat} (a b : UInt8) (h : DkAt code pc [132, a, b]) : decode code pc = .ok (.iinc a.toNat (Reader.signed 8 b.toNat), 3) := dk_of ((dk_bind (dk_u1 (h 0 _ rfl))).trans ((dk_bind (dk_u1 (h 1 _ rfl))).trans ((dk_bind (dk_map (dk_u1 (h 2 _ rfl)))).trans rfl)))
theorem dk_133 {code : ByteArray} {pc : Nat} (h : DkAt code pc [133]) : decode code pc = .ok (.i2l, 1) := dk_of ((dk_bind (dk_u1 (h 0 _ rfl))).trans rfl)
theorem dk_145 {code : ByteArray} {pc : Nat} (h : DkAt code pc [145]) : decode code pc = .ok (.i2b, 1) := dk_of ((dk_bind (dk_u1 (h 0 _ rfl))).trans rfl)
theorem dk_148 {code : ByteArray} {pc : Nat} (h : DkAt code pc [148]) : decode code pc = .ok (.lcmp, 1) := dk_of ((dk_bind (dk_u1 (h 0 _ rfl))).trans rfl)
theorem dk_153 {code : ByteArray} {pc : Nat} (a b : UInt8) (h : DkAt code pc [153, a, b]) : decode code pc = .ok (.ifCond .eq (Reader.signed 16 (a.toNat * 256 + b.toNat)), 3) := dk_of ((dk_bind (dk_u1 (h 0 _ rfl))).trans ((dk_bind (dk_map (dk_u2 (h 1 _ rfl) (h 2 _ rfl)))).trans rfl))
theorem dk_154 {code : ByteArray} {pc : Nat} (a b : UInt8) (h : DkAt code pc [154, a, b]) : decode code pc = .ok (.ifCond .ne (Reader.signed 16 (a.toNat * 256 + b.toNat)), 3) := dk_of ((dk_bind (dk_u1 (h 0 _ rfl))).trans ((dk_bind (dk_map (dk_u2 (h 1 _ rfl) (h 2 _ rfl)))).trans rfl))
theorem dk_155 {code : ByteArray} {pc : Nat} (a b : UInt8) (h : DkAt code pc [155, a, b]) : decode code pc = .ok (.ifCond .lt (Reader.signed 16 (a.toNat * 256 + b.toNat)), 3) := dk_of ((dk_bind (dk_u1 (h 0 _ rfl))).trans ((dk_bind (dk_map (dk_u2 (h 1 _ rfl) (h 2 _ rfl)))).trans rfl))
theorem dk_159 {code : ByteArray} {pc : Nat} (a b : UInt8) (h : DkAt code pc [159, a, b]) : decode code pc = .ok (.if_icmp .eq (Reader.signed 16 (a.toNat * 256 + b.toNat)), 3) := dk_of ((dk_bind (dk_u1 (h 0 _ rfl))).trans ((dk_bind (dk_map (dk_u2 (h 1 _ rfl) (h 2 _ rfl)))).trans rfl))
theorem dk_160 {code : ByteArray} {pc : Nat} (a b : UInt8) (h : DkAt code pc [160, a, b]) : decode code pc = .ok (.if_icmp .ne (Reader.signed 16 (a.toNat * 256 + b.toNat)), 3) := dk_of ((dk_bind (dk_u1 (h 0 _ rfl))).trans ((dk_bind (dk_map (dk_u2 (h 1 _ rfl) (h 2 _ rfl)))).trans rfl))
theorem dk_162 {code : ByteArray} {pc : Nat} (a b : UInt8) (h : DkAt code pc [162, a, b]) : decode code pc = .ok (.if_icmp .ge (Reader.signed 16 (a.toNat * 256 + b.toNat)), 3) := dk_of ((dk_bind (dk_u1 (h 0 _ rfl))).trans ((dk_bind (dk_map (dk_u2 (h 1 _ rfl) (h 2 _ rfl)))).trans rfl))
theorem dk_163 {code : ByteArray} {pc : Nat} (a b : UInt8) (h : DkAt code pc [163, a, b]) : decode code pc = .ok (.if_icmp .gt (Reader.signed 16 (a.toNat * 256 + b.toNat)), 3) := dk_of ((dk_bind (dk_u1 (h 0 _ rfl))).trans ((dk_bind (dk_map (dk_u2 (h 1 _ rfl) (h 2 _ rfl)))).trans rfl))
theorem dk_164 {code : ByteArray} {pc : Nat} (a b : UInt8) (h : DkAt code pc [164, a, b]) : decode code pc = .ok (.if_icmp .le (Reader.signed 16 (a.toNat * 256 + b.toNat)), 3) := dk_of ((dk_bind (dk_u1 (h 0 _ rfl))).trans ((dk_bind (dk_map (dk_u2 (h 1 _ rfl) (h 2 _ rfl)))).trans rfl))
theorem dk_167 {code : ByteArray} {pc : Nat} (a b : UInt8) (h : DkAt code pc [167, a, b]) : decode code pc = .ok (.goto (Reader.signed 16 (a.toNat * 256 + b.toNat)), 3) := dk_of ((dk_bind (dk_u1 (h 0 _ rfl))).trans ((dk_bind (dk_map (dk_u2 (h 1 _ rfl) (h 2 _ rfl)))).trans rfl))
theorem dk_172 {code : ByteArray} {pc : Nat} (h : DkAt code pc [172]) : decode code pc = .ok (.ireturn, 1) := dk_of ((dk_bind (dk_u1 (h 0 _ rfl))).trans rfl)
theorem dk_173 {code : ByteArray} {pc : Nat} (h : DkAt code pc [173]) : decode code pc = .ok (.lreturn, 1) := dk_of ((dk_bind (dk_u1 (h 0 _ rfl))).trans rfl)
theorem dk_176 {code : ByteArray} {pc : Nat} (h : DkAt code pc [176]) : decode code pc = .ok (.areturn, 1) := dk_of ((dk_bind (dk_u1 (h 0 _ rfl))).trans rfl)
theorem dk_177 {code : ByteArray} {pc : Nat} (h : DkAt code pc [177]) : decode code pc = .ok (.return_, 1) := dk_of ((dk_bind (dk_u1 (h 0 _ rfl))).trans rfl)
theorem dk_180 {code : ByteArray} {pc : Nat} (a b : UInt8) (h : DkAt code pc [180, a, b]) : decode code pc = .ok (.getfield (a.toNat * 256 + b.toNat), 3) := dk_of ((dk_bind (dk_u1 (h 0 _ rfl))).trans ((dk_bind (dk_u2 (h 1 _ rfl) (h 2 _ rfl))).trans rfl))
theorem dk_181 {code : ByteArray} {pc : Nat} (a b : UInt8) (h : DkAt code pc [181, a, b]) : decode code pc = .ok (.putfield (a.toNat * 256 + b.toNat), 3) := dk_of ((dk_bind (dk_u1 (h 0 _ rfl))).trans ((dk_bind (dk_u2 (h 1 _ rfl) (h 2 _ rfl))).trans rfl))
theorem dk_182 {code : ByteArray} {pc : Nat} (a b : UInt8) (h : DkAt code pc [182, a, b]) : decode code pc = .ok (.invokevirtual (a.toNat * 256 + b.toNat), 3) := dk_of ((dk_bind (dk_u1 (h 0 _ rfl))).trans ((dk_bind (dk_u2 (h 1 _ rfl) (h 2 _ rfl))).trans rfl))
theorem dk_183 {code : ByteArray} {pc : Nat} (a b : UInt8) (h : DkAt code pc [183, a, b]) : decode code pc = .ok (.invokespecial (a.toNat * 256 + b.toNat), 3) := dk_of ((dk_bind (dk_u1 (h 0 _ rfl))).trans ((dk_bind (dk_u2 (h 1 _ rfl) (h 2 _ rfl))).trans rfl))
theorem dk_184 {code : ByteArray} {pc : Nat} (a b : UInt8) (h : DkAt code pc [184, a, b]) : decode code pc = .ok (.invokestatic (a.toNat * 256 + b.toNat), 3) := dk_of ((dk_bind (dk_u1 (h 0 _ rfl))).trans ((dk_bind (dk_u2 (h 1 _ rfl) (h 2 _ rfl))).trans rfl))
theorem dk_187 {code : ByteArray} {pc : Nat} (a b : UInt8) (h : DkAt code pc [187, a, b]) : decode code pc = .ok (.new (a.toNat * 256 + b.toNat), 3) := dk_of ((dk_bind (dk_u1 (h 0 _ rfl))).trans ((dk_bind (dk_u2 (h 1 _ rfl) (h 2 _ rfl))).trans rfl))
theorem dk_188_8 {code : ByteArray} {pc : Nat} (h : DkAt code pc [188, 8]) : decode code pc = .ok (.newarray .byte, 2) := dk_of ((dk_bind (dk_u1 (h 0 _ rfl))).trans ((dk_bind (dk_u1 (h 1 _ rfl))).trans rfl))
theorem dk_188_10 {code : ByteArray} {pc : Nat} (h : DkAt code pc [188, 10]) : decode code pc = .ok (.newarray .int, 2) := dk_of ((dk_bind (dk_u1 (h 0 _ rfl))).trans ((dk_bind (dk_u1 (h 1 _ rfl))).trans rfl))
theorem dk_188_11 {code : ByteArray} {pc : Nat} (h : DkAt code pc [188, 11]) : decode code pc = .ok (.newarray .long, 2) := dk_of ((dk_bind (dk_u1 (h 0 _ rfl))).trans ((dk_bind (dk_u1 (h 1 _ rfl))).trans rfl))
theorem dk_190 {code : ByteArray} {pc : Nat} (h : DkAt code pc [190]) : decode code pc = .ok (.arraylength, 1) := dk_of ((dk_bind (dk_u1 (h 0 _ rfl))).trans rfl)
end
section
/-! java/lang/Integer -/
set_option maxRecDepth 100000
def RJ0 : String := "java/lang/Integer"
abbrev cJ0_rotateLeft : ByteArray := prog_4_method_50_code
def yJ0_rotateLeft : MethodName := ⟨RJ0, "rotateLeft", "(II)I"⟩
def dkwJ0_rotateLeft_0 : List UInt8 := [26, 27, 120, 26, 27, 116, 124, 128, 172]
abbrev dktJ0_rotateLeft_0 : List UInt8 := dkwJ0_rotateLeft_0 ++ []
theorem dksJ0_rotateLeft_0 : cJ0_rotateLeft.data.toList.drop 0 = dktJ0_rotateLeft_0 := by decide +kernel
theorem dJ0_rotateLeft_0 : decode cJ0_rotateLeft 0 = .ok (.iload_n 0, 1) := dk_26 (dk_at dksJ0_rotateLeft_0 0 rfl rfl)
theorem dJ0_rotateLeft_1 : decode cJ0_rotateLeft 1 = .ok (.iload_n 1, 1) := dk_27 (dk_at dksJ0_rotateLeft_0 1 rfl rfl)
theorem dJ0_rotateLeft_2 : decode cJ0_rotateLeft 2 = .ok (.ishl, 1) := dk_120 (dk_at dksJ0_rotateLeft_0 2 rfl rfl)
theorem dJ0_rotateLeft_3 : decode cJ0_rotateLeft 3 = .ok (.iload_n 0, 1) := dk_26 (dk_at dksJ0_rotateLeft_0 3 rfl rfl)
theorem dJ0_rotateLeft_4 : decode cJ0_rotateLeft 4 = .ok (.iload_n 1, 1) := dk_27 (dk_at dksJ0_rotateLeft_0 4 rfl rfl)
theorem dJ0_rotateLeft_5 : decode cJ0_rotateLeft 5 = .ok (.ineg, 1) := dk_116 (dk_at dksJ0_rotateLeft_0 5 rfl rfl)
theorem dJ0_rotateLeft_6 : decode cJ0_rotateLeft 6 = .ok (.iushr, 1) := dk_124 (dk_at dksJ0_rotateLeft_0 6 rfl rfl)
theorem dJ0_rotateLeft_7 : decode cJ0_rotateLeft 7 = .ok (.ior, 1) := dk_128 (dk_at dksJ0_rotateLeft_0 7 rfl rfl)
theorem dJ0_rotateLeft_8 : decode cJ0_rotateLeft 8 = .ok (.ireturn, 1) := dk_172 (dk_at dksJ0_rotateLeft_0 8 rfl rfl)
theorem q6 : (Jvm.Cond.initialized "java/lang/Integer") ∈ lw_all := lw_g (lw_at lw_m0 3 rfl) rfl
theorem q70 : (Jvm.Cond.static ({ cls := "java/lang/Integer", name := "rotateLeft", desc := "(II)I" } : Jvm.MethodName)) ∈ lw_all := lw_g (lw_at lw_m0 67 rfl) rfl
theorem q71 : (Jvm.Cond.code ({ cls := "java/lang/Integer", name := "rotateLeft", desc := "(II)I" } : Jvm.MethodName) prog_4_method_50_code (2 : Nat) (Option.some Jvm.ClassFile.FieldType.int)) ∈ lw_all := lw_g (lw_at lw_m0 68 rfl) rfl
/-! java/lang/Long -/
set_option maxRecDepth 100000
def RJ1 : String := "java/lang/Long"
abbrev cJ1_rotateLeft : ByteArray := prog_5_method_51_code
def yJ1_rotateLeft : MethodName := ⟨RJ1, "rotateLeft", "(JI)J"⟩
def dkwJ1_rotateLeft_0 : List UInt8 := [30, 28, 121, 30, 28, 116, 125, 129, 173]
abbrev dktJ1_rotateLeft_0 : List UInt8 := dkwJ1_rotateLeft_0 ++ []
theorem dksJ1_rotateLeft_0 : cJ1_rotateLeft.data.toList.drop 0 = dktJ1_rotateLeft_0 := by decide +kernel
theorem dJ1_rotateLeft_0 : decode cJ1_rotateLeft 0 = .ok (.lload_n 0, 1) := dk_30 (dk_at dksJ1_rotateLeft_0 0 rfl rfl)
theorem dJ1_rotateLeft_1 : decode cJ1_rotateLeft 1 = .ok (.iload_n 2, 1) := dk_28 (dk_at dksJ1_rotateLeft_0 1 rfl rfl)
theorem dJ1_rotateLeft_2 : decode cJ1_rotateLeft 2 = .ok (.lshl, 1) := dk_121 (dk_at dksJ1_rotateLeft_0 2 rfl rfl)
theorem dJ1_rotateLeft_3 : decode cJ1_rotateLeft 3 = .ok (.lload_n 0, 1) := dk_30 (dk_at dksJ1_rotateLeft_0 3 rfl rfl)
theorem dJ1_rotateLeft_4 : decode cJ1_rotateLeft 4 = .ok (.iload_n 2, 1) := dk_28 (dk_at dksJ1_rotateLeft_0 4 rfl rfl)
theorem dJ1_rotateLeft_5 : decode cJ1_rotateLeft 5 = .ok (.ineg, 1) := dk_116 (dk_at dksJ1_rotateLeft_0 5 rfl rfl)
theorem dJ1_rotateLeft_6 : decode cJ1_rotateLeft 6 = .ok (.lushr, 1) := dk_125 (dk_at dksJ1_rotateLeft_0 6 rfl rfl)
theorem dJ1_rotateLeft_7 : decode cJ1_rotateLeft 7 = .ok (.lor, 1) := dk_129 (dk_at dksJ1_rotateLeft_0 7 rfl rfl)
theorem dJ1_rotateLeft_8 : decode cJ1_rotateLeft 8 = .ok (.lreturn, 1) := dk_173 (dk_at dksJ1_rotateLeft_0 8 rfl rfl)
theorem q7 : (Jvm.Cond.initialized "java/lang/Long") ∈ lw_all := lw_g (lw_at lw_m0 4 rfl) rfl
theorem q97 : (Jvm.Cond.static ({ cls := "java/lang/Long", name := "rotateLeft", desc := "(JI)J" } : Jvm.MethodName)) ∈ lw_all := lw_g (lw_at lw_m0 94 rfl) rfl
theorem q98 : (Jvm.Cond.code ({ cls := "java/lang/Long", name := "rotateLeft", desc := "(JI)J" } : Jvm.MethodName) prog_5_method_51_code (3 : Nat) (Option.some Jvm.ClassFile.FieldType.long)) ∈ lw_all := lw_g (lw_at lw_m0 95 rfl) rfl
/-! java/lang/Object -/
set_option maxRecDepth 100000
def RJ2 : String := "java/lang/Object"
abbrev cJ2_init : ByteArray := object_method_1_code
def yJ2_init : MethodName := ⟨RJ2, "<init>", "()V"⟩
theorem dJ2_init_0 : decode cJ2_init 0 = .ok (.return_, 1) := by decide +kernel
theorem q14 : (Jvm.Cond.instanceMethod ({ cls := "java/lang/Object", name := "<init>", desc := "()V" } : Jvm.MethodName)) ∈ lw_all := lw_g (lw_at lw_m0 11 rfl) rfl
theorem q15 : (Jvm.Cond.code ({ cls := "java/lang/Object", name := "<init>", desc := "()V" } : Jvm.MethodName) object_method_1_code (1 : Nat) (Option.none : Option Jvm.ClassFile.FieldType)) ∈ lw_all := lw_g (lw_at lw_m0 12 rfl) rfl
theorem q23 : (Jvm.Cond.arrayClass Jvm.ClassFile.FieldType.byte) ∈ lw_all := lw_g (lw_at lw_m0 20 rfl) rfl
set_option maxRecDepth 100000
theorem q127 : (Jvm.Cond.arrayClass Jvm.ClassFile.FieldType.long) ∈ lw_all := lw_g (lw_at lw_m0 124 rfl) rfl
theorem q145 : (Jvm.Cond.arrayClass Jvm.ClassFile.FieldType.int) ∈ lw_all := lw_g (lw_at lw_m0 142 rfl) rfl
/-! MurmurDesk -/
set_option maxRecDepth 100000
def RX1 : String := "MurmurDesk"
def TX1 : u_T := fun k => match k with
  | 0 => ("MurmurDesk", "text", "[B", true)
  | _ => ("MurmurDesk", "size", "I", false)
def tyX1 : Nat → FieldType := fun k => match k with
  | 0 => .array .byte
  | _ => .int
abbrev wsX10 : List Cond := u_ws RX1 TX1 2
theorem nmX1 : ∀ a, a < 2 → ∀ b, b < 2 → a ≠ b → (TX1 a).2.1 ≠ (TX1 b).2.1 := by decide +kernel
theorem tyX1_ok : ∀ k, k < 2 → parseFieldDescriptor (TX1 k).2.2.1 = some (tyX1 k) := by decide +kernel
abbrev cX1_init : ByteArray := prog_2_method_1_code
def yX1_init : MethodName := ⟨RX1, "<init>", "()V"⟩
def dkwX1_init_0 : List UInt8 := [42, 183, 0, 1, 42, 17, 1, 0, 188, 8, 181, 0, 7, 177]
abbrev dktX1_init_0 : List UInt8 := dkwX1_init_0 ++ []
theorem dksX1_init_0 : cX1_init.data.toList.drop 0 = dktX1_init_0 := by decide +kernel
theorem dX1_init_0 : decode cX1_init 0 = .ok (.aload_n 0, 1) := dk_42 (dk_at dksX1_init_0 0 rfl rfl)
theorem dX1_init_1 : decode cX1_init 1 = .ok (.invokespecial 1, 3) := dk_183 0 1 (dk_at dksX1_init_0 1 rfl rfl)
theorem dX1_init_4 : decode cX1_init 4 = .ok (.aload_n 0, 1) := dk_42 (dk_at dksX1_init_0 4 rfl rfl)
theorem dX1_init_5 : decode cX1_init 5 = .ok (.sipush 256, 3) := dk_17 1 0 (dk_at dksX1_init_0 5 rfl rfl)
theorem dX1_init_8 : decode cX1_init 8 = .ok (.newarray .byte, 2) := dk_188_8 (dk_at dksX1_init_0 8 rfl rfl)
theorem dX1_init_10 : decode cX1_init 10 = .ok (.putfield 7, 3) := dk_181 0 7 (dk_at dksX1_init_0 10 rfl rfl)
theorem dX1_init_13 : decode cX1_init 13 = .ok (.return_, 1) := dk_177 (dk_at dksX1_init_0 13 rfl rfl)
abbrev cX1_put : ByteArray := prog_2_method_2_code
def yX1_put : MethodName := ⟨RX1, "put", "(IIII)Z"⟩
def dkwX1_put_3 : List UInt8 := [96, 21, 4, 184, 0, 17, 42, 89, 180, 0, 13, 16, 16, 96, 181, 0, 13, 4, 172]
abbrev dktX1_put_3 : List UInt8 := dkwX1_put_3 ++ []
def dkwX1_put_2 : List UInt8 := [180, 0, 7, 42, 180, 0, 13, 16, 8, 96, 29, 184, 0, 17, 42, 180, 0, 7, 42, 180, 0, 13, 16, 12]
abbrev dktX1_put_2 : List UInt8 := dkwX1_put_2 ++ dktX1_put_3
def dkwX1_put_1 : List UInt8 := [180, 0, 13, 27, 184, 0, 17, 42, 180, 0, 7, 42, 180, 0, 13, 7, 96, 28, 184, 0, 17, 42]
abbrev dktX1_put_1 : List UInt8 := dkwX1_put_1 ++ dktX1_put_2
def dkwX1_put_0 : List UInt8 := [42, 180, 0, 13, 42, 180, 0, 7, 190, 16, 16, 100, 164, 0, 5, 3, 172, 42, 180, 0, 7, 42]
abbrev dktX1_put_0 : List UInt8 := dkwX1_put_0 ++ dktX1_put_1
theorem dksX1_put_0 : cX1_put.data.toList.drop 0 = dktX1_put_0 := by decide +kernel
theorem dksX1_put_1 : cX1_put.data.toList.drop 22 = dktX1_put_1 := dk_seg dksX1_put_0 22 rfl rfl
theorem dksX1_put_2 : cX1_put.data.toList.drop 44 = dktX1_put_2 := dk_seg dksX1_put_1 22 rfl rfl
theorem dksX1_put_3 : cX1_put.data.toList.drop 68 = dktX1_put_3 := dk_seg dksX1_put_2 24 rfl rfl
theorem dX1_put_0 : decode cX1_put 0 = .ok (.aload_n 0, 1) := dk_42 (dk_at dksX1_put_0 0 rfl rfl)
theorem dX1_put_1 : decode cX1_put 1 = .ok (.getfield 13, 3) := dk_180 0 13 (dk_at dksX1_put_0 1 rfl rfl)
theorem dX1_put_4 : decode cX1_put 4 = .ok (.aload_n 0, 1) := dk_42 (dk_at dksX1_put_0 4 rfl rfl)
theorem dX1_put_5 : decode cX1_put 5 = .ok (.getfield 7, 3) := dk_180 0 7 (dk_at dksX1_put_0 5 rfl rfl)
theorem dX1_put_8 : decode cX1_put 8 = .ok (.arraylength, 1) := dk_190 (dk_at dksX1_put_0 8 rfl rfl)
theorem dX1_put_9 : decode cX1_put 9 = .ok (.bipush 16, 2) := dk_16 16 (dk_at dksX1_put_0 9 rfl rfl)
theorem dX1_put_11 : decode cX1_put 11 = .ok (.isub, 1) := dk_100 (dk_at dksX1_put_0 11 rfl rfl)
theorem dX1_put_12 : decode cX1_put 12 = .ok (.if_icmp .le 5, 3) := dk_164 0 5 (dk_at dksX1_put_0 12 rfl rfl)
theorem dX1_put_15 : decode cX1_put 15 = .ok (.iconst 0, 1) := dk_3 (dk_at dksX1_put_0 15 rfl rfl)
theorem dX1_put_16 : decode cX1_put 16 = .ok (.ireturn, 1) := dk_172 (dk_at dksX1_put_0 16 rfl rfl)
theorem dX1_put_17 : decode cX1_put 17 = .ok (.aload_n 0, 1) := dk_42 (dk_at dksX1_put_0 17 rfl rfl)
theorem dX1_put_18 : decode cX1_put 18 = .ok (.getfield 7, 3) := dk_180 0 7 (dk_at dksX1_put_0 18 rfl rfl)
theorem dX1_put_21 : decode cX1_put 21 = .ok (.aload_n 0, 1) := dk_42 (dk_at dksX1_put_0 21 rfl rfl)
theorem dX1_put_22 : decode cX1_put 22 = .ok (.getfield 13, 3) := dk_180 0 13 (dk_at dksX1_put_1 0 rfl rfl)
theorem dX1_put_25 : decode cX1_put 25 = .ok (.iload_n 1, 1) := dk_27 (dk_at dksX1_put_1 3 rfl rfl)
theorem dX1_put_26 : decode cX1_put 26 = .ok (.invokestatic 17, 3) := dk_184 0 17 (dk_at dksX1_put_1 4 rfl rfl)
theorem dX1_put_29 : decode cX1_put 29 = .ok (.aload_n 0, 1) := dk_42 (dk_at dksX1_put_1 7 rfl rfl)
theorem dX1_put_30 : decode cX1_put 30 = .ok (.getfield 7, 3) := dk_180 0 7 (dk_at dksX1_put_1 8 rfl rfl)
theorem dX1_put_33 : decode cX1_put 33 = .ok (.aload_n 0, 1) := dk_42 (dk_at dksX1_put_1 11 rfl rfl)
theorem dX1_put_34 : decode cX1_put 34 = .ok (.getfield 13, 3) := dk_180 0 13 (dk_at dksX1_put_1 12 rfl rfl)
theorem dX1_put_37 : decode cX1_put 37 = .ok (.iconst 4, 1) := dk_7 (dk_at dksX1_put_1 15 rfl rfl)
theorem dX1_put_38 : decode cX1_put 38 = .ok (.iadd, 1) := dk_96 (dk_at dksX1_put_1 16 rfl rfl)
theorem dX1_put_39 : decode cX1_put 39 = .ok (.iload_n 2, 1) := dk_28 (dk_at dksX1_put_1 17 rfl rfl)
theorem dX1_put_40 : decode cX1_put 40 = .ok (.invokestatic 17, 3) := dk_184 0 17 (dk_at dksX1_put_1 18 rfl rfl)
theorem dX1_put_43 : decode cX1_put 43 = .ok (.aload_n 0, 1) := dk_42 (dk_at dksX1_put_1 21 rfl rfl)
theorem dX1_put_44 : decode cX1_put 44 = .ok (.getfield 7, 3) := dk_180 0 7 (dk_at dksX1_put_2 0 rfl rfl)
theorem dX1_put_47 : decode cX1_put 47 = .ok (.aload_n 0, 1) := dk_42 (dk_at dksX1_put_2 3 rfl rfl)
theorem dX1_put_48 : decode cX1_put 48 = .ok (.getfield 13, 3) := dk_180 0 13 (dk_at dksX1_put_2 4 rfl rfl)
theorem dX1_put_51 : decode cX1_put 51 = .ok (.bipush 8, 2) := dk_16 8 (dk_at dksX1_put_2 7 rfl rfl)
theorem dX1_put_53 : decode cX1_put 53 = .ok (.iadd, 1) := dk_96 (dk_at dksX1_put_2 9 rfl rfl)
theorem dX1_put_54 : decode cX1_put 54 = .ok (.iload_n 3, 1) := dk_29 (dk_at dksX1_put_2 10 rfl rfl)
theorem dX1_put_55 : decode cX1_put 55 = .ok (.invokestatic 17, 3) := dk_184 0 17 (dk_at dksX1_put_2 11 rfl rfl)
theorem dX1_put_58 : decode cX1_put 58 = .ok (.aload_n 0, 1) := dk_42 (dk_at dksX1_put_2 14 rfl rfl)
theorem dX1_put_59 : decode cX1_put 59 = .ok (.getfield 7, 3) := dk_180 0 7 (dk_at dksX1_put_2 15 rfl rfl)
theorem dX1_put_62 : decode cX1_put 62 = .ok (.aload_n 0, 1) := dk_42 (dk_at dksX1_put_2 18 rfl rfl)
theorem dX1_put_63 : decode cX1_put 63 = .ok (.getfield 13, 3) := dk_180 0 13 (dk_at dksX1_put_2 19 rfl rfl)
theorem dX1_put_66 : decode cX1_put 66 = .ok (.bipush 12, 2) := dk_16 12 (dk_at dksX1_put_2 22 rfl rfl)
theorem dX1_put_68 : decode cX1_put 68 = .ok (.iadd, 1) := dk_96 (dk_at dksX1_put_3 0 rfl rfl)
theorem dX1_put_69 : decode cX1_put 69 = .ok (.iload 4, 2) := dk_21 4 (dk_at dksX1_put_3 1 rfl rfl)
theorem dX1_put_71 : decode cX1_put 71 = .ok (.invokestatic 17, 3) := dk_184 0 17 (dk_at dksX1_put_3 3 rfl rfl)
theorem dX1_put_74 : decode cX1_put 74 = .ok (.aload_n 0, 1) := dk_42 (dk_at dksX1_put_3 6 rfl rfl)
theorem dX1_put_75 : decode cX1_put 75 = .ok (.dup, 1) := dk_89 (dk_at dksX1_put_3 7 rfl rfl)
theorem dX1_put_76 : decode cX1_put 76 = .ok (.getfield 13, 3) := dk_180 0 13 (dk_at dksX1_put_3 8 rfl rfl)
theorem dX1_put_79 : decode cX1_put 79 = .ok (.bipush 16, 2) := dk_16 16 (dk_at dksX1_put_3 11 rfl rfl)
theorem dX1_put_81 : decode cX1_put 81 = .ok (.iadd, 1) := dk_96 (dk_at dksX1_put_3 13 rfl rfl)
theorem dX1_put_82 : decode cX1_put 82 = .ok (.putfield 13, 3) := dk_181 0 13 (dk_at dksX1_put_3 14 rfl rfl)
theorem dX1_put_85 : decode cX1_put 85 = .ok (.iconst 1, 1) := dk_4 (dk_at dksX1_put_3 17 rfl rfl)
theorem dX1_put_86 : decode cX1_put 86 = .ok (.ireturn, 1) := dk_172 (dk_at dksX1_put_3 18 rfl rfl)
abbrev cX1_word : ByteArray := prog_2_method_3_code
def yX1_word : MethodName := ⟨RX1, "word", "([BII)V"⟩
def dkwX1_word_1 : List UInt8 := [16, 8, 122, 145, 84, 42, 27, 6, 96, 28, 145, 84, 177]
abbrev dktX1_word_1 : List UInt8 := dkwX1_word_1 ++ []
def dkwX1_word_0 : List UInt8 := [42, 27, 28, 16, 24, 122, 145, 84, 42, 27, 4, 96, 28, 16, 16, 122, 145, 84, 42, 27, 5, 96, 28]
abbrev dktX1_word_0 : List UInt8 := dkwX1_word_0 ++ dktX1_word_1
theorem dksX1_word_0 : cX1_word.data.toList.drop 0 = dktX1_word_0 := by decide +kernel
theorem dksX1_word_1 : cX1_word.data.toList.drop 23 = dktX1_word_1 := dk_seg dksX1_word_0 23 rfl rfl
theorem dX1_word_0 : decode cX1_word 0 = .ok (.aload_n 0, 1) := dk_42 (dk_at dksX1_word_0 0 rfl rfl)
theorem dX1_word_1 : decode cX1_word 1 = .ok (.iload_n 1, 1) := dk_27 (dk_at dksX1_word_0 1 rfl rfl)
theorem dX1_word_2 : decode cX1_word 2 = .ok (.iload_n 2, 1) := dk_28 (dk_at dksX1_word_0 2 rfl rfl)
theorem dX1_word_3 : decode cX1_word 3 = .ok (.bipush 24, 2) := dk_16 24 (dk_at dksX1_word_0 3 rfl rfl)
theorem dX1_word_5 : decode cX1_word 5 = .ok (.ishr, 1) := dk_122 (dk_at dksX1_word_0 5 rfl rfl)
theorem dX1_word_6 : decode cX1_word 6 = .ok (.i2b, 1) := dk_145 (dk_at dksX1_word_0 6 rfl rfl)
theorem dX1_word_7 : decode cX1_word 7 = .ok (.bastore, 1) := dk_84 (dk_at dksX1_word_0 7 rfl rfl)
theorem dX1_word_8 : decode cX1_word 8 = .ok (.aload_n 0, 1) := dk_42 (dk_at dksX1_word_0 8 rfl rfl)
theorem dX1_word_9 : decode cX1_word 9 = .ok (.iload_n 1, 1) := dk_27 (dk_at dksX1_word_0 9 rfl rfl)
theorem dX1_word_10 : decode cX1_word 10 = .ok (.iconst 1, 1) := dk_4 (dk_at dksX1_word_0 10 rfl rfl)
theorem dX1_word_11 : decode cX1_word 11 = .ok (.iadd, 1) := dk_96 (dk_at dksX1_word_0 11 rfl rfl)
theorem dX1_word_12 : decode cX1_word 12 = .ok (.iload_n 2, 1) := dk_28 (dk_at dksX1_word_0 12 rfl rfl)
theorem dX1_word_13 : decode cX1_word 13 = .ok (.bipush 16, 2) := dk_16 16 (dk_at dksX1_word_0 13 rfl rfl)
theorem dX1_word_15 : decode cX1_word 15 = .ok (.ishr, 1) := dk_122 (dk_at dksX1_word_0 15 rfl rfl)
theorem dX1_word_16 : decode cX1_word 16 = .ok (.i2b, 1) := dk_145 (dk_at dksX1_word_0 16 rfl rfl)
theorem dX1_word_17 : decode cX1_word 17 = .ok (.bastore, 1) := dk_84 (dk_at dksX1_word_0 17 rfl rfl)
theorem dX1_word_18 : decode cX1_word 18 = .ok (.aload_n 0, 1) := dk_42 (dk_at dksX1_word_0 18 rfl rfl)
theorem dX1_word_19 : decode cX1_word 19 = .ok (.iload_n 1, 1) := dk_27 (dk_at dksX1_word_0 19 rfl rfl)
theorem dX1_word_20 : decode cX1_word 20 = .ok (.iconst 2, 1) := dk_5 (dk_at dksX1_word_0 20 rfl rfl)
theorem dX1_word_21 : decode cX1_word 21 = .ok (.iadd, 1) := dk_96 (dk_at dksX1_word_0 21 rfl rfl)
theorem dX1_word_22 : decode cX1_word 22 = .ok (.iload_n 2, 1) := dk_28 (dk_at dksX1_word_0 22 rfl rfl)
theorem dX1_word_23 : decode cX1_word 23 = .ok (.bipush 8, 2) := dk_16 8 (dk_at dksX1_word_1 0 rfl rfl)
theorem dX1_word_25 : decode cX1_word 25 = .ok (.ishr, 1) := dk_122 (dk_at dksX1_word_1 2 rfl rfl)
theorem dX1_word_26 : decode cX1_word 26 = .ok (.i2b, 1) := dk_145 (dk_at dksX1_word_1 3 rfl rfl)
theorem dX1_word_27 : decode cX1_word 27 = .ok (.bastore, 1) := dk_84 (dk_at dksX1_word_1 4 rfl rfl)
theorem dX1_word_28 : decode cX1_word 28 = .ok (.aload_n 0, 1) := dk_42 (dk_at dksX1_word_1 5 rfl rfl)
theorem dX1_word_29 : decode cX1_word 29 = .ok (.iload_n 1, 1) := dk_27 (dk_at dksX1_word_1 6 rfl rfl)
theorem dX1_word_30 : decode cX1_word 30 = .ok (.iconst 3, 1) := dk_6 (dk_at dksX1_word_1 7 rfl rfl)
theorem dX1_word_31 : decode cX1_word 31 = .ok (.iadd, 1) := dk_96 (dk_at dksX1_word_1 8 rfl rfl)
theorem dX1_word_32 : decode cX1_word 32 = .ok (.iload_n 2, 1) := dk_28 (dk_at dksX1_word_1 9 rfl rfl)
theorem dX1_word_33 : decode cX1_word 33 = .ok (.i2b, 1) := dk_145 (dk_at dksX1_word_1 10 rfl rfl)
theorem dX1_word_34 : decode cX1_word 34 = .ok (.bastore, 1) := dk_84 (dk_at dksX1_word_1 11 rfl rfl)
theorem dX1_word_35 : decode cX1_word 35 = .ok (.return_, 1) := dk_177 (dk_at dksX1_word_1 12 rfl rfl)
abbrev cX1_trim : ByteArray := prog_2_method_4_code
def yX1_trim : MethodName := ⟨RX1, "trim", "(I)V"⟩
def dkwX1_trim_0 : List UInt8 := [42, 42, 27, 182, 0, 21, 181, 0, 13, 177]
abbrev dktX1_trim_0 : List UInt8 := dkwX1_trim_0 ++ []
theorem dksX1_trim_0 : cX1_trim.data.toList.drop 0 = dktX1_trim_0 := by decide +kernel
theorem dX1_trim_0 : decode cX1_trim 0 = .ok (.aload_n 0, 1) := dk_42 (dk_at dksX1_trim_0 0 rfl rfl)
theorem dX1_trim_1 : decode cX1_trim 1 = .ok (.aload_n 0, 1) := dk_42 (dk_at dksX1_trim_0 1 rfl rfl)
theorem dX1_trim_2 : decode cX1_trim 2 = .ok (.iload_n 1, 1) := dk_27 (dk_at dksX1_trim_0 2 rfl rfl)
theorem dX1_trim_3 : decode cX1_trim 3 = .ok (.invokevirtual 21, 3) := dk_182 0 21 (dk_at dksX1_trim_0 3 rfl rfl)
theorem dX1_trim_6 : decode cX1_trim 6 = .ok (.putfield 13, 3) := dk_181 0 13 (dk_at dksX1_trim_0 6 rfl rfl)
theorem dX1_trim_9 : decode cX1_trim 9 = .ok (.return_, 1) := dk_177 (dk_at dksX1_trim_0 9 rfl rfl)
abbrev cX1_from : ByteArray := prog_2_method_5_code
def yX1_from : MethodName := ⟨RX1, "from", "(I)I"⟩
def dkwX1_from_0 : List UInt8 := [27, 18, 25, 126, 42, 180, 0, 13, 4, 96, 112, 172]
abbrev dktX1_from_0 : List UInt8 := dkwX1_from_0 ++ []
theorem dksX1_from_0 : cX1_from.data.toList.drop 0 = dktX1_from_0 := by decide +kernel
theorem dX1_from_0 : decode cX1_from 0 = .ok (.iload_n 1, 1) := dk_27 (dk_at dksX1_from_0 0 rfl rfl)
theorem dX1_from_1 : decode cX1_from 1 = .ok (.ldc 25, 2) := dk_18 25 (dk_at dksX1_from_0 1 rfl rfl)
theorem dX1_from_3 : decode cX1_from 3 = .ok (.iand, 1) := dk_126 (dk_at dksX1_from_0 3 rfl rfl)
theorem dX1_from_4 : decode cX1_from 4 = .ok (.aload_n 0, 1) := dk_42 (dk_at dksX1_from_0 4 rfl rfl)
theorem dX1_from_5 : decode cX1_from 5 = .ok (.getfield 13, 3) := dk_180 0 13 (dk_at dksX1_from_0 5 rfl rfl)
theorem dX1_from_8 : decode cX1_from 8 = .ok (.iconst 1, 1) := dk_4 (dk_at dksX1_from_0 8 rfl rfl)
theorem dX1_from_9 : decode cX1_from 9 = .ok (.iadd, 1) := dk_96 (dk_at dksX1_from_0 9 rfl rfl)
theorem dX1_from_10 : decode cX1_from 10 = .ok (.irem, 1) := dk_112 (dk_at dksX1_from_0 10 rfl rfl)
theorem dX1_from_11 : decode cX1_from 11 = .ok (.ireturn, 1) := dk_172 (dk_at dksX1_from_0 11 rfl rfl)
abbrev cX1_small : ByteArray := prog_2_method_8_code
def yX1_small : MethodName := ⟨RX1, "small", "(III)I"⟩
def dkwX1_small_2 : List UInt8 := [172]
abbrev dktX1_small_2 : List UInt8 := dkwX1_small_2 ++ []
def dkwX1_small_1 : List UInt8 := [167, 0, 14, 7, 28, 18, 25, 126, 21, 5, 4, 96, 112, 104, 54, 5, 25, 4, 21, 5, 29, 184, 0, 34]
abbrev dktX1_small_1 : List UInt8 := dkwX1_small_1 ++ dktX1_small_2
def dkwX1_small_0 : List UInt8 := [42, 27, 42, 180, 0, 13, 182, 0, 30, 58, 4, 25, 4, 190, 7, 108, 54, 5, 21, 5, 154, 0, 7, 3]
abbrev dktX1_small_0 : List UInt8 := dkwX1_small_0 ++ dktX1_small_1
theorem dksX1_small_0 : cX1_small.data.toList.drop 0 = dktX1_small_0 := by decide +kernel
theorem dksX1_small_1 : cX1_small.data.toList.drop 24 = dktX1_small_1 := dk_seg dksX1_small_0 24 rfl rfl
theorem dksX1_small_2 : cX1_small.data.toList.drop 48 = dktX1_small_2 := dk_seg dksX1_small_1 24 rfl rfl
theorem dX1_small_0 : decode cX1_small 0 = .ok (.aload_n 0, 1) := dk_42 (dk_at dksX1_small_0 0 rfl rfl)
theorem dX1_small_1 : decode cX1_small 1 = .ok (.iload_n 1, 1) := dk_27 (dk_at dksX1_small_0 1 rfl rfl)
theorem dX1_small_2 : decode cX1_small 2 = .ok (.aload_n 0, 1) := dk_42 (dk_at dksX1_small_0 2 rfl rfl)
theorem dX1_small_3 : decode cX1_small 3 = .ok (.getfield 13, 3) := dk_180 0 13 (dk_at dksX1_small_0 3 rfl rfl)
theorem dX1_small_6 : decode cX1_small 6 = .ok (.invokevirtual 30, 3) := dk_182 0 30 (dk_at dksX1_small_0 6 rfl rfl)
theorem dX1_small_9 : decode cX1_small 9 = .ok (.astore 4, 2) := dk_58 4 (dk_at dksX1_small_0 9 rfl rfl)
theorem dX1_small_11 : decode cX1_small 11 = .ok (.aload 4, 2) := dk_25 4 (dk_at dksX1_small_0 11 rfl rfl)
theorem dX1_small_13 : decode cX1_small 13 = .ok (.arraylength, 1) := dk_190 (dk_at dksX1_small_0 13 rfl rfl)
theorem dX1_small_14 : decode cX1_small 14 = .ok (.iconst 4, 1) := dk_7 (dk_at dksX1_small_0 14 rfl rfl)
theorem dX1_small_15 : decode cX1_small 15 = .ok (.idiv, 1) := dk_108 (dk_at dksX1_small_0 15 rfl rfl)
theorem dX1_small_16 : decode cX1_small 16 = .ok (.istore 5, 2) := dk_54 5 (dk_at dksX1_small_0 16 rfl rfl)
theorem dX1_small_18 : decode cX1_small 18 = .ok (.iload 5, 2) := dk_21 5 (dk_at dksX1_small_0 18 rfl rfl)
theorem dX1_small_20 : decode cX1_small 20 = .ok (.ifCond .ne 7, 3) := dk_154 0 7 (dk_at dksX1_small_0 20 rfl rfl)
theorem dX1_small_23 : decode cX1_small 23 = .ok (.iconst 0, 1) := dk_3 (dk_at dksX1_small_0 23 rfl rfl)
theorem dX1_small_24 : decode cX1_small 24 = .ok (.goto 14, 3) := dk_167 0 14 (dk_at dksX1_small_1 0 rfl rfl)
theorem dX1_small_27 : decode cX1_small 27 = .ok (.iconst 4, 1) := dk_7 (dk_at dksX1_small_1 3 rfl rfl)
theorem dX1_small_28 : decode cX1_small 28 = .ok (.iload_n 2, 1) := dk_28 (dk_at dksX1_small_1 4 rfl rfl)
theorem dX1_small_29 : decode cX1_small 29 = .ok (.ldc 25, 2) := dk_18 25 (dk_at dksX1_small_1 5 rfl rfl)
theorem dX1_small_31 : decode cX1_small 31 = .ok (.iand, 1) := dk_126 (dk_at dksX1_small_1 7 rfl rfl)
theorem dX1_small_32 : decode cX1_small 32 = .ok (.iload 5, 2) := dk_21 5 (dk_at dksX1_small_1 8 rfl rfl)
theorem dX1_small_34 : decode cX1_small 34 = .ok (.iconst 1, 1) := dk_4 (dk_at dksX1_small_1 10 rfl rfl)
theorem dX1_small_35 : decode cX1_small 35 = .ok (.iadd, 1) := dk_96 (dk_at dksX1_small_1 11 rfl rfl)
theorem dX1_small_36 : decode cX1_small 36 = .ok (.irem, 1) := dk_112 (dk_at dksX1_small_1 12 rfl rfl)
theorem dX1_small_37 : decode cX1_small 37 = .ok (.imul, 1) := dk_104 (dk_at dksX1_small_1 13 rfl rfl)
theorem dX1_small_38 : decode cX1_small 38 = .ok (.istore 5, 2) := dk_54 5 (dk_at dksX1_small_1 14 rfl rfl)
theorem dX1_small_40 : decode cX1_small 40 = .ok (.aload 4, 2) := dk_25 4 (dk_at dksX1_small_1 16 rfl rfl)
theorem dX1_small_42 : decode cX1_small 42 = .ok (.iload 5, 2) := dk_21 5 (dk_at dksX1_small_1 18 rfl rfl)
theorem dX1_small_44 : decode cX1_small 44 = .ok (.iload_n 3, 1) := dk_29 (dk_at dksX1_small_1 20 rfl rfl)
theorem dX1_small_45 : decode cX1_small 45 = .ok (.invokestatic 34, 3) := dk_184 0 34 (dk_at dksX1_small_1 21 rfl rfl)
theorem dX1_small_48 : decode cX1_small 48 = .ok (.ireturn, 1) := dk_172 (dk_at dksX1_small_2 0 rfl rfl)
abbrev cX1_part : ByteArray := prog_2_method_7_code
def yX1_part : MethodName := ⟨RX1, "part", "(II)[B"⟩
def dkwX1_part_2 : List UInt8 := [167, 255, 232, 25, 5, 176]
abbrev dktX1_part_2 : List UInt8 := dkwX1_part_2 ++ []
def dkwX1_part_1 : List UInt8 := [21, 6, 21, 4, 162, 0, 23, 25, 5, 21, 6, 42, 180, 0, 7, 29, 21, 6, 96, 51, 84, 132, 6, 1]
abbrev dktX1_part_1 : List UInt8 := dkwX1_part_1 ++ dktX1_part_2
def dkwX1_part_0 : List UInt8 := [42, 27, 182, 0, 21, 62, 42, 29, 28, 182, 0, 26, 54, 4, 21, 4, 188, 8, 58, 5, 3, 54, 6]
abbrev dktX1_part_0 : List UInt8 := dkwX1_part_0 ++ dktX1_part_1
theorem dksX1_part_0 : cX1_part.data.toList.drop 0 = dktX1_part_0 := by decide +kernel
theorem dksX1_part_1 : cX1_part.data.toList.drop 23 = dktX1_part_1 := dk_seg dksX1_part_0 23 rfl rfl
theorem dksX1_part_2 : cX1_part.data.toList.drop 47 = dktX1_part_2 := dk_seg dksX1_part_1 24 rfl rfl
theorem dX1_part_0 : decode cX1_part 0 = .ok (.aload_n 0, 1) := dk_42 (dk_at dksX1_part_0 0 rfl rfl)
theorem dX1_part_1 : decode cX1_part 1 = .ok (.iload_n 1, 1) := dk_27 (dk_at dksX1_part_0 1 rfl rfl)
theorem dX1_part_2 : decode cX1_part 2 = .ok (.invokevirtual 21, 3) := dk_182 0 21 (dk_at dksX1_part_0 2 rfl rfl)
theorem dX1_part_5 : decode cX1_part 5 = .ok (.istore_n 3, 1) := dk_62 (dk_at dksX1_part_0 5 rfl rfl)
theorem dX1_part_6 : decode cX1_part 6 = .ok (.aload_n 0, 1) := dk_42 (dk_at dksX1_part_0 6 rfl rfl)
theorem dX1_part_7 : decode cX1_part 7 = .ok (.iload_n 3, 1) := dk_29 (dk_at dksX1_part_0 7 rfl rfl)
theorem dX1_part_8 : decode cX1_part 8 = .ok (.iload_n 2, 1) := dk_28 (dk_at dksX1_part_0 8 rfl rfl)
theorem dX1_part_9 : decode cX1_part 9 = .ok (.invokevirtual 26, 3) := dk_182 0 26 (dk_at dksX1_part_0 9 rfl rfl)
theorem dX1_part_12 : decode cX1_part 12 = .ok (.istore 4, 2) := dk_54 4 (dk_at dksX1_part_0 12 rfl rfl)
theorem dX1_part_14 : decode cX1_part 14 = .ok (.iload 4, 2) := dk_21 4 (dk_at dksX1_part_0 14 rfl rfl)
theorem dX1_part_16 : decode cX1_part 16 = .ok (.newarray .byte, 2) := dk_188_8 (dk_at dksX1_part_0 16 rfl rfl)
theorem dX1_part_18 : decode cX1_part 18 = .ok (.astore 5, 2) := dk_58 5 (dk_at dksX1_part_0 18 rfl rfl)
theorem dX1_part_20 : decode cX1_part 20 = .ok (.iconst 0, 1) := dk_3 (dk_at dksX1_part_0 20 rfl rfl)
theorem dX1_part_21 : decode cX1_part 21 = .ok (.istore 6, 2) := dk_54 6 (dk_at dksX1_part_0 21 rfl rfl)
theorem dX1_part_23 : decode cX1_part 23 = .ok (.iload 6, 2) := dk_21 6 (dk_at dksX1_part_1 0 rfl rfl)
theorem dX1_part_25 : decode cX1_part 25 = .ok (.iload 4, 2) := dk_21 4 (dk_at dksX1_part_1 2 rfl rfl)
theorem dX1_part_27 : decode cX1_part 27 = .ok (.if_icmp .ge 23, 3) := dk_162 0 23 (dk_at dksX1_part_1 4 rfl rfl)
theorem dX1_part_30 : decode cX1_part 30 = .ok (.aload 5, 2) := dk_25 5 (dk_at dksX1_part_1 7 rfl rfl)
theorem dX1_part_32 : decode cX1_part 32 = .ok (.iload 6, 2) := dk_21 6 (dk_at dksX1_part_1 9 rfl rfl)
theorem dX1_part_34 : decode cX1_part 34 = .ok (.aload_n 0, 1) := dk_42 (dk_at dksX1_part_1 11 rfl rfl)
theorem dX1_part_35 : decode cX1_part 35 = .ok (.getfield 7, 3) := dk_180 0 7 (dk_at dksX1_part_1 12 rfl rfl)
theorem dX1_part_38 : decode cX1_part 38 = .ok (.iload_n 3, 1) := dk_29 (dk_at dksX1_part_1 15 rfl rfl)
theorem dX1_part_39 : decode cX1_part 39 = .ok (.iload 6, 2) := dk_21 6 (dk_at dksX1_part_1 16 rfl rfl)
theorem dX1_part_41 : decode cX1_part 41 = .ok (.iadd, 1) := dk_96 (dk_at dksX1_part_1 18 rfl rfl)
theorem dX1_part_42 : decode cX1_part 42 = .ok (.baload, 1) := dk_51 (dk_at dksX1_part_1 19 rfl rfl)
theorem dX1_part_43 : decode cX1_part 43 = .ok (.bastore, 1) := dk_84 (dk_at dksX1_part_1 20 rfl rfl)
theorem dX1_part_44 : decode cX1_part 44 = .ok (.iinc 6 1, 3) := dk_132 6 1 (dk_at dksX1_part_1 21 rfl rfl)
theorem dX1_part_47 : decode cX1_part 47 = .ok (.goto (-24), 3) := dk_167 255 232 (dk_at dksX1_part_2 0 rfl rfl)
theorem dX1_part_50 : decode cX1_part 50 = .ok (.aload 5, 2) := dk_25 5 (dk_at dksX1_part_2 3 rfl rfl)
theorem dX1_part_52 : decode cX1_part 52 = .ok (.areturn, 1) := dk_176 (dk_at dksX1_part_2 5 rfl rfl)
abbrev cX1_count : ByteArray := prog_2_method_6_code
def yX1_count : MethodName := ⟨RX1, "count", "(II)I"⟩
def dkwX1_count_0 : List UInt8 := [28, 18, 25, 126, 42, 180, 0, 13, 27, 100, 4, 96, 112, 172]
abbrev dktX1_count_0 : List UInt8 := dkwX1_count_0 ++ []
theorem dksX1_count_0 : cX1_count.data.toList.drop 0 = dktX1_count_0 := by decide +kernel
theorem dX1_count_0 : decode cX1_count 0 = .ok (.iload_n 2, 1) := dk_28 (dk_at dksX1_count_0 0 rfl rfl)
theorem dX1_count_1 : decode cX1_count 1 = .ok (.ldc 25, 2) := dk_18 25 (dk_at dksX1_count_0 1 rfl rfl)
theorem dX1_count_3 : decode cX1_count 3 = .ok (.iand, 1) := dk_126 (dk_at dksX1_count_0 3 rfl rfl)
theorem dX1_count_4 : decode cX1_count 4 = .ok (.aload_n 0, 1) := dk_42 (dk_at dksX1_count_0 4 rfl rfl)
theorem dX1_count_5 : decode cX1_count 5 = .ok (.getfield 13, 3) := dk_180 0 13 (dk_at dksX1_count_0 5 rfl rfl)
theorem dX1_count_8 : decode cX1_count 8 = .ok (.iload_n 1, 1) := dk_27 (dk_at dksX1_count_0 8 rfl rfl)
theorem dX1_count_9 : decode cX1_count 9 = .ok (.isub, 1) := dk_100 (dk_at dksX1_count_0 9 rfl rfl)
theorem dX1_count_10 : decode cX1_count 10 = .ok (.iconst 1, 1) := dk_4 (dk_at dksX1_count_0 10 rfl rfl)
theorem dX1_count_11 : decode cX1_count 11 = .ok (.iadd, 1) := dk_96 (dk_at dksX1_count_0 11 rfl rfl)
theorem dX1_count_12 : decode cX1_count 12 = .ok (.irem, 1) := dk_112 (dk_at dksX1_count_0 12 rfl rfl)
theorem dX1_count_13 : decode cX1_count 13 = .ok (.ireturn, 1) := dk_172 (dk_at dksX1_count_0 13 rfl rfl)
abbrev cX1_wide : ByteArray := prog_2_method_9_code
def yX1_wide : MethodName := ⟨RX1, "wide", "(IIII)J"⟩
def dkwX1_wide_1 : List UInt8 := [126, 47, 173]
abbrev dktX1_wide_1 : List UInt8 := dkwX1_wide_1 ++ []
def dkwX1_wide_0 : List UInt8 := [42, 27, 28, 182, 0, 30, 58, 5, 25, 5, 3, 25, 5, 190, 29, 18, 25, 126, 184, 0, 40, 21, 4, 4]
abbrev dktX1_wide_0 : List UInt8 := dkwX1_wide_0 ++ dktX1_wide_1
theorem dksX1_wide_0 : cX1_wide.data.toList.drop 0 = dktX1_wide_0 := by decide +kernel
theorem dksX1_wide_1 : cX1_wide.data.toList.drop 24 = dktX1_wide_1 := dk_seg dksX1_wide_0 24 rfl rfl
theorem dX1_wide_0 : decode cX1_wide 0 = .ok (.aload_n 0, 1) := dk_42 (dk_at dksX1_wide_0 0 rfl rfl)
theorem dX1_wide_1 : decode cX1_wide 1 = .ok (.iload_n 1, 1) := dk_27 (dk_at dksX1_wide_0 1 rfl rfl)
theorem dX1_wide_2 : decode cX1_wide 2 = .ok (.iload_n 2, 1) := dk_28 (dk_at dksX1_wide_0 2 rfl rfl)
theorem dX1_wide_3 : decode cX1_wide 3 = .ok (.invokevirtual 30, 3) := dk_182 0 30 (dk_at dksX1_wide_0 3 rfl rfl)
theorem dX1_wide_6 : decode cX1_wide 6 = .ok (.astore 5, 2) := dk_58 5 (dk_at dksX1_wide_0 6 rfl rfl)
theorem dX1_wide_8 : decode cX1_wide 8 = .ok (.aload 5, 2) := dk_25 5 (dk_at dksX1_wide_0 8 rfl rfl)
theorem dX1_wide_10 : decode cX1_wide 10 = .ok (.iconst 0, 1) := dk_3 (dk_at dksX1_wide_0 10 rfl rfl)
theorem dX1_wide_11 : decode cX1_wide 11 = .ok (.aload 5, 2) := dk_25 5 (dk_at dksX1_wide_0 11 rfl rfl)
theorem dX1_wide_13 : decode cX1_wide 13 = .ok (.arraylength, 1) := dk_190 (dk_at dksX1_wide_0 13 rfl rfl)
theorem dX1_wide_14 : decode cX1_wide 14 = .ok (.iload_n 3, 1) := dk_29 (dk_at dksX1_wide_0 14 rfl rfl)
theorem dX1_wide_15 : decode cX1_wide 15 = .ok (.ldc 25, 2) := dk_18 25 (dk_at dksX1_wide_0 15 rfl rfl)
theorem dX1_wide_17 : decode cX1_wide 17 = .ok (.iand, 1) := dk_126 (dk_at dksX1_wide_0 17 rfl rfl)
theorem dX1_wide_18 : decode cX1_wide 18 = .ok (.invokestatic 40, 3) := dk_184 0 40 (dk_at dksX1_wide_0 18 rfl rfl)
theorem dX1_wide_21 : decode cX1_wide 21 = .ok (.iload 4, 2) := dk_21 4 (dk_at dksX1_wide_0 21 rfl rfl)
theorem dX1_wide_23 : decode cX1_wide 23 = .ok (.iconst 1, 1) := dk_4 (dk_at dksX1_wide_0 23 rfl rfl)
theorem dX1_wide_24 : decode cX1_wide 24 = .ok (.iand, 1) := dk_126 (dk_at dksX1_wide_1 0 rfl rfl)
theorem dX1_wide_25 : decode cX1_wide 25 = .ok (.laload, 1) := dk_47 (dk_at dksX1_wide_1 1 rfl rfl)
theorem dX1_wide_26 : decode cX1_wide 26 = .ok (.lreturn, 1) := dk_173 (dk_at dksX1_wide_1 2 rfl rfl)
theorem q4 : (Jvm.Cond.initialized "MurmurDesk") ∈ lw_all := lw_g (lw_at lw_m0 1 rfl) rfl
theorem q9 : (Jvm.Cond.instantiable "MurmurDesk" (2 : Nat)) ∈ lw_all := lw_g (lw_at lw_m0 6 rfl) rfl
theorem q11 : (Jvm.Cond.instanceMethod ({ cls := "MurmurDesk", name := "<init>", desc := "()V" } : Jvm.MethodName)) ∈ lw_all := lw_g (lw_at lw_m0 8 rfl) rfl
theorem q12 : (Jvm.Cond.code ({ cls := "MurmurDesk", name := "<init>", desc := "()V" } : Jvm.MethodName) prog_2_method_1_code (1 : Nat) (Option.none : Option Jvm.ClassFile.FieldType)) ∈ lw_all := lw_g (lw_at lw_m0 9 rfl) rfl
theorem q13 : (Jvm.Cond.methodLink "MurmurDesk" (1 : Nat) ({ cls := "java/lang/Object", name := "<init>", desc := "()V" } : Jvm.MethodName)) ∈ lw_all := lw_g (lw_at lw_m0 10 rfl) rfl
theorem q16 : (Jvm.Cond.fieldLink "MurmurDesk" (7 : Nat) "MurmurDesk" "text" "[B") ∈ lw_all := lw_g (lw_at lw_m0 13 rfl) rfl
theorem q17 : (Jvm.Cond.fieldLink "MurmurDesk" (13 : Nat) "MurmurDesk" "size" "I") ∈ lw_all := lw_g (lw_at lw_m0 14 rfl) rfl
theorem q18 : (Jvm.Cond.laysFinal "MurmurDesk" "MurmurDesk" "text" "[B") ∈ lw_all := lw_g (lw_at lw_m0 15 rfl) rfl
theorem q19 : (Jvm.Cond.soleField "MurmurDesk" "text") ∈ lw_all := lw_g (lw_at lw_m0 16 rfl) rfl
theorem q20 : (Jvm.Cond.lays "MurmurDesk" "MurmurDesk" "size" "I") ∈ lw_all := lw_g (lw_at lw_m0 17 rfl) rfl
theorem q21 : (Jvm.Cond.soleField "MurmurDesk" "size") ∈ lw_all := lw_g (lw_at lw_m0 18 rfl) rfl
theorem q22 : (Jvm.Cond.superclass "MurmurDesk" "java/lang/Object") ∈ lw_all := lw_g (lw_at lw_m0 19 rfl) rfl
theorem q25 : (Jvm.Cond.instanceMethod ({ cls := "MurmurDesk", name := "put", desc := "(IIII)Z" } : Jvm.MethodName)) ∈ lw_all := lw_g (lw_at lw_m0 22 rfl) rfl
theorem q26 : (Jvm.Cond.selects "MurmurDesk" ({ cls := "MurmurDesk", name := "put", desc := "(IIII)Z" } : Jvm.MethodName) ({ cls := "MurmurDesk", name := "put", desc := "(IIII)Z" } : Jvm.MethodName)) ∈ lw_all := lw_g (lw_at lw_m0 23 rfl) rfl
theorem q27 : (Jvm.Cond.code ({ cls := "MurmurDesk", name := "put", desc := "(IIII)Z" } : Jvm.MethodName) prog_2_method_2_code (5 : Nat) (Option.some Jvm.ClassFile.FieldType.boolean)) ∈ lw_all := lw_g (lw_at lw_m0 24 rfl) rfl
theorem q28 : (Jvm.Cond.methodLink "MurmurDesk" (17 : Nat) ({ cls := "MurmurDesk", name := "word", desc := "([BII)V" } : Jvm.MethodName)) ∈ lw_all := lw_g (lw_at lw_m0 25 rfl) rfl
theorem q29 : (Jvm.Cond.static ({ cls := "MurmurDesk", name := "word", desc := "([BII)V" } : Jvm.MethodName)) ∈ lw_all := lw_g (lw_at lw_m0 26 rfl) rfl
theorem q30 : (Jvm.Cond.code ({ cls := "MurmurDesk", name := "word", desc := "([BII)V" } : Jvm.MethodName) prog_2_method_3_code (3 : Nat) (Option.none : Option Jvm.ClassFile.FieldType)) ∈ lw_all := lw_g (lw_at lw_m0 27 rfl) rfl
theorem q32 : (Jvm.Cond.instanceMethod ({ cls := "MurmurDesk", name := "trim", desc := "(I)V" } : Jvm.MethodName)) ∈ lw_all := lw_g (lw_at lw_m0 29 rfl) rfl
theorem q33 : (Jvm.Cond.selects "MurmurDesk" ({ cls := "MurmurDesk", name := "trim", desc := "(I)V" } : Jvm.MethodName) ({ cls := "MurmurDesk", name := "trim", desc := "(I)V" } : Jvm.MethodName)) ∈ lw_all := lw_g (lw_at lw_m0 30 rfl) rfl
theorem q34 : (Jvm.Cond.code ({ cls := "MurmurDesk", name := "trim", desc := "(I)V" } : Jvm.MethodName) prog_2_method_4_code (2 : Nat) (Option.none : Option Jvm.ClassFile.FieldType)) ∈ lw_all := lw_g (lw_at lw_m0 31 rfl) rfl
theorem q35 : (Jvm.Cond.methodLink "MurmurDesk" (21 : Nat) ({ cls := "MurmurDesk", name := "from", desc := "(I)I" } : Jvm.MethodName)) ∈ lw_all := lw_g (lw_at lw_m0 32 rfl) rfl
theorem q36 : (Jvm.Cond.privateMethod ({ cls := "MurmurDesk", name := "from", desc := "(I)I" } : Jvm.MethodName)) ∈ lw_tbl := lw_at lw_m0 33 rfl
theorem q37 : (Jvm.Cond.instanceMethod ({ cls := "MurmurDesk", name := "from", desc := "(I)I" } : Jvm.MethodName)) ∈ lw_all := lw_g (lw_at lw_m0 34 rfl) rfl
theorem q38 : (Jvm.Cond.code ({ cls := "MurmurDesk", name := "from", desc := "(I)I" } : Jvm.MethodName) prog_2_method_5_code (2 : Nat) (Option.some Jvm.ClassFile.FieldType.int)) ∈ lw_all := lw_g (lw_at lw_m0 35 rfl) rfl
theorem q39 : (Jvm.Cond.constant "MurmurDesk" (25 : Nat) (2147483647 : Int32)) ∈ lw_all := lw_g (lw_at lw_m0 36 rfl) rfl
theorem q54 : (Jvm.Cond.instanceMethod ({ cls := "MurmurDesk", name := "small", desc := "(III)I" } : Jvm.MethodName)) ∈ lw_all := lw_g (lw_at lw_m0 51 rfl) rfl
theorem q55 : (Jvm.Cond.selects "MurmurDesk" ({ cls := "MurmurDesk", name := "small", desc := "(III)I" } : Jvm.MethodName) ({ cls := "MurmurDesk", name := "small", desc := "(III)I" } : Jvm.MethodName)) ∈ lw_all := lw_g (lw_at lw_m0 52 rfl) rfl
theorem q56 : (Jvm.Cond.code ({ cls := "MurmurDesk", name := "small", desc := "(III)I" } : Jvm.MethodName) prog_2_method_8_code (6 : Nat) (Option.some Jvm.ClassFile.FieldType.int)) ∈ lw_all := lw_g (lw_at lw_m0 53 rfl) rfl
theorem q57 : (Jvm.Cond.methodLink "MurmurDesk" (30 : Nat) ({ cls := "MurmurDesk", name := "part", desc := "(II)[B" } : Jvm.MethodName)) ∈ lw_all := lw_g (lw_at lw_m0 54 rfl) rfl
theorem q58 : (Jvm.Cond.privateMethod ({ cls := "MurmurDesk", name := "part", desc := "(II)[B" } : Jvm.MethodName)) ∈ lw_tbl := lw_at lw_m0 55 rfl
theorem q59 : (Jvm.Cond.instanceMethod ({ cls := "MurmurDesk", name := "part", desc := "(II)[B" } : Jvm.MethodName)) ∈ lw_all := lw_g (lw_at lw_m0 56 rfl) rfl
theorem q60 : (Jvm.Cond.code ({ cls := "MurmurDesk", name := "part", desc := "(II)[B" } : Jvm.MethodName) prog_2_method_7_code (7 : Nat) (Option.some (Jvm.ClassFile.FieldType.array Jvm.ClassFile.FieldType.byte))) ∈ lw_all := lw_g (lw_at lw_m0 57 rfl) rfl
theorem q61 : (Jvm.Cond.methodLink "MurmurDesk" (26 : Nat) ({ cls := "MurmurDesk", name := "count", desc := "(II)I" } : Jvm.MethodName)) ∈ lw_all := lw_g (lw_at lw_m0 58 rfl) rfl
theorem q62 : (Jvm.Cond.privateMethod ({ cls := "MurmurDesk", name := "count", desc := "(II)I" } : Jvm.MethodName)) ∈ lw_tbl := lw_at lw_m0 59 rfl
theorem q63 : (Jvm.Cond.instanceMethod ({ cls := "MurmurDesk", name := "count", desc := "(II)I" } : Jvm.MethodName)) ∈ lw_all := lw_g (lw_at lw_m0 60 rfl) rfl
theorem q64 : (Jvm.Cond.code ({ cls := "MurmurDesk", name := "count", desc := "(II)I" } : Jvm.MethodName) prog_2_method_6_code (3 : Nat) (Option.some Jvm.ClassFile.FieldType.int)) ∈ lw_all := lw_g (lw_at lw_m0 61 rfl) rfl
theorem q65 : (Jvm.Cond.methodLink "MurmurDesk" (34 : Nat) ({ cls := "Murmur3", name := "hash32", desc := "([BII)I" } : Jvm.MethodName)) ∈ lw_all := lw_g (lw_at lw_m0 62 rfl) rfl
theorem q88 : (Jvm.Cond.instanceMethod ({ cls := "MurmurDesk", name := "wide", desc := "(IIII)J" } : Jvm.MethodName)) ∈ lw_all := lw_g (lw_at lw_m0 85 rfl) rfl
theorem q89 : (Jvm.Cond.selects "MurmurDesk" ({ cls := "MurmurDesk", name := "wide", desc := "(IIII)J" } : Jvm.MethodName) ({ cls := "MurmurDesk", name := "wide", desc := "(IIII)J" } : Jvm.MethodName)) ∈ lw_all := lw_g (lw_at lw_m0 86 rfl) rfl
theorem q90 : (Jvm.Cond.code ({ cls := "MurmurDesk", name := "wide", desc := "(IIII)J" } : Jvm.MethodName) prog_2_method_9_code (6 : Nat) (Option.some Jvm.ClassFile.FieldType.long)) ∈ lw_all := lw_g (lw_at lw_m0 87 rfl) rfl
theorem q91 : (Jvm.Cond.methodLink "MurmurDesk" (40 : Nat) ({ cls := "Murmur3", name := "hash128", desc := "([BIII)[J" } : Jvm.MethodName)) ∈ lw_all := lw_g (lw_at lw_m0 88 rfl) rfl
theorem in_X1 : ∀ w ∈ wsX10, w ∈ lw_all := lw_in wsX10 [18, 20] (by decide +kernel) (by decide +kernel)
end
section
/-! Murmur3 -/
set_option maxRecDepth 100000
def RX2 : String := "Murmur3"
abbrev cX2_hash32 : ByteArray := prog_1_method_2_code
def yX2_hash32 : MethodName := ⟨RX2, "hash32", "([BII)I"⟩
def dkwX2_hash32_11 : List UInt8 := [16, 16, 124, 130, 62, 29, 172]
abbrev dktX2_hash32_11 : List UInt8 := dkwX2_hash32_11 ++ []
def dkwX2_hash32_10 : List UInt8 := [16, 16, 124, 130, 62, 29, 18, 18, 104, 62, 29, 29, 16, 13, 124, 130, 62, 29, 18, 19, 104, 62, 29, 29]
abbrev dktX2_hash32_10 : List UInt8 := dkwX2_hash32_10 ++ dktX2_hash32_11
def dkwX2_hash32_9 : List UInt8 := [184, 0, 10, 54, 6, 21, 6, 18, 16, 104, 54, 6, 29, 21, 6, 130, 62, 29, 27, 130, 62, 29, 29]
abbrev dktX2_hash32_9 : List UInt8 := dkwX2_hash32_9 ++ dktX2_hash32_10
def dkwX2_hash32_8 : List UInt8 := [120, 130, 54, 6, 21, 6, 42, 21, 5, 51, 130, 54, 6, 21, 6, 18, 9, 104, 54, 6, 21, 6, 16, 15]
abbrev dktX2_hash32_8 : List UInt8 := dkwX2_hash32_8 ++ dktX2_hash32_9
def dkwX2_hash32_7 : List UInt8 := [21, 6, 42, 21, 5, 5, 96, 51, 16, 16, 120, 130, 54, 6, 21, 6, 42, 21, 5, 4, 96, 51, 16, 8]
abbrev dktX2_hash32_7 : List UInt8 := dkwX2_hash32_7 ++ dktX2_hash32_8
def dkwX2_hash32_6 : List UInt8 := [170, 0, 0, 0, 0, 91, 0, 0, 0, 1, 0, 0, 0, 3, 0, 0, 0, 54, 0, 0, 0, 40, 0, 0, 0, 26]
abbrev dktX2_hash32_6 : List UInt8 := dkwX2_hash32_6 ++ dktX2_hash32_7
def dkwX2_hash32_5 : List UInt8 := [167, 255, 148, 21, 4, 5, 120, 54, 5, 3, 54, 6, 27, 21, 5, 100]
abbrev dktX2_hash32_5 : List UInt8 := dkwX2_hash32_5 ++ dktX2_hash32_6
def dkwX2_hash32_4 : List UInt8 := [54, 7, 29, 21, 7, 130, 62, 29, 16, 13, 184, 0, 10, 8, 104, 18, 17, 96, 62, 132, 5, 1]
abbrev dktX2_hash32_4 : List UInt8 := dkwX2_hash32_4 ++ dktX2_hash32_5
def dkwX2_hash32_3 : List UInt8 := [128, 54, 7, 21, 7, 18, 9, 104, 54, 7, 21, 7, 16, 15, 184, 0, 10, 54, 7, 21, 7, 18, 16, 104]
abbrev dktX2_hash32_3 : List UInt8 := dkwX2_hash32_3 ++ dktX2_hash32_4
def dkwX2_hash32_2 : List UInt8 := [5, 96, 51, 17, 0, 255, 126, 16, 16, 120, 128, 42, 21, 6, 6, 96, 51, 17, 0, 255, 126, 16, 24, 120]
abbrev dktX2_hash32_2 : List UInt8 := dkwX2_hash32_2 ++ dktX2_hash32_3
def dkwX2_hash32_1 : List UInt8 := [21, 6, 51, 17, 0, 255, 126, 42, 21, 6, 4, 96, 51, 17, 0, 255, 126, 16, 8, 120, 128, 42, 21, 6]
abbrev dktX2_hash32_1 : List UInt8 := dkwX2_hash32_1 ++ dktX2_hash32_2
def dkwX2_hash32_0 : List UInt8 := [28, 62, 27, 5, 122, 54, 4, 3, 54, 5, 21, 5, 21, 4, 162, 0, 107, 21, 5, 5, 120, 54, 6, 42]
abbrev dktX2_hash32_0 : List UInt8 := dkwX2_hash32_0 ++ dktX2_hash32_1
theorem dksX2_hash32_0 : cX2_hash32.data.toList.drop 0 = dktX2_hash32_0 := by decide +kernel
theorem dksX2_hash32_1 : cX2_hash32.data.toList.drop 24 = dktX2_hash32_1 := dk_seg dksX2_hash32_0 24 rfl rfl
theorem dksX2_hash32_2 : cX2_hash32.data.toList.drop 48 = dktX2_hash32_2 := dk_seg dksX2_hash32_1 24 rfl rfl
theorem dksX2_hash32_3 : cX2_hash32.data.toList.drop 72 = dktX2_hash32_3 := dk_seg dksX2_hash32_2 24 rfl rfl
theorem dksX2_hash32_4 : cX2_hash32.data.toList.drop 96 = dktX2_hash32_4 := dk_seg dksX2_hash32_3 24 rfl rfl
theorem dksX2_hash32_5 : cX2_hash32.data.toList.drop 118 = dktX2_hash32_5 := dk_seg dksX2_hash32_4 22 rfl rfl
theorem dksX2_hash32_6 : cX2_hash32.data.toList.drop 134 = dktX2_hash32_6 := dk_seg dksX2_hash32_5 16 rfl rfl
theorem dksX2_hash32_7 : cX2_hash32.data.toList.drop 160 = dktX2_hash32_7 := dk_seg dksX2_hash32_6 26 rfl rfl
theorem dksX2_hash32_8 : cX2_hash32.data.toList.drop 184 = dktX2_hash32_8 := dk_seg dksX2_hash32_7 24 rfl rfl
theorem dksX2_hash32_9 : cX2_hash32.data.toList.drop 208 = dktX2_hash32_9 := dk_seg dksX2_hash32_8 24 rfl rfl
theorem dksX2_hash32_10 : cX2_hash32.data.toList.drop 231 = dktX2_hash32_10 := dk_seg dksX2_hash32_9 23 rfl rfl
theorem dksX2_hash32_11 : cX2_hash32.data.toList.drop 255 = dktX2_hash32_11 := dk_seg dksX2_hash32_10 24 rfl rfl
theorem dX2_hash32_0 : decode cX2_hash32 0 = .ok (.iload_n 2, 1) := dk_28 (dk_at dksX2_hash32_0 0 rfl rfl)
theorem dX2_hash32_1 : decode cX2_hash32 1 = .ok (.istore_n 3, 1) := dk_62 (dk_at dksX2_hash32_0 1 rfl rfl)
theorem dX2_hash32_2 : decode cX2_hash32 2 = .ok (.iload_n 1, 1) := dk_27 (dk_at dksX2_hash32_0 2 rfl rfl)
theorem dX2_hash32_3 : decode cX2_hash32 3 = .ok (.iconst 2, 1) := dk_5 (dk_at dksX2_hash32_0 3 rfl rfl)
theorem dX2_hash32_4 : decode cX2_hash32 4 = .ok (.ishr, 1) := dk_122 (dk_at dksX2_hash32_0 4 rfl rfl)
theorem dX2_hash32_5 : decode cX2_hash32 5 = .ok (.istore 4, 2) := dk_54 4 (dk_at dksX2_hash32_0 5 rfl rfl)
theorem dX2_hash32_7 : decode cX2_hash32 7 = .ok (.iconst 0, 1) := dk_3 (dk_at dksX2_hash32_0 7 rfl rfl)
theorem dX2_hash32_8 : decode cX2_hash32 8 = .ok (.istore 5, 2) := dk_54 5 (dk_at dksX2_hash32_0 8 rfl rfl)
theorem dX2_hash32_10 : decode cX2_hash32 10 = .ok (.iload 5, 2) := dk_21 5 (dk_at dksX2_hash32_0 10 rfl rfl)
theorem dX2_hash32_12 : decode cX2_hash32 12 = .ok (.iload 4, 2) := dk_21 4 (dk_at dksX2_hash32_0 12 rfl rfl)
theorem dX2_hash32_14 : decode cX2_hash32 14 = .ok (.if_icmp .ge 107, 3) := dk_162 0 107 (dk_at dksX2_hash32_0 14 rfl rfl)
theorem dX2_hash32_17 : decode cX2_hash32 17 = .ok (.iload 5, 2) := dk_21 5 (dk_at dksX2_hash32_0 17 rfl rfl)
theorem dX2_hash32_19 : decode cX2_hash32 19 = .ok (.iconst 2, 1) := dk_5 (dk_at dksX2_hash32_0 19 rfl rfl)
theorem dX2_hash32_20 : decode cX2_hash32 20 = .ok (.ishl, 1) := dk_120 (dk_at dksX2_hash32_0 20 rfl rfl)
theorem dX2_hash32_21 : decode cX2_hash32 21 = .ok (.istore 6, 2) := dk_54 6 (dk_at dksX2_hash32_0 21 rfl rfl)
theorem dX2_hash32_23 : decode cX2_hash32 23 = .ok (.aload_n 0, 1) := dk_42 (dk_at dksX2_hash32_0 23 rfl rfl)
theorem dX2_hash32_24 : decode cX2_hash32 24 = .ok (.iload 6, 2) := dk_21 6 (dk_at dksX2_hash32_1 0 rfl rfl)
theorem dX2_hash32_26 : decode cX2_hash32 26 = .ok (.baload, 1) := dk_51 (dk_at dksX2_hash32_1 2 rfl rfl)
theorem dX2_hash32_27 : decode cX2_hash32 27 = .ok (.sipush 255, 3) := dk_17 0 255 (dk_at dksX2_hash32_1 3 rfl rfl)
theorem dX2_hash32_30 : decode cX2_hash32 30 = .ok (.iand, 1) := dk_126 (dk_at dksX2_hash32_1 6 rfl rfl)
theorem dX2_hash32_31 : decode cX2_hash32 31 = .ok (.aload_n 0, 1) := dk_42 (dk_at dksX2_hash32_1 7 rfl rfl)
theorem dX2_hash32_32 : decode cX2_hash32 32 = .ok (.iload 6, 2) := dk_21 6 (dk_at dksX2_hash32_1 8 rfl rfl)
theorem dX2_hash32_34 : decode cX2_hash32 34 = .ok (.iconst 1, 1) := dk_4 (dk_at dksX2_hash32_1 10 rfl rfl)
theorem dX2_hash32_35 : decode cX2_hash32 35 = .ok (.iadd, 1) := dk_96 (dk_at dksX2_hash32_1 11 rfl rfl)
theorem dX2_hash32_36 : decode cX2_hash32 36 = .ok (.baload, 1) := dk_51 (dk_at dksX2_hash32_1 12 rfl rfl)
theorem dX2_hash32_37 : decode cX2_hash32 37 = .ok (.sipush 255, 3) := dk_17 0 255 (dk_at dksX2_hash32_1 13 rfl rfl)
theorem dX2_hash32_40 : decode cX2_hash32 40 = .ok (.iand, 1) := dk_126 (dk_at dksX2_hash32_1 16 rfl rfl)
theorem dX2_hash32_41 : decode cX2_hash32 41 = .ok (.bipush 8, 2) := dk_16 8 (dk_at dksX2_hash32_1 17 rfl rfl)
theorem dX2_hash32_43 : decode cX2_hash32 43 = .ok (.ishl, 1) := dk_120 (dk_at dksX2_hash32_1 19 rfl rfl)
theorem dX2_hash32_44 : decode cX2_hash32 44 = .ok (.ior, 1) := dk_128 (dk_at dksX2_hash32_1 20 rfl rfl)
theorem dX2_hash32_45 : decode cX2_hash32 45 = .ok (.aload_n 0, 1) := dk_42 (dk_at dksX2_hash32_1 21 rfl rfl)
theorem dX2_hash32_46 : decode cX2_hash32 46 = .ok (.iload 6, 2) := dk_21 6 (dk_at dksX2_hash32_1 22 rfl rfl)
theorem dX2_hash32_48 : decode cX2_hash32 48 = .ok (.iconst 2, 1) := dk_5 (dk_at dksX2_hash32_2 0 rfl rfl)
theorem dX2_hash32_49 : decode cX2_hash32 49 = .ok (.iadd, 1) := dk_96 (dk_at dksX2_hash32_2 1 rfl rfl)
theorem dX2_hash32_50 : decode cX2_hash32 50 = .ok (.baload, 1) := dk_51 (dk_at dksX2_hash32_2 2 rfl rfl)
theorem dX2_hash32_51 : decode cX2_hash32 51 = .ok (.sipush 255, 3) := dk_17 0 255 (dk_at dksX2_hash32_2 3 rfl rfl)
theorem dX2_hash32_54 : decode cX2_hash32 54 = .ok (.iand, 1) := dk_126 (dk_at dksX2_hash32_2 6 rfl rfl)
theorem dX2_hash32_55 : decode cX2_hash32 55 = .ok (.bipush 16, 2) := dk_16 16 (dk_at dksX2_hash32_2 7 rfl rfl)
theorem dX2_hash32_57 : decode cX2_hash32 57 = .ok (.ishl, 1) := dk_120 (dk_at dksX2_hash32_2 9 rfl rfl)
theorem dX2_hash32_58 : decode cX2_hash32 58 = .ok (.ior, 1) := dk_128 (dk_at dksX2_hash32_2 10 rfl rfl)
theorem dX2_hash32_59 : decode cX2_hash32 59 = .ok (.aload_n 0, 1) := dk_42 (dk_at dksX2_hash32_2 11 rfl rfl)
theorem dX2_hash32_60 : decode cX2_hash32 60 = .ok (.iload 6, 2) := dk_21 6 (dk_at dksX2_hash32_2 12 rfl rfl)
theorem dX2_hash32_62 : decode cX2_hash32 62 = .ok (.iconst 3, 1) := dk_6 (dk_at dksX2_hash32_2 14 rfl rfl)
theorem dX2_hash32_63 : decode cX2_hash32 63 = .ok (.iadd, 1) := dk_96 (dk_at dksX2_hash32_2 15 rfl rfl)
theorem dX2_hash32_64 : decode cX2_hash32 64 = .ok (.baload, 1) := dk_51 (dk_at dksX2_hash32_2 16 rfl rfl)
theorem dX2_hash32_65 : decode cX2_hash32 65 = .ok (.sipush 255, 3) := dk_17 0 255 (dk_at dksX2_hash32_2 17 rfl rfl)
theorem dX2_hash32_68 : decode cX2_hash32 68 = .ok (.iand, 1) := dk_126 (dk_at dksX2_hash32_2 20 rfl rfl)
theorem dX2_hash32_69 : decode cX2_hash32 69 = .ok (.bipush 24, 2) := dk_16 24 (dk_at dksX2_hash32_2 21 rfl rfl)
theorem dX2_hash32_71 : decode cX2_hash32 71 = .ok (.ishl, 1) := dk_120 (dk_at dksX2_hash32_2 23 rfl rfl)
theorem dX2_hash32_72 : decode cX2_hash32 72 = .ok (.ior, 1) := dk_128 (dk_at dksX2_hash32_3 0 rfl rfl)
theorem dX2_hash32_73 : decode cX2_hash32 73 = .ok (.istore 7, 2) := dk_54 7 (dk_at dksX2_hash32_3 1 rfl rfl)
theorem dX2_hash32_75 : decode cX2_hash32 75 = .ok (.iload 7, 2) := dk_21 7 (dk_at dksX2_hash32_3 3 rfl rfl)
theorem dX2_hash32_77 : decode cX2_hash32 77 = .ok (.ldc 9, 2) := dk_18 9 (dk_at dksX2_hash32_3 5 rfl rfl)
theorem dX2_hash32_79 : decode cX2_hash32 79 = .ok (.imul, 1) := dk_104 (dk_at dksX2_hash32_3 7 rfl rfl)
theorem dX2_hash32_80 : decode cX2_hash32 80 = .ok (.istore 7, 2) := dk_54 7 (dk_at dksX2_hash32_3 8 rfl rfl)
theorem dX2_hash32_82 : decode cX2_hash32 82 = .ok (.iload 7, 2) := dk_21 7 (dk_at dksX2_hash32_3 10 rfl rfl)
theorem dX2_hash32_84 : decode cX2_hash32 84 = .ok (.bipush 15, 2) := dk_16 15 (dk_at dksX2_hash32_3 12 rfl rfl)
theorem dX2_hash32_86 : decode cX2_hash32 86 = .ok (.invokestatic 10, 3) := dk_184 0 10 (dk_at dksX2_hash32_3 14 rfl rfl)
theorem dX2_hash32_89 : decode cX2_hash32 89 = .ok (.istore 7, 2) := dk_54 7 (dk_at dksX2_hash32_3 17 rfl rfl)
theorem dX2_hash32_91 : decode cX2_hash32 91 = .ok (.iload 7, 2) := dk_21 7 (dk_at dksX2_hash32_3 19 rfl rfl)
theorem dX2_hash32_93 : decode cX2_hash32 93 = .ok (.ldc 16, 2) := dk_18 16 (dk_at dksX2_hash32_3 21 rfl rfl)
theorem dX2_hash32_95 : decode cX2_hash32 95 = .ok (.imul, 1) := dk_104 (dk_at dksX2_hash32_3 23 rfl rfl)
theorem dX2_hash32_96 : decode cX2_hash32 96 = .ok (.istore 7, 2) := dk_54 7 (dk_at dksX2_hash32_4 0 rfl rfl)
theorem dX2_hash32_98 : decode cX2_hash32 98 = .ok (.iload_n 3, 1) := dk_29 (dk_at dksX2_hash32_4 2 rfl rfl)
theorem dX2_hash32_99 : decode cX2_hash32 99 = .ok (.iload 7, 2) := dk_21 7 (dk_at dksX2_hash32_4 3 rfl rfl)
theorem dX2_hash32_101 : decode cX2_hash32 101 = .ok (.ixor, 1) := dk_130 (dk_at dksX2_hash32_4 5 rfl rfl)
theorem dX2_hash32_102 : decode cX2_hash32 102 = .ok (.istore_n 3, 1) := dk_62 (dk_at dksX2_hash32_4 6 rfl rfl)
theorem dX2_hash32_103 : decode cX2_hash32 103 = .ok (.iload_n 3, 1) := dk_29 (dk_at dksX2_hash32_4 7 rfl rfl)
theorem dX2_hash32_104 : decode cX2_hash32 104 = .ok (.bipush 13, 2) := dk_16 13 (dk_at dksX2_hash32_4 8 rfl rfl)
theorem dX2_hash32_106 : decode cX2_hash32 106 = .ok (.invokestatic 10, 3) := dk_184 0 10 (dk_at dksX2_hash32_4 10 rfl rfl)
theorem dX2_hash32_109 : decode cX2_hash32 109 = .ok (.iconst 5, 1) := dk_8 (dk_at dksX2_hash32_4 13 rfl rfl)
theorem dX2_hash32_110 : decode cX2_hash32 110 = .ok (.imul, 1) := dk_104 (dk_at dksX2_hash32_4 14 rfl rfl)
theorem dX2_hash32_111 : decode cX2_hash32 111 = .ok (.ldc 17, 2) := dk_18 17 (dk_at dksX2_hash32_4 15 rfl rfl)
theorem dX2_hash32_113 : decode cX2_hash32 113 = .ok (.iadd, 1) := dk_96 (dk_at dksX2_hash32_4 17 rfl rfl)
theorem dX2_hash32_114 : decode cX2_hash32 114 = .ok (.istore_n 3, 1) := dk_62 (dk_at dksX2_hash32_4 18 rfl rfl)
theorem dX2_hash32_115 : decode cX2_hash32 115 = .ok (.iinc 5 1, 3) := dk_132 5 1 (dk_at dksX2_hash32_4 19 rfl rfl)
theorem dX2_hash32_118 : decode cX2_hash32 118 = .ok (.goto (-108), 3) := dk_167 255 148 (dk_at dksX2_hash32_5 0 rfl rfl)
theorem dX2_hash32_121 : decode cX2_hash32 121 = .ok (.iload 4, 2) := dk_21 4 (dk_at dksX2_hash32_5 3 rfl rfl)
theorem dX2_hash32_123 : decode cX2_hash32 123 = .ok (.iconst 2, 1) := dk_5 (dk_at dksX2_hash32_5 5 rfl rfl)
theorem dX2_hash32_124 : decode cX2_hash32 124 = .ok (.ishl, 1) := dk_120 (dk_at dksX2_hash32_5 6 rfl rfl)
theorem dX2_hash32_125 : decode cX2_hash32 125 = .ok (.istore 5, 2) := dk_54 5 (dk_at dksX2_hash32_5 7 rfl rfl)
theorem dX2_hash32_127 : decode cX2_hash32 127 = .ok (.iconst 0, 1) := dk_3 (dk_at dksX2_hash32_5 9 rfl rfl)
theorem dX2_hash32_128 : decode cX2_hash32 128 = .ok (.istore 6, 2) := dk_54 6 (dk_at dksX2_hash32_5 10 rfl rfl)
theorem dX2_hash32_130 : decode cX2_hash32 130 = .ok (.iload_n 1, 1) := dk_27 (dk_at dksX2_hash32_5 12 rfl rfl)
theorem dX2_hash32_131 : decode cX2_hash32 131 = .ok (.iload 5, 2) := dk_21 5 (dk_at dksX2_hash32_5 13 rfl rfl)
theorem dX2_hash32_133 : decode cX2_hash32 133 = .ok (.isub, 1) := dk_100 (dk_at dksX2_hash32_5 15 rfl rfl)
theorem dX2_hash32_134 : decode cX2_hash32 134 = .ok (.tableswitch 91 1 3 #[54, 40, 26], 26) := by decide +kernel
theorem dX2_hash32_160 : decode cX2_hash32 160 = .ok (.iload 6, 2) := dk_21 6 (dk_at dksX2_hash32_7 0 rfl rfl)
theorem dX2_hash32_162 : decode cX2_hash32 162 = .ok (.aload_n 0, 1) := dk_42 (dk_at dksX2_hash32_7 2 rfl rfl)
theorem dX2_hash32_163 : decode cX2_hash32 163 = .ok (.iload 5, 2) := dk_21 5 (dk_at dksX2_hash32_7 3 rfl rfl)
theorem dX2_hash32_165 : decode cX2_hash32 165 = .ok (.iconst 2, 1) := dk_5 (dk_at dksX2_hash32_7 5 rfl rfl)
theorem dX2_hash32_166 : decode cX2_hash32 166 = .ok (.iadd, 1) := dk_96 (dk_at dksX2_hash32_7 6 rfl rfl)
theorem dX2_hash32_167 : decode cX2_hash32 167 = .ok (.baload, 1) := dk_51 (dk_at dksX2_hash32_7 7 rfl rfl)
theorem dX2_hash32_168 : decode cX2_hash32 168 = .ok (.bipush 16, 2) := dk_16 16 (dk_at dksX2_hash32_7 8 rfl rfl)
theorem dX2_hash32_170 : decode cX2_hash32 170 = .ok (.ishl, 1) := dk_120 (dk_at dksX2_hash32_7 10 rfl rfl)
theorem dX2_hash32_171 : decode cX2_hash32 171 = .ok (.ixor, 1) := dk_130 (dk_at dksX2_hash32_7 11 rfl rfl)
theorem dX2_hash32_172 : decode cX2_hash32 172 = .ok (.istore 6, 2) := dk_54 6 (dk_at dksX2_hash32_7 12 rfl rfl)
theorem dX2_hash32_174 : decode cX2_hash32 174 = .ok (.iload 6, 2) := dk_21 6 (dk_at dksX2_hash32_7 14 rfl rfl)
theorem dX2_hash32_176 : decode cX2_hash32 176 = .ok (.aload_n 0, 1) := dk_42 (dk_at dksX2_hash32_7 16 rfl rfl)
theorem dX2_hash32_177 : decode cX2_hash32 177 = .ok (.iload 5, 2) := dk_21 5 (dk_at dksX2_hash32_7 17 rfl rfl)
theorem dX2_hash32_179 : decode cX2_hash32 179 = .ok (.iconst 1, 1) := dk_4 (dk_at dksX2_hash32_7 19 rfl rfl)
theorem dX2_hash32_180 : decode cX2_hash32 180 = .ok (.iadd, 1) := dk_96 (dk_at dksX2_hash32_7 20 rfl rfl)
theorem dX2_hash32_181 : decode cX2_hash32 181 = .ok (.baload, 1) := dk_51 (dk_at dksX2_hash32_7 21 rfl rfl)
theorem dX2_hash32_182 : decode cX2_hash32 182 = .ok (.bipush 8, 2) := dk_16 8 (dk_at dksX2_hash32_7 22 rfl rfl)
theorem dX2_hash32_184 : decode cX2_hash32 184 = .ok (.ishl, 1) := dk_120 (dk_at dksX2_hash32_8 0 rfl rfl)
theorem dX2_hash32_185 : decode cX2_hash32 185 = .ok (.ixor, 1) := dk_130 (dk_at dksX2_hash32_8 1 rfl rfl)
theorem dX2_hash32_186 : decode cX2_hash32 186 = .ok (.istore 6, 2) := dk_54 6 (dk_at dksX2_hash32_8 2 rfl rfl)
theorem dX2_hash32_188 : decode cX2_hash32 188 = .ok (.iload 6, 2) := dk_21 6 (dk_at dksX2_hash32_8 4 rfl rfl)
theorem dX2_hash32_190 : decode cX2_hash32 190 = .ok (.aload_n 0, 1) := dk_42 (dk_at dksX2_hash32_8 6 rfl rfl)
theorem dX2_hash32_191 : decode cX2_hash32 191 = .ok (.iload 5, 2) := dk_21 5 (dk_at dksX2_hash32_8 7 rfl rfl)
theorem dX2_hash32_193 : decode cX2_hash32 193 = .ok (.baload, 1) := dk_51 (dk_at dksX2_hash32_8 9 rfl rfl)
theorem dX2_hash32_194 : decode cX2_hash32 194 = .ok (.ixor, 1) := dk_130 (dk_at dksX2_hash32_8 10 rfl rfl)
theorem dX2_hash32_195 : decode cX2_hash32 195 = .ok (.istore 6, 2) := dk_54 6 (dk_at dksX2_hash32_8 11 rfl rfl)
theorem dX2_hash32_197 : decode cX2_hash32 197 = .ok (.iload 6, 2) := dk_21 6 (dk_at dksX2_hash32_8 13 rfl rfl)
theorem dX2_hash32_199 : decode cX2_hash32 199 = .ok (.ldc 9, 2) := dk_18 9 (dk_at dksX2_hash32_8 15 rfl rfl)
theorem dX2_hash32_201 : decode cX2_hash32 201 = .ok (.imul, 1) := dk_104 (dk_at dksX2_hash32_8 17 rfl rfl)
theorem dX2_hash32_202 : decode cX2_hash32 202 = .ok (.istore 6, 2) := dk_54 6 (dk_at dksX2_hash32_8 18 rfl rfl)
theorem dX2_hash32_204 : decode cX2_hash32 204 = .ok (.iload 6, 2) := dk_21 6 (dk_at dksX2_hash32_8 20 rfl rfl)
theorem dX2_hash32_206 : decode cX2_hash32 206 = .ok (.bipush 15, 2) := dk_16 15 (dk_at dksX2_hash32_8 22 rfl rfl)
theorem dX2_hash32_208 : decode cX2_hash32 208 = .ok (.invokestatic 10, 3) := dk_184 0 10 (dk_at dksX2_hash32_9 0 rfl rfl)
theorem dX2_hash32_211 : decode cX2_hash32 211 = .ok (.istore 6, 2) := dk_54 6 (dk_at dksX2_hash32_9 3 rfl rfl)
theorem dX2_hash32_213 : decode cX2_hash32 213 = .ok (.iload 6, 2) := dk_21 6 (dk_at dksX2_hash32_9 5 rfl rfl)
theorem dX2_hash32_215 : decode cX2_hash32 215 = .ok (.ldc 16, 2) := dk_18 16 (dk_at dksX2_hash32_9 7 rfl rfl)
theorem dX2_hash32_217 : decode cX2_hash32 217 = .ok (.imul, 1) := dk_104 (dk_at dksX2_hash32_9 9 rfl rfl)
theorem dX2_hash32_218 : decode cX2_hash32 218 = .ok (.istore 6, 2) := dk_54 6 (dk_at dksX2_hash32_9 10 rfl rfl)
theorem dX2_hash32_220 : decode cX2_hash32 220 = .ok (.iload_n 3, 1) := dk_29 (dk_at dksX2_hash32_9 12 rfl rfl)
theorem dX2_hash32_221 : decode cX2_hash32 221 = .ok (.iload 6, 2) := dk_21 6 (dk_at dksX2_hash32_9 13 rfl rfl)
theorem dX2_hash32_223 : decode cX2_hash32 223 = .ok (.ixor, 1) := dk_130 (dk_at dksX2_hash32_9 15 rfl rfl)
theorem dX2_hash32_224 : decode cX2_hash32 224 = .ok (.istore_n 3, 1) := dk_62 (dk_at dksX2_hash32_9 16 rfl rfl)
theorem dX2_hash32_225 : decode cX2_hash32 225 = .ok (.iload_n 3, 1) := dk_29 (dk_at dksX2_hash32_9 17 rfl rfl)
theorem dX2_hash32_226 : decode cX2_hash32 226 = .ok (.iload_n 1, 1) := dk_27 (dk_at dksX2_hash32_9 18 rfl rfl)
theorem dX2_hash32_227 : decode cX2_hash32 227 = .ok (.ixor, 1) := dk_130 (dk_at dksX2_hash32_9 19 rfl rfl)
theorem dX2_hash32_228 : decode cX2_hash32 228 = .ok (.istore_n 3, 1) := dk_62 (dk_at dksX2_hash32_9 20 rfl rfl)
theorem dX2_hash32_229 : decode cX2_hash32 229 = .ok (.iload_n 3, 1) := dk_29 (dk_at dksX2_hash32_9 21 rfl rfl)
theorem dX2_hash32_230 : decode cX2_hash32 230 = .ok (.iload_n 3, 1) := dk_29 (dk_at dksX2_hash32_9 22 rfl rfl)
theorem dX2_hash32_231 : decode cX2_hash32 231 = .ok (.bipush 16, 2) := dk_16 16 (dk_at dksX2_hash32_10 0 rfl rfl)
theorem dX2_hash32_233 : decode cX2_hash32 233 = .ok (.iushr, 1) := dk_124 (dk_at dksX2_hash32_10 2 rfl rfl)
theorem dX2_hash32_234 : decode cX2_hash32 234 = .ok (.ixor, 1) := dk_130 (dk_at dksX2_hash32_10 3 rfl rfl)
theorem dX2_hash32_235 : decode cX2_hash32 235 = .ok (.istore_n 3, 1) := dk_62 (dk_at dksX2_hash32_10 4 rfl rfl)
theorem dX2_hash32_236 : decode cX2_hash32 236 = .ok (.iload_n 3, 1) := dk_29 (dk_at dksX2_hash32_10 5 rfl rfl)
theorem dX2_hash32_237 : decode cX2_hash32 237 = .ok (.ldc 18, 2) := dk_18 18 (dk_at dksX2_hash32_10 6 rfl rfl)
theorem dX2_hash32_239 : decode cX2_hash32 239 = .ok (.imul, 1) := dk_104 (dk_at dksX2_hash32_10 8 rfl rfl)
theorem dX2_hash32_240 : decode cX2_hash32 240 = .ok (.istore_n 3, 1) := dk_62 (dk_at dksX2_hash32_10 9 rfl rfl)
theorem dX2_hash32_241 : decode cX2_hash32 241 = .ok (.iload_n 3, 1) := dk_29 (dk_at dksX2_hash32_10 10 rfl rfl)
theorem dX2_hash32_242 : decode cX2_hash32 242 = .ok (.iload_n 3, 1) := dk_29 (dk_at dksX2_hash32_10 11 rfl rfl)
theorem dX2_hash32_243 : decode cX2_hash32 243 = .ok (.bipush 13, 2) := dk_16 13 (dk_at dksX2_hash32_10 12 rfl rfl)
theorem dX2_hash32_245 : decode cX2_hash32 245 = .ok (.iushr, 1) := dk_124 (dk_at dksX2_hash32_10 14 rfl rfl)
theorem dX2_hash32_246 : decode cX2_hash32 246 = .ok (.ixor, 1) := dk_130 (dk_at dksX2_hash32_10 15 rfl rfl)
theorem dX2_hash32_247 : decode cX2_hash32 247 = .ok (.istore_n 3, 1) := dk_62 (dk_at dksX2_hash32_10 16 rfl rfl)
theorem dX2_hash32_248 : decode cX2_hash32 248 = .ok (.iload_n 3, 1) := dk_29 (dk_at dksX2_hash32_10 17 rfl rfl)
theorem dX2_hash32_249 : decode cX2_hash32 249 = .ok (.ldc 19, 2) := dk_18 19 (dk_at dksX2_hash32_10 18 rfl rfl)
theorem dX2_hash32_251 : decode cX2_hash32 251 = .ok (.imul, 1) := dk_104 (dk_at dksX2_hash32_10 20 rfl rfl)
theorem dX2_hash32_252 : decode cX2_hash32 252 = .ok (.istore_n 3, 1) := dk_62 (dk_at dksX2_hash32_10 21 rfl rfl)
theorem dX2_hash32_253 : decode cX2_hash32 253 = .ok (.iload_n 3, 1) := dk_29 (dk_at dksX2_hash32_10 22 rfl rfl)
theorem dX2_hash32_254 : decode cX2_hash32 254 = .ok (.iload_n 3, 1) := dk_29 (dk_at dksX2_hash32_10 23 rfl rfl)
theorem dX2_hash32_255 : decode cX2_hash32 255 = .ok (.bipush 16, 2) := dk_16 16 (dk_at dksX2_hash32_11 0 rfl rfl)
theorem dX2_hash32_257 : decode cX2_hash32 257 = .ok (.iushr, 1) := dk_124 (dk_at dksX2_hash32_11 2 rfl rfl)
theorem dX2_hash32_258 : decode cX2_hash32 258 = .ok (.ixor, 1) := dk_130 (dk_at dksX2_hash32_11 3 rfl rfl)
theorem dX2_hash32_259 : decode cX2_hash32 259 = .ok (.istore_n 3, 1) := dk_62 (dk_at dksX2_hash32_11 4 rfl rfl)
theorem dX2_hash32_260 : decode cX2_hash32 260 = .ok (.iload_n 3, 1) := dk_29 (dk_at dksX2_hash32_11 5 rfl rfl)
theorem dX2_hash32_261 : decode cX2_hash32 261 = .ok (.ireturn, 1) := dk_172 (dk_at dksX2_hash32_11 6 rfl rfl)
abbrev cX2_hash128 : ByteArray := prog_1_method_3_code
def yX2_hash128 : MethodName := ⟨RX2, "hash128", "([BIII)[J"⟩
def dkwX2_hash128_38 : List UInt8 := [55, 4, 22, 6, 22, 4, 97, 55, 6, 5, 188, 11, 89, 3, 22, 4, 80, 89, 4, 22, 6, 80, 176]
abbrev dktX2_hash128_38 : List UInt8 := dkwX2_hash128_38 ++ []
def dkwX2_hash128_37 : List UInt8 := [22, 4, 97, 55, 6, 22, 4, 184, 0, 37, 55, 4, 22, 6, 184, 0, 37, 55, 6, 22, 4, 22, 6, 97]
abbrev dktX2_hash128_37 : List UInt8 := dkwX2_hash128_37 ++ dktX2_hash128_38
def dkwX2_hash128_36 : List UInt8 := [22, 4, 28, 133, 131, 55, 4, 22, 6, 28, 133, 131, 55, 6, 22, 4, 22, 6, 97, 55, 4, 22, 6]
abbrev dktX2_hash128_36 : List UInt8 := dkwX2_hash128_36 ++ dktX2_hash128_37
def dkwX2_hash128_35 : List UInt8 := [22, 9, 16, 31, 184, 0, 24, 55, 9, 22, 9, 20, 0, 29, 105, 55, 9, 22, 4, 22, 9, 131, 55, 4]
abbrev dktX2_hash128_35 : List UInt8 := dkwX2_hash128_35 ++ dktX2_hash128_36
def dkwX2_hash128_34 : List UInt8 := [22, 9, 42, 27, 21, 13, 96, 51, 17, 0, 255, 126, 133, 131, 55, 9, 22, 9, 20, 0, 22, 105, 55, 9]
abbrev dktX2_hash128_34 : List UInt8 := dkwX2_hash128_34 ++ dktX2_hash128_35
def dkwX2_hash128_33 : List UInt8 := [131, 55, 9, 22, 9, 42, 27, 21, 13, 96, 4, 96, 51, 17, 0, 255, 126, 133, 16, 8, 121, 131, 55, 9]
abbrev dktX2_hash128_33 : List UInt8 := dkwX2_hash128_33 ++ dktX2_hash128_34
def dkwX2_hash128_32 : List UInt8 := [16, 24, 121, 131, 55, 9, 22, 9, 42, 27, 21, 13, 96, 5, 96, 51, 17, 0, 255, 126, 133, 16, 16, 121]
abbrev dktX2_hash128_32 : List UInt8 := dkwX2_hash128_32 ++ dktX2_hash128_33
def dkwX2_hash128_31 : List UInt8 := [126, 133, 16, 32, 121, 131, 55, 9, 22, 9, 42, 27, 21, 13, 96, 6, 96, 51, 17, 0, 255, 126, 133]
abbrev dktX2_hash128_31 : List UInt8 := dkwX2_hash128_31 ++ dktX2_hash128_32
def dkwX2_hash128_30 : List UInt8 := [17, 0, 255, 126, 133, 16, 40, 121, 131, 55, 9, 22, 9, 42, 27, 21, 13, 96, 7, 96, 51, 17, 0, 255]
abbrev dktX2_hash128_30 : List UInt8 := dkwX2_hash128_30 ++ dktX2_hash128_31
def dkwX2_hash128_29 : List UInt8 := [96, 51, 17, 0, 255, 126, 133, 16, 48, 121, 131, 55, 9, 22, 9, 42, 27, 21, 13, 96, 8, 96, 51]
abbrev dktX2_hash128_29 : List UInt8 := dkwX2_hash128_29 ++ dktX2_hash128_30
def dkwX2_hash128_28 : List UInt8 := [16, 7, 96, 51, 17, 0, 255, 126, 133, 16, 56, 121, 131, 55, 9, 22, 9, 42, 27, 21, 13, 96, 16, 6]
abbrev dktX2_hash128_28 : List UInt8 := dkwX2_hash128_28 ++ dktX2_hash128_29
def dkwX2_hash128_27 : List UInt8 := [55, 11, 22, 11, 20, 0, 22, 105, 55, 11, 22, 6, 22, 11, 131, 55, 6, 22, 9, 42, 27, 21, 13, 96]
abbrev dktX2_hash128_27 : List UInt8 := dkwX2_hash128_27 ++ dktX2_hash128_28
def dkwX2_hash128_26 : List UInt8 := [17, 0, 255, 126, 133, 131, 55, 11, 22, 11, 20, 0, 29, 105, 55, 11, 22, 11, 16, 33, 184, 0, 24]
abbrev dktX2_hash128_26 : List UInt8 := dkwX2_hash128_26 ++ dktX2_hash128_27
def dkwX2_hash128_25 : List UInt8 := [96, 51, 17, 0, 255, 126, 133, 16, 8, 121, 131, 55, 11, 22, 11, 42, 27, 21, 13, 96, 16, 8, 96, 51]
abbrev dktX2_hash128_25 : List UInt8 := dkwX2_hash128_25 ++ dktX2_hash128_26
def dkwX2_hash128_24 : List UInt8 := [16, 10, 96, 51, 17, 0, 255, 126, 133, 16, 16, 121, 131, 55, 11, 22, 11, 42, 27, 21, 13, 96, 16, 9]
abbrev dktX2_hash128_24 : List UInt8 := dkwX2_hash128_24 ++ dktX2_hash128_25
def dkwX2_hash128_23 : List UInt8 := [96, 16, 11, 96, 51, 17, 0, 255, 126, 133, 16, 24, 121, 131, 55, 11, 22, 11, 42, 27, 21, 13, 96]
abbrev dktX2_hash128_23 : List UInt8 := dkwX2_hash128_23 ++ dktX2_hash128_24
def dkwX2_hash128_22 : List UInt8 := [21, 13, 96, 16, 12, 96, 51, 17, 0, 255, 126, 133, 16, 32, 121, 131, 55, 11, 22, 11, 42, 27, 21, 13]
abbrev dktX2_hash128_22 : List UInt8 := dkwX2_hash128_22 ++ dktX2_hash128_23
def dkwX2_hash128_21 : List UInt8 := [42, 27, 21, 13, 96, 16, 13, 96, 51, 17, 0, 255, 126, 133, 16, 40, 121, 131, 55, 11, 22, 11, 42, 27]
abbrev dktX2_hash128_21 : List UInt8 := dkwX2_hash128_21 ++ dktX2_hash128_22
def dkwX2_hash128_20 : List UInt8 := [22, 11, 42, 27, 21, 13, 96, 16, 14, 96, 51, 17, 0, 255, 126, 133, 16, 48, 121, 131, 55, 11, 22, 11]
abbrev dktX2_hash128_20 : List UInt8 := dkwX2_hash128_20 ++ dktX2_hash128_21
def dkwX2_hash128_19 : List UInt8 := [170, 0, 0, 1, 197, 0, 0, 0, 1, 0, 0, 0, 15, 0, 0, 1, 149, 0, 0, 1, 128, 0, 0, 1, 107, 0, 0, 1, 86, 0, 0, 1, 65, 0, 0, 1, 44, 0, 0, 1, 22, 0, 0, 1, 0, 0, 0, 0, 205, 0, 0, 0, 183, 0, 0, 0, 161, 0, 0, 0, 139, 0, 0, 0, 117, 0, 0, 0, 95, 0, 0, 0, 73]
abbrev dktX2_hash128_19 : List UInt8 := dkwX2_hash128_19 ++ dktX2_hash128_20
def dkwX2_hash128_18 : List UInt8 := [132, 9, 1, 167, 254, 100, 9, 55, 9, 9, 55, 11, 21, 8, 7, 120, 54, 13, 28, 21, 13, 100]
abbrev dktX2_hash128_18 : List UInt8 := dkwX2_hash128_18 ++ dktX2_hash128_19
def dkwX2_hash128_17 : List UInt8 := [184, 0, 24, 55, 6, 22, 6, 22, 4, 97, 55, 6, 22, 6, 20, 0, 31, 105, 20, 0, 35, 97, 55, 6]
abbrev dktX2_hash128_17 : List UInt8 := dkwX2_hash128_17 ++ dktX2_hash128_18
def dkwX2_hash128_16 : List UInt8 := [184, 0, 24, 55, 13, 22, 13, 20, 0, 22, 105, 55, 13, 22, 6, 22, 13, 131, 55, 6, 22, 6, 16, 31]
abbrev dktX2_hash128_16 : List UInt8 := dkwX2_hash128_16 ++ dktX2_hash128_17
def dkwX2_hash128_15 : List UInt8 := [22, 4, 20, 0, 31, 105, 20, 0, 33, 97, 55, 4, 22, 13, 20, 0, 29, 105, 55, 13, 22, 13, 16, 33]
abbrev dktX2_hash128_15 : List UInt8 := dkwX2_hash128_15 ++ dktX2_hash128_16
def dkwX2_hash128_14 : List UInt8 := [22, 4, 22, 11, 131, 55, 4, 22, 4, 16, 27, 184, 0, 24, 55, 4, 22, 4, 22, 6, 97, 55, 4]
abbrev dktX2_hash128_14 : List UInt8 := dkwX2_hash128_14 ++ dktX2_hash128_15
def dkwX2_hash128_13 : List UInt8 := [20, 0, 22, 105, 55, 11, 22, 11, 16, 31, 184, 0, 24, 55, 11, 22, 11, 20, 0, 29, 105, 55, 11]
abbrev dktX2_hash128_13 : List UInt8 := dkwX2_hash128_13 ++ dktX2_hash128_14
def dkwX2_hash128_12 : List UInt8 := [121, 129, 42, 27, 21, 10, 96, 16, 15, 96, 51, 133, 20, 0, 20, 127, 16, 56, 121, 129, 55, 13, 22, 11]
abbrev dktX2_hash128_12 : List UInt8 := dkwX2_hash128_12 ++ dktX2_hash128_13
def dkwX2_hash128_11 : List UInt8 := [20, 0, 20, 127, 16, 40, 121, 129, 42, 27, 21, 10, 96, 16, 14, 96, 51, 133, 20, 0, 20, 127, 16, 48]
abbrev dktX2_hash128_11 : List UInt8 := dkwX2_hash128_11 ++ dktX2_hash128_12
def dkwX2_hash128_10 : List UInt8 := [96, 16, 12, 96, 51, 133, 20, 0, 20, 127, 16, 32, 121, 129, 42, 27, 21, 10, 96, 16, 13, 96, 51, 133]
abbrev dktX2_hash128_10 : List UInt8 := dkwX2_hash128_10 ++ dktX2_hash128_11
def dkwX2_hash128_9 : List UInt8 := [121, 129, 42, 27, 21, 10, 96, 16, 11, 96, 51, 133, 20, 0, 20, 127, 16, 24, 121, 129, 42, 27, 21, 10]
abbrev dktX2_hash128_9 : List UInt8 := dkwX2_hash128_9 ++ dktX2_hash128_10
def dkwX2_hash128_8 : List UInt8 := [20, 0, 20, 127, 16, 8, 121, 129, 42, 27, 21, 10, 96, 16, 10, 96, 51, 133, 20, 0, 20, 127, 16, 16]
abbrev dktX2_hash128_8 : List UInt8 := dkwX2_hash128_8 ++ dktX2_hash128_9
def dkwX2_hash128_7 : List UInt8 := [21, 10, 96, 16, 8, 96, 51, 133, 20, 0, 20, 127, 42, 27, 21, 10, 96, 16, 9, 96, 51, 133]
abbrev dktX2_hash128_7 : List UInt8 := dkwX2_hash128_7 ++ dktX2_hash128_8
def dkwX2_hash128_6 : List UInt8 := [121, 129, 42, 27, 21, 10, 96, 16, 7, 96, 51, 133, 20, 0, 20, 127, 16, 56, 121, 129, 55, 11, 42, 27]
abbrev dktX2_hash128_6 : List UInt8 := dkwX2_hash128_6 ++ dktX2_hash128_7
def dkwX2_hash128_5 : List UInt8 := [20, 0, 20, 127, 16, 40, 121, 129, 42, 27, 21, 10, 96, 16, 6, 96, 51, 133, 20, 0, 20, 127, 16, 48]
abbrev dktX2_hash128_5 : List UInt8 := dkwX2_hash128_5 ++ dktX2_hash128_6
def dkwX2_hash128_4 : List UInt8 := [21, 10, 96, 7, 96, 51, 133, 20, 0, 20, 127, 16, 32, 121, 129, 42, 27, 21, 10, 96, 8, 96, 51, 133]
abbrev dktX2_hash128_4 : List UInt8 := dkwX2_hash128_4 ++ dktX2_hash128_5
def dkwX2_hash128_3 : List UInt8 := [16, 16, 121, 129, 42, 27, 21, 10, 96, 6, 96, 51, 133, 20, 0, 20, 127, 16, 24, 121, 129, 42, 27]
abbrev dktX2_hash128_3 : List UInt8 := dkwX2_hash128_3 ++ dktX2_hash128_4
def dkwX2_hash128_2 : List UInt8 := [51, 133, 20, 0, 20, 127, 16, 8, 121, 129, 42, 27, 21, 10, 96, 5, 96, 51, 133, 20, 0, 20, 127]
abbrev dktX2_hash128_2 : List UInt8 := dkwX2_hash128_2 ++ dktX2_hash128_3
def dkwX2_hash128_1 : List UInt8 := [21, 9, 7, 120, 54, 10, 42, 27, 21, 10, 96, 51, 133, 20, 0, 20, 127, 42, 27, 21, 10, 96, 4, 96]
abbrev dktX2_hash128_1 : List UInt8 := dkwX2_hash128_1 ++ dktX2_hash128_2
def dkwX2_hash128_0 : List UInt8 := [29, 133, 55, 4, 29, 133, 55, 6, 28, 7, 122, 54, 8, 3, 54, 9, 21, 9, 21, 8, 162, 1, 155]
abbrev dktX2_hash128_0 : List UInt8 := dkwX2_hash128_0 ++ dktX2_hash128_1
theorem dksX2_hash128_0 : cX2_hash128.data.toList.drop 0 = dktX2_hash128_0 := by decide +kernel
theorem dksX2_hash128_1 : cX2_hash128.data.toList.drop 23 = dktX2_hash128_1 := dk_seg dksX2_hash128_0 23 rfl rfl
theorem dksX2_hash128_2 : cX2_hash128.data.toList.drop 47 = dktX2_hash128_2 := dk_seg dksX2_hash128_1 24 rfl rfl
theorem dksX2_hash128_3 : cX2_hash128.data.toList.drop 70 = dktX2_hash128_3 := dk_seg dksX2_hash128_2 23 rfl rfl
theorem dksX2_hash128_4 : cX2_hash128.data.toList.drop 93 = dktX2_hash128_4 := dk_seg dksX2_hash128_3 23 rfl rfl
theorem dksX2_hash128_5 : cX2_hash128.data.toList.drop 117 = dktX2_hash128_5 := dk_seg dksX2_hash128_4 24 rfl rfl
theorem dksX2_hash128_6 : cX2_hash128.data.toList.drop 141 = dktX2_hash128_6 := dk_seg dksX2_hash128_5 24 rfl rfl
theorem dksX2_hash128_7 : cX2_hash128.data.toList.drop 165 = dktX2_hash128_7 := dk_seg dksX2_hash128_6 24 rfl rfl
theorem dksX2_hash128_8 : cX2_hash128.data.toList.drop 187 = dktX2_hash128_8 := dk_seg dksX2_hash128_7 22 rfl rfl
theorem dksX2_hash128_9 : cX2_hash128.data.toList.drop 211 = dktX2_hash128_9 := dk_seg dksX2_hash128_8 24 rfl rfl
theorem dksX2_hash128_10 : cX2_hash128.data.toList.drop 235 = dktX2_hash128_10 := dk_seg dksX2_hash128_9 24 rfl rfl
theorem dksX2_hash128_11 : cX2_hash128.data.toList.drop 259 = dktX2_hash128_11 := dk_seg dksX2_hash128_10 24 rfl rfl
theorem dksX2_hash128_12 : cX2_hash128.data.toList.drop 283 = dktX2_hash128_12 := dk_seg dksX2_hash128_11 24 rfl rfl
theorem dksX2_hash128_13 : cX2_hash128.data.toList.drop 307 = dktX2_hash128_13 := dk_seg dksX2_hash128_12 24 rfl rfl
theorem dksX2_hash128_14 : cX2_hash128.data.toList.drop 330 = dktX2_hash128_14 := dk_seg dksX2_hash128_13 23 rfl rfl
theorem dksX2_hash128_15 : cX2_hash128.data.toList.drop 353 = dktX2_hash128_15 := dk_seg dksX2_hash128_14 23 rfl rfl
theorem dksX2_hash128_16 : cX2_hash128.data.toList.drop 377 = dktX2_hash128_16 := dk_seg dksX2_hash128_15 24 rfl rfl
theorem dksX2_hash128_17 : cX2_hash128.data.toList.drop 401 = dktX2_hash128_17 := dk_seg dksX2_hash128_16 24 rfl rfl
theorem dksX2_hash128_18 : cX2_hash128.data.toList.drop 425 = dktX2_hash128_18 := dk_seg dksX2_hash128_17 24 rfl rfl
theorem dksX2_hash128_19 : cX2_hash128.data.toList.drop 447 = dktX2_hash128_19 := dk_seg dksX2_hash128_18 22 rfl rfl
theorem dksX2_hash128_20 : cX2_hash128.data.toList.drop 520 = dktX2_hash128_20 := dk_seg dksX2_hash128_19 73 rfl rfl
theorem dksX2_hash128_21 : cX2_hash128.data.toList.drop 544 = dktX2_hash128_21 := dk_seg dksX2_hash128_20 24 rfl rfl
theorem dksX2_hash128_22 : cX2_hash128.data.toList.drop 568 = dktX2_hash128_22 := dk_seg dksX2_hash128_21 24 rfl rfl
theorem dksX2_hash128_23 : cX2_hash128.data.toList.drop 592 = dktX2_hash128_23 := dk_seg dksX2_hash128_22 24 rfl rfl
theorem dksX2_hash128_24 : cX2_hash128.data.toList.drop 615 = dktX2_hash128_24 := dk_seg dksX2_hash128_23 23 rfl rfl
theorem dksX2_hash128_25 : cX2_hash128.data.toList.drop 639 = dktX2_hash128_25 := dk_seg dksX2_hash128_24 24 rfl rfl
theorem dksX2_hash128_26 : cX2_hash128.data.toList.drop 663 = dktX2_hash128_26 := dk_seg dksX2_hash128_25 24 rfl rfl
theorem dksX2_hash128_27 : cX2_hash128.data.toList.drop 686 = dktX2_hash128_27 := dk_seg dksX2_hash128_26 23 rfl rfl
theorem dksX2_hash128_28 : cX2_hash128.data.toList.drop 710 = dktX2_hash128_28 := dk_seg dksX2_hash128_27 24 rfl rfl
theorem dksX2_hash128_29 : cX2_hash128.data.toList.drop 734 = dktX2_hash128_29 := dk_seg dksX2_hash128_28 24 rfl rfl
theorem dksX2_hash128_30 : cX2_hash128.data.toList.drop 757 = dktX2_hash128_30 := dk_seg dksX2_hash128_29 23 rfl rfl
theorem dksX2_hash128_31 : cX2_hash128.data.toList.drop 781 = dktX2_hash128_31 := dk_seg dksX2_hash128_30 24 rfl rfl
theorem dksX2_hash128_32 : cX2_hash128.data.toList.drop 804 = dktX2_hash128_32 := dk_seg dksX2_hash128_31 23 rfl rfl
theorem dksX2_hash128_33 : cX2_hash128.data.toList.drop 828 = dktX2_hash128_33 := dk_seg dksX2_hash128_32 24 rfl rfl
theorem dksX2_hash128_34 : cX2_hash128.data.toList.drop 852 = dktX2_hash128_34 := dk_seg dksX2_hash128_33 24 rfl rfl
theorem dksX2_hash128_35 : cX2_hash128.data.toList.drop 876 = dktX2_hash128_35 := dk_seg dksX2_hash128_34 24 rfl rfl
theorem dksX2_hash128_36 : cX2_hash128.data.toList.drop 900 = dktX2_hash128_36 := dk_seg dksX2_hash128_35 24 rfl rfl
theorem dksX2_hash128_37 : cX2_hash128.data.toList.drop 923 = dktX2_hash128_37 := dk_seg dksX2_hash128_36 23 rfl rfl
theorem dksX2_hash128_38 : cX2_hash128.data.toList.drop 947 = dktX2_hash128_38 := dk_seg dksX2_hash128_37 24 rfl rfl
theorem dX2_hash128_0 : decode cX2_hash128 0 = .ok (.iload_n 3, 1) := dk_29 (dk_at dksX2_hash128_0 0 rfl rfl)
theorem dX2_hash128_1 : decode cX2_hash128 1 = .ok (.i2l, 1) := dk_133 (dk_at dksX2_hash128_0 1 rfl rfl)
theorem dX2_hash128_2 : decode cX2_hash128 2 = .ok (.lstore 4, 2) := dk_55 4 (dk_at dksX2_hash128_0 2 rfl rfl)
theorem dX2_hash128_4 : decode cX2_hash128 4 = .ok (.iload_n 3, 1) := dk_29 (dk_at dksX2_hash128_0 4 rfl rfl)
theorem dX2_hash128_5 : decode cX2_hash128 5 = .ok (.i2l, 1) := dk_133 (dk_at dksX2_hash128_0 5 rfl rfl)
theorem dX2_hash128_6 : decode cX2_hash128 6 = .ok (.lstore 6, 2) := dk_55 6 (dk_at dksX2_hash128_0 6 rfl rfl)
theorem dX2_hash128_8 : decode cX2_hash128 8 = .ok (.iload_n 2, 1) := dk_28 (dk_at dksX2_hash128_0 8 rfl rfl)
theorem dX2_hash128_9 : decode cX2_hash128 9 = .ok (.iconst 4, 1) := dk_7 (dk_at dksX2_hash128_0 9 rfl rfl)
theorem dX2_hash128_10 : decode cX2_hash128 10 = .ok (.ishr, 1) := dk_122 (dk_at dksX2_hash128_0 10 rfl rfl)
theorem dX2_hash128_11 : decode cX2_hash128 11 = .ok (.istore 8, 2) := dk_54 8 (dk_at dksX2_hash128_0 11 rfl rfl)
theorem dX2_hash128_13 : decode cX2_hash128 13 = .ok (.iconst 0, 1) := dk_3 (dk_at dksX2_hash128_0 13 rfl rfl)
theorem dX2_hash128_14 : decode cX2_hash128 14 = .ok (.istore 9, 2) := dk_54 9 (dk_at dksX2_hash128_0 14 rfl rfl)
theorem dX2_hash128_16 : decode cX2_hash128 16 = .ok (.iload 9, 2) := dk_21 9 (dk_at dksX2_hash128_0 16 rfl rfl)
theorem dX2_hash128_18 : decode cX2_hash128 18 = .ok (.iload 8, 2) := dk_21 8 (dk_at dksX2_hash128_0 18 rfl rfl)
theorem dX2_hash128_20 : decode cX2_hash128 20 = .ok (.if_icmp .ge 411, 3) := dk_162 1 155 (dk_at dksX2_hash128_0 20 rfl rfl)
theorem dX2_hash128_23 : decode cX2_hash128 23 = .ok (.iload 9, 2) := dk_21 9 (dk_at dksX2_hash128_1 0 rfl rfl)
theorem dX2_hash128_25 : decode cX2_hash128 25 = .ok (.iconst 4, 1) := dk_7 (dk_at dksX2_hash128_1 2 rfl rfl)
theorem dX2_hash128_26 : decode cX2_hash128 26 = .ok (.ishl, 1) := dk_120 (dk_at dksX2_hash128_1 3 rfl rfl)
theorem dX2_hash128_27 : decode cX2_hash128 27 = .ok (.istore 10, 2) := dk_54 10 (dk_at dksX2_hash128_1 4 rfl rfl)
theorem dX2_hash128_29 : decode cX2_hash128 29 = .ok (.aload_n 0, 1) := dk_42 (dk_at dksX2_hash128_1 6 rfl rfl)
theorem dX2_hash128_30 : decode cX2_hash128 30 = .ok (.iload_n 1, 1) := dk_27 (dk_at dksX2_hash128_1 7 rfl rfl)
theorem dX2_hash128_31 : decode cX2_hash128 31 = .ok (.iload 10, 2) := dk_21 10 (dk_at dksX2_hash128_1 8 rfl rfl)
theorem dX2_hash128_33 : decode cX2_hash128 33 = .ok (.iadd, 1) := dk_96 (dk_at dksX2_hash128_1 10 rfl rfl)
theorem dX2_hash128_34 : decode cX2_hash128 34 = .ok (.baload, 1) := dk_51 (dk_at dksX2_hash128_1 11 rfl rfl)
theorem dX2_hash128_35 : decode cX2_hash128 35 = .ok (.i2l, 1) := dk_133 (dk_at dksX2_hash128_1 12 rfl rfl)
theorem dX2_hash128_36 : decode cX2_hash128 36 = .ok (.ldc2_w 20, 3) := dk_20 0 20 (dk_at dksX2_hash128_1 13 rfl rfl)
theorem dX2_hash128_39 : decode cX2_hash128 39 = .ok (.land, 1) := dk_127 (dk_at dksX2_hash128_1 16 rfl rfl)
theorem dX2_hash128_40 : decode cX2_hash128 40 = .ok (.aload_n 0, 1) := dk_42 (dk_at dksX2_hash128_1 17 rfl rfl)
theorem dX2_hash128_41 : decode cX2_hash128 41 = .ok (.iload_n 1, 1) := dk_27 (dk_at dksX2_hash128_1 18 rfl rfl)
theorem dX2_hash128_42 : decode cX2_hash128 42 = .ok (.iload 10, 2) := dk_21 10 (dk_at dksX2_hash128_1 19 rfl rfl)
theorem dX2_hash128_44 : decode cX2_hash128 44 = .ok (.iadd, 1) := dk_96 (dk_at dksX2_hash128_1 21 rfl rfl)
theorem dX2_hash128_45 : decode cX2_hash128 45 = .ok (.iconst 1, 1) := dk_4 (dk_at dksX2_hash128_1 22 rfl rfl)
theorem dX2_hash128_46 : decode cX2_hash128 46 = .ok (.iadd, 1) := dk_96 (dk_at dksX2_hash128_1 23 rfl rfl)
theorem dX2_hash128_47 : decode cX2_hash128 47 = .ok (.baload, 1) := dk_51 (dk_at dksX2_hash128_2 0 rfl rfl)
theorem dX2_hash128_48 : decode cX2_hash128 48 = .ok (.i2l, 1) := dk_133 (dk_at dksX2_hash128_2 1 rfl rfl)
theorem dX2_hash128_49 : decode cX2_hash128 49 = .ok (.ldc2_w 20, 3) := dk_20 0 20 (dk_at dksX2_hash128_2 2 rfl rfl)
theorem dX2_hash128_52 : decode cX2_hash128 52 = .ok (.land, 1) := dk_127 (dk_at dksX2_hash128_2 5 rfl rfl)
theorem dX2_hash128_53 : decode cX2_hash128 53 = .ok (.bipush 8, 2) := dk_16 8 (dk_at dksX2_hash128_2 6 rfl rfl)
theorem dX2_hash128_55 : decode cX2_hash128 55 = .ok (.lshl, 1) := dk_121 (dk_at dksX2_hash128_2 8 rfl rfl)
theorem dX2_hash128_56 : decode cX2_hash128 56 = .ok (.lor, 1) := dk_129 (dk_at dksX2_hash128_2 9 rfl rfl)
theorem dX2_hash128_57 : decode cX2_hash128 57 = .ok (.aload_n 0, 1) := dk_42 (dk_at dksX2_hash128_2 10 rfl rfl)
theorem dX2_hash128_58 : decode cX2_hash128 58 = .ok (.iload_n 1, 1) := dk_27 (dk_at dksX2_hash128_2 11 rfl rfl)
theorem dX2_hash128_59 : decode cX2_hash128 59 = .ok (.iload 10, 2) := dk_21 10 (dk_at dksX2_hash128_2 12 rfl rfl)
theorem dX2_hash128_61 : decode cX2_hash128 61 = .ok (.iadd, 1) := dk_96 (dk_at dksX2_hash128_2 14 rfl rfl)
theorem dX2_hash128_62 : decode cX2_hash128 62 = .ok (.iconst 2, 1) := dk_5 (dk_at dksX2_hash128_2 15 rfl rfl)
theorem dX2_hash128_63 : decode cX2_hash128 63 = .ok (.iadd, 1) := dk_96 (dk_at dksX2_hash128_2 16 rfl rfl)
theorem dX2_hash128_64 : decode cX2_hash128 64 = .ok (.baload, 1) := dk_51 (dk_at dksX2_hash128_2 17 rfl rfl)
theorem dX2_hash128_65 : decode cX2_hash128 65 = .ok (.i2l, 1) := dk_133 (dk_at dksX2_hash128_2 18 rfl rfl)
theorem dX2_hash128_66 : decode cX2_hash128 66 = .ok (.ldc2_w 20, 3) := dk_20 0 20 (dk_at dksX2_hash128_2 19 rfl rfl)
theorem dX2_hash128_69 : decode cX2_hash128 69 = .ok (.land, 1) := dk_127 (dk_at dksX2_hash128_2 22 rfl rfl)
theorem dX2_hash128_70 : decode cX2_hash128 70 = .ok (.bipush 16, 2) := dk_16 16 (dk_at dksX2_hash128_3 0 rfl rfl)
theorem dX2_hash128_72 : decode cX2_hash128 72 = .ok (.lshl, 1) := dk_121 (dk_at dksX2_hash128_3 2 rfl rfl)
theorem dX2_hash128_73 : decode cX2_hash128 73 = .ok (.lor, 1) := dk_129 (dk_at dksX2_hash128_3 3 rfl rfl)
theorem dX2_hash128_74 : decode cX2_hash128 74 = .ok (.aload_n 0, 1) := dk_42 (dk_at dksX2_hash128_3 4 rfl rfl)
theorem dX2_hash128_75 : decode cX2_hash128 75 = .ok (.iload_n 1, 1) := dk_27 (dk_at dksX2_hash128_3 5 rfl rfl)
theorem dX2_hash128_76 : decode cX2_hash128 76 = .ok (.iload 10, 2) := dk_21 10 (dk_at dksX2_hash128_3 6 rfl rfl)
theorem dX2_hash128_78 : decode cX2_hash128 78 = .ok (.iadd, 1) := dk_96 (dk_at dksX2_hash128_3 8 rfl rfl)
theorem dX2_hash128_79 : decode cX2_hash128 79 = .ok (.iconst 3, 1) := dk_6 (dk_at dksX2_hash128_3 9 rfl rfl)
theorem dX2_hash128_80 : decode cX2_hash128 80 = .ok (.iadd, 1) := dk_96 (dk_at dksX2_hash128_3 10 rfl rfl)
theorem dX2_hash128_81 : decode cX2_hash128 81 = .ok (.baload, 1) := dk_51 (dk_at dksX2_hash128_3 11 rfl rfl)
theorem dX2_hash128_82 : decode cX2_hash128 82 = .ok (.i2l, 1) := dk_133 (dk_at dksX2_hash128_3 12 rfl rfl)
theorem dX2_hash128_83 : decode cX2_hash128 83 = .ok (.ldc2_w 20, 3) := dk_20 0 20 (dk_at dksX2_hash128_3 13 rfl rfl)
theorem dX2_hash128_86 : decode cX2_hash128 86 = .ok (.land, 1) := dk_127 (dk_at dksX2_hash128_3 16 rfl rfl)
theorem dX2_hash128_87 : decode cX2_hash128 87 = .ok (.bipush 24, 2) := dk_16 24 (dk_at dksX2_hash128_3 17 rfl rfl)
theorem dX2_hash128_89 : decode cX2_hash128 89 = .ok (.lshl, 1) := dk_121 (dk_at dksX2_hash128_3 19 rfl rfl)
theorem dX2_hash128_90 : decode cX2_hash128 90 = .ok (.lor, 1) := dk_129 (dk_at dksX2_hash128_3 20 rfl rfl)
theorem dX2_hash128_91 : decode cX2_hash128 91 = .ok (.aload_n 0, 1) := dk_42 (dk_at dksX2_hash128_3 21 rfl rfl)
theorem dX2_hash128_92 : decode cX2_hash128 92 = .ok (.iload_n 1, 1) := dk_27 (dk_at dksX2_hash128_3 22 rfl rfl)
theorem dX2_hash128_93 : decode cX2_hash128 93 = .ok (.iload 10, 2) := dk_21 10 (dk_at dksX2_hash128_4 0 rfl rfl)
theorem dX2_hash128_95 : decode cX2_hash128 95 = .ok (.iadd, 1) := dk_96 (dk_at dksX2_hash128_4 2 rfl rfl)
theorem dX2_hash128_96 : decode cX2_hash128 96 = .ok (.iconst 4, 1) := dk_7 (dk_at dksX2_hash128_4 3 rfl rfl)
theorem dX2_hash128_97 : decode cX2_hash128 97 = .ok (.iadd, 1) := dk_96 (dk_at dksX2_hash128_4 4 rfl rfl)
theorem dX2_hash128_98 : decode cX2_hash128 98 = .ok (.baload, 1) := dk_51 (dk_at dksX2_hash128_4 5 rfl rfl)
theorem dX2_hash128_99 : decode cX2_hash128 99 = .ok (.i2l, 1) := dk_133 (dk_at dksX2_hash128_4 6 rfl rfl)
theorem dX2_hash128_100 : decode cX2_hash128 100 = .ok (.ldc2_w 20, 3) := dk_20 0 20 (dk_at dksX2_hash128_4 7 rfl rfl)
theorem dX2_hash128_103 : decode cX2_hash128 103 = .ok (.land, 1) := dk_127 (dk_at dksX2_hash128_4 10 rfl rfl)
theorem dX2_hash128_104 : decode cX2_hash128 104 = .ok (.bipush 32, 2) := dk_16 32 (dk_at dksX2_hash128_4 11 rfl rfl)
theorem dX2_hash128_106 : decode cX2_hash128 106 = .ok (.lshl, 1) := dk_121 (dk_at dksX2_hash128_4 13 rfl rfl)
theorem dX2_hash128_107 : decode cX2_hash128 107 = .ok (.lor, 1) := dk_129 (dk_at dksX2_hash128_4 14 rfl rfl)
theorem dX2_hash128_108 : decode cX2_hash128 108 = .ok (.aload_n 0, 1) := dk_42 (dk_at dksX2_hash128_4 15 rfl rfl)
theorem dX2_hash128_109 : decode cX2_hash128 109 = .ok (.iload_n 1, 1) := dk_27 (dk_at dksX2_hash128_4 16 rfl rfl)
theorem dX2_hash128_110 : decode cX2_hash128 110 = .ok (.iload 10, 2) := dk_21 10 (dk_at dksX2_hash128_4 17 rfl rfl)
theorem dX2_hash128_112 : decode cX2_hash128 112 = .ok (.iadd, 1) := dk_96 (dk_at dksX2_hash128_4 19 rfl rfl)
theorem dX2_hash128_113 : decode cX2_hash128 113 = .ok (.iconst 5, 1) := dk_8 (dk_at dksX2_hash128_4 20 rfl rfl)
theorem dX2_hash128_114 : decode cX2_hash128 114 = .ok (.iadd, 1) := dk_96 (dk_at dksX2_hash128_4 21 rfl rfl)
theorem dX2_hash128_115 : decode cX2_hash128 115 = .ok (.baload, 1) := dk_51 (dk_at dksX2_hash128_4 22 rfl rfl)
theorem dX2_hash128_116 : decode cX2_hash128 116 = .ok (.i2l, 1) := dk_133 (dk_at dksX2_hash128_4 23 rfl rfl)
theorem dX2_hash128_117 : decode cX2_hash128 117 = .ok (.ldc2_w 20, 3) := dk_20 0 20 (dk_at dksX2_hash128_5 0 rfl rfl)
theorem dX2_hash128_120 : decode cX2_hash128 120 = .ok (.land, 1) := dk_127 (dk_at dksX2_hash128_5 3 rfl rfl)
theorem dX2_hash128_121 : decode cX2_hash128 121 = .ok (.bipush 40, 2) := dk_16 40 (dk_at dksX2_hash128_5 4 rfl rfl)
theorem dX2_hash128_123 : decode cX2_hash128 123 = .ok (.lshl, 1) := dk_121 (dk_at dksX2_hash128_5 6 rfl rfl)
theorem dX2_hash128_124 : decode cX2_hash128 124 = .ok (.lor, 1) := dk_129 (dk_at dksX2_hash128_5 7 rfl rfl)
theorem dX2_hash128_125 : decode cX2_hash128 125 = .ok (.aload_n 0, 1) := dk_42 (dk_at dksX2_hash128_5 8 rfl rfl)
theorem dX2_hash128_126 : decode cX2_hash128 126 = .ok (.iload_n 1, 1) := dk_27 (dk_at dksX2_hash128_5 9 rfl rfl)
theorem dX2_hash128_127 : decode cX2_hash128 127 = .ok (.iload 10, 2) := dk_21 10 (dk_at dksX2_hash128_5 10 rfl rfl)
theorem dX2_hash128_129 : decode cX2_hash128 129 = .ok (.iadd, 1) := dk_96 (dk_at dksX2_hash128_5 12 rfl rfl)
theorem dX2_hash128_130 : decode cX2_hash128 130 = .ok (.bipush 6, 2) := dk_16 6 (dk_at dksX2_hash128_5 13 rfl rfl)
theorem dX2_hash128_132 : decode cX2_hash128 132 = .ok (.iadd, 1) := dk_96 (dk_at dksX2_hash128_5 15 rfl rfl)
theorem dX2_hash128_133 : decode cX2_hash128 133 = .ok (.baload, 1) := dk_51 (dk_at dksX2_hash128_5 16 rfl rfl)
theorem dX2_hash128_134 : decode cX2_hash128 134 = .ok (.i2l, 1) := dk_133 (dk_at dksX2_hash128_5 17 rfl rfl)
theorem dX2_hash128_135 : decode cX2_hash128 135 = .ok (.ldc2_w 20, 3) := dk_20 0 20 (dk_at dksX2_hash128_5 18 rfl rfl)
theorem dX2_hash128_138 : decode cX2_hash128 138 = .ok (.land, 1) := dk_127 (dk_at dksX2_hash128_5 21 rfl rfl)
theorem dX2_hash128_139 : decode cX2_hash128 139 = .ok (.bipush 48, 2) := dk_16 48 (dk_at dksX2_hash128_5 22 rfl rfl)
theorem dX2_hash128_141 : decode cX2_hash128 141 = .ok (.lshl, 1) := dk_121 (dk_at dksX2_hash128_6 0 rfl rfl)
theorem dX2_hash128_142 : decode cX2_hash128 142 = .ok (.lor, 1) := dk_129 (dk_at dksX2_hash128_6 1 rfl rfl)
theorem dX2_hash128_143 : decode cX2_hash128 143 = .ok (.aload_n 0, 1) := dk_42 (dk_at dksX2_hash128_6 2 rfl rfl)
theorem dX2_hash128_144 : decode cX2_hash128 144 = .ok (.iload_n 1, 1) := dk_27 (dk_at dksX2_hash128_6 3 rfl rfl)
theorem dX2_hash128_145 : decode cX2_hash128 145 = .ok (.iload 10, 2) := dk_21 10 (dk_at dksX2_hash128_6 4 rfl rfl)
theorem dX2_hash128_147 : decode cX2_hash128 147 = .ok (.iadd, 1) := dk_96 (dk_at dksX2_hash128_6 6 rfl rfl)
theorem dX2_hash128_148 : decode cX2_hash128 148 = .ok (.bipush 7, 2) := dk_16 7 (dk_at dksX2_hash128_6 7 rfl rfl)
theorem dX2_hash128_150 : decode cX2_hash128 150 = .ok (.iadd, 1) := dk_96 (dk_at dksX2_hash128_6 9 rfl rfl)
theorem dX2_hash128_151 : decode cX2_hash128 151 = .ok (.baload, 1) := dk_51 (dk_at dksX2_hash128_6 10 rfl rfl)
theorem dX2_hash128_152 : decode cX2_hash128 152 = .ok (.i2l, 1) := dk_133 (dk_at dksX2_hash128_6 11 rfl rfl)
theorem dX2_hash128_153 : decode cX2_hash128 153 = .ok (.ldc2_w 20, 3) := dk_20 0 20 (dk_at dksX2_hash128_6 12 rfl rfl)
theorem dX2_hash128_156 : decode cX2_hash128 156 = .ok (.land, 1) := dk_127 (dk_at dksX2_hash128_6 15 rfl rfl)
theorem dX2_hash128_157 : decode cX2_hash128 157 = .ok (.bipush 56, 2) := dk_16 56 (dk_at dksX2_hash128_6 16 rfl rfl)
theorem dX2_hash128_159 : decode cX2_hash128 159 = .ok (.lshl, 1) := dk_121 (dk_at dksX2_hash128_6 18 rfl rfl)
theorem dX2_hash128_160 : decode cX2_hash128 160 = .ok (.lor, 1) := dk_129 (dk_at dksX2_hash128_6 19 rfl rfl)
theorem dX2_hash128_161 : decode cX2_hash128 161 = .ok (.lstore 11, 2) := dk_55 11 (dk_at dksX2_hash128_6 20 rfl rfl)
theorem dX2_hash128_163 : decode cX2_hash128 163 = .ok (.aload_n 0, 1) := dk_42 (dk_at dksX2_hash128_6 22 rfl rfl)
theorem dX2_hash128_164 : decode cX2_hash128 164 = .ok (.iload_n 1, 1) := dk_27 (dk_at dksX2_hash128_6 23 rfl rfl)
theorem dX2_hash128_165 : decode cX2_hash128 165 = .ok (.iload 10, 2) := dk_21 10 (dk_at dksX2_hash128_7 0 rfl rfl)
theorem dX2_hash128_167 : decode cX2_hash128 167 = .ok (.iadd, 1) := dk_96 (dk_at dksX2_hash128_7 2 rfl rfl)
theorem dX2_hash128_168 : decode cX2_hash128 168 = .ok (.bipush 8, 2) := dk_16 8 (dk_at dksX2_hash128_7 3 rfl rfl)
theorem dX2_hash128_170 : decode cX2_hash128 170 = .ok (.iadd, 1) := dk_96 (dk_at dksX2_hash128_7 5 rfl rfl)
theorem dX2_hash128_171 : decode cX2_hash128 171 = .ok (.baload, 1) := dk_51 (dk_at dksX2_hash128_7 6 rfl rfl)
theorem dX2_hash128_172 : decode cX2_hash128 172 = .ok (.i2l, 1) := dk_133 (dk_at dksX2_hash128_7 7 rfl rfl)
theorem dX2_hash128_173 : decode cX2_hash128 173 = .ok (.ldc2_w 20, 3) := dk_20 0 20 (dk_at dksX2_hash128_7 8 rfl rfl)
theorem dX2_hash128_176 : decode cX2_hash128 176 = .ok (.land, 1) := dk_127 (dk_at dksX2_hash128_7 11 rfl rfl)
theorem dX2_hash128_177 : decode cX2_hash128 177 = .ok (.aload_n 0, 1) := dk_42 (dk_at dksX2_hash128_7 12 rfl rfl)
theorem dX2_hash128_178 : decode cX2_hash128 178 = .ok (.iload_n 1, 1) := dk_27 (dk_at dksX2_hash128_7 13 rfl rfl)
theorem dX2_hash128_179 : decode cX2_hash128 179 = .ok (.iload 10, 2) := dk_21 10 (dk_at dksX2_hash128_7 14 rfl rfl)
theorem dX2_hash128_181 : decode cX2_hash128 181 = .ok (.iadd, 1) := dk_96 (dk_at dksX2_hash128_7 16 rfl rfl)
theorem dX2_hash128_182 : decode cX2_hash128 182 = .ok (.bipush 9, 2) := dk_16 9 (dk_at dksX2_hash128_7 17 rfl rfl)
theorem dX2_hash128_184 : decode cX2_hash128 184 = .ok (.iadd, 1) := dk_96 (dk_at dksX2_hash128_7 19 rfl rfl)
theorem dX2_hash128_185 : decode cX2_hash128 185 = .ok (.baload, 1) := dk_51 (dk_at dksX2_hash128_7 20 rfl rfl)
theorem dX2_hash128_186 : decode cX2_hash128 186 = .ok (.i2l, 1) := dk_133 (dk_at dksX2_hash128_7 21 rfl rfl)
theorem dX2_hash128_187 : decode cX2_hash128 187 = .ok (.ldc2_w 20, 3) := dk_20 0 20 (dk_at dksX2_hash128_8 0 rfl rfl)
theorem dX2_hash128_190 : decode cX2_hash128 190 = .ok (.land, 1) := dk_127 (dk_at dksX2_hash128_8 3 rfl rfl)
theorem dX2_hash128_191 : decode cX2_hash128 191 = .ok (.bipush 8, 2) := dk_16 8 (dk_at dksX2_hash128_8 4 rfl rfl)
theorem dX2_hash128_193 : decode cX2_hash128 193 = .ok (.lshl, 1) := dk_121 (dk_at dksX2_hash128_8 6 rfl rfl)
theorem dX2_hash128_194 : decode cX2_hash128 194 = .ok (.lor, 1) := dk_129 (dk_at dksX2_hash128_8 7 rfl rfl)
theorem dX2_hash128_195 : decode cX2_hash128 195 = .ok (.aload_n 0, 1) := dk_42 (dk_at dksX2_hash128_8 8 rfl rfl)
theorem dX2_hash128_196 : decode cX2_hash128 196 = .ok (.iload_n 1, 1) := dk_27 (dk_at dksX2_hash128_8 9 rfl rfl)
theorem dX2_hash128_197 : decode cX2_hash128 197 = .ok (.iload 10, 2) := dk_21 10 (dk_at dksX2_hash128_8 10 rfl rfl)
theorem dX2_hash128_199 : decode cX2_hash128 199 = .ok (.iadd, 1) := dk_96 (dk_at dksX2_hash128_8 12 rfl rfl)
theorem dX2_hash128_200 : decode cX2_hash128 200 = .ok (.bipush 10, 2) := dk_16 10 (dk_at dksX2_hash128_8 13 rfl rfl)
theorem dX2_hash128_202 : decode cX2_hash128 202 = .ok (.iadd, 1) := dk_96 (dk_at dksX2_hash128_8 15 rfl rfl)
theorem dX2_hash128_203 : decode cX2_hash128 203 = .ok (.baload, 1) := dk_51 (dk_at dksX2_hash128_8 16 rfl rfl)
theorem dX2_hash128_204 : decode cX2_hash128 204 = .ok (.i2l, 1) := dk_133 (dk_at dksX2_hash128_8 17 rfl rfl)
theorem dX2_hash128_205 : decode cX2_hash128 205 = .ok (.ldc2_w 20, 3) := dk_20 0 20 (dk_at dksX2_hash128_8 18 rfl rfl)
theorem dX2_hash128_208 : decode cX2_hash128 208 = .ok (.land, 1) := dk_127 (dk_at dksX2_hash128_8 21 rfl rfl)
theorem dX2_hash128_209 : decode cX2_hash128 209 = .ok (.bipush 16, 2) := dk_16 16 (dk_at dksX2_hash128_8 22 rfl rfl)
theorem dX2_hash128_211 : decode cX2_hash128 211 = .ok (.lshl, 1) := dk_121 (dk_at dksX2_hash128_9 0 rfl rfl)
theorem dX2_hash128_212 : decode cX2_hash128 212 = .ok (.lor, 1) := dk_129 (dk_at dksX2_hash128_9 1 rfl rfl)
theorem dX2_hash128_213 : decode cX2_hash128 213 = .ok (.aload_n 0, 1) := dk_42 (dk_at dksX2_hash128_9 2 rfl rfl)
theorem dX2_hash128_214 : decode cX2_hash128 214 = .ok (.iload_n 1, 1) := dk_27 (dk_at dksX2_hash128_9 3 rfl rfl)
theorem dX2_hash128_215 : decode cX2_hash128 215 = .ok (.iload 10, 2) := dk_21 10 (dk_at dksX2_hash128_9 4 rfl rfl)
theorem dX2_hash128_217 : decode cX2_hash128 217 = .ok (.iadd, 1) := dk_96 (dk_at dksX2_hash128_9 6 rfl rfl)
theorem dX2_hash128_218 : decode cX2_hash128 218 = .ok (.bipush 11, 2) := dk_16 11 (dk_at dksX2_hash128_9 7 rfl rfl)
theorem dX2_hash128_220 : decode cX2_hash128 220 = .ok (.iadd, 1) := dk_96 (dk_at dksX2_hash128_9 9 rfl rfl)
theorem dX2_hash128_221 : decode cX2_hash128 221 = .ok (.baload, 1) := dk_51 (dk_at dksX2_hash128_9 10 rfl rfl)
theorem dX2_hash128_222 : decode cX2_hash128 222 = .ok (.i2l, 1) := dk_133 (dk_at dksX2_hash128_9 11 rfl rfl)
theorem dX2_hash128_223 : decode cX2_hash128 223 = .ok (.ldc2_w 20, 3) := dk_20 0 20 (dk_at dksX2_hash128_9 12 rfl rfl)
theorem dX2_hash128_226 : decode cX2_hash128 226 = .ok (.land, 1) := dk_127 (dk_at dksX2_hash128_9 15 rfl rfl)
theorem dX2_hash128_227 : decode cX2_hash128 227 = .ok (.bipush 24, 2) := dk_16 24 (dk_at dksX2_hash128_9 16 rfl rfl)
theorem dX2_hash128_229 : decode cX2_hash128 229 = .ok (.lshl, 1) := dk_121 (dk_at dksX2_hash128_9 18 rfl rfl)
theorem dX2_hash128_230 : decode cX2_hash128 230 = .ok (.lor, 1) := dk_129 (dk_at dksX2_hash128_9 19 rfl rfl)
theorem dX2_hash128_231 : decode cX2_hash128 231 = .ok (.aload_n 0, 1) := dk_42 (dk_at dksX2_hash128_9 20 rfl rfl)
theorem dX2_hash128_232 : decode cX2_hash128 232 = .ok (.iload_n 1, 1) := dk_27 (dk_at dksX2_hash128_9 21 rfl rfl)
theorem dX2_hash128_233 : decode cX2_hash128 233 = .ok (.iload 10, 2) := dk_21 10 (dk_at dksX2_hash128_9 22 rfl rfl)
theorem dX2_hash128_235 : decode cX2_hash128 235 = .ok (.iadd, 1) := dk_96 (dk_at dksX2_hash128_10 0 rfl rfl)
theorem dX2_hash128_236 : decode cX2_hash128 236 = .ok (.bipush 12, 2) := dk_16 12 (dk_at dksX2_hash128_10 1 rfl rfl)
theorem dX2_hash128_238 : decode cX2_hash128 238 = .ok (.iadd, 1) := dk_96 (dk_at dksX2_hash128_10 3 rfl rfl)
theorem dX2_hash128_239 : decode cX2_hash128 239 = .ok (.baload, 1) := dk_51 (dk_at dksX2_hash128_10 4 rfl rfl)
theorem dX2_hash128_240 : decode cX2_hash128 240 = .ok (.i2l, 1) := dk_133 (dk_at dksX2_hash128_10 5 rfl rfl)
theorem dX2_hash128_241 : decode cX2_hash128 241 = .ok (.ldc2_w 20, 3) := dk_20 0 20 (dk_at dksX2_hash128_10 6 rfl rfl)
theorem dX2_hash128_244 : decode cX2_hash128 244 = .ok (.land, 1) := dk_127 (dk_at dksX2_hash128_10 9 rfl rfl)
theorem dX2_hash128_245 : decode cX2_hash128 245 = .ok (.bipush 32, 2) := dk_16 32 (dk_at dksX2_hash128_10 10 rfl rfl)
theorem dX2_hash128_247 : decode cX2_hash128 247 = .ok (.lshl, 1) := dk_121 (dk_at dksX2_hash128_10 12 rfl rfl)
theorem dX2_hash128_248 : decode cX2_hash128 248 = .ok (.lor, 1) := dk_129 (dk_at dksX2_hash128_10 13 rfl rfl)
theorem dX2_hash128_249 : decode cX2_hash128 249 = .ok (.aload_n 0, 1) := dk_42 (dk_at dksX2_hash128_10 14 rfl rfl)
theorem dX2_hash128_250 : decode cX2_hash128 250 = .ok (.iload_n 1, 1) := dk_27 (dk_at dksX2_hash128_10 15 rfl rfl)
theorem dX2_hash128_251 : decode cX2_hash128 251 = .ok (.iload 10, 2) := dk_21 10 (dk_at dksX2_hash128_10 16 rfl rfl)
theorem dX2_hash128_253 : decode cX2_hash128 253 = .ok (.iadd, 1) := dk_96 (dk_at dksX2_hash128_10 18 rfl rfl)
theorem dX2_hash128_254 : decode cX2_hash128 254 = .ok (.bipush 13, 2) := dk_16 13 (dk_at dksX2_hash128_10 19 rfl rfl)
theorem dX2_hash128_256 : decode cX2_hash128 256 = .ok (.iadd, 1) := dk_96 (dk_at dksX2_hash128_10 21 rfl rfl)
theorem dX2_hash128_257 : decode cX2_hash128 257 = .ok (.baload, 1) := dk_51 (dk_at dksX2_hash128_10 22 rfl rfl)
theorem dX2_hash128_258 : decode cX2_hash128 258 = .ok (.i2l, 1) := dk_133 (dk_at dksX2_hash128_10 23 rfl rfl)
theorem dX2_hash128_259 : decode cX2_hash128 259 = .ok (.ldc2_w 20, 3) := dk_20 0 20 (dk_at dksX2_hash128_11 0 rfl rfl)
theorem dX2_hash128_262 : decode cX2_hash128 262 = .ok (.land, 1) := dk_127 (dk_at dksX2_hash128_11 3 rfl rfl)
theorem dX2_hash128_263 : decode cX2_hash128 263 = .ok (.bipush 40, 2) := dk_16 40 (dk_at dksX2_hash128_11 4 rfl rfl)
theorem dX2_hash128_265 : decode cX2_hash128 265 = .ok (.lshl, 1) := dk_121 (dk_at dksX2_hash128_11 6 rfl rfl)
theorem dX2_hash128_266 : decode cX2_hash128 266 = .ok (.lor, 1) := dk_129 (dk_at dksX2_hash128_11 7 rfl rfl)
theorem dX2_hash128_267 : decode cX2_hash128 267 = .ok (.aload_n 0, 1) := dk_42 (dk_at dksX2_hash128_11 8 rfl rfl)
theorem dX2_hash128_268 : decode cX2_hash128 268 = .ok (.iload_n 1, 1) := dk_27 (dk_at dksX2_hash128_11 9 rfl rfl)
theorem dX2_hash128_269 : decode cX2_hash128 269 = .ok (.iload 10, 2) := dk_21 10 (dk_at dksX2_hash128_11 10 rfl rfl)
theorem dX2_hash128_271 : decode cX2_hash128 271 = .ok (.iadd, 1) := dk_96 (dk_at dksX2_hash128_11 12 rfl rfl)
theorem dX2_hash128_272 : decode cX2_hash128 272 = .ok (.bipush 14, 2) := dk_16 14 (dk_at dksX2_hash128_11 13 rfl rfl)
theorem dX2_hash128_274 : decode cX2_hash128 274 = .ok (.iadd, 1) := dk_96 (dk_at dksX2_hash128_11 15 rfl rfl)
theorem dX2_hash128_275 : decode cX2_hash128 275 = .ok (.baload, 1) := dk_51 (dk_at dksX2_hash128_11 16 rfl rfl)
theorem dX2_hash128_276 : decode cX2_hash128 276 = .ok (.i2l, 1) := dk_133 (dk_at dksX2_hash128_11 17 rfl rfl)
theorem dX2_hash128_277 : decode cX2_hash128 277 = .ok (.ldc2_w 20, 3) := dk_20 0 20 (dk_at dksX2_hash128_11 18 rfl rfl)
theorem dX2_hash128_280 : decode cX2_hash128 280 = .ok (.land, 1) := dk_127 (dk_at dksX2_hash128_11 21 rfl rfl)
theorem dX2_hash128_281 : decode cX2_hash128 281 = .ok (.bipush 48, 2) := dk_16 48 (dk_at dksX2_hash128_11 22 rfl rfl)
theorem dX2_hash128_283 : decode cX2_hash128 283 = .ok (.lshl, 1) := dk_121 (dk_at dksX2_hash128_12 0 rfl rfl)
theorem dX2_hash128_284 : decode cX2_hash128 284 = .ok (.lor, 1) := dk_129 (dk_at dksX2_hash128_12 1 rfl rfl)
theorem dX2_hash128_285 : decode cX2_hash128 285 = .ok (.aload_n 0, 1) := dk_42 (dk_at dksX2_hash128_12 2 rfl rfl)
theorem dX2_hash128_286 : decode cX2_hash128 286 = .ok (.iload_n 1, 1) := dk_27 (dk_at dksX2_hash128_12 3 rfl rfl)
theorem dX2_hash128_287 : decode cX2_hash128 287 = .ok (.iload 10, 2) := dk_21 10 (dk_at dksX2_hash128_12 4 rfl rfl)
theorem dX2_hash128_289 : decode cX2_hash128 289 = .ok (.iadd, 1) := dk_96 (dk_at dksX2_hash128_12 6 rfl rfl)
theorem dX2_hash128_290 : decode cX2_hash128 290 = .ok (.bipush 15, 2) := dk_16 15 (dk_at dksX2_hash128_12 7 rfl rfl)
theorem dX2_hash128_292 : decode cX2_hash128 292 = .ok (.iadd, 1) := dk_96 (dk_at dksX2_hash128_12 9 rfl rfl)
theorem dX2_hash128_293 : decode cX2_hash128 293 = .ok (.baload, 1) := dk_51 (dk_at dksX2_hash128_12 10 rfl rfl)
theorem dX2_hash128_294 : decode cX2_hash128 294 = .ok (.i2l, 1) := dk_133 (dk_at dksX2_hash128_12 11 rfl rfl)
theorem dX2_hash128_295 : decode cX2_hash128 295 = .ok (.ldc2_w 20, 3) := dk_20 0 20 (dk_at dksX2_hash128_12 12 rfl rfl)
theorem dX2_hash128_298 : decode cX2_hash128 298 = .ok (.land, 1) := dk_127 (dk_at dksX2_hash128_12 15 rfl rfl)
theorem dX2_hash128_299 : decode cX2_hash128 299 = .ok (.bipush 56, 2) := dk_16 56 (dk_at dksX2_hash128_12 16 rfl rfl)
theorem dX2_hash128_301 : decode cX2_hash128 301 = .ok (.lshl, 1) := dk_121 (dk_at dksX2_hash128_12 18 rfl rfl)
theorem dX2_hash128_302 : decode cX2_hash128 302 = .ok (.lor, 1) := dk_129 (dk_at dksX2_hash128_12 19 rfl rfl)
theorem dX2_hash128_303 : decode cX2_hash128 303 = .ok (.lstore 13, 2) := dk_55 13 (dk_at dksX2_hash128_12 20 rfl rfl)
theorem dX2_hash128_305 : decode cX2_hash128 305 = .ok (.lload 11, 2) := dk_22 11 (dk_at dksX2_hash128_12 22 rfl rfl)
theorem dX2_hash128_307 : decode cX2_hash128 307 = .ok (.ldc2_w 22, 3) := dk_20 0 22 (dk_at dksX2_hash128_13 0 rfl rfl)
theorem dX2_hash128_310 : decode cX2_hash128 310 = .ok (.lmul, 1) := dk_105 (dk_at dksX2_hash128_13 3 rfl rfl)
theorem dX2_hash128_311 : decode cX2_hash128 311 = .ok (.lstore 11, 2) := dk_55 11 (dk_at dksX2_hash128_13 4 rfl rfl)
theorem dX2_hash128_313 : decode cX2_hash128 313 = .ok (.lload 11, 2) := dk_22 11 (dk_at dksX2_hash128_13 6 rfl rfl)
theorem dX2_hash128_315 : decode cX2_hash128 315 = .ok (.bipush 31, 2) := dk_16 31 (dk_at dksX2_hash128_13 8 rfl rfl)
theorem dX2_hash128_317 : decode cX2_hash128 317 = .ok (.invokestatic 24, 3) := dk_184 0 24 (dk_at dksX2_hash128_13 10 rfl rfl)
theorem dX2_hash128_320 : decode cX2_hash128 320 = .ok (.lstore 11, 2) := dk_55 11 (dk_at dksX2_hash128_13 13 rfl rfl)
theorem dX2_hash128_322 : decode cX2_hash128 322 = .ok (.lload 11, 2) := dk_22 11 (dk_at dksX2_hash128_13 15 rfl rfl)
theorem dX2_hash128_324 : decode cX2_hash128 324 = .ok (.ldc2_w 29, 3) := dk_20 0 29 (dk_at dksX2_hash128_13 17 rfl rfl)
theorem dX2_hash128_327 : decode cX2_hash128 327 = .ok (.lmul, 1) := dk_105 (dk_at dksX2_hash128_13 20 rfl rfl)
theorem dX2_hash128_328 : decode cX2_hash128 328 = .ok (.lstore 11, 2) := dk_55 11 (dk_at dksX2_hash128_13 21 rfl rfl)
theorem dX2_hash128_330 : decode cX2_hash128 330 = .ok (.lload 4, 2) := dk_22 4 (dk_at dksX2_hash128_14 0 rfl rfl)
theorem dX2_hash128_332 : decode cX2_hash128 332 = .ok (.lload 11, 2) := dk_22 11 (dk_at dksX2_hash128_14 2 rfl rfl)
theorem dX2_hash128_334 : decode cX2_hash128 334 = .ok (.lxor, 1) := dk_131 (dk_at dksX2_hash128_14 4 rfl rfl)
theorem dX2_hash128_335 : decode cX2_hash128 335 = .ok (.lstore 4, 2) := dk_55 4 (dk_at dksX2_hash128_14 5 rfl rfl)
theorem dX2_hash128_337 : decode cX2_hash128 337 = .ok (.lload 4, 2) := dk_22 4 (dk_at dksX2_hash128_14 7 rfl rfl)
theorem dX2_hash128_339 : decode cX2_hash128 339 = .ok (.bipush 27, 2) := dk_16 27 (dk_at dksX2_hash128_14 9 rfl rfl)
theorem dX2_hash128_341 : decode cX2_hash128 341 = .ok (.invokestatic 24, 3) := dk_184 0 24 (dk_at dksX2_hash128_14 11 rfl rfl)
theorem dX2_hash128_344 : decode cX2_hash128 344 = .ok (.lstore 4, 2) := dk_55 4 (dk_at dksX2_hash128_14 14 rfl rfl)
theorem dX2_hash128_346 : decode cX2_hash128 346 = .ok (.lload 4, 2) := dk_22 4 (dk_at dksX2_hash128_14 16 rfl rfl)
theorem dX2_hash128_348 : decode cX2_hash128 348 = .ok (.lload 6, 2) := dk_22 6 (dk_at dksX2_hash128_14 18 rfl rfl)
theorem dX2_hash128_350 : decode cX2_hash128 350 = .ok (.ladd, 1) := dk_97 (dk_at dksX2_hash128_14 20 rfl rfl)
theorem dX2_hash128_351 : decode cX2_hash128 351 = .ok (.lstore 4, 2) := dk_55 4 (dk_at dksX2_hash128_14 21 rfl rfl)
theorem dX2_hash128_353 : decode cX2_hash128 353 = .ok (.lload 4, 2) := dk_22 4 (dk_at dksX2_hash128_15 0 rfl rfl)
theorem dX2_hash128_355 : decode cX2_hash128 355 = .ok (.ldc2_w 31, 3) := dk_20 0 31 (dk_at dksX2_hash128_15 2 rfl rfl)
theorem dX2_hash128_358 : decode cX2_hash128 358 = .ok (.lmul, 1) := dk_105 (dk_at dksX2_hash128_15 5 rfl rfl)
theorem dX2_hash128_359 : decode cX2_hash128 359 = .ok (.ldc2_w 33, 3) := dk_20 0 33 (dk_at dksX2_hash128_15 6 rfl rfl)
theorem dX2_hash128_362 : decode cX2_hash128 362 = .ok (.ladd, 1) := dk_97 (dk_at dksX2_hash128_15 9 rfl rfl)
theorem dX2_hash128_363 : decode cX2_hash128 363 = .ok (.lstore 4, 2) := dk_55 4 (dk_at dksX2_hash128_15 10 rfl rfl)
theorem dX2_hash128_365 : decode cX2_hash128 365 = .ok (.lload 13, 2) := dk_22 13 (dk_at dksX2_hash128_15 12 rfl rfl)
theorem dX2_hash128_367 : decode cX2_hash128 367 = .ok (.ldc2_w 29, 3) := dk_20 0 29 (dk_at dksX2_hash128_15 14 rfl rfl)
theorem dX2_hash128_370 : decode cX2_hash128 370 = .ok (.lmul, 1) := dk_105 (dk_at dksX2_hash128_15 17 rfl rfl)
theorem dX2_hash128_371 : decode cX2_hash128 371 = .ok (.lstore 13, 2) := dk_55 13 (dk_at dksX2_hash128_15 18 rfl rfl)
theorem dX2_hash128_373 : decode cX2_hash128 373 = .ok (.lload 13, 2) := dk_22 13 (dk_at dksX2_hash128_15 20 rfl rfl)
theorem dX2_hash128_375 : decode cX2_hash128 375 = .ok (.bipush 33, 2) := dk_16 33 (dk_at dksX2_hash128_15 22 rfl rfl)
theorem dX2_hash128_377 : decode cX2_hash128 377 = .ok (.invokestatic 24, 3) := dk_184 0 24 (dk_at dksX2_hash128_16 0 rfl rfl)
theorem dX2_hash128_380 : decode cX2_hash128 380 = .ok (.lstore 13, 2) := dk_55 13 (dk_at dksX2_hash128_16 3 rfl rfl)
theorem dX2_hash128_382 : decode cX2_hash128 382 = .ok (.lload 13, 2) := dk_22 13 (dk_at dksX2_hash128_16 5 rfl rfl)
theorem dX2_hash128_384 : decode cX2_hash128 384 = .ok (.ldc2_w 22, 3) := dk_20 0 22 (dk_at dksX2_hash128_16 7 rfl rfl)
theorem dX2_hash128_387 : decode cX2_hash128 387 = .ok (.lmul, 1) := dk_105 (dk_at dksX2_hash128_16 10 rfl rfl)
theorem dX2_hash128_388 : decode cX2_hash128 388 = .ok (.lstore 13, 2) := dk_55 13 (dk_at dksX2_hash128_16 11 rfl rfl)
theorem dX2_hash128_390 : decode cX2_hash128 390 = .ok (.lload 6, 2) := dk_22 6 (dk_at dksX2_hash128_16 13 rfl rfl)
theorem dX2_hash128_392 : decode cX2_hash128 392 = .ok (.lload 13, 2) := dk_22 13 (dk_at dksX2_hash128_16 15 rfl rfl)
theorem dX2_hash128_394 : decode cX2_hash128 394 = .ok (.lxor, 1) := dk_131 (dk_at dksX2_hash128_16 17 rfl rfl)
theorem dX2_hash128_395 : decode cX2_hash128 395 = .ok (.lstore 6, 2) := dk_55 6 (dk_at dksX2_hash128_16 18 rfl rfl)
theorem dX2_hash128_397 : decode cX2_hash128 397 = .ok (.lload 6, 2) := dk_22 6 (dk_at dksX2_hash128_16 20 rfl rfl)
theorem dX2_hash128_399 : decode cX2_hash128 399 = .ok (.bipush 31, 2) := dk_16 31 (dk_at dksX2_hash128_16 22 rfl rfl)
theorem dX2_hash128_401 : decode cX2_hash128 401 = .ok (.invokestatic 24, 3) := dk_184 0 24 (dk_at dksX2_hash128_17 0 rfl rfl)
theorem dX2_hash128_404 : decode cX2_hash128 404 = .ok (.lstore 6, 2) := dk_55 6 (dk_at dksX2_hash128_17 3 rfl rfl)
theorem dX2_hash128_406 : decode cX2_hash128 406 = .ok (.lload 6, 2) := dk_22 6 (dk_at dksX2_hash128_17 5 rfl rfl)
theorem dX2_hash128_408 : decode cX2_hash128 408 = .ok (.lload 4, 2) := dk_22 4 (dk_at dksX2_hash128_17 7 rfl rfl)
theorem dX2_hash128_410 : decode cX2_hash128 410 = .ok (.ladd, 1) := dk_97 (dk_at dksX2_hash128_17 9 rfl rfl)
theorem dX2_hash128_411 : decode cX2_hash128 411 = .ok (.lstore 6, 2) := dk_55 6 (dk_at dksX2_hash128_17 10 rfl rfl)
theorem dX2_hash128_413 : decode cX2_hash128 413 = .ok (.lload 6, 2) := dk_22 6 (dk_at dksX2_hash128_17 12 rfl rfl)
theorem dX2_hash128_415 : decode cX2_hash128 415 = .ok (.ldc2_w 31, 3) := dk_20 0 31 (dk_at dksX2_hash128_17 14 rfl rfl)
theorem dX2_hash128_418 : decode cX2_hash128 418 = .ok (.lmul, 1) := dk_105 (dk_at dksX2_hash128_17 17 rfl rfl)
theorem dX2_hash128_419 : decode cX2_hash128 419 = .ok (.ldc2_w 35, 3) := dk_20 0 35 (dk_at dksX2_hash128_17 18 rfl rfl)
theorem dX2_hash128_422 : decode cX2_hash128 422 = .ok (.ladd, 1) := dk_97 (dk_at dksX2_hash128_17 21 rfl rfl)
theorem dX2_hash128_423 : decode cX2_hash128 423 = .ok (.lstore 6, 2) := dk_55 6 (dk_at dksX2_hash128_17 22 rfl rfl)
theorem dX2_hash128_425 : decode cX2_hash128 425 = .ok (.iinc 9 1, 3) := dk_132 9 1 (dk_at dksX2_hash128_18 0 rfl rfl)
theorem dX2_hash128_428 : decode cX2_hash128 428 = .ok (.goto (-412), 3) := dk_167 254 100 (dk_at dksX2_hash128_18 3 rfl rfl)
theorem dX2_hash128_431 : decode cX2_hash128 431 = .ok (.lconst 0, 1) := dk_9 (dk_at dksX2_hash128_18 6 rfl rfl)
theorem dX2_hash128_432 : decode cX2_hash128 432 = .ok (.lstore 9, 2) := dk_55 9 (dk_at dksX2_hash128_18 7 rfl rfl)
theorem dX2_hash128_434 : decode cX2_hash128 434 = .ok (.lconst 0, 1) := dk_9 (dk_at dksX2_hash128_18 9 rfl rfl)
theorem dX2_hash128_435 : decode cX2_hash128 435 = .ok (.lstore 11, 2) := dk_55 11 (dk_at dksX2_hash128_18 10 rfl rfl)
theorem dX2_hash128_437 : decode cX2_hash128 437 = .ok (.iload 8, 2) := dk_21 8 (dk_at dksX2_hash128_18 12 rfl rfl)
theorem dX2_hash128_439 : decode cX2_hash128 439 = .ok (.iconst 4, 1) := dk_7 (dk_at dksX2_hash128_18 14 rfl rfl)
theorem dX2_hash128_440 : decode cX2_hash128 440 = .ok (.ishl, 1) := dk_120 (dk_at dksX2_hash128_18 15 rfl rfl)
theorem dX2_hash128_441 : decode cX2_hash128 441 = .ok (.istore 13, 2) := dk_54 13 (dk_at dksX2_hash128_18 16 rfl rfl)
theorem dX2_hash128_443 : decode cX2_hash128 443 = .ok (.iload_n 2, 1) := dk_28 (dk_at dksX2_hash128_18 18 rfl rfl)
theorem dX2_hash128_444 : decode cX2_hash128 444 = .ok (.iload 13, 2) := dk_21 13 (dk_at dksX2_hash128_18 19 rfl rfl)
theorem dX2_hash128_446 : decode cX2_hash128 446 = .ok (.isub, 1) := dk_100 (dk_at dksX2_hash128_18 21 rfl rfl)
theorem dX2_hash128_447 : decode cX2_hash128 447 = .ok (.tableswitch 453 1 15 #[405, 384, 363, 342, 321, 300, 278, 256, 205, 183, 161, 139, 117, 95, 73], 73) := by decide +kernel
theorem dX2_hash128_520 : decode cX2_hash128 520 = .ok (.lload 11, 2) := dk_22 11 (dk_at dksX2_hash128_20 0 rfl rfl)
theorem dX2_hash128_522 : decode cX2_hash128 522 = .ok (.aload_n 0, 1) := dk_42 (dk_at dksX2_hash128_20 2 rfl rfl)
theorem dX2_hash128_523 : decode cX2_hash128 523 = .ok (.iload_n 1, 1) := dk_27 (dk_at dksX2_hash128_20 3 rfl rfl)
theorem dX2_hash128_524 : decode cX2_hash128 524 = .ok (.iload 13, 2) := dk_21 13 (dk_at dksX2_hash128_20 4 rfl rfl)
theorem dX2_hash128_526 : decode cX2_hash128 526 = .ok (.iadd, 1) := dk_96 (dk_at dksX2_hash128_20 6 rfl rfl)
theorem dX2_hash128_527 : decode cX2_hash128 527 = .ok (.bipush 14, 2) := dk_16 14 (dk_at dksX2_hash128_20 7 rfl rfl)
theorem dX2_hash128_529 : decode cX2_hash128 529 = .ok (.iadd, 1) := dk_96 (dk_at dksX2_hash128_20 9 rfl rfl)
theorem dX2_hash128_530 : decode cX2_hash128 530 = .ok (.baload, 1) := dk_51 (dk_at dksX2_hash128_20 10 rfl rfl)
theorem dX2_hash128_531 : decode cX2_hash128 531 = .ok (.sipush 255, 3) := dk_17 0 255 (dk_at dksX2_hash128_20 11 rfl rfl)
theorem dX2_hash128_534 : decode cX2_hash128 534 = .ok (.iand, 1) := dk_126 (dk_at dksX2_hash128_20 14 rfl rfl)
theorem dX2_hash128_535 : decode cX2_hash128 535 = .ok (.i2l, 1) := dk_133 (dk_at dksX2_hash128_20 15 rfl rfl)
theorem dX2_hash128_536 : decode cX2_hash128 536 = .ok (.bipush 48, 2) := dk_16 48 (dk_at dksX2_hash128_20 16 rfl rfl)
theorem dX2_hash128_538 : decode cX2_hash128 538 = .ok (.lshl, 1) := dk_121 (dk_at dksX2_hash128_20 18 rfl rfl)
theorem dX2_hash128_539 : decode cX2_hash128 539 = .ok (.lxor, 1) := dk_131 (dk_at dksX2_hash128_20 19 rfl rfl)
theorem dX2_hash128_540 : decode cX2_hash128 540 = .ok (.lstore 11, 2) := dk_55 11 (dk_at dksX2_hash128_20 20 rfl rfl)
theorem dX2_hash128_542 : decode cX2_hash128 542 = .ok (.lload 11, 2) := dk_22 11 (dk_at dksX2_hash128_20 22 rfl rfl)
theorem dX2_hash128_544 : decode cX2_hash128 544 = .ok (.aload_n 0, 1) := dk_42 (dk_at dksX2_hash128_21 0 rfl rfl)
theorem dX2_hash128_545 : decode cX2_hash128 545 = .ok (.iload_n 1, 1) := dk_27 (dk_at dksX2_hash128_21 1 rfl rfl)
theorem dX2_hash128_546 : decode cX2_hash128 546 = .ok (.iload 13, 2) := dk_21 13 (dk_at dksX2_hash128_21 2 rfl rfl)
theorem dX2_hash128_548 : decode cX2_hash128 548 = .ok (.iadd, 1) := dk_96 (dk_at dksX2_hash128_21 4 rfl rfl)
theorem dX2_hash128_549 : decode cX2_hash128 549 = .ok (.bipush 13, 2) := dk_16 13 (dk_at dksX2_hash128_21 5 rfl rfl)
theorem dX2_hash128_551 : decode cX2_hash128 551 = .ok (.iadd, 1) := dk_96 (dk_at dksX2_hash128_21 7 rfl rfl)
theorem dX2_hash128_552 : decode cX2_hash128 552 = .ok (.baload, 1) := dk_51 (dk_at dksX2_hash128_21 8 rfl rfl)
theorem dX2_hash128_553 : decode cX2_hash128 553 = .ok (.sipush 255, 3) := dk_17 0 255 (dk_at dksX2_hash128_21 9 rfl rfl)
theorem dX2_hash128_556 : decode cX2_hash128 556 = .ok (.iand, 1) := dk_126 (dk_at dksX2_hash128_21 12 rfl rfl)
theorem dX2_hash128_557 : decode cX2_hash128 557 = .ok (.i2l, 1) := dk_133 (dk_at dksX2_hash128_21 13 rfl rfl)
theorem dX2_hash128_558 : decode cX2_hash128 558 = .ok (.bipush 40, 2) := dk_16 40 (dk_at dksX2_hash128_21 14 rfl rfl)
theorem dX2_hash128_560 : decode cX2_hash128 560 = .ok (.lshl, 1) := dk_121 (dk_at dksX2_hash128_21 16 rfl rfl)
theorem dX2_hash128_561 : decode cX2_hash128 561 = .ok (.lxor, 1) := dk_131 (dk_at dksX2_hash128_21 17 rfl rfl)
theorem dX2_hash128_562 : decode cX2_hash128 562 = .ok (.lstore 11, 2) := dk_55 11 (dk_at dksX2_hash128_21 18 rfl rfl)
theorem dX2_hash128_564 : decode cX2_hash128 564 = .ok (.lload 11, 2) := dk_22 11 (dk_at dksX2_hash128_21 20 rfl rfl)
theorem dX2_hash128_566 : decode cX2_hash128 566 = .ok (.aload_n 0, 1) := dk_42 (dk_at dksX2_hash128_21 22 rfl rfl)
theorem dX2_hash128_567 : decode cX2_hash128 567 = .ok (.iload_n 1, 1) := dk_27 (dk_at dksX2_hash128_21 23 rfl rfl)
theorem dX2_hash128_568 : decode cX2_hash128 568 = .ok (.iload 13, 2) := dk_21 13 (dk_at dksX2_hash128_22 0 rfl rfl)
theorem dX2_hash128_570 : decode cX2_hash128 570 = .ok (.iadd, 1) := dk_96 (dk_at dksX2_hash128_22 2 rfl rfl)
theorem dX2_hash128_571 : decode cX2_hash128 571 = .ok (.bipush 12, 2) := dk_16 12 (dk_at dksX2_hash128_22 3 rfl rfl)
theorem dX2_hash128_573 : decode cX2_hash128 573 = .ok (.iadd, 1) := dk_96 (dk_at dksX2_hash128_22 5 rfl rfl)
theorem dX2_hash128_574 : decode cX2_hash128 574 = .ok (.baload, 1) := dk_51 (dk_at dksX2_hash128_22 6 rfl rfl)
theorem dX2_hash128_575 : decode cX2_hash128 575 = .ok (.sipush 255, 3) := dk_17 0 255 (dk_at dksX2_hash128_22 7 rfl rfl)
theorem dX2_hash128_578 : decode cX2_hash128 578 = .ok (.iand, 1) := dk_126 (dk_at dksX2_hash128_22 10 rfl rfl)
theorem dX2_hash128_579 : decode cX2_hash128 579 = .ok (.i2l, 1) := dk_133 (dk_at dksX2_hash128_22 11 rfl rfl)
theorem dX2_hash128_580 : decode cX2_hash128 580 = .ok (.bipush 32, 2) := dk_16 32 (dk_at dksX2_hash128_22 12 rfl rfl)
theorem dX2_hash128_582 : decode cX2_hash128 582 = .ok (.lshl, 1) := dk_121 (dk_at dksX2_hash128_22 14 rfl rfl)
theorem dX2_hash128_583 : decode cX2_hash128 583 = .ok (.lxor, 1) := dk_131 (dk_at dksX2_hash128_22 15 rfl rfl)
theorem dX2_hash128_584 : decode cX2_hash128 584 = .ok (.lstore 11, 2) := dk_55 11 (dk_at dksX2_hash128_22 16 rfl rfl)
theorem dX2_hash128_586 : decode cX2_hash128 586 = .ok (.lload 11, 2) := dk_22 11 (dk_at dksX2_hash128_22 18 rfl rfl)
theorem dX2_hash128_588 : decode cX2_hash128 588 = .ok (.aload_n 0, 1) := dk_42 (dk_at dksX2_hash128_22 20 rfl rfl)
theorem dX2_hash128_589 : decode cX2_hash128 589 = .ok (.iload_n 1, 1) := dk_27 (dk_at dksX2_hash128_22 21 rfl rfl)
theorem dX2_hash128_590 : decode cX2_hash128 590 = .ok (.iload 13, 2) := dk_21 13 (dk_at dksX2_hash128_22 22 rfl rfl)
theorem dX2_hash128_592 : decode cX2_hash128 592 = .ok (.iadd, 1) := dk_96 (dk_at dksX2_hash128_23 0 rfl rfl)
theorem dX2_hash128_593 : decode cX2_hash128 593 = .ok (.bipush 11, 2) := dk_16 11 (dk_at dksX2_hash128_23 1 rfl rfl)
theorem dX2_hash128_595 : decode cX2_hash128 595 = .ok (.iadd, 1) := dk_96 (dk_at dksX2_hash128_23 3 rfl rfl)
theorem dX2_hash128_596 : decode cX2_hash128 596 = .ok (.baload, 1) := dk_51 (dk_at dksX2_hash128_23 4 rfl rfl)
theorem dX2_hash128_597 : decode cX2_hash128 597 = .ok (.sipush 255, 3) := dk_17 0 255 (dk_at dksX2_hash128_23 5 rfl rfl)
theorem dX2_hash128_600 : decode cX2_hash128 600 = .ok (.iand, 1) := dk_126 (dk_at dksX2_hash128_23 8 rfl rfl)
theorem dX2_hash128_601 : decode cX2_hash128 601 = .ok (.i2l, 1) := dk_133 (dk_at dksX2_hash128_23 9 rfl rfl)
theorem dX2_hash128_602 : decode cX2_hash128 602 = .ok (.bipush 24, 2) := dk_16 24 (dk_at dksX2_hash128_23 10 rfl rfl)
theorem dX2_hash128_604 : decode cX2_hash128 604 = .ok (.lshl, 1) := dk_121 (dk_at dksX2_hash128_23 12 rfl rfl)
theorem dX2_hash128_605 : decode cX2_hash128 605 = .ok (.lxor, 1) := dk_131 (dk_at dksX2_hash128_23 13 rfl rfl)
theorem dX2_hash128_606 : decode cX2_hash128 606 = .ok (.lstore 11, 2) := dk_55 11 (dk_at dksX2_hash128_23 14 rfl rfl)
theorem dX2_hash128_608 : decode cX2_hash128 608 = .ok (.lload 11, 2) := dk_22 11 (dk_at dksX2_hash128_23 16 rfl rfl)
theorem dX2_hash128_610 : decode cX2_hash128 610 = .ok (.aload_n 0, 1) := dk_42 (dk_at dksX2_hash128_23 18 rfl rfl)
theorem dX2_hash128_611 : decode cX2_hash128 611 = .ok (.iload_n 1, 1) := dk_27 (dk_at dksX2_hash128_23 19 rfl rfl)
theorem dX2_hash128_612 : decode cX2_hash128 612 = .ok (.iload 13, 2) := dk_21 13 (dk_at dksX2_hash128_23 20 rfl rfl)
theorem dX2_hash128_614 : decode cX2_hash128 614 = .ok (.iadd, 1) := dk_96 (dk_at dksX2_hash128_23 22 rfl rfl)
theorem dX2_hash128_615 : decode cX2_hash128 615 = .ok (.bipush 10, 2) := dk_16 10 (dk_at dksX2_hash128_24 0 rfl rfl)
theorem dX2_hash128_617 : decode cX2_hash128 617 = .ok (.iadd, 1) := dk_96 (dk_at dksX2_hash128_24 2 rfl rfl)
theorem dX2_hash128_618 : decode cX2_hash128 618 = .ok (.baload, 1) := dk_51 (dk_at dksX2_hash128_24 3 rfl rfl)
theorem dX2_hash128_619 : decode cX2_hash128 619 = .ok (.sipush 255, 3) := dk_17 0 255 (dk_at dksX2_hash128_24 4 rfl rfl)
theorem dX2_hash128_622 : decode cX2_hash128 622 = .ok (.iand, 1) := dk_126 (dk_at dksX2_hash128_24 7 rfl rfl)
theorem dX2_hash128_623 : decode cX2_hash128 623 = .ok (.i2l, 1) := dk_133 (dk_at dksX2_hash128_24 8 rfl rfl)
theorem dX2_hash128_624 : decode cX2_hash128 624 = .ok (.bipush 16, 2) := dk_16 16 (dk_at dksX2_hash128_24 9 rfl rfl)
theorem dX2_hash128_626 : decode cX2_hash128 626 = .ok (.lshl, 1) := dk_121 (dk_at dksX2_hash128_24 11 rfl rfl)
theorem dX2_hash128_627 : decode cX2_hash128 627 = .ok (.lxor, 1) := dk_131 (dk_at dksX2_hash128_24 12 rfl rfl)
theorem dX2_hash128_628 : decode cX2_hash128 628 = .ok (.lstore 11, 2) := dk_55 11 (dk_at dksX2_hash128_24 13 rfl rfl)
theorem dX2_hash128_630 : decode cX2_hash128 630 = .ok (.lload 11, 2) := dk_22 11 (dk_at dksX2_hash128_24 15 rfl rfl)
theorem dX2_hash128_632 : decode cX2_hash128 632 = .ok (.aload_n 0, 1) := dk_42 (dk_at dksX2_hash128_24 17 rfl rfl)
theorem dX2_hash128_633 : decode cX2_hash128 633 = .ok (.iload_n 1, 1) := dk_27 (dk_at dksX2_hash128_24 18 rfl rfl)
theorem dX2_hash128_634 : decode cX2_hash128 634 = .ok (.iload 13, 2) := dk_21 13 (dk_at dksX2_hash128_24 19 rfl rfl)
theorem dX2_hash128_636 : decode cX2_hash128 636 = .ok (.iadd, 1) := dk_96 (dk_at dksX2_hash128_24 21 rfl rfl)
theorem dX2_hash128_637 : decode cX2_hash128 637 = .ok (.bipush 9, 2) := dk_16 9 (dk_at dksX2_hash128_24 22 rfl rfl)
theorem dX2_hash128_639 : decode cX2_hash128 639 = .ok (.iadd, 1) := dk_96 (dk_at dksX2_hash128_25 0 rfl rfl)
theorem dX2_hash128_640 : decode cX2_hash128 640 = .ok (.baload, 1) := dk_51 (dk_at dksX2_hash128_25 1 rfl rfl)
theorem dX2_hash128_641 : decode cX2_hash128 641 = .ok (.sipush 255, 3) := dk_17 0 255 (dk_at dksX2_hash128_25 2 rfl rfl)
theorem dX2_hash128_644 : decode cX2_hash128 644 = .ok (.iand, 1) := dk_126 (dk_at dksX2_hash128_25 5 rfl rfl)
theorem dX2_hash128_645 : decode cX2_hash128 645 = .ok (.i2l, 1) := dk_133 (dk_at dksX2_hash128_25 6 rfl rfl)
theorem dX2_hash128_646 : decode cX2_hash128 646 = .ok (.bipush 8, 2) := dk_16 8 (dk_at dksX2_hash128_25 7 rfl rfl)
theorem dX2_hash128_648 : decode cX2_hash128 648 = .ok (.lshl, 1) := dk_121 (dk_at dksX2_hash128_25 9 rfl rfl)
theorem dX2_hash128_649 : decode cX2_hash128 649 = .ok (.lxor, 1) := dk_131 (dk_at dksX2_hash128_25 10 rfl rfl)
theorem dX2_hash128_650 : decode cX2_hash128 650 = .ok (.lstore 11, 2) := dk_55 11 (dk_at dksX2_hash128_25 11 rfl rfl)
theorem dX2_hash128_652 : decode cX2_hash128 652 = .ok (.lload 11, 2) := dk_22 11 (dk_at dksX2_hash128_25 13 rfl rfl)
theorem dX2_hash128_654 : decode cX2_hash128 654 = .ok (.aload_n 0, 1) := dk_42 (dk_at dksX2_hash128_25 15 rfl rfl)
theorem dX2_hash128_655 : decode cX2_hash128 655 = .ok (.iload_n 1, 1) := dk_27 (dk_at dksX2_hash128_25 16 rfl rfl)
theorem dX2_hash128_656 : decode cX2_hash128 656 = .ok (.iload 13, 2) := dk_21 13 (dk_at dksX2_hash128_25 17 rfl rfl)
theorem dX2_hash128_658 : decode cX2_hash128 658 = .ok (.iadd, 1) := dk_96 (dk_at dksX2_hash128_25 19 rfl rfl)
theorem dX2_hash128_659 : decode cX2_hash128 659 = .ok (.bipush 8, 2) := dk_16 8 (dk_at dksX2_hash128_25 20 rfl rfl)
theorem dX2_hash128_661 : decode cX2_hash128 661 = .ok (.iadd, 1) := dk_96 (dk_at dksX2_hash128_25 22 rfl rfl)
theorem dX2_hash128_662 : decode cX2_hash128 662 = .ok (.baload, 1) := dk_51 (dk_at dksX2_hash128_25 23 rfl rfl)
theorem dX2_hash128_663 : decode cX2_hash128 663 = .ok (.sipush 255, 3) := dk_17 0 255 (dk_at dksX2_hash128_26 0 rfl rfl)
theorem dX2_hash128_666 : decode cX2_hash128 666 = .ok (.iand, 1) := dk_126 (dk_at dksX2_hash128_26 3 rfl rfl)
theorem dX2_hash128_667 : decode cX2_hash128 667 = .ok (.i2l, 1) := dk_133 (dk_at dksX2_hash128_26 4 rfl rfl)
theorem dX2_hash128_668 : decode cX2_hash128 668 = .ok (.lxor, 1) := dk_131 (dk_at dksX2_hash128_26 5 rfl rfl)
theorem dX2_hash128_669 : decode cX2_hash128 669 = .ok (.lstore 11, 2) := dk_55 11 (dk_at dksX2_hash128_26 6 rfl rfl)
theorem dX2_hash128_671 : decode cX2_hash128 671 = .ok (.lload 11, 2) := dk_22 11 (dk_at dksX2_hash128_26 8 rfl rfl)
theorem dX2_hash128_673 : decode cX2_hash128 673 = .ok (.ldc2_w 29, 3) := dk_20 0 29 (dk_at dksX2_hash128_26 10 rfl rfl)
theorem dX2_hash128_676 : decode cX2_hash128 676 = .ok (.lmul, 1) := dk_105 (dk_at dksX2_hash128_26 13 rfl rfl)
theorem dX2_hash128_677 : decode cX2_hash128 677 = .ok (.lstore 11, 2) := dk_55 11 (dk_at dksX2_hash128_26 14 rfl rfl)
theorem dX2_hash128_679 : decode cX2_hash128 679 = .ok (.lload 11, 2) := dk_22 11 (dk_at dksX2_hash128_26 16 rfl rfl)
theorem dX2_hash128_681 : decode cX2_hash128 681 = .ok (.bipush 33, 2) := dk_16 33 (dk_at dksX2_hash128_26 18 rfl rfl)
theorem dX2_hash128_683 : decode cX2_hash128 683 = .ok (.invokestatic 24, 3) := dk_184 0 24 (dk_at dksX2_hash128_26 20 rfl rfl)
theorem dX2_hash128_686 : decode cX2_hash128 686 = .ok (.lstore 11, 2) := dk_55 11 (dk_at dksX2_hash128_27 0 rfl rfl)
theorem dX2_hash128_688 : decode cX2_hash128 688 = .ok (.lload 11, 2) := dk_22 11 (dk_at dksX2_hash128_27 2 rfl rfl)
theorem dX2_hash128_690 : decode cX2_hash128 690 = .ok (.ldc2_w 22, 3) := dk_20 0 22 (dk_at dksX2_hash128_27 4 rfl rfl)
theorem dX2_hash128_693 : decode cX2_hash128 693 = .ok (.lmul, 1) := dk_105 (dk_at dksX2_hash128_27 7 rfl rfl)
theorem dX2_hash128_694 : decode cX2_hash128 694 = .ok (.lstore 11, 2) := dk_55 11 (dk_at dksX2_hash128_27 8 rfl rfl)
theorem dX2_hash128_696 : decode cX2_hash128 696 = .ok (.lload 6, 2) := dk_22 6 (dk_at dksX2_hash128_27 10 rfl rfl)
theorem dX2_hash128_698 : decode cX2_hash128 698 = .ok (.lload 11, 2) := dk_22 11 (dk_at dksX2_hash128_27 12 rfl rfl)
theorem dX2_hash128_700 : decode cX2_hash128 700 = .ok (.lxor, 1) := dk_131 (dk_at dksX2_hash128_27 14 rfl rfl)
theorem dX2_hash128_701 : decode cX2_hash128 701 = .ok (.lstore 6, 2) := dk_55 6 (dk_at dksX2_hash128_27 15 rfl rfl)
theorem dX2_hash128_703 : decode cX2_hash128 703 = .ok (.lload 9, 2) := dk_22 9 (dk_at dksX2_hash128_27 17 rfl rfl)
theorem dX2_hash128_705 : decode cX2_hash128 705 = .ok (.aload_n 0, 1) := dk_42 (dk_at dksX2_hash128_27 19 rfl rfl)
theorem dX2_hash128_706 : decode cX2_hash128 706 = .ok (.iload_n 1, 1) := dk_27 (dk_at dksX2_hash128_27 20 rfl rfl)
theorem dX2_hash128_707 : decode cX2_hash128 707 = .ok (.iload 13, 2) := dk_21 13 (dk_at dksX2_hash128_27 21 rfl rfl)
theorem dX2_hash128_709 : decode cX2_hash128 709 = .ok (.iadd, 1) := dk_96 (dk_at dksX2_hash128_27 23 rfl rfl)
theorem dX2_hash128_710 : decode cX2_hash128 710 = .ok (.bipush 7, 2) := dk_16 7 (dk_at dksX2_hash128_28 0 rfl rfl)
theorem dX2_hash128_712 : decode cX2_hash128 712 = .ok (.iadd, 1) := dk_96 (dk_at dksX2_hash128_28 2 rfl rfl)
theorem dX2_hash128_713 : decode cX2_hash128 713 = .ok (.baload, 1) := dk_51 (dk_at dksX2_hash128_28 3 rfl rfl)
theorem dX2_hash128_714 : decode cX2_hash128 714 = .ok (.sipush 255, 3) := dk_17 0 255 (dk_at dksX2_hash128_28 4 rfl rfl)
theorem dX2_hash128_717 : decode cX2_hash128 717 = .ok (.iand, 1) := dk_126 (dk_at dksX2_hash128_28 7 rfl rfl)
theorem dX2_hash128_718 : decode cX2_hash128 718 = .ok (.i2l, 1) := dk_133 (dk_at dksX2_hash128_28 8 rfl rfl)
theorem dX2_hash128_719 : decode cX2_hash128 719 = .ok (.bipush 56, 2) := dk_16 56 (dk_at dksX2_hash128_28 9 rfl rfl)
theorem dX2_hash128_721 : decode cX2_hash128 721 = .ok (.lshl, 1) := dk_121 (dk_at dksX2_hash128_28 11 rfl rfl)
theorem dX2_hash128_722 : decode cX2_hash128 722 = .ok (.lxor, 1) := dk_131 (dk_at dksX2_hash128_28 12 rfl rfl)
theorem dX2_hash128_723 : decode cX2_hash128 723 = .ok (.lstore 9, 2) := dk_55 9 (dk_at dksX2_hash128_28 13 rfl rfl)
theorem dX2_hash128_725 : decode cX2_hash128 725 = .ok (.lload 9, 2) := dk_22 9 (dk_at dksX2_hash128_28 15 rfl rfl)
theorem dX2_hash128_727 : decode cX2_hash128 727 = .ok (.aload_n 0, 1) := dk_42 (dk_at dksX2_hash128_28 17 rfl rfl)
theorem dX2_hash128_728 : decode cX2_hash128 728 = .ok (.iload_n 1, 1) := dk_27 (dk_at dksX2_hash128_28 18 rfl rfl)
theorem dX2_hash128_729 : decode cX2_hash128 729 = .ok (.iload 13, 2) := dk_21 13 (dk_at dksX2_hash128_28 19 rfl rfl)
theorem dX2_hash128_731 : decode cX2_hash128 731 = .ok (.iadd, 1) := dk_96 (dk_at dksX2_hash128_28 21 rfl rfl)
theorem dX2_hash128_732 : decode cX2_hash128 732 = .ok (.bipush 6, 2) := dk_16 6 (dk_at dksX2_hash128_28 22 rfl rfl)
theorem dX2_hash128_734 : decode cX2_hash128 734 = .ok (.iadd, 1) := dk_96 (dk_at dksX2_hash128_29 0 rfl rfl)
theorem dX2_hash128_735 : decode cX2_hash128 735 = .ok (.baload, 1) := dk_51 (dk_at dksX2_hash128_29 1 rfl rfl)
theorem dX2_hash128_736 : decode cX2_hash128 736 = .ok (.sipush 255, 3) := dk_17 0 255 (dk_at dksX2_hash128_29 2 rfl rfl)
theorem dX2_hash128_739 : decode cX2_hash128 739 = .ok (.iand, 1) := dk_126 (dk_at dksX2_hash128_29 5 rfl rfl)
theorem dX2_hash128_740 : decode cX2_hash128 740 = .ok (.i2l, 1) := dk_133 (dk_at dksX2_hash128_29 6 rfl rfl)
theorem dX2_hash128_741 : decode cX2_hash128 741 = .ok (.bipush 48, 2) := dk_16 48 (dk_at dksX2_hash128_29 7 rfl rfl)
theorem dX2_hash128_743 : decode cX2_hash128 743 = .ok (.lshl, 1) := dk_121 (dk_at dksX2_hash128_29 9 rfl rfl)
theorem dX2_hash128_744 : decode cX2_hash128 744 = .ok (.lxor, 1) := dk_131 (dk_at dksX2_hash128_29 10 rfl rfl)
theorem dX2_hash128_745 : decode cX2_hash128 745 = .ok (.lstore 9, 2) := dk_55 9 (dk_at dksX2_hash128_29 11 rfl rfl)
theorem dX2_hash128_747 : decode cX2_hash128 747 = .ok (.lload 9, 2) := dk_22 9 (dk_at dksX2_hash128_29 13 rfl rfl)
theorem dX2_hash128_749 : decode cX2_hash128 749 = .ok (.aload_n 0, 1) := dk_42 (dk_at dksX2_hash128_29 15 rfl rfl)
theorem dX2_hash128_750 : decode cX2_hash128 750 = .ok (.iload_n 1, 1) := dk_27 (dk_at dksX2_hash128_29 16 rfl rfl)
theorem dX2_hash128_751 : decode cX2_hash128 751 = .ok (.iload 13, 2) := dk_21 13 (dk_at dksX2_hash128_29 17 rfl rfl)
theorem dX2_hash128_753 : decode cX2_hash128 753 = .ok (.iadd, 1) := dk_96 (dk_at dksX2_hash128_29 19 rfl rfl)
theorem dX2_hash128_754 : decode cX2_hash128 754 = .ok (.iconst 5, 1) := dk_8 (dk_at dksX2_hash128_29 20 rfl rfl)
theorem dX2_hash128_755 : decode cX2_hash128 755 = .ok (.iadd, 1) := dk_96 (dk_at dksX2_hash128_29 21 rfl rfl)
theorem dX2_hash128_756 : decode cX2_hash128 756 = .ok (.baload, 1) := dk_51 (dk_at dksX2_hash128_29 22 rfl rfl)
theorem dX2_hash128_757 : decode cX2_hash128 757 = .ok (.sipush 255, 3) := dk_17 0 255 (dk_at dksX2_hash128_30 0 rfl rfl)
theorem dX2_hash128_760 : decode cX2_hash128 760 = .ok (.iand, 1) := dk_126 (dk_at dksX2_hash128_30 3 rfl rfl)
theorem dX2_hash128_761 : decode cX2_hash128 761 = .ok (.i2l, 1) := dk_133 (dk_at dksX2_hash128_30 4 rfl rfl)
theorem dX2_hash128_762 : decode cX2_hash128 762 = .ok (.bipush 40, 2) := dk_16 40 (dk_at dksX2_hash128_30 5 rfl rfl)
theorem dX2_hash128_764 : decode cX2_hash128 764 = .ok (.lshl, 1) := dk_121 (dk_at dksX2_hash128_30 7 rfl rfl)
theorem dX2_hash128_765 : decode cX2_hash128 765 = .ok (.lxor, 1) := dk_131 (dk_at dksX2_hash128_30 8 rfl rfl)
theorem dX2_hash128_766 : decode cX2_hash128 766 = .ok (.lstore 9, 2) := dk_55 9 (dk_at dksX2_hash128_30 9 rfl rfl)
theorem dX2_hash128_768 : decode cX2_hash128 768 = .ok (.lload 9, 2) := dk_22 9 (dk_at dksX2_hash128_30 11 rfl rfl)
theorem dX2_hash128_770 : decode cX2_hash128 770 = .ok (.aload_n 0, 1) := dk_42 (dk_at dksX2_hash128_30 13 rfl rfl)
theorem dX2_hash128_771 : decode cX2_hash128 771 = .ok (.iload_n 1, 1) := dk_27 (dk_at dksX2_hash128_30 14 rfl rfl)
theorem dX2_hash128_772 : decode cX2_hash128 772 = .ok (.iload 13, 2) := dk_21 13 (dk_at dksX2_hash128_30 15 rfl rfl)
theorem dX2_hash128_774 : decode cX2_hash128 774 = .ok (.iadd, 1) := dk_96 (dk_at dksX2_hash128_30 17 rfl rfl)
theorem dX2_hash128_775 : decode cX2_hash128 775 = .ok (.iconst 4, 1) := dk_7 (dk_at dksX2_hash128_30 18 rfl rfl)
theorem dX2_hash128_776 : decode cX2_hash128 776 = .ok (.iadd, 1) := dk_96 (dk_at dksX2_hash128_30 19 rfl rfl)
theorem dX2_hash128_777 : decode cX2_hash128 777 = .ok (.baload, 1) := dk_51 (dk_at dksX2_hash128_30 20 rfl rfl)
theorem dX2_hash128_778 : decode cX2_hash128 778 = .ok (.sipush 255, 3) := dk_17 0 255 (dk_at dksX2_hash128_30 21 rfl rfl)
theorem dX2_hash128_781 : decode cX2_hash128 781 = .ok (.iand, 1) := dk_126 (dk_at dksX2_hash128_31 0 rfl rfl)
theorem dX2_hash128_782 : decode cX2_hash128 782 = .ok (.i2l, 1) := dk_133 (dk_at dksX2_hash128_31 1 rfl rfl)
theorem dX2_hash128_783 : decode cX2_hash128 783 = .ok (.bipush 32, 2) := dk_16 32 (dk_at dksX2_hash128_31 2 rfl rfl)
theorem dX2_hash128_785 : decode cX2_hash128 785 = .ok (.lshl, 1) := dk_121 (dk_at dksX2_hash128_31 4 rfl rfl)
theorem dX2_hash128_786 : decode cX2_hash128 786 = .ok (.lxor, 1) := dk_131 (dk_at dksX2_hash128_31 5 rfl rfl)
theorem dX2_hash128_787 : decode cX2_hash128 787 = .ok (.lstore 9, 2) := dk_55 9 (dk_at dksX2_hash128_31 6 rfl rfl)
theorem dX2_hash128_789 : decode cX2_hash128 789 = .ok (.lload 9, 2) := dk_22 9 (dk_at dksX2_hash128_31 8 rfl rfl)
theorem dX2_hash128_791 : decode cX2_hash128 791 = .ok (.aload_n 0, 1) := dk_42 (dk_at dksX2_hash128_31 10 rfl rfl)
theorem dX2_hash128_792 : decode cX2_hash128 792 = .ok (.iload_n 1, 1) := dk_27 (dk_at dksX2_hash128_31 11 rfl rfl)
theorem dX2_hash128_793 : decode cX2_hash128 793 = .ok (.iload 13, 2) := dk_21 13 (dk_at dksX2_hash128_31 12 rfl rfl)
theorem dX2_hash128_795 : decode cX2_hash128 795 = .ok (.iadd, 1) := dk_96 (dk_at dksX2_hash128_31 14 rfl rfl)
theorem dX2_hash128_796 : decode cX2_hash128 796 = .ok (.iconst 3, 1) := dk_6 (dk_at dksX2_hash128_31 15 rfl rfl)
theorem dX2_hash128_797 : decode cX2_hash128 797 = .ok (.iadd, 1) := dk_96 (dk_at dksX2_hash128_31 16 rfl rfl)
theorem dX2_hash128_798 : decode cX2_hash128 798 = .ok (.baload, 1) := dk_51 (dk_at dksX2_hash128_31 17 rfl rfl)
theorem dX2_hash128_799 : decode cX2_hash128 799 = .ok (.sipush 255, 3) := dk_17 0 255 (dk_at dksX2_hash128_31 18 rfl rfl)
theorem dX2_hash128_802 : decode cX2_hash128 802 = .ok (.iand, 1) := dk_126 (dk_at dksX2_hash128_31 21 rfl rfl)
theorem dX2_hash128_803 : decode cX2_hash128 803 = .ok (.i2l, 1) := dk_133 (dk_at dksX2_hash128_31 22 rfl rfl)
theorem dX2_hash128_804 : decode cX2_hash128 804 = .ok (.bipush 24, 2) := dk_16 24 (dk_at dksX2_hash128_32 0 rfl rfl)
theorem dX2_hash128_806 : decode cX2_hash128 806 = .ok (.lshl, 1) := dk_121 (dk_at dksX2_hash128_32 2 rfl rfl)
theorem dX2_hash128_807 : decode cX2_hash128 807 = .ok (.lxor, 1) := dk_131 (dk_at dksX2_hash128_32 3 rfl rfl)
theorem dX2_hash128_808 : decode cX2_hash128 808 = .ok (.lstore 9, 2) := dk_55 9 (dk_at dksX2_hash128_32 4 rfl rfl)
theorem dX2_hash128_810 : decode cX2_hash128 810 = .ok (.lload 9, 2) := dk_22 9 (dk_at dksX2_hash128_32 6 rfl rfl)
theorem dX2_hash128_812 : decode cX2_hash128 812 = .ok (.aload_n 0, 1) := dk_42 (dk_at dksX2_hash128_32 8 rfl rfl)
theorem dX2_hash128_813 : decode cX2_hash128 813 = .ok (.iload_n 1, 1) := dk_27 (dk_at dksX2_hash128_32 9 rfl rfl)
theorem dX2_hash128_814 : decode cX2_hash128 814 = .ok (.iload 13, 2) := dk_21 13 (dk_at dksX2_hash128_32 10 rfl rfl)
theorem dX2_hash128_816 : decode cX2_hash128 816 = .ok (.iadd, 1) := dk_96 (dk_at dksX2_hash128_32 12 rfl rfl)
theorem dX2_hash128_817 : decode cX2_hash128 817 = .ok (.iconst 2, 1) := dk_5 (dk_at dksX2_hash128_32 13 rfl rfl)
theorem dX2_hash128_818 : decode cX2_hash128 818 = .ok (.iadd, 1) := dk_96 (dk_at dksX2_hash128_32 14 rfl rfl)
theorem dX2_hash128_819 : decode cX2_hash128 819 = .ok (.baload, 1) := dk_51 (dk_at dksX2_hash128_32 15 rfl rfl)
theorem dX2_hash128_820 : decode cX2_hash128 820 = .ok (.sipush 255, 3) := dk_17 0 255 (dk_at dksX2_hash128_32 16 rfl rfl)
theorem dX2_hash128_823 : decode cX2_hash128 823 = .ok (.iand, 1) := dk_126 (dk_at dksX2_hash128_32 19 rfl rfl)
theorem dX2_hash128_824 : decode cX2_hash128 824 = .ok (.i2l, 1) := dk_133 (dk_at dksX2_hash128_32 20 rfl rfl)
theorem dX2_hash128_825 : decode cX2_hash128 825 = .ok (.bipush 16, 2) := dk_16 16 (dk_at dksX2_hash128_32 21 rfl rfl)
theorem dX2_hash128_827 : decode cX2_hash128 827 = .ok (.lshl, 1) := dk_121 (dk_at dksX2_hash128_32 23 rfl rfl)
theorem dX2_hash128_828 : decode cX2_hash128 828 = .ok (.lxor, 1) := dk_131 (dk_at dksX2_hash128_33 0 rfl rfl)
theorem dX2_hash128_829 : decode cX2_hash128 829 = .ok (.lstore 9, 2) := dk_55 9 (dk_at dksX2_hash128_33 1 rfl rfl)
theorem dX2_hash128_831 : decode cX2_hash128 831 = .ok (.lload 9, 2) := dk_22 9 (dk_at dksX2_hash128_33 3 rfl rfl)
theorem dX2_hash128_833 : decode cX2_hash128 833 = .ok (.aload_n 0, 1) := dk_42 (dk_at dksX2_hash128_33 5 rfl rfl)
theorem dX2_hash128_834 : decode cX2_hash128 834 = .ok (.iload_n 1, 1) := dk_27 (dk_at dksX2_hash128_33 6 rfl rfl)
theorem dX2_hash128_835 : decode cX2_hash128 835 = .ok (.iload 13, 2) := dk_21 13 (dk_at dksX2_hash128_33 7 rfl rfl)
theorem dX2_hash128_837 : decode cX2_hash128 837 = .ok (.iadd, 1) := dk_96 (dk_at dksX2_hash128_33 9 rfl rfl)
theorem dX2_hash128_838 : decode cX2_hash128 838 = .ok (.iconst 1, 1) := dk_4 (dk_at dksX2_hash128_33 10 rfl rfl)
theorem dX2_hash128_839 : decode cX2_hash128 839 = .ok (.iadd, 1) := dk_96 (dk_at dksX2_hash128_33 11 rfl rfl)
theorem dX2_hash128_840 : decode cX2_hash128 840 = .ok (.baload, 1) := dk_51 (dk_at dksX2_hash128_33 12 rfl rfl)
theorem dX2_hash128_841 : decode cX2_hash128 841 = .ok (.sipush 255, 3) := dk_17 0 255 (dk_at dksX2_hash128_33 13 rfl rfl)
theorem dX2_hash128_844 : decode cX2_hash128 844 = .ok (.iand, 1) := dk_126 (dk_at dksX2_hash128_33 16 rfl rfl)
theorem dX2_hash128_845 : decode cX2_hash128 845 = .ok (.i2l, 1) := dk_133 (dk_at dksX2_hash128_33 17 rfl rfl)
theorem dX2_hash128_846 : decode cX2_hash128 846 = .ok (.bipush 8, 2) := dk_16 8 (dk_at dksX2_hash128_33 18 rfl rfl)
theorem dX2_hash128_848 : decode cX2_hash128 848 = .ok (.lshl, 1) := dk_121 (dk_at dksX2_hash128_33 20 rfl rfl)
theorem dX2_hash128_849 : decode cX2_hash128 849 = .ok (.lxor, 1) := dk_131 (dk_at dksX2_hash128_33 21 rfl rfl)
theorem dX2_hash128_850 : decode cX2_hash128 850 = .ok (.lstore 9, 2) := dk_55 9 (dk_at dksX2_hash128_33 22 rfl rfl)
theorem dX2_hash128_852 : decode cX2_hash128 852 = .ok (.lload 9, 2) := dk_22 9 (dk_at dksX2_hash128_34 0 rfl rfl)
theorem dX2_hash128_854 : decode cX2_hash128 854 = .ok (.aload_n 0, 1) := dk_42 (dk_at dksX2_hash128_34 2 rfl rfl)
theorem dX2_hash128_855 : decode cX2_hash128 855 = .ok (.iload_n 1, 1) := dk_27 (dk_at dksX2_hash128_34 3 rfl rfl)
theorem dX2_hash128_856 : decode cX2_hash128 856 = .ok (.iload 13, 2) := dk_21 13 (dk_at dksX2_hash128_34 4 rfl rfl)
theorem dX2_hash128_858 : decode cX2_hash128 858 = .ok (.iadd, 1) := dk_96 (dk_at dksX2_hash128_34 6 rfl rfl)
theorem dX2_hash128_859 : decode cX2_hash128 859 = .ok (.baload, 1) := dk_51 (dk_at dksX2_hash128_34 7 rfl rfl)
theorem dX2_hash128_860 : decode cX2_hash128 860 = .ok (.sipush 255, 3) := dk_17 0 255 (dk_at dksX2_hash128_34 8 rfl rfl)
theorem dX2_hash128_863 : decode cX2_hash128 863 = .ok (.iand, 1) := dk_126 (dk_at dksX2_hash128_34 11 rfl rfl)
theorem dX2_hash128_864 : decode cX2_hash128 864 = .ok (.i2l, 1) := dk_133 (dk_at dksX2_hash128_34 12 rfl rfl)
theorem dX2_hash128_865 : decode cX2_hash128 865 = .ok (.lxor, 1) := dk_131 (dk_at dksX2_hash128_34 13 rfl rfl)
theorem dX2_hash128_866 : decode cX2_hash128 866 = .ok (.lstore 9, 2) := dk_55 9 (dk_at dksX2_hash128_34 14 rfl rfl)
theorem dX2_hash128_868 : decode cX2_hash128 868 = .ok (.lload 9, 2) := dk_22 9 (dk_at dksX2_hash128_34 16 rfl rfl)
theorem dX2_hash128_870 : decode cX2_hash128 870 = .ok (.ldc2_w 22, 3) := dk_20 0 22 (dk_at dksX2_hash128_34 18 rfl rfl)
theorem dX2_hash128_873 : decode cX2_hash128 873 = .ok (.lmul, 1) := dk_105 (dk_at dksX2_hash128_34 21 rfl rfl)
theorem dX2_hash128_874 : decode cX2_hash128 874 = .ok (.lstore 9, 2) := dk_55 9 (dk_at dksX2_hash128_34 22 rfl rfl)
theorem dX2_hash128_876 : decode cX2_hash128 876 = .ok (.lload 9, 2) := dk_22 9 (dk_at dksX2_hash128_35 0 rfl rfl)
theorem dX2_hash128_878 : decode cX2_hash128 878 = .ok (.bipush 31, 2) := dk_16 31 (dk_at dksX2_hash128_35 2 rfl rfl)
theorem dX2_hash128_880 : decode cX2_hash128 880 = .ok (.invokestatic 24, 3) := dk_184 0 24 (dk_at dksX2_hash128_35 4 rfl rfl)
theorem dX2_hash128_883 : decode cX2_hash128 883 = .ok (.lstore 9, 2) := dk_55 9 (dk_at dksX2_hash128_35 7 rfl rfl)
theorem dX2_hash128_885 : decode cX2_hash128 885 = .ok (.lload 9, 2) := dk_22 9 (dk_at dksX2_hash128_35 9 rfl rfl)
theorem dX2_hash128_887 : decode cX2_hash128 887 = .ok (.ldc2_w 29, 3) := dk_20 0 29 (dk_at dksX2_hash128_35 11 rfl rfl)
theorem dX2_hash128_890 : decode cX2_hash128 890 = .ok (.lmul, 1) := dk_105 (dk_at dksX2_hash128_35 14 rfl rfl)
theorem dX2_hash128_891 : decode cX2_hash128 891 = .ok (.lstore 9, 2) := dk_55 9 (dk_at dksX2_hash128_35 15 rfl rfl)
theorem dX2_hash128_893 : decode cX2_hash128 893 = .ok (.lload 4, 2) := dk_22 4 (dk_at dksX2_hash128_35 17 rfl rfl)
theorem dX2_hash128_895 : decode cX2_hash128 895 = .ok (.lload 9, 2) := dk_22 9 (dk_at dksX2_hash128_35 19 rfl rfl)
theorem dX2_hash128_897 : decode cX2_hash128 897 = .ok (.lxor, 1) := dk_131 (dk_at dksX2_hash128_35 21 rfl rfl)
theorem dX2_hash128_898 : decode cX2_hash128 898 = .ok (.lstore 4, 2) := dk_55 4 (dk_at dksX2_hash128_35 22 rfl rfl)
theorem dX2_hash128_900 : decode cX2_hash128 900 = .ok (.lload 4, 2) := dk_22 4 (dk_at dksX2_hash128_36 0 rfl rfl)
theorem dX2_hash128_902 : decode cX2_hash128 902 = .ok (.iload_n 2, 1) := dk_28 (dk_at dksX2_hash128_36 2 rfl rfl)
theorem dX2_hash128_903 : decode cX2_hash128 903 = .ok (.i2l, 1) := dk_133 (dk_at dksX2_hash128_36 3 rfl rfl)
theorem dX2_hash128_904 : decode cX2_hash128 904 = .ok (.lxor, 1) := dk_131 (dk_at dksX2_hash128_36 4 rfl rfl)
theorem dX2_hash128_905 : decode cX2_hash128 905 = .ok (.lstore 4, 2) := dk_55 4 (dk_at dksX2_hash128_36 5 rfl rfl)
theorem dX2_hash128_907 : decode cX2_hash128 907 = .ok (.lload 6, 2) := dk_22 6 (dk_at dksX2_hash128_36 7 rfl rfl)
theorem dX2_hash128_909 : decode cX2_hash128 909 = .ok (.iload_n 2, 1) := dk_28 (dk_at dksX2_hash128_36 9 rfl rfl)
theorem dX2_hash128_910 : decode cX2_hash128 910 = .ok (.i2l, 1) := dk_133 (dk_at dksX2_hash128_36 10 rfl rfl)
theorem dX2_hash128_911 : decode cX2_hash128 911 = .ok (.lxor, 1) := dk_131 (dk_at dksX2_hash128_36 11 rfl rfl)
theorem dX2_hash128_912 : decode cX2_hash128 912 = .ok (.lstore 6, 2) := dk_55 6 (dk_at dksX2_hash128_36 12 rfl rfl)
theorem dX2_hash128_914 : decode cX2_hash128 914 = .ok (.lload 4, 2) := dk_22 4 (dk_at dksX2_hash128_36 14 rfl rfl)
theorem dX2_hash128_916 : decode cX2_hash128 916 = .ok (.lload 6, 2) := dk_22 6 (dk_at dksX2_hash128_36 16 rfl rfl)
theorem dX2_hash128_918 : decode cX2_hash128 918 = .ok (.ladd, 1) := dk_97 (dk_at dksX2_hash128_36 18 rfl rfl)
theorem dX2_hash128_919 : decode cX2_hash128 919 = .ok (.lstore 4, 2) := dk_55 4 (dk_at dksX2_hash128_36 19 rfl rfl)
theorem dX2_hash128_921 : decode cX2_hash128 921 = .ok (.lload 6, 2) := dk_22 6 (dk_at dksX2_hash128_36 21 rfl rfl)
theorem dX2_hash128_923 : decode cX2_hash128 923 = .ok (.lload 4, 2) := dk_22 4 (dk_at dksX2_hash128_37 0 rfl rfl)
theorem dX2_hash128_925 : decode cX2_hash128 925 = .ok (.ladd, 1) := dk_97 (dk_at dksX2_hash128_37 2 rfl rfl)
theorem dX2_hash128_926 : decode cX2_hash128 926 = .ok (.lstore 6, 2) := dk_55 6 (dk_at dksX2_hash128_37 3 rfl rfl)
theorem dX2_hash128_928 : decode cX2_hash128 928 = .ok (.lload 4, 2) := dk_22 4 (dk_at dksX2_hash128_37 5 rfl rfl)
theorem dX2_hash128_930 : decode cX2_hash128 930 = .ok (.invokestatic 37, 3) := dk_184 0 37 (dk_at dksX2_hash128_37 7 rfl rfl)
theorem dX2_hash128_933 : decode cX2_hash128 933 = .ok (.lstore 4, 2) := dk_55 4 (dk_at dksX2_hash128_37 10 rfl rfl)
theorem dX2_hash128_935 : decode cX2_hash128 935 = .ok (.lload 6, 2) := dk_22 6 (dk_at dksX2_hash128_37 12 rfl rfl)
theorem dX2_hash128_937 : decode cX2_hash128 937 = .ok (.invokestatic 37, 3) := dk_184 0 37 (dk_at dksX2_hash128_37 14 rfl rfl)
theorem dX2_hash128_940 : decode cX2_hash128 940 = .ok (.lstore 6, 2) := dk_55 6 (dk_at dksX2_hash128_37 17 rfl rfl)
theorem dX2_hash128_942 : decode cX2_hash128 942 = .ok (.lload 4, 2) := dk_22 4 (dk_at dksX2_hash128_37 19 rfl rfl)
theorem dX2_hash128_944 : decode cX2_hash128 944 = .ok (.lload 6, 2) := dk_22 6 (dk_at dksX2_hash128_37 21 rfl rfl)
theorem dX2_hash128_946 : decode cX2_hash128 946 = .ok (.ladd, 1) := dk_97 (dk_at dksX2_hash128_37 23 rfl rfl)
theorem dX2_hash128_947 : decode cX2_hash128 947 = .ok (.lstore 4, 2) := dk_55 4 (dk_at dksX2_hash128_38 0 rfl rfl)
theorem dX2_hash128_949 : decode cX2_hash128 949 = .ok (.lload 6, 2) := dk_22 6 (dk_at dksX2_hash128_38 2 rfl rfl)
theorem dX2_hash128_951 : decode cX2_hash128 951 = .ok (.lload 4, 2) := dk_22 4 (dk_at dksX2_hash128_38 4 rfl rfl)
theorem dX2_hash128_953 : decode cX2_hash128 953 = .ok (.ladd, 1) := dk_97 (dk_at dksX2_hash128_38 6 rfl rfl)
theorem dX2_hash128_954 : decode cX2_hash128 954 = .ok (.lstore 6, 2) := dk_55 6 (dk_at dksX2_hash128_38 7 rfl rfl)
theorem dX2_hash128_956 : decode cX2_hash128 956 = .ok (.iconst 2, 1) := dk_5 (dk_at dksX2_hash128_38 9 rfl rfl)
theorem dX2_hash128_957 : decode cX2_hash128 957 = .ok (.newarray .long, 2) := dk_188_11 (dk_at dksX2_hash128_38 10 rfl rfl)
theorem dX2_hash128_959 : decode cX2_hash128 959 = .ok (.dup, 1) := dk_89 (dk_at dksX2_hash128_38 12 rfl rfl)
theorem dX2_hash128_960 : decode cX2_hash128 960 = .ok (.iconst 0, 1) := dk_3 (dk_at dksX2_hash128_38 13 rfl rfl)
theorem dX2_hash128_961 : decode cX2_hash128 961 = .ok (.lload 4, 2) := dk_22 4 (dk_at dksX2_hash128_38 14 rfl rfl)
theorem dX2_hash128_963 : decode cX2_hash128 963 = .ok (.lastore, 1) := dk_80 (dk_at dksX2_hash128_38 16 rfl rfl)
theorem dX2_hash128_964 : decode cX2_hash128 964 = .ok (.dup, 1) := dk_89 (dk_at dksX2_hash128_38 17 rfl rfl)
theorem dX2_hash128_965 : decode cX2_hash128 965 = .ok (.iconst 1, 1) := dk_4 (dk_at dksX2_hash128_38 18 rfl rfl)
theorem dX2_hash128_966 : decode cX2_hash128 966 = .ok (.lload 6, 2) := dk_22 6 (dk_at dksX2_hash128_38 19 rfl rfl)
theorem dX2_hash128_968 : decode cX2_hash128 968 = .ok (.lastore, 1) := dk_80 (dk_at dksX2_hash128_38 21 rfl rfl)
theorem dX2_hash128_969 : decode cX2_hash128 969 = .ok (.areturn, 1) := dk_176 (dk_at dksX2_hash128_38 22 rfl rfl)
abbrev cX2_fmix64 : ByteArray := prog_1_method_4_code
def yX2_fmix64 : MethodName := ⟨RX2, "fmix64", "(J)J"⟩
def dkwX2_fmix64_1 : List UInt8 := [105, 63, 30, 30, 16, 33, 125, 131, 63, 30, 173]
abbrev dktX2_fmix64_1 : List UInt8 := dkwX2_fmix64_1 ++ []
def dkwX2_fmix64_0 : List UInt8 := [30, 30, 16, 33, 125, 131, 63, 30, 20, 0, 41, 105, 63, 30, 30, 16, 33, 125, 131, 63, 30, 20, 0, 43]
abbrev dktX2_fmix64_0 : List UInt8 := dkwX2_fmix64_0 ++ dktX2_fmix64_1
theorem dksX2_fmix64_0 : cX2_fmix64.data.toList.drop 0 = dktX2_fmix64_0 := by decide +kernel
theorem dksX2_fmix64_1 : cX2_fmix64.data.toList.drop 24 = dktX2_fmix64_1 := dk_seg dksX2_fmix64_0 24 rfl rfl
theorem dX2_fmix64_0 : decode cX2_fmix64 0 = .ok (.lload_n 0, 1) := dk_30 (dk_at dksX2_fmix64_0 0 rfl rfl)
theorem dX2_fmix64_1 : decode cX2_fmix64 1 = .ok (.lload_n 0, 1) := dk_30 (dk_at dksX2_fmix64_0 1 rfl rfl)
theorem dX2_fmix64_2 : decode cX2_fmix64 2 = .ok (.bipush 33, 2) := dk_16 33 (dk_at dksX2_fmix64_0 2 rfl rfl)
theorem dX2_fmix64_4 : decode cX2_fmix64 4 = .ok (.lushr, 1) := dk_125 (dk_at dksX2_fmix64_0 4 rfl rfl)
theorem dX2_fmix64_5 : decode cX2_fmix64 5 = .ok (.lxor, 1) := dk_131 (dk_at dksX2_fmix64_0 5 rfl rfl)
theorem dX2_fmix64_6 : decode cX2_fmix64 6 = .ok (.lstore_n 0, 1) := dk_63 (dk_at dksX2_fmix64_0 6 rfl rfl)
theorem dX2_fmix64_7 : decode cX2_fmix64 7 = .ok (.lload_n 0, 1) := dk_30 (dk_at dksX2_fmix64_0 7 rfl rfl)
theorem dX2_fmix64_8 : decode cX2_fmix64 8 = .ok (.ldc2_w 41, 3) := dk_20 0 41 (dk_at dksX2_fmix64_0 8 rfl rfl)
theorem dX2_fmix64_11 : decode cX2_fmix64 11 = .ok (.lmul, 1) := dk_105 (dk_at dksX2_fmix64_0 11 rfl rfl)
theorem dX2_fmix64_12 : decode cX2_fmix64 12 = .ok (.lstore_n 0, 1) := dk_63 (dk_at dksX2_fmix64_0 12 rfl rfl)
theorem dX2_fmix64_13 : decode cX2_fmix64 13 = .ok (.lload_n 0, 1) := dk_30 (dk_at dksX2_fmix64_0 13 rfl rfl)
theorem dX2_fmix64_14 : decode cX2_fmix64 14 = .ok (.lload_n 0, 1) := dk_30 (dk_at dksX2_fmix64_0 14 rfl rfl)
theorem dX2_fmix64_15 : decode cX2_fmix64 15 = .ok (.bipush 33, 2) := dk_16 33 (dk_at dksX2_fmix64_0 15 rfl rfl)
theorem dX2_fmix64_17 : decode cX2_fmix64 17 = .ok (.lushr, 1) := dk_125 (dk_at dksX2_fmix64_0 17 rfl rfl)
theorem dX2_fmix64_18 : decode cX2_fmix64 18 = .ok (.lxor, 1) := dk_131 (dk_at dksX2_fmix64_0 18 rfl rfl)
theorem dX2_fmix64_19 : decode cX2_fmix64 19 = .ok (.lstore_n 0, 1) := dk_63 (dk_at dksX2_fmix64_0 19 rfl rfl)
theorem dX2_fmix64_20 : decode cX2_fmix64 20 = .ok (.lload_n 0, 1) := dk_30 (dk_at dksX2_fmix64_0 20 rfl rfl)
theorem dX2_fmix64_21 : decode cX2_fmix64 21 = .ok (.ldc2_w 43, 3) := dk_20 0 43 (dk_at dksX2_fmix64_0 21 rfl rfl)
theorem dX2_fmix64_24 : decode cX2_fmix64 24 = .ok (.lmul, 1) := dk_105 (dk_at dksX2_fmix64_1 0 rfl rfl)
theorem dX2_fmix64_25 : decode cX2_fmix64 25 = .ok (.lstore_n 0, 1) := dk_63 (dk_at dksX2_fmix64_1 1 rfl rfl)
theorem dX2_fmix64_26 : decode cX2_fmix64 26 = .ok (.lload_n 0, 1) := dk_30 (dk_at dksX2_fmix64_1 2 rfl rfl)
theorem dX2_fmix64_27 : decode cX2_fmix64 27 = .ok (.lload_n 0, 1) := dk_30 (dk_at dksX2_fmix64_1 3 rfl rfl)
theorem dX2_fmix64_28 : decode cX2_fmix64 28 = .ok (.bipush 33, 2) := dk_16 33 (dk_at dksX2_fmix64_1 4 rfl rfl)
theorem dX2_fmix64_30 : decode cX2_fmix64 30 = .ok (.lushr, 1) := dk_125 (dk_at dksX2_fmix64_1 6 rfl rfl)
theorem dX2_fmix64_31 : decode cX2_fmix64 31 = .ok (.lxor, 1) := dk_131 (dk_at dksX2_fmix64_1 7 rfl rfl)
theorem dX2_fmix64_32 : decode cX2_fmix64 32 = .ok (.lstore_n 0, 1) := dk_63 (dk_at dksX2_fmix64_1 8 rfl rfl)
theorem dX2_fmix64_33 : decode cX2_fmix64 33 = .ok (.lload_n 0, 1) := dk_30 (dk_at dksX2_fmix64_1 9 rfl rfl)
theorem dX2_fmix64_34 : decode cX2_fmix64 34 = .ok (.lreturn, 1) := dk_173 (dk_at dksX2_fmix64_1 10 rfl rfl)
theorem q5 : (Jvm.Cond.initialized "Murmur3") ∈ lw_all := lw_g (lw_at lw_m0 2 rfl) rfl
theorem q66 : (Jvm.Cond.static ({ cls := "Murmur3", name := "hash32", desc := "([BII)I" } : Jvm.MethodName)) ∈ lw_all := lw_g (lw_at lw_m0 63 rfl) rfl
theorem q67 : (Jvm.Cond.code ({ cls := "Murmur3", name := "hash32", desc := "([BII)I" } : Jvm.MethodName) prog_1_method_2_code (8 : Nat) (Option.some Jvm.ClassFile.FieldType.int)) ∈ lw_all := lw_g (lw_at lw_m0 64 rfl) rfl
theorem q68 : (Jvm.Cond.constant "Murmur3" (9 : Nat) (-862048943 : Int32)) ∈ lw_all := lw_g (lw_at lw_m0 65 rfl) rfl
theorem q69 : (Jvm.Cond.methodLink "Murmur3" (10 : Nat) ({ cls := "java/lang/Integer", name := "rotateLeft", desc := "(II)I" } : Jvm.MethodName)) ∈ lw_all := lw_g (lw_at lw_m0 66 rfl) rfl
theorem q72 : (Jvm.Cond.constant "Murmur3" (16 : Nat) (461845907 : Int32)) ∈ lw_all := lw_g (lw_at lw_m0 69 rfl) rfl
theorem q73 : (Jvm.Cond.constant "Murmur3" (17 : Nat) (-430675100 : Int32)) ∈ lw_all := lw_g (lw_at lw_m0 70 rfl) rfl
theorem q74 : (Jvm.Cond.constant "Murmur3" (18 : Nat) (-2048144789 : Int32)) ∈ lw_all := lw_g (lw_at lw_m0 71 rfl) rfl
theorem q75 : (Jvm.Cond.constant "Murmur3" (19 : Nat) (-1028477387 : Int32)) ∈ lw_all := lw_g (lw_at lw_m0 72 rfl) rfl
theorem q92 : (Jvm.Cond.static ({ cls := "Murmur3", name := "hash128", desc := "([BIII)[J" } : Jvm.MethodName)) ∈ lw_all := lw_g (lw_at lw_m0 89 rfl) rfl
theorem q93 : (Jvm.Cond.code ({ cls := "Murmur3", name := "hash128", desc := "([BIII)[J" } : Jvm.MethodName) prog_1_method_3_code (15 : Nat) (Option.some (Jvm.ClassFile.FieldType.array Jvm.ClassFile.FieldType.long))) ∈ lw_all := lw_g (lw_at lw_m0 90 rfl) rfl
theorem q94 : (Jvm.Cond.constantLong "Murmur3" (20 : Nat) (255 : Int64)) ∈ lw_all := lw_g (lw_at lw_m0 91 rfl) rfl
theorem q95 : (Jvm.Cond.constantLong "Murmur3" (22 : Nat) (-8663945395140668459 : Int64)) ∈ lw_all := lw_g (lw_at lw_m0 92 rfl) rfl
theorem q96 : (Jvm.Cond.methodLink "Murmur3" (24 : Nat) ({ cls := "java/lang/Long", name := "rotateLeft", desc := "(JI)J" } : Jvm.MethodName)) ∈ lw_all := lw_g (lw_at lw_m0 93 rfl) rfl
theorem q99 : (Jvm.Cond.constantLong "Murmur3" (29 : Nat) (5545529020109919103 : Int64)) ∈ lw_all := lw_g (lw_at lw_m0 96 rfl) rfl
theorem q100 : (Jvm.Cond.constantLong "Murmur3" (31 : Nat) (5 : Int64)) ∈ lw_all := lw_g (lw_at lw_m0 97 rfl) rfl
theorem q101 : (Jvm.Cond.constantLong "Murmur3" (33 : Nat) (1390208809 : Int64)) ∈ lw_all := lw_g (lw_at lw_m0 98 rfl) rfl
theorem q102 : (Jvm.Cond.constantLong "Murmur3" (35 : Nat) (944331445 : Int64)) ∈ lw_all := lw_g (lw_at lw_m0 99 rfl) rfl
theorem q103 : (Jvm.Cond.methodLink "Murmur3" (37 : Nat) ({ cls := "Murmur3", name := "fmix64", desc := "(J)J" } : Jvm.MethodName)) ∈ lw_all := lw_g (lw_at lw_m0 100 rfl) rfl
theorem q104 : (Jvm.Cond.static ({ cls := "Murmur3", name := "fmix64", desc := "(J)J" } : Jvm.MethodName)) ∈ lw_all := lw_g (lw_at lw_m0 101 rfl) rfl
theorem q105 : (Jvm.Cond.code ({ cls := "Murmur3", name := "fmix64", desc := "(J)J" } : Jvm.MethodName) prog_1_method_4_code (2 : Nat) (Option.some Jvm.ClassFile.FieldType.long)) ∈ lw_all := lw_g (lw_at lw_m0 102 rfl) rfl
theorem q106 : (Jvm.Cond.constantLong "Murmur3" (41 : Nat) (-49064778989728563 : Int64)) ∈ lw_all := lw_g (lw_at lw_m0 103 rfl) rfl
theorem q107 : (Jvm.Cond.constantLong "Murmur3" (43 : Nat) (-4265267296055464877 : Int64)) ∈ lw_all := lw_g (lw_at lw_m0 104 rfl) rfl
end
section
/-! MurmurDeskLaw -/
set_option maxRecDepth 100000
def RX0 : String := "MurmurDeskLaw"
abbrev cX0_cell : ByteArray := method_2_code
def yX0_cell : MethodName := ⟨RX0, "cell", "([II)I"⟩
def dkwX0_cell_0 : List UInt8 := [27, 42, 190, 162, 0, 9, 42, 27, 46, 167, 0, 4, 3, 172]
abbrev dktX0_cell_0 : List UInt8 := dkwX0_cell_0 ++ []
theorem dksX0_cell_0 : cX0_cell.data.toList.drop 0 = dktX0_cell_0 := by decide +kernel
theorem dX0_cell_0 : decode cX0_cell 0 = .ok (.iload_n 1, 1) := dk_27 (dk_at dksX0_cell_0 0 rfl rfl)
theorem dX0_cell_1 : decode cX0_cell 1 = .ok (.aload_n 0, 1) := dk_42 (dk_at dksX0_cell_0 1 rfl rfl)
theorem dX0_cell_2 : decode cX0_cell 2 = .ok (.arraylength, 1) := dk_190 (dk_at dksX0_cell_0 2 rfl rfl)
theorem dX0_cell_3 : decode cX0_cell 3 = .ok (.if_icmp .ge 9, 3) := dk_162 0 9 (dk_at dksX0_cell_0 3 rfl rfl)
theorem dX0_cell_6 : decode cX0_cell 6 = .ok (.aload_n 0, 1) := dk_42 (dk_at dksX0_cell_0 6 rfl rfl)
theorem dX0_cell_7 : decode cX0_cell 7 = .ok (.iload_n 1, 1) := dk_27 (dk_at dksX0_cell_0 7 rfl rfl)
theorem dX0_cell_8 : decode cX0_cell 8 = .ok (.iaload, 1) := dk_46 (dk_at dksX0_cell_0 8 rfl rfl)
theorem dX0_cell_9 : decode cX0_cell 9 = .ok (.goto 4, 3) := dk_167 0 4 (dk_at dksX0_cell_0 9 rfl rfl)
theorem dX0_cell_12 : decode cX0_cell 12 = .ok (.iconst 0, 1) := dk_3 (dk_at dksX0_cell_0 12 rfl rfl)
theorem dX0_cell_13 : decode cX0_cell 13 = .ok (.ireturn, 1) := dk_172 (dk_at dksX0_cell_0 13 rfl rfl)
abbrev cX0_part : ByteArray := method_3_code
def yX0_part : MethodName := ⟨RX0, "part", "(II)I"⟩
def dkwX0_part_0 : List UInt8 := [26, 16, 24, 16, 8, 27, 104, 100, 122, 17, 0, 255, 126, 172]
abbrev dktX0_part_0 : List UInt8 := dkwX0_part_0 ++ []
theorem dksX0_part_0 : cX0_part.data.toList.drop 0 = dktX0_part_0 := by decide +kernel
theorem dX0_part_0 : decode cX0_part 0 = .ok (.iload_n 0, 1) := dk_26 (dk_at dksX0_part_0 0 rfl rfl)
theorem dX0_part_1 : decode cX0_part 1 = .ok (.bipush 24, 2) := dk_16 24 (dk_at dksX0_part_0 1 rfl rfl)
theorem dX0_part_3 : decode cX0_part 3 = .ok (.bipush 8, 2) := dk_16 8 (dk_at dksX0_part_0 3 rfl rfl)
theorem dX0_part_5 : decode cX0_part 5 = .ok (.iload_n 1, 1) := dk_27 (dk_at dksX0_part_0 5 rfl rfl)
theorem dX0_part_6 : decode cX0_part 6 = .ok (.imul, 1) := dk_104 (dk_at dksX0_part_0 6 rfl rfl)
theorem dX0_part_7 : decode cX0_part 7 = .ok (.isub, 1) := dk_100 (dk_at dksX0_part_0 7 rfl rfl)
theorem dX0_part_8 : decode cX0_part 8 = .ok (.ishr, 1) := dk_122 (dk_at dksX0_part_0 8 rfl rfl)
theorem dX0_part_9 : decode cX0_part 9 = .ok (.sipush 255, 3) := dk_17 0 255 (dk_at dksX0_part_0 9 rfl rfl)
theorem dX0_part_12 : decode cX0_part 12 = .ok (.iand, 1) := dk_126 (dk_at dksX0_part_0 12 rfl rfl)
theorem dX0_part_13 : decode cX0_part 13 = .ok (.ireturn, 1) := dk_172 (dk_at dksX0_part_0 13 rfl rfl)
abbrev cX0_from : ByteArray := method_10_code
def yX0_from : MethodName := ⟨RX0, "from", "(II)I"⟩
def dkwX0_from_0 : List UInt8 := [26, 18, 26, 126, 27, 4, 96, 112, 172]
abbrev dktX0_from_0 : List UInt8 := dkwX0_from_0 ++ []
theorem dksX0_from_0 : cX0_from.data.toList.drop 0 = dktX0_from_0 := by decide +kernel
theorem dX0_from_0 : decode cX0_from 0 = .ok (.iload_n 0, 1) := dk_26 (dk_at dksX0_from_0 0 rfl rfl)
theorem dX0_from_1 : decode cX0_from 1 = .ok (.ldc 26, 2) := dk_18 26 (dk_at dksX0_from_0 1 rfl rfl)
theorem dX0_from_3 : decode cX0_from 3 = .ok (.iand, 1) := dk_126 (dk_at dksX0_from_0 3 rfl rfl)
theorem dX0_from_4 : decode cX0_from 4 = .ok (.iload_n 1, 1) := dk_27 (dk_at dksX0_from_0 4 rfl rfl)
theorem dX0_from_5 : decode cX0_from 5 = .ok (.iconst 1, 1) := dk_4 (dk_at dksX0_from_0 5 rfl rfl)
theorem dX0_from_6 : decode cX0_from 6 = .ok (.iadd, 1) := dk_96 (dk_at dksX0_from_0 6 rfl rfl)
theorem dX0_from_7 : decode cX0_from 7 = .ok (.irem, 1) := dk_112 (dk_at dksX0_from_0 7 rfl rfl)
theorem dX0_from_8 : decode cX0_from 8 = .ok (.ireturn, 1) := dk_172 (dk_at dksX0_from_0 8 rfl rfl)
abbrev cX0_sums : ByteArray := method_11_code
def yX0_sums : MethodName := ⟨RX0, "sums", "(LMurmurDesk;[IIIII)Z"⟩
def dkwX0_sums_7 : List UInt8 := [172]
abbrev dktX0_sums_7 : List UInt8 := dkwX0_sums_7 ++ []
def dkwX0_sums_6 : List UInt8 := [182, 0, 56, 43, 21, 6, 21, 9, 21, 5, 21, 5, 184, 0, 60, 148, 154, 0, 7, 4, 167, 0, 4, 3]
abbrev dktX0_sums_6 : List UInt8 := dkwX0_sums_6 ++ dktX0_sums_7
def dkwX0_sums_5 : List UInt8 := [43, 21, 6, 21, 9, 21, 5, 4, 184, 0, 60, 148, 154, 0, 34, 42, 29, 21, 4, 21, 5, 21, 5]
abbrev dktX0_sums_5 : List UInt8 := dkwX0_sums_5 ++ dktX0_sums_6
def dkwX0_sums_4 : List UInt8 := [21, 6, 21, 9, 21, 5, 3, 184, 0, 60, 148, 154, 0, 59, 42, 29, 21, 4, 21, 5, 4, 182, 0, 56]
abbrev dktX0_sums_4 : List UInt8 := dkwX0_sums_4 ++ dktX0_sums_5
def dkwX0_sums_3 : List UInt8 := [18, 26, 126, 28, 21, 6, 100, 4, 96, 112, 54, 9, 42, 29, 21, 4, 21, 5, 3, 182, 0, 56, 43]
abbrev dktX0_sums_3 : List UInt8 := dkwX0_sums_3 ++ dktX0_sums_4
def dkwX0_sums_2 : List UInt8 := [21, 5, 182, 0, 47, 43, 21, 6, 7, 21, 8, 104, 21, 5, 184, 0, 53, 159, 0, 5, 3, 172, 21, 4]
abbrev dktX0_sums_2 : List UInt8 := dkwX0_sums_2 ++ dktX0_sums_3
def dkwX0_sums_1 : List UInt8 := [154, 0, 7, 3, 167, 0, 13, 21, 4, 18, 26, 126, 21, 7, 4, 96, 112, 54, 8, 42, 29, 21, 4]
abbrev dktX0_sums_1 : List UInt8 := dkwX0_sums_1 ++ dktX0_sums_2
def dkwX0_sums_0 : List UInt8 := [29, 28, 184, 0, 44, 54, 6, 28, 18, 26, 126, 28, 21, 6, 100, 4, 96, 112, 7, 108, 54, 7, 21, 7]
abbrev dktX0_sums_0 : List UInt8 := dkwX0_sums_0 ++ dktX0_sums_1
theorem dksX0_sums_0 : cX0_sums.data.toList.drop 0 = dktX0_sums_0 := by decide +kernel
theorem dksX0_sums_1 : cX0_sums.data.toList.drop 24 = dktX0_sums_1 := dk_seg dksX0_sums_0 24 rfl rfl
theorem dksX0_sums_2 : cX0_sums.data.toList.drop 47 = dktX0_sums_2 := dk_seg dksX0_sums_1 23 rfl rfl
theorem dksX0_sums_3 : cX0_sums.data.toList.drop 71 = dktX0_sums_3 := dk_seg dksX0_sums_2 24 rfl rfl
theorem dksX0_sums_4 : cX0_sums.data.toList.drop 94 = dktX0_sums_4 := dk_seg dksX0_sums_3 23 rfl rfl
theorem dksX0_sums_5 : cX0_sums.data.toList.drop 118 = dktX0_sums_5 := dk_seg dksX0_sums_4 24 rfl rfl
theorem dksX0_sums_6 : cX0_sums.data.toList.drop 141 = dktX0_sums_6 := dk_seg dksX0_sums_5 23 rfl rfl
theorem dksX0_sums_7 : cX0_sums.data.toList.drop 165 = dktX0_sums_7 := dk_seg dksX0_sums_6 24 rfl rfl
theorem dX0_sums_0 : decode cX0_sums 0 = .ok (.iload_n 3, 1) := dk_29 (dk_at dksX0_sums_0 0 rfl rfl)
theorem dX0_sums_1 : decode cX0_sums 1 = .ok (.iload_n 2, 1) := dk_28 (dk_at dksX0_sums_0 1 rfl rfl)
theorem dX0_sums_2 : decode cX0_sums 2 = .ok (.invokestatic 44, 3) := dk_184 0 44 (dk_at dksX0_sums_0 2 rfl rfl)
theorem dX0_sums_5 : decode cX0_sums 5 = .ok (.istore 6, 2) := dk_54 6 (dk_at dksX0_sums_0 5 rfl rfl)
theorem dX0_sums_7 : decode cX0_sums 7 = .ok (.iload_n 2, 1) := dk_28 (dk_at dksX0_sums_0 7 rfl rfl)
theorem dX0_sums_8 : decode cX0_sums 8 = .ok (.ldc 26, 2) := dk_18 26 (dk_at dksX0_sums_0 8 rfl rfl)
theorem dX0_sums_10 : decode cX0_sums 10 = .ok (.iand, 1) := dk_126 (dk_at dksX0_sums_0 10 rfl rfl)
theorem dX0_sums_11 : decode cX0_sums 11 = .ok (.iload_n 2, 1) := dk_28 (dk_at dksX0_sums_0 11 rfl rfl)
theorem dX0_sums_12 : decode cX0_sums 12 = .ok (.iload 6, 2) := dk_21 6 (dk_at dksX0_sums_0 12 rfl rfl)
theorem dX0_sums_14 : decode cX0_sums 14 = .ok (.isub, 1) := dk_100 (dk_at dksX0_sums_0 14 rfl rfl)
theorem dX0_sums_15 : decode cX0_sums 15 = .ok (.iconst 1, 1) := dk_4 (dk_at dksX0_sums_0 15 rfl rfl)
theorem dX0_sums_16 : decode cX0_sums 16 = .ok (.iadd, 1) := dk_96 (dk_at dksX0_sums_0 16 rfl rfl)
theorem dX0_sums_17 : decode cX0_sums 17 = .ok (.irem, 1) := dk_112 (dk_at dksX0_sums_0 17 rfl rfl)
theorem dX0_sums_18 : decode cX0_sums 18 = .ok (.iconst 4, 1) := dk_7 (dk_at dksX0_sums_0 18 rfl rfl)
theorem dX0_sums_19 : decode cX0_sums 19 = .ok (.idiv, 1) := dk_108 (dk_at dksX0_sums_0 19 rfl rfl)
theorem dX0_sums_20 : decode cX0_sums 20 = .ok (.istore 7, 2) := dk_54 7 (dk_at dksX0_sums_0 20 rfl rfl)
theorem dX0_sums_22 : decode cX0_sums 22 = .ok (.iload 7, 2) := dk_21 7 (dk_at dksX0_sums_0 22 rfl rfl)
theorem dX0_sums_24 : decode cX0_sums 24 = .ok (.ifCond .ne 7, 3) := dk_154 0 7 (dk_at dksX0_sums_1 0 rfl rfl)
theorem dX0_sums_27 : decode cX0_sums 27 = .ok (.iconst 0, 1) := dk_3 (dk_at dksX0_sums_1 3 rfl rfl)
theorem dX0_sums_28 : decode cX0_sums 28 = .ok (.goto 13, 3) := dk_167 0 13 (dk_at dksX0_sums_1 4 rfl rfl)
theorem dX0_sums_31 : decode cX0_sums 31 = .ok (.iload 4, 2) := dk_21 4 (dk_at dksX0_sums_1 7 rfl rfl)
theorem dX0_sums_33 : decode cX0_sums 33 = .ok (.ldc 26, 2) := dk_18 26 (dk_at dksX0_sums_1 9 rfl rfl)
theorem dX0_sums_35 : decode cX0_sums 35 = .ok (.iand, 1) := dk_126 (dk_at dksX0_sums_1 11 rfl rfl)
theorem dX0_sums_36 : decode cX0_sums 36 = .ok (.iload 7, 2) := dk_21 7 (dk_at dksX0_sums_1 12 rfl rfl)
theorem dX0_sums_38 : decode cX0_sums 38 = .ok (.iconst 1, 1) := dk_4 (dk_at dksX0_sums_1 14 rfl rfl)
theorem dX0_sums_39 : decode cX0_sums 39 = .ok (.iadd, 1) := dk_96 (dk_at dksX0_sums_1 15 rfl rfl)
theorem dX0_sums_40 : decode cX0_sums 40 = .ok (.irem, 1) := dk_112 (dk_at dksX0_sums_1 16 rfl rfl)
theorem dX0_sums_41 : decode cX0_sums 41 = .ok (.istore 8, 2) := dk_54 8 (dk_at dksX0_sums_1 17 rfl rfl)
theorem dX0_sums_43 : decode cX0_sums 43 = .ok (.aload_n 0, 1) := dk_42 (dk_at dksX0_sums_1 19 rfl rfl)
theorem dX0_sums_44 : decode cX0_sums 44 = .ok (.iload_n 3, 1) := dk_29 (dk_at dksX0_sums_1 20 rfl rfl)
theorem dX0_sums_45 : decode cX0_sums 45 = .ok (.iload 4, 2) := dk_21 4 (dk_at dksX0_sums_1 21 rfl rfl)
theorem dX0_sums_47 : decode cX0_sums 47 = .ok (.iload 5, 2) := dk_21 5 (dk_at dksX0_sums_2 0 rfl rfl)
theorem dX0_sums_49 : decode cX0_sums 49 = .ok (.invokevirtual 47, 3) := dk_182 0 47 (dk_at dksX0_sums_2 2 rfl rfl)
theorem dX0_sums_52 : decode cX0_sums 52 = .ok (.aload_n 1, 1) := dk_43 (dk_at dksX0_sums_2 5 rfl rfl)
theorem dX0_sums_53 : decode cX0_sums 53 = .ok (.iload 6, 2) := dk_21 6 (dk_at dksX0_sums_2 6 rfl rfl)
theorem dX0_sums_55 : decode cX0_sums 55 = .ok (.iconst 4, 1) := dk_7 (dk_at dksX0_sums_2 8 rfl rfl)
theorem dX0_sums_56 : decode cX0_sums 56 = .ok (.iload 8, 2) := dk_21 8 (dk_at dksX0_sums_2 9 rfl rfl)
theorem dX0_sums_58 : decode cX0_sums 58 = .ok (.imul, 1) := dk_104 (dk_at dksX0_sums_2 11 rfl rfl)
theorem dX0_sums_59 : decode cX0_sums 59 = .ok (.iload 5, 2) := dk_21 5 (dk_at dksX0_sums_2 12 rfl rfl)
theorem dX0_sums_61 : decode cX0_sums 61 = .ok (.invokestatic 53, 3) := dk_184 0 53 (dk_at dksX0_sums_2 14 rfl rfl)
theorem dX0_sums_64 : decode cX0_sums 64 = .ok (.if_icmp .eq 5, 3) := dk_159 0 5 (dk_at dksX0_sums_2 17 rfl rfl)
theorem dX0_sums_67 : decode cX0_sums 67 = .ok (.iconst 0, 1) := dk_3 (dk_at dksX0_sums_2 20 rfl rfl)
theorem dX0_sums_68 : decode cX0_sums 68 = .ok (.ireturn, 1) := dk_172 (dk_at dksX0_sums_2 21 rfl rfl)
theorem dX0_sums_69 : decode cX0_sums 69 = .ok (.iload 4, 2) := dk_21 4 (dk_at dksX0_sums_2 22 rfl rfl)
theorem dX0_sums_71 : decode cX0_sums 71 = .ok (.ldc 26, 2) := dk_18 26 (dk_at dksX0_sums_3 0 rfl rfl)
theorem dX0_sums_73 : decode cX0_sums 73 = .ok (.iand, 1) := dk_126 (dk_at dksX0_sums_3 2 rfl rfl)
theorem dX0_sums_74 : decode cX0_sums 74 = .ok (.iload_n 2, 1) := dk_28 (dk_at dksX0_sums_3 3 rfl rfl)
theorem dX0_sums_75 : decode cX0_sums 75 = .ok (.iload 6, 2) := dk_21 6 (dk_at dksX0_sums_3 4 rfl rfl)
theorem dX0_sums_77 : decode cX0_sums 77 = .ok (.isub, 1) := dk_100 (dk_at dksX0_sums_3 6 rfl rfl)
theorem dX0_sums_78 : decode cX0_sums 78 = .ok (.iconst 1, 1) := dk_4 (dk_at dksX0_sums_3 7 rfl rfl)
theorem dX0_sums_79 : decode cX0_sums 79 = .ok (.iadd, 1) := dk_96 (dk_at dksX0_sums_3 8 rfl rfl)
theorem dX0_sums_80 : decode cX0_sums 80 = .ok (.irem, 1) := dk_112 (dk_at dksX0_sums_3 9 rfl rfl)
theorem dX0_sums_81 : decode cX0_sums 81 = .ok (.istore 9, 2) := dk_54 9 (dk_at dksX0_sums_3 10 rfl rfl)
theorem dX0_sums_83 : decode cX0_sums 83 = .ok (.aload_n 0, 1) := dk_42 (dk_at dksX0_sums_3 12 rfl rfl)
theorem dX0_sums_84 : decode cX0_sums 84 = .ok (.iload_n 3, 1) := dk_29 (dk_at dksX0_sums_3 13 rfl rfl)
theorem dX0_sums_85 : decode cX0_sums 85 = .ok (.iload 4, 2) := dk_21 4 (dk_at dksX0_sums_3 14 rfl rfl)
theorem dX0_sums_87 : decode cX0_sums 87 = .ok (.iload 5, 2) := dk_21 5 (dk_at dksX0_sums_3 16 rfl rfl)
theorem dX0_sums_89 : decode cX0_sums 89 = .ok (.iconst 0, 1) := dk_3 (dk_at dksX0_sums_3 18 rfl rfl)
theorem dX0_sums_90 : decode cX0_sums 90 = .ok (.invokevirtual 56, 3) := dk_182 0 56 (dk_at dksX0_sums_3 19 rfl rfl)
theorem dX0_sums_93 : decode cX0_sums 93 = .ok (.aload_n 1, 1) := dk_43 (dk_at dksX0_sums_3 22 rfl rfl)
theorem dX0_sums_94 : decode cX0_sums 94 = .ok (.iload 6, 2) := dk_21 6 (dk_at dksX0_sums_4 0 rfl rfl)
theorem dX0_sums_96 : decode cX0_sums 96 = .ok (.iload 9, 2) := dk_21 9 (dk_at dksX0_sums_4 2 rfl rfl)
theorem dX0_sums_98 : decode cX0_sums 98 = .ok (.iload 5, 2) := dk_21 5 (dk_at dksX0_sums_4 4 rfl rfl)
theorem dX0_sums_100 : decode cX0_sums 100 = .ok (.iconst 0, 1) := dk_3 (dk_at dksX0_sums_4 6 rfl rfl)
theorem dX0_sums_101 : decode cX0_sums 101 = .ok (.invokestatic 60, 3) := dk_184 0 60 (dk_at dksX0_sums_4 7 rfl rfl)
theorem dX0_sums_104 : decode cX0_sums 104 = .ok (.lcmp, 1) := dk_148 (dk_at dksX0_sums_4 10 rfl rfl)
theorem dX0_sums_105 : decode cX0_sums 105 = .ok (.ifCond .ne 59, 3) := dk_154 0 59 (dk_at dksX0_sums_4 11 rfl rfl)
theorem dX0_sums_108 : decode cX0_sums 108 = .ok (.aload_n 0, 1) := dk_42 (dk_at dksX0_sums_4 14 rfl rfl)
theorem dX0_sums_109 : decode cX0_sums 109 = .ok (.iload_n 3, 1) := dk_29 (dk_at dksX0_sums_4 15 rfl rfl)
theorem dX0_sums_110 : decode cX0_sums 110 = .ok (.iload 4, 2) := dk_21 4 (dk_at dksX0_sums_4 16 rfl rfl)
theorem dX0_sums_112 : decode cX0_sums 112 = .ok (.iload 5, 2) := dk_21 5 (dk_at dksX0_sums_4 18 rfl rfl)
theorem dX0_sums_114 : decode cX0_sums 114 = .ok (.iconst 1, 1) := dk_4 (dk_at dksX0_sums_4 20 rfl rfl)
theorem dX0_sums_115 : decode cX0_sums 115 = .ok (.invokevirtual 56, 3) := dk_182 0 56 (dk_at dksX0_sums_4 21 rfl rfl)
theorem dX0_sums_118 : decode cX0_sums 118 = .ok (.aload_n 1, 1) := dk_43 (dk_at dksX0_sums_5 0 rfl rfl)
theorem dX0_sums_119 : decode cX0_sums 119 = .ok (.iload 6, 2) := dk_21 6 (dk_at dksX0_sums_5 1 rfl rfl)
theorem dX0_sums_121 : decode cX0_sums 121 = .ok (.iload 9, 2) := dk_21 9 (dk_at dksX0_sums_5 3 rfl rfl)
theorem dX0_sums_123 : decode cX0_sums 123 = .ok (.iload 5, 2) := dk_21 5 (dk_at dksX0_sums_5 5 rfl rfl)
theorem dX0_sums_125 : decode cX0_sums 125 = .ok (.iconst 1, 1) := dk_4 (dk_at dksX0_sums_5 7 rfl rfl)
theorem dX0_sums_126 : decode cX0_sums 126 = .ok (.invokestatic 60, 3) := dk_184 0 60 (dk_at dksX0_sums_5 8 rfl rfl)
theorem dX0_sums_129 : decode cX0_sums 129 = .ok (.lcmp, 1) := dk_148 (dk_at dksX0_sums_5 11 rfl rfl)
theorem dX0_sums_130 : decode cX0_sums 130 = .ok (.ifCond .ne 34, 3) := dk_154 0 34 (dk_at dksX0_sums_5 12 rfl rfl)
theorem dX0_sums_133 : decode cX0_sums 133 = .ok (.aload_n 0, 1) := dk_42 (dk_at dksX0_sums_5 15 rfl rfl)
theorem dX0_sums_134 : decode cX0_sums 134 = .ok (.iload_n 3, 1) := dk_29 (dk_at dksX0_sums_5 16 rfl rfl)
theorem dX0_sums_135 : decode cX0_sums 135 = .ok (.iload 4, 2) := dk_21 4 (dk_at dksX0_sums_5 17 rfl rfl)
theorem dX0_sums_137 : decode cX0_sums 137 = .ok (.iload 5, 2) := dk_21 5 (dk_at dksX0_sums_5 19 rfl rfl)
theorem dX0_sums_139 : decode cX0_sums 139 = .ok (.iload 5, 2) := dk_21 5 (dk_at dksX0_sums_5 21 rfl rfl)
theorem dX0_sums_141 : decode cX0_sums 141 = .ok (.invokevirtual 56, 3) := dk_182 0 56 (dk_at dksX0_sums_6 0 rfl rfl)
theorem dX0_sums_144 : decode cX0_sums 144 = .ok (.aload_n 1, 1) := dk_43 (dk_at dksX0_sums_6 3 rfl rfl)
theorem dX0_sums_145 : decode cX0_sums 145 = .ok (.iload 6, 2) := dk_21 6 (dk_at dksX0_sums_6 4 rfl rfl)
theorem dX0_sums_147 : decode cX0_sums 147 = .ok (.iload 9, 2) := dk_21 9 (dk_at dksX0_sums_6 6 rfl rfl)
theorem dX0_sums_149 : decode cX0_sums 149 = .ok (.iload 5, 2) := dk_21 5 (dk_at dksX0_sums_6 8 rfl rfl)
theorem dX0_sums_151 : decode cX0_sums 151 = .ok (.iload 5, 2) := dk_21 5 (dk_at dksX0_sums_6 10 rfl rfl)
theorem dX0_sums_153 : decode cX0_sums 153 = .ok (.invokestatic 60, 3) := dk_184 0 60 (dk_at dksX0_sums_6 12 rfl rfl)
theorem dX0_sums_156 : decode cX0_sums 156 = .ok (.lcmp, 1) := dk_148 (dk_at dksX0_sums_6 15 rfl rfl)
theorem dX0_sums_157 : decode cX0_sums 157 = .ok (.ifCond .ne 7, 3) := dk_154 0 7 (dk_at dksX0_sums_6 16 rfl rfl)
theorem dX0_sums_160 : decode cX0_sums 160 = .ok (.iconst 1, 1) := dk_4 (dk_at dksX0_sums_6 19 rfl rfl)
theorem dX0_sums_161 : decode cX0_sums 161 = .ok (.goto 4, 3) := dk_167 0 4 (dk_at dksX0_sums_6 20 rfl rfl)
theorem dX0_sums_164 : decode cX0_sums 164 = .ok (.iconst 0, 1) := dk_3 (dk_at dksX0_sums_6 23 rfl rfl)
theorem dX0_sums_165 : decode cX0_sums 165 = .ok (.ireturn, 1) := dk_172 (dk_at dksX0_sums_7 0 rfl rfl)
abbrev cX0_small : ByteArray := method_6_code
def yX0_small : MethodName := ⟨RX0, "small", "([IIII)I"⟩
def dkwX0_small_5 : List UInt8 := [21, 4, 21, 4, 16, 16, 124, 130, 172]
abbrev dktX0_small_5 : List UInt8 := dkwX0_small_5 ++ []
def dkwX0_small_4 : List UInt8 := [21, 4, 16, 16, 124, 130, 18, 16, 104, 54, 4, 21, 4, 21, 4, 16, 13, 124, 130, 18, 17, 104, 54, 4]
abbrev dktX0_small_4 : List UInt8 := dkwX0_small_4 ++ dktX0_small_5
def dkwX0_small_3 : List UInt8 := [184, 0, 8, 8, 104, 18, 15, 96, 54, 4, 132, 5, 4, 167, 255, 177, 21, 4, 28, 130, 54, 4, 21, 4]
abbrev dktX0_small_3 : List UInt8 := dkwX0_small_3 ++ dktX0_small_4
def dkwX0_small_2 : List UInt8 := [54, 6, 21, 6, 18, 7, 104, 16, 15, 184, 0, 8, 18, 14, 104, 54, 6, 21, 4, 21, 6, 130, 16, 13]
abbrev dktX0_small_2 : List UInt8 := dkwX0_small_2 ++ dktX0_small_3
def dkwX0_small_1 : List UInt8 := [16, 8, 120, 128, 42, 21, 5, 5, 96, 46, 16, 16, 120, 128, 42, 21, 5, 6, 96, 46, 16, 24, 120, 128]
abbrev dktX0_small_1 : List UInt8 := dkwX0_small_1 ++ dktX0_small_2
def dkwX0_small_0 : List UInt8 := [29, 54, 4, 27, 54, 5, 21, 5, 27, 28, 96, 162, 0, 77, 42, 21, 5, 46, 42, 21, 5, 4, 96, 46]
abbrev dktX0_small_0 : List UInt8 := dkwX0_small_0 ++ dktX0_small_1
theorem dksX0_small_0 : cX0_small.data.toList.drop 0 = dktX0_small_0 := by decide +kernel
theorem dksX0_small_1 : cX0_small.data.toList.drop 24 = dktX0_small_1 := dk_seg dksX0_small_0 24 rfl rfl
theorem dksX0_small_2 : cX0_small.data.toList.drop 48 = dktX0_small_2 := dk_seg dksX0_small_1 24 rfl rfl
theorem dksX0_small_3 : cX0_small.data.toList.drop 72 = dktX0_small_3 := dk_seg dksX0_small_2 24 rfl rfl
theorem dksX0_small_4 : cX0_small.data.toList.drop 96 = dktX0_small_4 := dk_seg dksX0_small_3 24 rfl rfl
theorem dksX0_small_5 : cX0_small.data.toList.drop 120 = dktX0_small_5 := dk_seg dksX0_small_4 24 rfl rfl
theorem dX0_small_0 : decode cX0_small 0 = .ok (.iload_n 3, 1) := dk_29 (dk_at dksX0_small_0 0 rfl rfl)
theorem dX0_small_1 : decode cX0_small 1 = .ok (.istore 4, 2) := dk_54 4 (dk_at dksX0_small_0 1 rfl rfl)
theorem dX0_small_3 : decode cX0_small 3 = .ok (.iload_n 1, 1) := dk_27 (dk_at dksX0_small_0 3 rfl rfl)
theorem dX0_small_4 : decode cX0_small 4 = .ok (.istore 5, 2) := dk_54 5 (dk_at dksX0_small_0 4 rfl rfl)
theorem dX0_small_6 : decode cX0_small 6 = .ok (.iload 5, 2) := dk_21 5 (dk_at dksX0_small_0 6 rfl rfl)
theorem dX0_small_8 : decode cX0_small 8 = .ok (.iload_n 1, 1) := dk_27 (dk_at dksX0_small_0 8 rfl rfl)
theorem dX0_small_9 : decode cX0_small 9 = .ok (.iload_n 2, 1) := dk_28 (dk_at dksX0_small_0 9 rfl rfl)
theorem dX0_small_10 : decode cX0_small 10 = .ok (.iadd, 1) := dk_96 (dk_at dksX0_small_0 10 rfl rfl)
theorem dX0_small_11 : decode cX0_small 11 = .ok (.if_icmp .ge 77, 3) := dk_162 0 77 (dk_at dksX0_small_0 11 rfl rfl)
theorem dX0_small_14 : decode cX0_small 14 = .ok (.aload_n 0, 1) := dk_42 (dk_at dksX0_small_0 14 rfl rfl)
theorem dX0_small_15 : decode cX0_small 15 = .ok (.iload 5, 2) := dk_21 5 (dk_at dksX0_small_0 15 rfl rfl)
theorem dX0_small_17 : decode cX0_small 17 = .ok (.iaload, 1) := dk_46 (dk_at dksX0_small_0 17 rfl rfl)
theorem dX0_small_18 : decode cX0_small 18 = .ok (.aload_n 0, 1) := dk_42 (dk_at dksX0_small_0 18 rfl rfl)
theorem dX0_small_19 : decode cX0_small 19 = .ok (.iload 5, 2) := dk_21 5 (dk_at dksX0_small_0 19 rfl rfl)
theorem dX0_small_21 : decode cX0_small 21 = .ok (.iconst 1, 1) := dk_4 (dk_at dksX0_small_0 21 rfl rfl)
theorem dX0_small_22 : decode cX0_small 22 = .ok (.iadd, 1) := dk_96 (dk_at dksX0_small_0 22 rfl rfl)
theorem dX0_small_23 : decode cX0_small 23 = .ok (.iaload, 1) := dk_46 (dk_at dksX0_small_0 23 rfl rfl)
theorem dX0_small_24 : decode cX0_small 24 = .ok (.bipush 8, 2) := dk_16 8 (dk_at dksX0_small_1 0 rfl rfl)
theorem dX0_small_26 : decode cX0_small 26 = .ok (.ishl, 1) := dk_120 (dk_at dksX0_small_1 2 rfl rfl)
theorem dX0_small_27 : decode cX0_small 27 = .ok (.ior, 1) := dk_128 (dk_at dksX0_small_1 3 rfl rfl)
theorem dX0_small_28 : decode cX0_small 28 = .ok (.aload_n 0, 1) := dk_42 (dk_at dksX0_small_1 4 rfl rfl)
theorem dX0_small_29 : decode cX0_small 29 = .ok (.iload 5, 2) := dk_21 5 (dk_at dksX0_small_1 5 rfl rfl)
theorem dX0_small_31 : decode cX0_small 31 = .ok (.iconst 2, 1) := dk_5 (dk_at dksX0_small_1 7 rfl rfl)
theorem dX0_small_32 : decode cX0_small 32 = .ok (.iadd, 1) := dk_96 (dk_at dksX0_small_1 8 rfl rfl)
theorem dX0_small_33 : decode cX0_small 33 = .ok (.iaload, 1) := dk_46 (dk_at dksX0_small_1 9 rfl rfl)
theorem dX0_small_34 : decode cX0_small 34 = .ok (.bipush 16, 2) := dk_16 16 (dk_at dksX0_small_1 10 rfl rfl)
theorem dX0_small_36 : decode cX0_small 36 = .ok (.ishl, 1) := dk_120 (dk_at dksX0_small_1 12 rfl rfl)
theorem dX0_small_37 : decode cX0_small 37 = .ok (.ior, 1) := dk_128 (dk_at dksX0_small_1 13 rfl rfl)
theorem dX0_small_38 : decode cX0_small 38 = .ok (.aload_n 0, 1) := dk_42 (dk_at dksX0_small_1 14 rfl rfl)
theorem dX0_small_39 : decode cX0_small 39 = .ok (.iload 5, 2) := dk_21 5 (dk_at dksX0_small_1 15 rfl rfl)
theorem dX0_small_41 : decode cX0_small 41 = .ok (.iconst 3, 1) := dk_6 (dk_at dksX0_small_1 17 rfl rfl)
theorem dX0_small_42 : decode cX0_small 42 = .ok (.iadd, 1) := dk_96 (dk_at dksX0_small_1 18 rfl rfl)
theorem dX0_small_43 : decode cX0_small 43 = .ok (.iaload, 1) := dk_46 (dk_at dksX0_small_1 19 rfl rfl)
theorem dX0_small_44 : decode cX0_small 44 = .ok (.bipush 24, 2) := dk_16 24 (dk_at dksX0_small_1 20 rfl rfl)
theorem dX0_small_46 : decode cX0_small 46 = .ok (.ishl, 1) := dk_120 (dk_at dksX0_small_1 22 rfl rfl)
theorem dX0_small_47 : decode cX0_small 47 = .ok (.ior, 1) := dk_128 (dk_at dksX0_small_1 23 rfl rfl)
theorem dX0_small_48 : decode cX0_small 48 = .ok (.istore 6, 2) := dk_54 6 (dk_at dksX0_small_2 0 rfl rfl)
theorem dX0_small_50 : decode cX0_small 50 = .ok (.iload 6, 2) := dk_21 6 (dk_at dksX0_small_2 2 rfl rfl)
theorem dX0_small_52 : decode cX0_small 52 = .ok (.ldc 7, 2) := dk_18 7 (dk_at dksX0_small_2 4 rfl rfl)
theorem dX0_small_54 : decode cX0_small 54 = .ok (.imul, 1) := dk_104 (dk_at dksX0_small_2 6 rfl rfl)
theorem dX0_small_55 : decode cX0_small 55 = .ok (.bipush 15, 2) := dk_16 15 (dk_at dksX0_small_2 7 rfl rfl)
theorem dX0_small_57 : decode cX0_small 57 = .ok (.invokestatic 8, 3) := dk_184 0 8 (dk_at dksX0_small_2 9 rfl rfl)
theorem dX0_small_60 : decode cX0_small 60 = .ok (.ldc 14, 2) := dk_18 14 (dk_at dksX0_small_2 12 rfl rfl)
theorem dX0_small_62 : decode cX0_small 62 = .ok (.imul, 1) := dk_104 (dk_at dksX0_small_2 14 rfl rfl)
theorem dX0_small_63 : decode cX0_small 63 = .ok (.istore 6, 2) := dk_54 6 (dk_at dksX0_small_2 15 rfl rfl)
theorem dX0_small_65 : decode cX0_small 65 = .ok (.iload 4, 2) := dk_21 4 (dk_at dksX0_small_2 17 rfl rfl)
theorem dX0_small_67 : decode cX0_small 67 = .ok (.iload 6, 2) := dk_21 6 (dk_at dksX0_small_2 19 rfl rfl)
theorem dX0_small_69 : decode cX0_small 69 = .ok (.ixor, 1) := dk_130 (dk_at dksX0_small_2 21 rfl rfl)
theorem dX0_small_70 : decode cX0_small 70 = .ok (.bipush 13, 2) := dk_16 13 (dk_at dksX0_small_2 22 rfl rfl)
theorem dX0_small_72 : decode cX0_small 72 = .ok (.invokestatic 8, 3) := dk_184 0 8 (dk_at dksX0_small_3 0 rfl rfl)
theorem dX0_small_75 : decode cX0_small 75 = .ok (.iconst 5, 1) := dk_8 (dk_at dksX0_small_3 3 rfl rfl)
theorem dX0_small_76 : decode cX0_small 76 = .ok (.imul, 1) := dk_104 (dk_at dksX0_small_3 4 rfl rfl)
theorem dX0_small_77 : decode cX0_small 77 = .ok (.ldc 15, 2) := dk_18 15 (dk_at dksX0_small_3 5 rfl rfl)
theorem dX0_small_79 : decode cX0_small 79 = .ok (.iadd, 1) := dk_96 (dk_at dksX0_small_3 7 rfl rfl)
theorem dX0_small_80 : decode cX0_small 80 = .ok (.istore 4, 2) := dk_54 4 (dk_at dksX0_small_3 8 rfl rfl)
theorem dX0_small_82 : decode cX0_small 82 = .ok (.iinc 5 4, 3) := dk_132 5 4 (dk_at dksX0_small_3 10 rfl rfl)
theorem dX0_small_85 : decode cX0_small 85 = .ok (.goto (-79), 3) := dk_167 255 177 (dk_at dksX0_small_3 13 rfl rfl)
theorem dX0_small_88 : decode cX0_small 88 = .ok (.iload 4, 2) := dk_21 4 (dk_at dksX0_small_3 16 rfl rfl)
theorem dX0_small_90 : decode cX0_small 90 = .ok (.iload_n 2, 1) := dk_28 (dk_at dksX0_small_3 18 rfl rfl)
theorem dX0_small_91 : decode cX0_small 91 = .ok (.ixor, 1) := dk_130 (dk_at dksX0_small_3 19 rfl rfl)
theorem dX0_small_92 : decode cX0_small 92 = .ok (.istore 4, 2) := dk_54 4 (dk_at dksX0_small_3 20 rfl rfl)
theorem dX0_small_94 : decode cX0_small 94 = .ok (.iload 4, 2) := dk_21 4 (dk_at dksX0_small_3 22 rfl rfl)
theorem dX0_small_96 : decode cX0_small 96 = .ok (.iload 4, 2) := dk_21 4 (dk_at dksX0_small_4 0 rfl rfl)
theorem dX0_small_98 : decode cX0_small 98 = .ok (.bipush 16, 2) := dk_16 16 (dk_at dksX0_small_4 2 rfl rfl)
theorem dX0_small_100 : decode cX0_small 100 = .ok (.iushr, 1) := dk_124 (dk_at dksX0_small_4 4 rfl rfl)
theorem dX0_small_101 : decode cX0_small 101 = .ok (.ixor, 1) := dk_130 (dk_at dksX0_small_4 5 rfl rfl)
theorem dX0_small_102 : decode cX0_small 102 = .ok (.ldc 16, 2) := dk_18 16 (dk_at dksX0_small_4 6 rfl rfl)
theorem dX0_small_104 : decode cX0_small 104 = .ok (.imul, 1) := dk_104 (dk_at dksX0_small_4 8 rfl rfl)
theorem dX0_small_105 : decode cX0_small 105 = .ok (.istore 4, 2) := dk_54 4 (dk_at dksX0_small_4 9 rfl rfl)
theorem dX0_small_107 : decode cX0_small 107 = .ok (.iload 4, 2) := dk_21 4 (dk_at dksX0_small_4 11 rfl rfl)
theorem dX0_small_109 : decode cX0_small 109 = .ok (.iload 4, 2) := dk_21 4 (dk_at dksX0_small_4 13 rfl rfl)
theorem dX0_small_111 : decode cX0_small 111 = .ok (.bipush 13, 2) := dk_16 13 (dk_at dksX0_small_4 15 rfl rfl)
theorem dX0_small_113 : decode cX0_small 113 = .ok (.iushr, 1) := dk_124 (dk_at dksX0_small_4 17 rfl rfl)
theorem dX0_small_114 : decode cX0_small 114 = .ok (.ixor, 1) := dk_130 (dk_at dksX0_small_4 18 rfl rfl)
theorem dX0_small_115 : decode cX0_small 115 = .ok (.ldc 17, 2) := dk_18 17 (dk_at dksX0_small_4 19 rfl rfl)
theorem dX0_small_117 : decode cX0_small 117 = .ok (.imul, 1) := dk_104 (dk_at dksX0_small_4 21 rfl rfl)
theorem dX0_small_118 : decode cX0_small 118 = .ok (.istore 4, 2) := dk_54 4 (dk_at dksX0_small_4 22 rfl rfl)
theorem dX0_small_120 : decode cX0_small 120 = .ok (.iload 4, 2) := dk_21 4 (dk_at dksX0_small_5 0 rfl rfl)
theorem dX0_small_122 : decode cX0_small 122 = .ok (.iload 4, 2) := dk_21 4 (dk_at dksX0_small_5 2 rfl rfl)
theorem dX0_small_124 : decode cX0_small 124 = .ok (.bipush 16, 2) := dk_16 16 (dk_at dksX0_small_5 4 rfl rfl)
theorem dX0_small_126 : decode cX0_small 126 = .ok (.iushr, 1) := dk_124 (dk_at dksX0_small_5 6 rfl rfl)
theorem dX0_small_127 : decode cX0_small 127 = .ok (.ixor, 1) := dk_130 (dk_at dksX0_small_5 7 rfl rfl)
theorem dX0_small_128 : decode cX0_small 128 = .ok (.ireturn, 1) := dk_172 (dk_at dksX0_small_5 8 rfl rfl)
abbrev cX0_turned : ByteArray := method_4_code
def yX0_turned : MethodName := ⟨RX0, "turned", "(II)I"⟩
def dkwX0_turned_0 : List UInt8 := [26, 27, 120, 26, 16, 32, 27, 100, 124, 128, 172]
abbrev dktX0_turned_0 : List UInt8 := dkwX0_turned_0 ++ []
theorem dksX0_turned_0 : cX0_turned.data.toList.drop 0 = dktX0_turned_0 := by decide +kernel
theorem dX0_turned_0 : decode cX0_turned 0 = .ok (.iload_n 0, 1) := dk_26 (dk_at dksX0_turned_0 0 rfl rfl)
theorem dX0_turned_1 : decode cX0_turned 1 = .ok (.iload_n 1, 1) := dk_27 (dk_at dksX0_turned_0 1 rfl rfl)
theorem dX0_turned_2 : decode cX0_turned 2 = .ok (.ishl, 1) := dk_120 (dk_at dksX0_turned_0 2 rfl rfl)
theorem dX0_turned_3 : decode cX0_turned 3 = .ok (.iload_n 0, 1) := dk_26 (dk_at dksX0_turned_0 3 rfl rfl)
theorem dX0_turned_4 : decode cX0_turned 4 = .ok (.bipush 32, 2) := dk_16 32 (dk_at dksX0_turned_0 4 rfl rfl)
theorem dX0_turned_6 : decode cX0_turned 6 = .ok (.iload_n 1, 1) := dk_27 (dk_at dksX0_turned_0 6 rfl rfl)
theorem dX0_turned_7 : decode cX0_turned 7 = .ok (.isub, 1) := dk_100 (dk_at dksX0_turned_0 7 rfl rfl)
theorem dX0_turned_8 : decode cX0_turned 8 = .ok (.iushr, 1) := dk_124 (dk_at dksX0_turned_0 8 rfl rfl)
theorem dX0_turned_9 : decode cX0_turned 9 = .ok (.ior, 1) := dk_128 (dk_at dksX0_turned_0 9 rfl rfl)
theorem dX0_turned_10 : decode cX0_turned 10 = .ok (.ireturn, 1) := dk_172 (dk_at dksX0_turned_0 10 rfl rfl)
abbrev cX0_wide : ByteArray := method_9_code
def yX0_wide : MethodName := ⟨RX0, "wide", "([IIIII)J"⟩
def dkwX0_wide_9 : List UInt8 := [154, 0, 8, 22, 9, 167, 0, 8, 22, 11, 22, 9, 97, 173]
abbrev dktX0_wide_9 : List UInt8 := dkwX0_wide_9 ++ []
def dkwX0_wide_8 : List UInt8 := [184, 0, 40, 55, 9, 22, 11, 184, 0, 40, 55, 11, 22, 9, 22, 11, 97, 55, 9, 21, 4, 4, 126]
abbrev dktX0_wide_8 : List UInt8 := dkwX0_wide_8 ++ dktX0_wide_9
def dkwX0_wide_7 : List UInt8 := [22, 11, 28, 133, 131, 55, 11, 22, 9, 22, 11, 97, 55, 9, 22, 11, 22, 9, 97, 55, 11, 22, 9]
abbrev dktX0_wide_7 : List UInt8 := dkwX0_wide_7 ++ dktX0_wide_8
def dkwX0_wide_6 : List UInt8 := [20, 0, 34, 105, 20, 0, 38, 97, 55, 11, 132, 14, 16, 167, 255, 131, 22, 9, 28, 133, 131, 55, 9]
abbrev dktX0_wide_6 : List UInt8 := dkwX0_wide_6 ++ dktX0_wide_7
def dkwX0_wide_5 : List UInt8 := [20, 0, 34, 105, 20, 0, 36, 97, 55, 9, 22, 11, 22, 17, 131, 16, 31, 184, 0, 31, 22, 9, 97]
abbrev dktX0_wide_5 : List UInt8 := dkwX0_wide_5 ++ dktX0_wide_6
def dkwX0_wide_4 : List UInt8 := [164, 0, 13, 22, 11, 22, 17, 131, 55, 11, 167, 0, 46, 22, 9, 16, 27, 184, 0, 31, 22, 11, 97]
abbrev dktX0_wide_4 : List UInt8 := dkwX0_wide_4 ++ dktX0_wide_5
def dkwX0_wide_3 : List UInt8 := [16, 33, 184, 0, 31, 22, 5, 105, 55, 17, 22, 9, 22, 15, 131, 55, 9, 21, 14, 16, 16, 96, 21, 13]
abbrev dktX0_wide_3 : List UInt8 := dkwX0_wide_3 ++ dktX0_wide_4
def dkwX0_wide_2 : List UInt8 := [16, 31, 184, 0, 31, 22, 7, 105, 55, 15, 42, 21, 14, 16, 8, 96, 21, 13, 184, 0, 27, 22, 7, 105]
abbrev dktX0_wide_2 : List UInt8 := dkwX0_wide_2 ++ dktX0_wide_3
def dkwX0_wide_1 : List UInt8 := [54, 13, 27, 54, 14, 21, 14, 21, 13, 162, 0, 124, 42, 21, 14, 21, 13, 184, 0, 27, 22, 5, 105]
abbrev dktX0_wide_1 : List UInt8 := dkwX0_wide_1 ++ dktX0_wide_2
def dkwX0_wide_0 : List UInt8 := [20, 0, 22, 55, 5, 20, 0, 24, 55, 7, 29, 18, 26, 126, 133, 55, 9, 22, 9, 55, 11, 27, 28, 96]
abbrev dktX0_wide_0 : List UInt8 := dkwX0_wide_0 ++ dktX0_wide_1
theorem dksX0_wide_0 : cX0_wide.data.toList.drop 0 = dktX0_wide_0 := by decide +kernel
theorem dksX0_wide_1 : cX0_wide.data.toList.drop 24 = dktX0_wide_1 := dk_seg dksX0_wide_0 24 rfl rfl
theorem dksX0_wide_2 : cX0_wide.data.toList.drop 47 = dktX0_wide_2 := dk_seg dksX0_wide_1 23 rfl rfl
theorem dksX0_wide_3 : cX0_wide.data.toList.drop 71 = dktX0_wide_3 := dk_seg dksX0_wide_2 24 rfl rfl
theorem dksX0_wide_4 : cX0_wide.data.toList.drop 95 = dktX0_wide_4 := dk_seg dksX0_wide_3 24 rfl rfl
theorem dksX0_wide_5 : cX0_wide.data.toList.drop 118 = dktX0_wide_5 := dk_seg dksX0_wide_4 23 rfl rfl
theorem dksX0_wide_6 : cX0_wide.data.toList.drop 141 = dktX0_wide_6 := dk_seg dksX0_wide_5 23 rfl rfl
theorem dksX0_wide_7 : cX0_wide.data.toList.drop 164 = dktX0_wide_7 := dk_seg dksX0_wide_6 23 rfl rfl
theorem dksX0_wide_8 : cX0_wide.data.toList.drop 187 = dktX0_wide_8 := dk_seg dksX0_wide_7 23 rfl rfl
theorem dksX0_wide_9 : cX0_wide.data.toList.drop 210 = dktX0_wide_9 := dk_seg dksX0_wide_8 23 rfl rfl
theorem dX0_wide_0 : decode cX0_wide 0 = .ok (.ldc2_w 22, 3) := dk_20 0 22 (dk_at dksX0_wide_0 0 rfl rfl)
theorem dX0_wide_3 : decode cX0_wide 3 = .ok (.lstore 5, 2) := dk_55 5 (dk_at dksX0_wide_0 3 rfl rfl)
theorem dX0_wide_5 : decode cX0_wide 5 = .ok (.ldc2_w 24, 3) := dk_20 0 24 (dk_at dksX0_wide_0 5 rfl rfl)
theorem dX0_wide_8 : decode cX0_wide 8 = .ok (.lstore 7, 2) := dk_55 7 (dk_at dksX0_wide_0 8 rfl rfl)
theorem dX0_wide_10 : decode cX0_wide 10 = .ok (.iload_n 3, 1) := dk_29 (dk_at dksX0_wide_0 10 rfl rfl)
theorem dX0_wide_11 : decode cX0_wide 11 = .ok (.ldc 26, 2) := dk_18 26 (dk_at dksX0_wide_0 11 rfl rfl)
theorem dX0_wide_13 : decode cX0_wide 13 = .ok (.iand, 1) := dk_126 (dk_at dksX0_wide_0 13 rfl rfl)
theorem dX0_wide_14 : decode cX0_wide 14 = .ok (.i2l, 1) := dk_133 (dk_at dksX0_wide_0 14 rfl rfl)
theorem dX0_wide_15 : decode cX0_wide 15 = .ok (.lstore 9, 2) := dk_55 9 (dk_at dksX0_wide_0 15 rfl rfl)
theorem dX0_wide_17 : decode cX0_wide 17 = .ok (.lload 9, 2) := dk_22 9 (dk_at dksX0_wide_0 17 rfl rfl)
theorem dX0_wide_19 : decode cX0_wide 19 = .ok (.lstore 11, 2) := dk_55 11 (dk_at dksX0_wide_0 19 rfl rfl)
theorem dX0_wide_21 : decode cX0_wide 21 = .ok (.iload_n 1, 1) := dk_27 (dk_at dksX0_wide_0 21 rfl rfl)
theorem dX0_wide_22 : decode cX0_wide 22 = .ok (.iload_n 2, 1) := dk_28 (dk_at dksX0_wide_0 22 rfl rfl)
theorem dX0_wide_23 : decode cX0_wide 23 = .ok (.iadd, 1) := dk_96 (dk_at dksX0_wide_0 23 rfl rfl)
theorem dX0_wide_24 : decode cX0_wide 24 = .ok (.istore 13, 2) := dk_54 13 (dk_at dksX0_wide_1 0 rfl rfl)
theorem dX0_wide_26 : decode cX0_wide 26 = .ok (.iload_n 1, 1) := dk_27 (dk_at dksX0_wide_1 2 rfl rfl)
theorem dX0_wide_27 : decode cX0_wide 27 = .ok (.istore 14, 2) := dk_54 14 (dk_at dksX0_wide_1 3 rfl rfl)
theorem dX0_wide_29 : decode cX0_wide 29 = .ok (.iload 14, 2) := dk_21 14 (dk_at dksX0_wide_1 5 rfl rfl)
theorem dX0_wide_31 : decode cX0_wide 31 = .ok (.iload 13, 2) := dk_21 13 (dk_at dksX0_wide_1 7 rfl rfl)
theorem dX0_wide_33 : decode cX0_wide 33 = .ok (.if_icmp .ge 124, 3) := dk_162 0 124 (dk_at dksX0_wide_1 9 rfl rfl)
theorem dX0_wide_36 : decode cX0_wide 36 = .ok (.aload_n 0, 1) := dk_42 (dk_at dksX0_wide_1 12 rfl rfl)
theorem dX0_wide_37 : decode cX0_wide 37 = .ok (.iload 14, 2) := dk_21 14 (dk_at dksX0_wide_1 13 rfl rfl)
theorem dX0_wide_39 : decode cX0_wide 39 = .ok (.iload 13, 2) := dk_21 13 (dk_at dksX0_wide_1 15 rfl rfl)
theorem dX0_wide_41 : decode cX0_wide 41 = .ok (.invokestatic 27, 3) := dk_184 0 27 (dk_at dksX0_wide_1 17 rfl rfl)
theorem dX0_wide_44 : decode cX0_wide 44 = .ok (.lload 5, 2) := dk_22 5 (dk_at dksX0_wide_1 20 rfl rfl)
theorem dX0_wide_46 : decode cX0_wide 46 = .ok (.lmul, 1) := dk_105 (dk_at dksX0_wide_1 22 rfl rfl)
theorem dX0_wide_47 : decode cX0_wide 47 = .ok (.bipush 31, 2) := dk_16 31 (dk_at dksX0_wide_2 0 rfl rfl)
theorem dX0_wide_49 : decode cX0_wide 49 = .ok (.invokestatic 31, 3) := dk_184 0 31 (dk_at dksX0_wide_2 2 rfl rfl)
theorem dX0_wide_52 : decode cX0_wide 52 = .ok (.lload 7, 2) := dk_22 7 (dk_at dksX0_wide_2 5 rfl rfl)
theorem dX0_wide_54 : decode cX0_wide 54 = .ok (.lmul, 1) := dk_105 (dk_at dksX0_wide_2 7 rfl rfl)
theorem dX0_wide_55 : decode cX0_wide 55 = .ok (.lstore 15, 2) := dk_55 15 (dk_at dksX0_wide_2 8 rfl rfl)
theorem dX0_wide_57 : decode cX0_wide 57 = .ok (.aload_n 0, 1) := dk_42 (dk_at dksX0_wide_2 10 rfl rfl)
theorem dX0_wide_58 : decode cX0_wide 58 = .ok (.iload 14, 2) := dk_21 14 (dk_at dksX0_wide_2 11 rfl rfl)
theorem dX0_wide_60 : decode cX0_wide 60 = .ok (.bipush 8, 2) := dk_16 8 (dk_at dksX0_wide_2 13 rfl rfl)
theorem dX0_wide_62 : decode cX0_wide 62 = .ok (.iadd, 1) := dk_96 (dk_at dksX0_wide_2 15 rfl rfl)
theorem dX0_wide_63 : decode cX0_wide 63 = .ok (.iload 13, 2) := dk_21 13 (dk_at dksX0_wide_2 16 rfl rfl)
theorem dX0_wide_65 : decode cX0_wide 65 = .ok (.invokestatic 27, 3) := dk_184 0 27 (dk_at dksX0_wide_2 18 rfl rfl)
theorem dX0_wide_68 : decode cX0_wide 68 = .ok (.lload 7, 2) := dk_22 7 (dk_at dksX0_wide_2 21 rfl rfl)
theorem dX0_wide_70 : decode cX0_wide 70 = .ok (.lmul, 1) := dk_105 (dk_at dksX0_wide_2 23 rfl rfl)
theorem dX0_wide_71 : decode cX0_wide 71 = .ok (.bipush 33, 2) := dk_16 33 (dk_at dksX0_wide_3 0 rfl rfl)
theorem dX0_wide_73 : decode cX0_wide 73 = .ok (.invokestatic 31, 3) := dk_184 0 31 (dk_at dksX0_wide_3 2 rfl rfl)
theorem dX0_wide_76 : decode cX0_wide 76 = .ok (.lload 5, 2) := dk_22 5 (dk_at dksX0_wide_3 5 rfl rfl)
theorem dX0_wide_78 : decode cX0_wide 78 = .ok (.lmul, 1) := dk_105 (dk_at dksX0_wide_3 7 rfl rfl)
theorem dX0_wide_79 : decode cX0_wide 79 = .ok (.lstore 17, 2) := dk_55 17 (dk_at dksX0_wide_3 8 rfl rfl)
theorem dX0_wide_81 : decode cX0_wide 81 = .ok (.lload 9, 2) := dk_22 9 (dk_at dksX0_wide_3 10 rfl rfl)
theorem dX0_wide_83 : decode cX0_wide 83 = .ok (.lload 15, 2) := dk_22 15 (dk_at dksX0_wide_3 12 rfl rfl)
theorem dX0_wide_85 : decode cX0_wide 85 = .ok (.lxor, 1) := dk_131 (dk_at dksX0_wide_3 14 rfl rfl)
theorem dX0_wide_86 : decode cX0_wide 86 = .ok (.lstore 9, 2) := dk_55 9 (dk_at dksX0_wide_3 15 rfl rfl)
theorem dX0_wide_88 : decode cX0_wide 88 = .ok (.iload 14, 2) := dk_21 14 (dk_at dksX0_wide_3 17 rfl rfl)
theorem dX0_wide_90 : decode cX0_wide 90 = .ok (.bipush 16, 2) := dk_16 16 (dk_at dksX0_wide_3 19 rfl rfl)
theorem dX0_wide_92 : decode cX0_wide 92 = .ok (.iadd, 1) := dk_96 (dk_at dksX0_wide_3 21 rfl rfl)
theorem dX0_wide_93 : decode cX0_wide 93 = .ok (.iload 13, 2) := dk_21 13 (dk_at dksX0_wide_3 22 rfl rfl)
theorem dX0_wide_95 : decode cX0_wide 95 = .ok (.if_icmp .le 13, 3) := dk_164 0 13 (dk_at dksX0_wide_4 0 rfl rfl)
theorem dX0_wide_98 : decode cX0_wide 98 = .ok (.lload 11, 2) := dk_22 11 (dk_at dksX0_wide_4 3 rfl rfl)
theorem dX0_wide_100 : decode cX0_wide 100 = .ok (.lload 17, 2) := dk_22 17 (dk_at dksX0_wide_4 5 rfl rfl)
theorem dX0_wide_102 : decode cX0_wide 102 = .ok (.lxor, 1) := dk_131 (dk_at dksX0_wide_4 7 rfl rfl)
theorem dX0_wide_103 : decode cX0_wide 103 = .ok (.lstore 11, 2) := dk_55 11 (dk_at dksX0_wide_4 8 rfl rfl)
theorem dX0_wide_105 : decode cX0_wide 105 = .ok (.goto 46, 3) := dk_167 0 46 (dk_at dksX0_wide_4 10 rfl rfl)
theorem dX0_wide_108 : decode cX0_wide 108 = .ok (.lload 9, 2) := dk_22 9 (dk_at dksX0_wide_4 13 rfl rfl)
theorem dX0_wide_110 : decode cX0_wide 110 = .ok (.bipush 27, 2) := dk_16 27 (dk_at dksX0_wide_4 15 rfl rfl)
theorem dX0_wide_112 : decode cX0_wide 112 = .ok (.invokestatic 31, 3) := dk_184 0 31 (dk_at dksX0_wide_4 17 rfl rfl)
theorem dX0_wide_115 : decode cX0_wide 115 = .ok (.lload 11, 2) := dk_22 11 (dk_at dksX0_wide_4 20 rfl rfl)
theorem dX0_wide_117 : decode cX0_wide 117 = .ok (.ladd, 1) := dk_97 (dk_at dksX0_wide_4 22 rfl rfl)
theorem dX0_wide_118 : decode cX0_wide 118 = .ok (.ldc2_w 34, 3) := dk_20 0 34 (dk_at dksX0_wide_5 0 rfl rfl)
theorem dX0_wide_121 : decode cX0_wide 121 = .ok (.lmul, 1) := dk_105 (dk_at dksX0_wide_5 3 rfl rfl)
theorem dX0_wide_122 : decode cX0_wide 122 = .ok (.ldc2_w 36, 3) := dk_20 0 36 (dk_at dksX0_wide_5 4 rfl rfl)
theorem dX0_wide_125 : decode cX0_wide 125 = .ok (.ladd, 1) := dk_97 (dk_at dksX0_wide_5 7 rfl rfl)
theorem dX0_wide_126 : decode cX0_wide 126 = .ok (.lstore 9, 2) := dk_55 9 (dk_at dksX0_wide_5 8 rfl rfl)
theorem dX0_wide_128 : decode cX0_wide 128 = .ok (.lload 11, 2) := dk_22 11 (dk_at dksX0_wide_5 10 rfl rfl)
theorem dX0_wide_130 : decode cX0_wide 130 = .ok (.lload 17, 2) := dk_22 17 (dk_at dksX0_wide_5 12 rfl rfl)
theorem dX0_wide_132 : decode cX0_wide 132 = .ok (.lxor, 1) := dk_131 (dk_at dksX0_wide_5 14 rfl rfl)
theorem dX0_wide_133 : decode cX0_wide 133 = .ok (.bipush 31, 2) := dk_16 31 (dk_at dksX0_wide_5 15 rfl rfl)
theorem dX0_wide_135 : decode cX0_wide 135 = .ok (.invokestatic 31, 3) := dk_184 0 31 (dk_at dksX0_wide_5 17 rfl rfl)
theorem dX0_wide_138 : decode cX0_wide 138 = .ok (.lload 9, 2) := dk_22 9 (dk_at dksX0_wide_5 20 rfl rfl)
theorem dX0_wide_140 : decode cX0_wide 140 = .ok (.ladd, 1) := dk_97 (dk_at dksX0_wide_5 22 rfl rfl)
theorem dX0_wide_141 : decode cX0_wide 141 = .ok (.ldc2_w 34, 3) := dk_20 0 34 (dk_at dksX0_wide_6 0 rfl rfl)
theorem dX0_wide_144 : decode cX0_wide 144 = .ok (.lmul, 1) := dk_105 (dk_at dksX0_wide_6 3 rfl rfl)
theorem dX0_wide_145 : decode cX0_wide 145 = .ok (.ldc2_w 38, 3) := dk_20 0 38 (dk_at dksX0_wide_6 4 rfl rfl)
theorem dX0_wide_148 : decode cX0_wide 148 = .ok (.ladd, 1) := dk_97 (dk_at dksX0_wide_6 7 rfl rfl)
theorem dX0_wide_149 : decode cX0_wide 149 = .ok (.lstore 11, 2) := dk_55 11 (dk_at dksX0_wide_6 8 rfl rfl)
theorem dX0_wide_151 : decode cX0_wide 151 = .ok (.iinc 14 16, 3) := dk_132 14 16 (dk_at dksX0_wide_6 10 rfl rfl)
theorem dX0_wide_154 : decode cX0_wide 154 = .ok (.goto (-125), 3) := dk_167 255 131 (dk_at dksX0_wide_6 13 rfl rfl)
theorem dX0_wide_157 : decode cX0_wide 157 = .ok (.lload 9, 2) := dk_22 9 (dk_at dksX0_wide_6 16 rfl rfl)
theorem dX0_wide_159 : decode cX0_wide 159 = .ok (.iload_n 2, 1) := dk_28 (dk_at dksX0_wide_6 18 rfl rfl)
theorem dX0_wide_160 : decode cX0_wide 160 = .ok (.i2l, 1) := dk_133 (dk_at dksX0_wide_6 19 rfl rfl)
theorem dX0_wide_161 : decode cX0_wide 161 = .ok (.lxor, 1) := dk_131 (dk_at dksX0_wide_6 20 rfl rfl)
theorem dX0_wide_162 : decode cX0_wide 162 = .ok (.lstore 9, 2) := dk_55 9 (dk_at dksX0_wide_6 21 rfl rfl)
theorem dX0_wide_164 : decode cX0_wide 164 = .ok (.lload 11, 2) := dk_22 11 (dk_at dksX0_wide_7 0 rfl rfl)
theorem dX0_wide_166 : decode cX0_wide 166 = .ok (.iload_n 2, 1) := dk_28 (dk_at dksX0_wide_7 2 rfl rfl)
theorem dX0_wide_167 : decode cX0_wide 167 = .ok (.i2l, 1) := dk_133 (dk_at dksX0_wide_7 3 rfl rfl)
theorem dX0_wide_168 : decode cX0_wide 168 = .ok (.lxor, 1) := dk_131 (dk_at dksX0_wide_7 4 rfl rfl)
theorem dX0_wide_169 : decode cX0_wide 169 = .ok (.lstore 11, 2) := dk_55 11 (dk_at dksX0_wide_7 5 rfl rfl)
theorem dX0_wide_171 : decode cX0_wide 171 = .ok (.lload 9, 2) := dk_22 9 (dk_at dksX0_wide_7 7 rfl rfl)
theorem dX0_wide_173 : decode cX0_wide 173 = .ok (.lload 11, 2) := dk_22 11 (dk_at dksX0_wide_7 9 rfl rfl)
theorem dX0_wide_175 : decode cX0_wide 175 = .ok (.ladd, 1) := dk_97 (dk_at dksX0_wide_7 11 rfl rfl)
theorem dX0_wide_176 : decode cX0_wide 176 = .ok (.lstore 9, 2) := dk_55 9 (dk_at dksX0_wide_7 12 rfl rfl)
theorem dX0_wide_178 : decode cX0_wide 178 = .ok (.lload 11, 2) := dk_22 11 (dk_at dksX0_wide_7 14 rfl rfl)
theorem dX0_wide_180 : decode cX0_wide 180 = .ok (.lload 9, 2) := dk_22 9 (dk_at dksX0_wide_7 16 rfl rfl)
theorem dX0_wide_182 : decode cX0_wide 182 = .ok (.ladd, 1) := dk_97 (dk_at dksX0_wide_7 18 rfl rfl)
theorem dX0_wide_183 : decode cX0_wide 183 = .ok (.lstore 11, 2) := dk_55 11 (dk_at dksX0_wide_7 19 rfl rfl)
theorem dX0_wide_185 : decode cX0_wide 185 = .ok (.lload 9, 2) := dk_22 9 (dk_at dksX0_wide_7 21 rfl rfl)
theorem dX0_wide_187 : decode cX0_wide 187 = .ok (.invokestatic 40, 3) := dk_184 0 40 (dk_at dksX0_wide_8 0 rfl rfl)
theorem dX0_wide_190 : decode cX0_wide 190 = .ok (.lstore 9, 2) := dk_55 9 (dk_at dksX0_wide_8 3 rfl rfl)
theorem dX0_wide_192 : decode cX0_wide 192 = .ok (.lload 11, 2) := dk_22 11 (dk_at dksX0_wide_8 5 rfl rfl)
theorem dX0_wide_194 : decode cX0_wide 194 = .ok (.invokestatic 40, 3) := dk_184 0 40 (dk_at dksX0_wide_8 7 rfl rfl)
theorem dX0_wide_197 : decode cX0_wide 197 = .ok (.lstore 11, 2) := dk_55 11 (dk_at dksX0_wide_8 10 rfl rfl)
theorem dX0_wide_199 : decode cX0_wide 199 = .ok (.lload 9, 2) := dk_22 9 (dk_at dksX0_wide_8 12 rfl rfl)
theorem dX0_wide_201 : decode cX0_wide 201 = .ok (.lload 11, 2) := dk_22 11 (dk_at dksX0_wide_8 14 rfl rfl)
theorem dX0_wide_203 : decode cX0_wide 203 = .ok (.ladd, 1) := dk_97 (dk_at dksX0_wide_8 16 rfl rfl)
theorem dX0_wide_204 : decode cX0_wide 204 = .ok (.lstore 9, 2) := dk_55 9 (dk_at dksX0_wide_8 17 rfl rfl)
theorem dX0_wide_206 : decode cX0_wide 206 = .ok (.iload 4, 2) := dk_21 4 (dk_at dksX0_wide_8 19 rfl rfl)
theorem dX0_wide_208 : decode cX0_wide 208 = .ok (.iconst 1, 1) := dk_4 (dk_at dksX0_wide_8 21 rfl rfl)
theorem dX0_wide_209 : decode cX0_wide 209 = .ok (.iand, 1) := dk_126 (dk_at dksX0_wide_8 22 rfl rfl)
theorem dX0_wide_210 : decode cX0_wide 210 = .ok (.ifCond .ne 8, 3) := dk_154 0 8 (dk_at dksX0_wide_9 0 rfl rfl)
theorem dX0_wide_213 : decode cX0_wide 213 = .ok (.lload 9, 2) := dk_22 9 (dk_at dksX0_wide_9 3 rfl rfl)
theorem dX0_wide_215 : decode cX0_wide 215 = .ok (.goto 8, 3) := dk_167 0 8 (dk_at dksX0_wide_9 5 rfl rfl)
theorem dX0_wide_218 : decode cX0_wide 218 = .ok (.lload 11, 2) := dk_22 11 (dk_at dksX0_wide_9 8 rfl rfl)
theorem dX0_wide_220 : decode cX0_wide 220 = .ok (.lload 9, 2) := dk_22 9 (dk_at dksX0_wide_9 10 rfl rfl)
theorem dX0_wide_222 : decode cX0_wide 222 = .ok (.ladd, 1) := dk_97 (dk_at dksX0_wide_9 12 rfl rfl)
theorem dX0_wide_223 : decode cX0_wide 223 = .ok (.lreturn, 1) := dk_173 (dk_at dksX0_wide_9 13 rfl rfl)
abbrev cX0_word : ByteArray := method_8_code
def yX0_word : MethodName := ⟨RX0, "word", "([III)J"⟩
def dkwX0_word_1 : List UInt8 := [27, 21, 5, 96, 46, 167, 0, 4, 3, 133, 129, 66, 132, 5, 255, 167, 255, 223, 33, 173]
abbrev dktX0_word_1 : List UInt8 := dkwX0_word_1 ++ []
def dkwX0_word_0 : List UInt8 := [9, 66, 16, 7, 54, 5, 21, 5, 155, 0, 34, 33, 16, 8, 121, 27, 21, 5, 96, 28, 162, 0, 12, 42]
abbrev dktX0_word_0 : List UInt8 := dkwX0_word_0 ++ dktX0_word_1
theorem dksX0_word_0 : cX0_word.data.toList.drop 0 = dktX0_word_0 := by decide +kernel
theorem dksX0_word_1 : cX0_word.data.toList.drop 24 = dktX0_word_1 := dk_seg dksX0_word_0 24 rfl rfl
theorem dX0_word_0 : decode cX0_word 0 = .ok (.lconst 0, 1) := dk_9 (dk_at dksX0_word_0 0 rfl rfl)
theorem dX0_word_1 : decode cX0_word 1 = .ok (.lstore_n 3, 1) := dk_66 (dk_at dksX0_word_0 1 rfl rfl)
theorem dX0_word_2 : decode cX0_word 2 = .ok (.bipush 7, 2) := dk_16 7 (dk_at dksX0_word_0 2 rfl rfl)
theorem dX0_word_4 : decode cX0_word 4 = .ok (.istore 5, 2) := dk_54 5 (dk_at dksX0_word_0 4 rfl rfl)
theorem dX0_word_6 : decode cX0_word 6 = .ok (.iload 5, 2) := dk_21 5 (dk_at dksX0_word_0 6 rfl rfl)
theorem dX0_word_8 : decode cX0_word 8 = .ok (.ifCond .lt 34, 3) := dk_155 0 34 (dk_at dksX0_word_0 8 rfl rfl)
theorem dX0_word_11 : decode cX0_word 11 = .ok (.lload_n 3, 1) := dk_33 (dk_at dksX0_word_0 11 rfl rfl)
theorem dX0_word_12 : decode cX0_word 12 = .ok (.bipush 8, 2) := dk_16 8 (dk_at dksX0_word_0 12 rfl rfl)
theorem dX0_word_14 : decode cX0_word 14 = .ok (.lshl, 1) := dk_121 (dk_at dksX0_word_0 14 rfl rfl)
theorem dX0_word_15 : decode cX0_word 15 = .ok (.iload_n 1, 1) := dk_27 (dk_at dksX0_word_0 15 rfl rfl)
theorem dX0_word_16 : decode cX0_word 16 = .ok (.iload 5, 2) := dk_21 5 (dk_at dksX0_word_0 16 rfl rfl)
theorem dX0_word_18 : decode cX0_word 18 = .ok (.iadd, 1) := dk_96 (dk_at dksX0_word_0 18 rfl rfl)
theorem dX0_word_19 : decode cX0_word 19 = .ok (.iload_n 2, 1) := dk_28 (dk_at dksX0_word_0 19 rfl rfl)
theorem dX0_word_20 : decode cX0_word 20 = .ok (.if_icmp .ge 12, 3) := dk_162 0 12 (dk_at dksX0_word_0 20 rfl rfl)
theorem dX0_word_23 : decode cX0_word 23 = .ok (.aload_n 0, 1) := dk_42 (dk_at dksX0_word_0 23 rfl rfl)
theorem dX0_word_24 : decode cX0_word 24 = .ok (.iload_n 1, 1) := dk_27 (dk_at dksX0_word_1 0 rfl rfl)
theorem dX0_word_25 : decode cX0_word 25 = .ok (.iload 5, 2) := dk_21 5 (dk_at dksX0_word_1 1 rfl rfl)
theorem dX0_word_27 : decode cX0_word 27 = .ok (.iadd, 1) := dk_96 (dk_at dksX0_word_1 3 rfl rfl)
theorem dX0_word_28 : decode cX0_word 28 = .ok (.iaload, 1) := dk_46 (dk_at dksX0_word_1 4 rfl rfl)
theorem dX0_word_29 : decode cX0_word 29 = .ok (.goto 4, 3) := dk_167 0 4 (dk_at dksX0_word_1 5 rfl rfl)
theorem dX0_word_32 : decode cX0_word 32 = .ok (.iconst 0, 1) := dk_3 (dk_at dksX0_word_1 8 rfl rfl)
theorem dX0_word_33 : decode cX0_word 33 = .ok (.i2l, 1) := dk_133 (dk_at dksX0_word_1 9 rfl rfl)
theorem dX0_word_34 : decode cX0_word 34 = .ok (.lor, 1) := dk_129 (dk_at dksX0_word_1 10 rfl rfl)
theorem dX0_word_35 : decode cX0_word 35 = .ok (.lstore_n 3, 1) := dk_66 (dk_at dksX0_word_1 11 rfl rfl)
theorem dX0_word_36 : decode cX0_word 36 = .ok (.iinc 5 (-1), 3) := dk_132 5 255 (dk_at dksX0_word_1 12 rfl rfl)
theorem dX0_word_39 : decode cX0_word 39 = .ok (.goto (-33), 3) := dk_167 255 223 (dk_at dksX0_word_1 15 rfl rfl)
theorem dX0_word_42 : decode cX0_word 42 = .ok (.lload_n 3, 1) := dk_33 (dk_at dksX0_word_1 18 rfl rfl)
theorem dX0_word_43 : decode cX0_word 43 = .ok (.lreturn, 1) := dk_173 (dk_at dksX0_word_1 19 rfl rfl)
abbrev cX0_turned_2 : ByteArray := method_5_code
def yX0_turned_2 : MethodName := ⟨RX0, "turned", "(JI)J"⟩
def dkwX0_turned_2_0 : List UInt8 := [30, 28, 121, 30, 16, 64, 28, 100, 125, 129, 173]
abbrev dktX0_turned_2_0 : List UInt8 := dkwX0_turned_2_0 ++ []
theorem dksX0_turned_2_0 : cX0_turned_2.data.toList.drop 0 = dktX0_turned_2_0 := by decide +kernel
theorem dX0_turned_2_0 : decode cX0_turned_2 0 = .ok (.lload_n 0, 1) := dk_30 (dk_at dksX0_turned_2_0 0 rfl rfl)
theorem dX0_turned_2_1 : decode cX0_turned_2 1 = .ok (.iload_n 2, 1) := dk_28 (dk_at dksX0_turned_2_0 1 rfl rfl)
theorem dX0_turned_2_2 : decode cX0_turned_2 2 = .ok (.lshl, 1) := dk_121 (dk_at dksX0_turned_2_0 2 rfl rfl)
theorem dX0_turned_2_3 : decode cX0_turned_2 3 = .ok (.lload_n 0, 1) := dk_30 (dk_at dksX0_turned_2_0 3 rfl rfl)
theorem dX0_turned_2_4 : decode cX0_turned_2 4 = .ok (.bipush 64, 2) := dk_16 64 (dk_at dksX0_turned_2_0 4 rfl rfl)
theorem dX0_turned_2_6 : decode cX0_turned_2 6 = .ok (.iload_n 2, 1) := dk_28 (dk_at dksX0_turned_2_0 6 rfl rfl)
theorem dX0_turned_2_7 : decode cX0_turned_2 7 = .ok (.isub, 1) := dk_100 (dk_at dksX0_turned_2_0 7 rfl rfl)
theorem dX0_turned_2_8 : decode cX0_turned_2 8 = .ok (.lushr, 1) := dk_125 (dk_at dksX0_turned_2_0 8 rfl rfl)
theorem dX0_turned_2_9 : decode cX0_turned_2 9 = .ok (.lor, 1) := dk_129 (dk_at dksX0_turned_2_0 9 rfl rfl)
theorem dX0_turned_2_10 : decode cX0_turned_2 10 = .ok (.lreturn, 1) := dk_173 (dk_at dksX0_turned_2_0 10 rfl rfl)
abbrev cX0_stirred : ByteArray := method_7_code
def yX0_stirred : MethodName := ⟨RX0, "stirred", "(J)J"⟩
def dkwX0_stirred_1 : List UInt8 := [16, 33, 125, 131, 173]
abbrev dktX0_stirred_1 : List UInt8 := dkwX0_stirred_1 ++ []
def dkwX0_stirred_0 : List UInt8 := [30, 30, 16, 33, 125, 131, 20, 0, 18, 105, 65, 32, 32, 16, 33, 125, 131, 20, 0, 20, 105, 65, 32, 32]
abbrev dktX0_stirred_0 : List UInt8 := dkwX0_stirred_0 ++ dktX0_stirred_1
theorem dksX0_stirred_0 : cX0_stirred.data.toList.drop 0 = dktX0_stirred_0 := by decide +kernel
theorem dksX0_stirred_1 : cX0_stirred.data.toList.drop 24 = dktX0_stirred_1 := dk_seg dksX0_stirred_0 24 rfl rfl
theorem dX0_stirred_0 : decode cX0_stirred 0 = .ok (.lload_n 0, 1) := dk_30 (dk_at dksX0_stirred_0 0 rfl rfl)
theorem dX0_stirred_1 : decode cX0_stirred 1 = .ok (.lload_n 0, 1) := dk_30 (dk_at dksX0_stirred_0 1 rfl rfl)
theorem dX0_stirred_2 : decode cX0_stirred 2 = .ok (.bipush 33, 2) := dk_16 33 (dk_at dksX0_stirred_0 2 rfl rfl)
theorem dX0_stirred_4 : decode cX0_stirred 4 = .ok (.lushr, 1) := dk_125 (dk_at dksX0_stirred_0 4 rfl rfl)
theorem dX0_stirred_5 : decode cX0_stirred 5 = .ok (.lxor, 1) := dk_131 (dk_at dksX0_stirred_0 5 rfl rfl)
theorem dX0_stirred_6 : decode cX0_stirred 6 = .ok (.ldc2_w 18, 3) := dk_20 0 18 (dk_at dksX0_stirred_0 6 rfl rfl)
theorem dX0_stirred_9 : decode cX0_stirred 9 = .ok (.lmul, 1) := dk_105 (dk_at dksX0_stirred_0 9 rfl rfl)
theorem dX0_stirred_10 : decode cX0_stirred 10 = .ok (.lstore_n 2, 1) := dk_65 (dk_at dksX0_stirred_0 10 rfl rfl)
theorem dX0_stirred_11 : decode cX0_stirred 11 = .ok (.lload_n 2, 1) := dk_32 (dk_at dksX0_stirred_0 11 rfl rfl)
theorem dX0_stirred_12 : decode cX0_stirred 12 = .ok (.lload_n 2, 1) := dk_32 (dk_at dksX0_stirred_0 12 rfl rfl)
theorem dX0_stirred_13 : decode cX0_stirred 13 = .ok (.bipush 33, 2) := dk_16 33 (dk_at dksX0_stirred_0 13 rfl rfl)
theorem dX0_stirred_15 : decode cX0_stirred 15 = .ok (.lushr, 1) := dk_125 (dk_at dksX0_stirred_0 15 rfl rfl)
theorem dX0_stirred_16 : decode cX0_stirred 16 = .ok (.lxor, 1) := dk_131 (dk_at dksX0_stirred_0 16 rfl rfl)
theorem dX0_stirred_17 : decode cX0_stirred 17 = .ok (.ldc2_w 20, 3) := dk_20 0 20 (dk_at dksX0_stirred_0 17 rfl rfl)
theorem dX0_stirred_20 : decode cX0_stirred 20 = .ok (.lmul, 1) := dk_105 (dk_at dksX0_stirred_0 20 rfl rfl)
theorem dX0_stirred_21 : decode cX0_stirred 21 = .ok (.lstore_n 2, 1) := dk_65 (dk_at dksX0_stirred_0 21 rfl rfl)
theorem dX0_stirred_22 : decode cX0_stirred 22 = .ok (.lload_n 2, 1) := dk_32 (dk_at dksX0_stirred_0 22 rfl rfl)
theorem dX0_stirred_23 : decode cX0_stirred 23 = .ok (.lload_n 2, 1) := dk_32 (dk_at dksX0_stirred_0 23 rfl rfl)
theorem dX0_stirred_24 : decode cX0_stirred 24 = .ok (.bipush 33, 2) := dk_16 33 (dk_at dksX0_stirred_1 0 rfl rfl)
theorem dX0_stirred_26 : decode cX0_stirred 26 = .ok (.lushr, 1) := dk_125 (dk_at dksX0_stirred_1 2 rfl rfl)
theorem dX0_stirred_27 : decode cX0_stirred 27 = .ok (.lxor, 1) := dk_131 (dk_at dksX0_stirred_1 3 rfl rfl)
theorem dX0_stirred_28 : decode cX0_stirred 28 = .ok (.lreturn, 1) := dk_173 (dk_at dksX0_stirred_1 4 rfl rfl)
abbrev cX0_isKnown : ByteArray := method_12_code
def yX0_isKnown : MethodName := ⟨RX0, "isKnown", "()Z"⟩
def dkwX0_isKnown_5 : List UInt8 := [20, 0, 86, 148, 154, 0, 7, 4, 167, 0, 4, 3, 172]
abbrev dktX0_isKnown_5 : List UInt8 := dkwX0_isKnown_5 ++ []
def dkwX0_isKnown_4 : List UInt8 := [16, 43, 3, 3, 182, 0, 56, 20, 0, 84, 148, 154, 0, 23, 42, 3, 16, 43, 3, 4, 182, 0, 56]
abbrev dktX0_isKnown_4 : List UInt8 := dkwX0_isKnown_4 ++ dktX0_isKnown_5
def dkwX0_isKnown_3 : List UInt8 := [182, 0, 69, 87, 42, 18, 77, 18, 78, 18, 79, 3, 182, 0, 69, 87, 42, 16, 43, 182, 0, 80, 42, 3]
abbrev dktX0_isKnown_3 : List UInt8 := dkwX0_isKnown_3 ++ dktX0_isKnown_4
def dkwX0_isKnown_2 : List UInt8 := [42, 18, 65, 18, 66, 18, 67, 18, 68, 182, 0, 69, 87, 42, 18, 73, 18, 74, 18, 75, 18, 76]
abbrev dktX0_isKnown_2 : List UInt8 := dkwX0_isKnown_2 ++ dktX0_isKnown_3
def dkwX0_isKnown_1 : List UInt8 := [3, 182, 0, 56, 9, 148, 154, 0, 16, 42, 3, 3, 3, 4, 182, 0, 56, 9, 148, 153, 0, 5, 3, 172]
abbrev dktX0_isKnown_1 : List UInt8 := dkwX0_isKnown_1 ++ dktX0_isKnown_2
def dkwX0_isKnown_0 : List UInt8 := [187, 0, 48, 89, 183, 0, 63, 75, 42, 3, 3, 4, 182, 0, 47, 18, 64, 160, 0, 29, 42, 3, 3, 3]
abbrev dktX0_isKnown_0 : List UInt8 := dkwX0_isKnown_0 ++ dktX0_isKnown_1
theorem dksX0_isKnown_0 : cX0_isKnown.data.toList.drop 0 = dktX0_isKnown_0 := by decide +kernel
theorem dksX0_isKnown_1 : cX0_isKnown.data.toList.drop 24 = dktX0_isKnown_1 := dk_seg dksX0_isKnown_0 24 rfl rfl
theorem dksX0_isKnown_2 : cX0_isKnown.data.toList.drop 48 = dktX0_isKnown_2 := dk_seg dksX0_isKnown_1 24 rfl rfl
theorem dksX0_isKnown_3 : cX0_isKnown.data.toList.drop 70 = dktX0_isKnown_3 := dk_seg dksX0_isKnown_2 22 rfl rfl
theorem dksX0_isKnown_4 : cX0_isKnown.data.toList.drop 94 = dktX0_isKnown_4 := dk_seg dksX0_isKnown_3 24 rfl rfl
theorem dksX0_isKnown_5 : cX0_isKnown.data.toList.drop 117 = dktX0_isKnown_5 := dk_seg dksX0_isKnown_4 23 rfl rfl
theorem dX0_isKnown_0 : decode cX0_isKnown 0 = .ok (.new 48, 3) := dk_187 0 48 (dk_at dksX0_isKnown_0 0 rfl rfl)
theorem dX0_isKnown_3 : decode cX0_isKnown 3 = .ok (.dup, 1) := dk_89 (dk_at dksX0_isKnown_0 3 rfl rfl)
theorem dX0_isKnown_4 : decode cX0_isKnown 4 = .ok (.invokespecial 63, 3) := dk_183 0 63 (dk_at dksX0_isKnown_0 4 rfl rfl)
theorem dX0_isKnown_7 : decode cX0_isKnown 7 = .ok (.astore_n 0, 1) := dk_75 (dk_at dksX0_isKnown_0 7 rfl rfl)
theorem dX0_isKnown_8 : decode cX0_isKnown 8 = .ok (.aload_n 0, 1) := dk_42 (dk_at dksX0_isKnown_0 8 rfl rfl)
theorem dX0_isKnown_9 : decode cX0_isKnown 9 = .ok (.iconst 0, 1) := dk_3 (dk_at dksX0_isKnown_0 9 rfl rfl)
theorem dX0_isKnown_10 : decode cX0_isKnown 10 = .ok (.iconst 0, 1) := dk_3 (dk_at dksX0_isKnown_0 10 rfl rfl)
theorem dX0_isKnown_11 : decode cX0_isKnown 11 = .ok (.iconst 1, 1) := dk_4 (dk_at dksX0_isKnown_0 11 rfl rfl)
theorem dX0_isKnown_12 : decode cX0_isKnown 12 = .ok (.invokevirtual 47, 3) := dk_182 0 47 (dk_at dksX0_isKnown_0 12 rfl rfl)
theorem dX0_isKnown_15 : decode cX0_isKnown 15 = .ok (.ldc 64, 2) := dk_18 64 (dk_at dksX0_isKnown_0 15 rfl rfl)
theorem dX0_isKnown_17 : decode cX0_isKnown 17 = .ok (.if_icmp .ne 29, 3) := dk_160 0 29 (dk_at dksX0_isKnown_0 17 rfl rfl)
theorem dX0_isKnown_20 : decode cX0_isKnown 20 = .ok (.aload_n 0, 1) := dk_42 (dk_at dksX0_isKnown_0 20 rfl rfl)
theorem dX0_isKnown_21 : decode cX0_isKnown 21 = .ok (.iconst 0, 1) := dk_3 (dk_at dksX0_isKnown_0 21 rfl rfl)
theorem dX0_isKnown_22 : decode cX0_isKnown 22 = .ok (.iconst 0, 1) := dk_3 (dk_at dksX0_isKnown_0 22 rfl rfl)
theorem dX0_isKnown_23 : decode cX0_isKnown 23 = .ok (.iconst 0, 1) := dk_3 (dk_at dksX0_isKnown_0 23 rfl rfl)
theorem dX0_isKnown_24 : decode cX0_isKnown 24 = .ok (.iconst 0, 1) := dk_3 (dk_at dksX0_isKnown_1 0 rfl rfl)
theorem dX0_isKnown_25 : decode cX0_isKnown 25 = .ok (.invokevirtual 56, 3) := dk_182 0 56 (dk_at dksX0_isKnown_1 1 rfl rfl)
theorem dX0_isKnown_28 : decode cX0_isKnown 28 = .ok (.lconst 0, 1) := dk_9 (dk_at dksX0_isKnown_1 4 rfl rfl)
theorem dX0_isKnown_29 : decode cX0_isKnown 29 = .ok (.lcmp, 1) := dk_148 (dk_at dksX0_isKnown_1 5 rfl rfl)
theorem dX0_isKnown_30 : decode cX0_isKnown 30 = .ok (.ifCond .ne 16, 3) := dk_154 0 16 (dk_at dksX0_isKnown_1 6 rfl rfl)
theorem dX0_isKnown_33 : decode cX0_isKnown 33 = .ok (.aload_n 0, 1) := dk_42 (dk_at dksX0_isKnown_1 9 rfl rfl)
theorem dX0_isKnown_34 : decode cX0_isKnown 34 = .ok (.iconst 0, 1) := dk_3 (dk_at dksX0_isKnown_1 10 rfl rfl)
theorem dX0_isKnown_35 : decode cX0_isKnown 35 = .ok (.iconst 0, 1) := dk_3 (dk_at dksX0_isKnown_1 11 rfl rfl)
theorem dX0_isKnown_36 : decode cX0_isKnown 36 = .ok (.iconst 0, 1) := dk_3 (dk_at dksX0_isKnown_1 12 rfl rfl)
theorem dX0_isKnown_37 : decode cX0_isKnown 37 = .ok (.iconst 1, 1) := dk_4 (dk_at dksX0_isKnown_1 13 rfl rfl)
theorem dX0_isKnown_38 : decode cX0_isKnown 38 = .ok (.invokevirtual 56, 3) := dk_182 0 56 (dk_at dksX0_isKnown_1 14 rfl rfl)
theorem dX0_isKnown_41 : decode cX0_isKnown 41 = .ok (.lconst 0, 1) := dk_9 (dk_at dksX0_isKnown_1 17 rfl rfl)
theorem dX0_isKnown_42 : decode cX0_isKnown 42 = .ok (.lcmp, 1) := dk_148 (dk_at dksX0_isKnown_1 18 rfl rfl)
theorem dX0_isKnown_43 : decode cX0_isKnown 43 = .ok (.ifCond .eq 5, 3) := dk_153 0 5 (dk_at dksX0_isKnown_1 19 rfl rfl)
theorem dX0_isKnown_46 : decode cX0_isKnown 46 = .ok (.iconst 0, 1) := dk_3 (dk_at dksX0_isKnown_1 22 rfl rfl)
theorem dX0_isKnown_47 : decode cX0_isKnown 47 = .ok (.ireturn, 1) := dk_172 (dk_at dksX0_isKnown_1 23 rfl rfl)
theorem dX0_isKnown_48 : decode cX0_isKnown 48 = .ok (.aload_n 0, 1) := dk_42 (dk_at dksX0_isKnown_2 0 rfl rfl)
theorem dX0_isKnown_49 : decode cX0_isKnown 49 = .ok (.ldc 65, 2) := dk_18 65 (dk_at dksX0_isKnown_2 1 rfl rfl)
theorem dX0_isKnown_51 : decode cX0_isKnown 51 = .ok (.ldc 66, 2) := dk_18 66 (dk_at dksX0_isKnown_2 3 rfl rfl)
theorem dX0_isKnown_53 : decode cX0_isKnown 53 = .ok (.ldc 67, 2) := dk_18 67 (dk_at dksX0_isKnown_2 5 rfl rfl)
theorem dX0_isKnown_55 : decode cX0_isKnown 55 = .ok (.ldc 68, 2) := dk_18 68 (dk_at dksX0_isKnown_2 7 rfl rfl)
theorem dX0_isKnown_57 : decode cX0_isKnown 57 = .ok (.invokevirtual 69, 3) := dk_182 0 69 (dk_at dksX0_isKnown_2 9 rfl rfl)
theorem dX0_isKnown_60 : decode cX0_isKnown 60 = .ok (.pop, 1) := dk_87 (dk_at dksX0_isKnown_2 12 rfl rfl)
theorem dX0_isKnown_61 : decode cX0_isKnown 61 = .ok (.aload_n 0, 1) := dk_42 (dk_at dksX0_isKnown_2 13 rfl rfl)
theorem dX0_isKnown_62 : decode cX0_isKnown 62 = .ok (.ldc 73, 2) := dk_18 73 (dk_at dksX0_isKnown_2 14 rfl rfl)
theorem dX0_isKnown_64 : decode cX0_isKnown 64 = .ok (.ldc 74, 2) := dk_18 74 (dk_at dksX0_isKnown_2 16 rfl rfl)
theorem dX0_isKnown_66 : decode cX0_isKnown 66 = .ok (.ldc 75, 2) := dk_18 75 (dk_at dksX0_isKnown_2 18 rfl rfl)
theorem dX0_isKnown_68 : decode cX0_isKnown 68 = .ok (.ldc 76, 2) := dk_18 76 (dk_at dksX0_isKnown_2 20 rfl rfl)
theorem dX0_isKnown_70 : decode cX0_isKnown 70 = .ok (.invokevirtual 69, 3) := dk_182 0 69 (dk_at dksX0_isKnown_3 0 rfl rfl)
theorem dX0_isKnown_73 : decode cX0_isKnown 73 = .ok (.pop, 1) := dk_87 (dk_at dksX0_isKnown_3 3 rfl rfl)
theorem dX0_isKnown_74 : decode cX0_isKnown 74 = .ok (.aload_n 0, 1) := dk_42 (dk_at dksX0_isKnown_3 4 rfl rfl)
theorem dX0_isKnown_75 : decode cX0_isKnown 75 = .ok (.ldc 77, 2) := dk_18 77 (dk_at dksX0_isKnown_3 5 rfl rfl)
theorem dX0_isKnown_77 : decode cX0_isKnown 77 = .ok (.ldc 78, 2) := dk_18 78 (dk_at dksX0_isKnown_3 7 rfl rfl)
theorem dX0_isKnown_79 : decode cX0_isKnown 79 = .ok (.ldc 79, 2) := dk_18 79 (dk_at dksX0_isKnown_3 9 rfl rfl)
theorem dX0_isKnown_81 : decode cX0_isKnown 81 = .ok (.iconst 0, 1) := dk_3 (dk_at dksX0_isKnown_3 11 rfl rfl)
theorem dX0_isKnown_82 : decode cX0_isKnown 82 = .ok (.invokevirtual 69, 3) := dk_182 0 69 (dk_at dksX0_isKnown_3 12 rfl rfl)
theorem dX0_isKnown_85 : decode cX0_isKnown 85 = .ok (.pop, 1) := dk_87 (dk_at dksX0_isKnown_3 15 rfl rfl)
theorem dX0_isKnown_86 : decode cX0_isKnown 86 = .ok (.aload_n 0, 1) := dk_42 (dk_at dksX0_isKnown_3 16 rfl rfl)
theorem dX0_isKnown_87 : decode cX0_isKnown 87 = .ok (.bipush 43, 2) := dk_16 43 (dk_at dksX0_isKnown_3 17 rfl rfl)
theorem dX0_isKnown_89 : decode cX0_isKnown 89 = .ok (.invokevirtual 80, 3) := dk_182 0 80 (dk_at dksX0_isKnown_3 19 rfl rfl)
theorem dX0_isKnown_92 : decode cX0_isKnown 92 = .ok (.aload_n 0, 1) := dk_42 (dk_at dksX0_isKnown_3 22 rfl rfl)
theorem dX0_isKnown_93 : decode cX0_isKnown 93 = .ok (.iconst 0, 1) := dk_3 (dk_at dksX0_isKnown_3 23 rfl rfl)
theorem dX0_isKnown_94 : decode cX0_isKnown 94 = .ok (.bipush 43, 2) := dk_16 43 (dk_at dksX0_isKnown_4 0 rfl rfl)
theorem dX0_isKnown_96 : decode cX0_isKnown 96 = .ok (.iconst 0, 1) := dk_3 (dk_at dksX0_isKnown_4 2 rfl rfl)
theorem dX0_isKnown_97 : decode cX0_isKnown 97 = .ok (.iconst 0, 1) := dk_3 (dk_at dksX0_isKnown_4 3 rfl rfl)
theorem dX0_isKnown_98 : decode cX0_isKnown 98 = .ok (.invokevirtual 56, 3) := dk_182 0 56 (dk_at dksX0_isKnown_4 4 rfl rfl)
theorem dX0_isKnown_101 : decode cX0_isKnown 101 = .ok (.ldc2_w 84, 3) := dk_20 0 84 (dk_at dksX0_isKnown_4 7 rfl rfl)
theorem dX0_isKnown_104 : decode cX0_isKnown 104 = .ok (.lcmp, 1) := dk_148 (dk_at dksX0_isKnown_4 10 rfl rfl)
theorem dX0_isKnown_105 : decode cX0_isKnown 105 = .ok (.ifCond .ne 23, 3) := dk_154 0 23 (dk_at dksX0_isKnown_4 11 rfl rfl)
theorem dX0_isKnown_108 : decode cX0_isKnown 108 = .ok (.aload_n 0, 1) := dk_42 (dk_at dksX0_isKnown_4 14 rfl rfl)
theorem dX0_isKnown_109 : decode cX0_isKnown 109 = .ok (.iconst 0, 1) := dk_3 (dk_at dksX0_isKnown_4 15 rfl rfl)
theorem dX0_isKnown_110 : decode cX0_isKnown 110 = .ok (.bipush 43, 2) := dk_16 43 (dk_at dksX0_isKnown_4 16 rfl rfl)
theorem dX0_isKnown_112 : decode cX0_isKnown 112 = .ok (.iconst 0, 1) := dk_3 (dk_at dksX0_isKnown_4 18 rfl rfl)
theorem dX0_isKnown_113 : decode cX0_isKnown 113 = .ok (.iconst 1, 1) := dk_4 (dk_at dksX0_isKnown_4 19 rfl rfl)
theorem dX0_isKnown_114 : decode cX0_isKnown 114 = .ok (.invokevirtual 56, 3) := dk_182 0 56 (dk_at dksX0_isKnown_4 20 rfl rfl)
theorem dX0_isKnown_117 : decode cX0_isKnown 117 = .ok (.ldc2_w 86, 3) := dk_20 0 86 (dk_at dksX0_isKnown_5 0 rfl rfl)
theorem dX0_isKnown_120 : decode cX0_isKnown 120 = .ok (.lcmp, 1) := dk_148 (dk_at dksX0_isKnown_5 3 rfl rfl)
theorem dX0_isKnown_121 : decode cX0_isKnown 121 = .ok (.ifCond .ne 7, 3) := dk_154 0 7 (dk_at dksX0_isKnown_5 4 rfl rfl)
theorem dX0_isKnown_124 : decode cX0_isKnown 124 = .ok (.iconst 1, 1) := dk_4 (dk_at dksX0_isKnown_5 7 rfl rfl)
theorem dX0_isKnown_125 : decode cX0_isKnown 125 = .ok (.goto 4, 3) := dk_167 0 4 (dk_at dksX0_isKnown_5 8 rfl rfl)
theorem dX0_isKnown_128 : decode cX0_isKnown 128 = .ok (.iconst 0, 1) := dk_3 (dk_at dksX0_isKnown_5 11 rfl rfl)
theorem dX0_isKnown_129 : decode cX0_isKnown 129 = .ok (.ireturn, 1) := dk_172 (dk_at dksX0_isKnown_5 12 rfl rfl)
theorem q3 : (Jvm.Cond.initialized "MurmurDeskLaw") ∈ lw_all := lw_g (lw_at lw_m0 0 rfl) rfl
theorem q8 : (Jvm.Cond.classLink "MurmurDeskLaw" (48 : Nat) "MurmurDesk") ∈ lw_all := lw_g (lw_at lw_m0 5 rfl) rfl
theorem q10 : (Jvm.Cond.methodLink "MurmurDeskLaw" (63 : Nat) ({ cls := "MurmurDesk", name := "<init>", desc := "()V" } : Jvm.MethodName)) ∈ lw_all := lw_g (lw_at lw_m0 7 rfl) rfl
theorem q24 : (Jvm.Cond.methodLink "MurmurDeskLaw" (69 : Nat) ({ cls := "MurmurDesk", name := "put", desc := "(IIII)Z" } : Jvm.MethodName)) ∈ lw_all := lw_g (lw_at lw_m0 21 rfl) rfl
theorem q31 : (Jvm.Cond.methodLink "MurmurDeskLaw" (80 : Nat) ({ cls := "MurmurDesk", name := "trim", desc := "(I)V" } : Jvm.MethodName)) ∈ lw_all := lw_g (lw_at lw_m0 28 rfl) rfl
theorem q40 : (Jvm.Cond.methodLink "MurmurDeskLaw" (88 : Nat) ({ cls := "MurmurDeskLaw", name := "cell", desc := "([II)I" } : Jvm.MethodName)) ∈ lw_all := lw_g (lw_at lw_m0 37 rfl) rfl
theorem q41 : (Jvm.Cond.static ({ cls := "MurmurDeskLaw", name := "cell", desc := "([II)I" } : Jvm.MethodName)) ∈ lw_all := lw_g (lw_at lw_m0 38 rfl) rfl
theorem q42 : (Jvm.Cond.code ({ cls := "MurmurDeskLaw", name := "cell", desc := "([II)I" } : Jvm.MethodName) method_2_code (2 : Nat) (Option.some Jvm.ClassFile.FieldType.int)) ∈ lw_all := lw_g (lw_at lw_m0 39 rfl) rfl
theorem q43 : (Jvm.Cond.methodLink "MurmurDeskLaw" (92 : Nat) ({ cls := "MurmurDeskLaw", name := "part", desc := "(II)I" } : Jvm.MethodName)) ∈ lw_all := lw_g (lw_at lw_m0 40 rfl) rfl
theorem q44 : (Jvm.Cond.static ({ cls := "MurmurDeskLaw", name := "part", desc := "(II)I" } : Jvm.MethodName)) ∈ lw_all := lw_g (lw_at lw_m0 41 rfl) rfl
theorem q45 : (Jvm.Cond.code ({ cls := "MurmurDeskLaw", name := "part", desc := "(II)I" } : Jvm.MethodName) method_3_code (2 : Nat) (Option.some Jvm.ClassFile.FieldType.int)) ∈ lw_all := lw_g (lw_at lw_m0 42 rfl) rfl
theorem q46 : (Jvm.Cond.methodLink "MurmurDeskLaw" (44 : Nat) ({ cls := "MurmurDeskLaw", name := "from", desc := "(II)I" } : Jvm.MethodName)) ∈ lw_all := lw_g (lw_at lw_m0 43 rfl) rfl
theorem q47 : (Jvm.Cond.static ({ cls := "MurmurDeskLaw", name := "from", desc := "(II)I" } : Jvm.MethodName)) ∈ lw_all := lw_g (lw_at lw_m0 44 rfl) rfl
theorem q48 : (Jvm.Cond.code ({ cls := "MurmurDeskLaw", name := "from", desc := "(II)I" } : Jvm.MethodName) method_10_code (2 : Nat) (Option.some Jvm.ClassFile.FieldType.int)) ∈ lw_all := lw_g (lw_at lw_m0 45 rfl) rfl
theorem q49 : (Jvm.Cond.constant "MurmurDeskLaw" (26 : Nat) (2147483647 : Int32)) ∈ lw_all := lw_g (lw_at lw_m0 46 rfl) rfl
theorem q50 : (Jvm.Cond.methodLink "MurmurDeskLaw" (95 : Nat) ({ cls := "MurmurDeskLaw", name := "sums", desc := "(LMurmurDesk;[IIIII)Z" } : Jvm.MethodName)) ∈ lw_all := lw_g (lw_at lw_m0 47 rfl) rfl
theorem q51 : (Jvm.Cond.static ({ cls := "MurmurDeskLaw", name := "sums", desc := "(LMurmurDesk;[IIIII)Z" } : Jvm.MethodName)) ∈ lw_all := lw_g (lw_at lw_m0 48 rfl) rfl
theorem q52 : (Jvm.Cond.code ({ cls := "MurmurDeskLaw", name := "sums", desc := "(LMurmurDesk;[IIIII)Z" } : Jvm.MethodName) method_11_code (10 : Nat) (Option.some Jvm.ClassFile.FieldType.boolean)) ∈ lw_all := lw_g (lw_at lw_m0 49 rfl) rfl
theorem q53 : (Jvm.Cond.methodLink "MurmurDeskLaw" (47 : Nat) ({ cls := "MurmurDesk", name := "small", desc := "(III)I" } : Jvm.MethodName)) ∈ lw_all := lw_g (lw_at lw_m0 50 rfl) rfl
theorem q76 : (Jvm.Cond.methodLink "MurmurDeskLaw" (53 : Nat) ({ cls := "MurmurDeskLaw", name := "small", desc := "([IIII)I" } : Jvm.MethodName)) ∈ lw_all := lw_g (lw_at lw_m0 73 rfl) rfl
theorem q77 : (Jvm.Cond.static ({ cls := "MurmurDeskLaw", name := "small", desc := "([IIII)I" } : Jvm.MethodName)) ∈ lw_all := lw_g (lw_at lw_m0 74 rfl) rfl
theorem q78 : (Jvm.Cond.code ({ cls := "MurmurDeskLaw", name := "small", desc := "([IIII)I" } : Jvm.MethodName) method_6_code (7 : Nat) (Option.some Jvm.ClassFile.FieldType.int)) ∈ lw_all := lw_g (lw_at lw_m0 75 rfl) rfl
theorem q79 : (Jvm.Cond.constant "MurmurDeskLaw" (7 : Nat) (-862048943 : Int32)) ∈ lw_all := lw_g (lw_at lw_m0 76 rfl) rfl
theorem q80 : (Jvm.Cond.methodLink "MurmurDeskLaw" (8 : Nat) ({ cls := "MurmurDeskLaw", name := "turned", desc := "(II)I" } : Jvm.MethodName)) ∈ lw_all := lw_g (lw_at lw_m0 77 rfl) rfl
theorem q81 : (Jvm.Cond.static ({ cls := "MurmurDeskLaw", name := "turned", desc := "(II)I" } : Jvm.MethodName)) ∈ lw_all := lw_g (lw_at lw_m0 78 rfl) rfl
theorem q82 : (Jvm.Cond.code ({ cls := "MurmurDeskLaw", name := "turned", desc := "(II)I" } : Jvm.MethodName) method_4_code (2 : Nat) (Option.some Jvm.ClassFile.FieldType.int)) ∈ lw_all := lw_g (lw_at lw_m0 79 rfl) rfl
theorem q83 : (Jvm.Cond.constant "MurmurDeskLaw" (14 : Nat) (461845907 : Int32)) ∈ lw_all := lw_g (lw_at lw_m0 80 rfl) rfl
theorem q84 : (Jvm.Cond.constant "MurmurDeskLaw" (15 : Nat) (-430675100 : Int32)) ∈ lw_all := lw_g (lw_at lw_m0 81 rfl) rfl
theorem q85 : (Jvm.Cond.constant "MurmurDeskLaw" (16 : Nat) (-2048144789 : Int32)) ∈ lw_all := lw_g (lw_at lw_m0 82 rfl) rfl
theorem q86 : (Jvm.Cond.constant "MurmurDeskLaw" (17 : Nat) (-1028477387 : Int32)) ∈ lw_all := lw_g (lw_at lw_m0 83 rfl) rfl
theorem q87 : (Jvm.Cond.methodLink "MurmurDeskLaw" (56 : Nat) ({ cls := "MurmurDesk", name := "wide", desc := "(IIII)J" } : Jvm.MethodName)) ∈ lw_all := lw_g (lw_at lw_m0 84 rfl) rfl
theorem q108 : (Jvm.Cond.methodLink "MurmurDeskLaw" (60 : Nat) ({ cls := "MurmurDeskLaw", name := "wide", desc := "([IIIII)J" } : Jvm.MethodName)) ∈ lw_all := lw_g (lw_at lw_m0 105 rfl) rfl
theorem q109 : (Jvm.Cond.static ({ cls := "MurmurDeskLaw", name := "wide", desc := "([IIIII)J" } : Jvm.MethodName)) ∈ lw_all := lw_g (lw_at lw_m0 106 rfl) rfl
theorem q110 : (Jvm.Cond.code ({ cls := "MurmurDeskLaw", name := "wide", desc := "([IIIII)J" } : Jvm.MethodName) method_9_code (19 : Nat) (Option.some Jvm.ClassFile.FieldType.long)) ∈ lw_all := lw_g (lw_at lw_m0 107 rfl) rfl
theorem q111 : (Jvm.Cond.constantLong "MurmurDeskLaw" (22 : Nat) (-8663945395140668459 : Int64)) ∈ lw_all := lw_g (lw_at lw_m0 108 rfl) rfl
theorem q112 : (Jvm.Cond.constantLong "MurmurDeskLaw" (24 : Nat) (5545529020109919103 : Int64)) ∈ lw_all := lw_g (lw_at lw_m0 109 rfl) rfl
theorem q113 : (Jvm.Cond.methodLink "MurmurDeskLaw" (27 : Nat) ({ cls := "MurmurDeskLaw", name := "word", desc := "([III)J" } : Jvm.MethodName)) ∈ lw_all := lw_g (lw_at lw_m0 110 rfl) rfl
theorem q114 : (Jvm.Cond.static ({ cls := "MurmurDeskLaw", name := "word", desc := "([III)J" } : Jvm.MethodName)) ∈ lw_all := lw_g (lw_at lw_m0 111 rfl) rfl
theorem q115 : (Jvm.Cond.code ({ cls := "MurmurDeskLaw", name := "word", desc := "([III)J" } : Jvm.MethodName) method_8_code (6 : Nat) (Option.some Jvm.ClassFile.FieldType.long)) ∈ lw_all := lw_g (lw_at lw_m0 112 rfl) rfl
theorem q116 : (Jvm.Cond.methodLink "MurmurDeskLaw" (31 : Nat) ({ cls := "MurmurDeskLaw", name := "turned", desc := "(JI)J" } : Jvm.MethodName)) ∈ lw_all := lw_g (lw_at lw_m0 113 rfl) rfl
theorem q117 : (Jvm.Cond.static ({ cls := "MurmurDeskLaw", name := "turned", desc := "(JI)J" } : Jvm.MethodName)) ∈ lw_all := lw_g (lw_at lw_m0 114 rfl) rfl
theorem q118 : (Jvm.Cond.code ({ cls := "MurmurDeskLaw", name := "turned", desc := "(JI)J" } : Jvm.MethodName) method_5_code (3 : Nat) (Option.some Jvm.ClassFile.FieldType.long)) ∈ lw_all := lw_g (lw_at lw_m0 115 rfl) rfl
theorem q119 : (Jvm.Cond.constantLong "MurmurDeskLaw" (34 : Nat) (5 : Int64)) ∈ lw_all := lw_g (lw_at lw_m0 116 rfl) rfl
theorem q120 : (Jvm.Cond.constantLong "MurmurDeskLaw" (36 : Nat) (1390208809 : Int64)) ∈ lw_all := lw_g (lw_at lw_m0 117 rfl) rfl
theorem q121 : (Jvm.Cond.constantLong "MurmurDeskLaw" (38 : Nat) (944331445 : Int64)) ∈ lw_all := lw_g (lw_at lw_m0 118 rfl) rfl
theorem q122 : (Jvm.Cond.methodLink "MurmurDeskLaw" (40 : Nat) ({ cls := "MurmurDeskLaw", name := "stirred", desc := "(J)J" } : Jvm.MethodName)) ∈ lw_all := lw_g (lw_at lw_m0 119 rfl) rfl
theorem q123 : (Jvm.Cond.static ({ cls := "MurmurDeskLaw", name := "stirred", desc := "(J)J" } : Jvm.MethodName)) ∈ lw_all := lw_g (lw_at lw_m0 120 rfl) rfl
theorem q124 : (Jvm.Cond.code ({ cls := "MurmurDeskLaw", name := "stirred", desc := "(J)J" } : Jvm.MethodName) method_7_code (4 : Nat) (Option.some Jvm.ClassFile.FieldType.long)) ∈ lw_all := lw_g (lw_at lw_m0 121 rfl) rfl
theorem q125 : (Jvm.Cond.constantLong "MurmurDeskLaw" (18 : Nat) (-49064778989728563 : Int64)) ∈ lw_all := lw_g (lw_at lw_m0 122 rfl) rfl
theorem q126 : (Jvm.Cond.constantLong "MurmurDeskLaw" (20 : Nat) (-4265267296055464877 : Int64)) ∈ lw_all := lw_g (lw_at lw_m0 123 rfl) rfl
theorem q128 : (Jvm.Cond.methodLink "MurmurDeskLaw" (99 : Nat) ({ cls := "MurmurDeskLaw", name := "isKnown", desc := "()Z" } : Jvm.MethodName)) ∈ lw_all := lw_g (lw_at lw_m0 125 rfl) rfl
theorem q129 : (Jvm.Cond.static ({ cls := "MurmurDeskLaw", name := "isKnown", desc := "()Z" } : Jvm.MethodName)) ∈ lw_all := lw_g (lw_at lw_m0 126 rfl) rfl
theorem q130 : (Jvm.Cond.code ({ cls := "MurmurDeskLaw", name := "isKnown", desc := "()Z" } : Jvm.MethodName) method_12_code (1 : Nat) (Option.some Jvm.ClassFile.FieldType.boolean)) ∈ lw_all := lw_g (lw_at lw_m0 127 rfl) rfl
theorem q131 : (Jvm.Cond.constant "MurmurDeskLaw" (64 : Nat) (1364076727 : Int32)) ∈ lw_all := lw_g (lw_at lw_m0 128 rfl) rfl
theorem q132 : (Jvm.Cond.constant "MurmurDeskLaw" (65 : Nat) (1416127776 : Int32)) ∈ lw_all := lw_g (lw_at lw_m0 129 rfl) rfl
theorem q133 : (Jvm.Cond.constant "MurmurDeskLaw" (66 : Nat) (1903520099 : Int32)) ∈ lw_all := lw_g (lw_at lw_m0 130 rfl) rfl
theorem q134 : (Jvm.Cond.constant "MurmurDeskLaw" (67 : Nat) (1797284466 : Int32)) ∈ lw_all := lw_g (lw_at lw_m0 131 rfl) rfl
theorem q135 : (Jvm.Cond.constant "MurmurDeskLaw" (68 : Nat) (1870097952 : Int32)) ∈ lw_all := lw_g (lw_at lw_m0 132 rfl) rfl
theorem q136 : (Jvm.Cond.constant "MurmurDeskLaw" (73 : Nat) (1718581280 : Int32)) ∈ lw_all := lw_g (lw_at lw_m0 133 rfl) rfl
theorem q137 : (Jvm.Cond.constant "MurmurDeskLaw" (74 : Nat) (1786080624 : Int32)) ∈ lw_all := lw_g (lw_at lw_m0 134 rfl) rfl
theorem q138 : (Jvm.Cond.constant "MurmurDeskLaw" (75 : Nat) (1931505526 : Int32)) ∈ lw_all := lw_g (lw_at lw_m0 135 rfl) rfl
theorem q139 : (Jvm.Cond.constant "MurmurDeskLaw" (76 : Nat) (1701978228 : Int32)) ∈ lw_all := lw_g (lw_at lw_m0 136 rfl) rfl
theorem q140 : (Jvm.Cond.constant "MurmurDeskLaw" (77 : Nat) (1751457900 : Int32)) ∈ lw_all := lw_g (lw_at lw_m0 137 rfl) rfl
theorem q141 : (Jvm.Cond.constant "MurmurDeskLaw" (78 : Nat) (1635416352 : Int32)) ∈ lw_all := lw_g (lw_at lw_m0 138 rfl) rfl
theorem q142 : (Jvm.Cond.constant "MurmurDeskLaw" (79 : Nat) (1685022464 : Int32)) ∈ lw_all := lw_g (lw_at lw_m0 139 rfl) rfl
theorem q143 : (Jvm.Cond.constantLong "MurmurDeskLaw" (84 : Nat) (-2068352364225029268 : Int64)) ∈ lw_all := lw_g (lw_at lw_m0 140 rfl) rfl
theorem q144 : (Jvm.Cond.constantLong "MurmurDeskLaw" (86 : Nat) (8809951995912426311 : Int64)) ∈ lw_all := lw_g (lw_at lw_m0 141 rfl) rfl
/-! the law's own entry -/
set_option maxRecDepth 100000
abbrev cL_law : ByteArray := code
def dkwL_law_17 : List UInt8 := [184, 0, 88, 184, 0, 95, 153, 0, 13, 184, 0, 99, 153, 0, 7, 4, 167, 0, 4, 3, 172]
abbrev dktL_law_17 : List UInt8 := dkwL_law_17 ++ []
def dkwL_law_16 : List UInt8 := [132, 3, 16, 167, 255, 160, 43, 4, 5, 6, 7, 182, 0, 69, 154, 0, 29, 43, 44, 29, 3, 29, 42, 4]
abbrev dktL_law_16 : List UInt8 := dkwL_law_16 ++ dktL_law_17
def dkwL_law_15 : List UInt8 := [21, 5, 96, 25, 4, 21, 5, 7, 108, 46, 21, 5, 7, 112, 184, 0, 92, 79, 132, 5, 1, 167, 255, 226]
abbrev dktL_law_15 : List UInt8 := dkwL_law_15 ++ dktL_law_16
def dkwL_law_14 : List UInt8 := [184, 0, 88, 79, 89, 6, 29, 116, 79, 58, 4, 3, 54, 5, 21, 5, 16, 16, 162, 0, 29, 44, 29]
abbrev dktL_law_14 : List UInt8 := dkwL_law_14 ++ dktL_law_15
def dkwL_law_13 : List UInt8 := [154, 0, 5, 3, 172, 7, 188, 10, 89, 3, 29, 79, 89, 4, 2, 79, 89, 5, 42, 29, 16, 96, 112]
abbrev dktL_law_13 : List UInt8 := dkwL_law_13 ++ dktL_law_14
def dkwL_law_12 : List UInt8 := [29, 17, 0, 240, 163, 0, 95, 43, 29, 2, 42, 29, 16, 96, 112, 184, 0, 88, 29, 116, 182, 0, 69]
abbrev dktL_law_12 : List UInt8 := dkwL_law_12 ++ dktL_law_13
def dkwL_law_11 : List UInt8 := [21, 4, 104, 16, 7, 96, 184, 0, 88, 3, 184, 0, 95, 154, 0, 5, 3, 172, 132, 4, 1, 167, 254, 253]
abbrev dktL_law_11 : List UInt8 := dkwL_law_11 ++ dktL_law_12
def dkwL_law_10 : List UInt8 := [153, 0, 40, 43, 44, 29, 3, 29, 21, 10, 184, 0, 95, 153, 0, 27, 43, 44, 29, 21, 11, 42, 16, 8]
abbrev dktL_law_10 : List UInt8 := dkwL_law_10 ++ dktL_law_11
def dkwL_law_9 : List UInt8 := [54, 11, 43, 44, 29, 21, 10, 21, 11, 42, 16, 8, 21, 4, 104, 16, 6, 96, 184, 0, 88, 184, 0, 95]
abbrev dktL_law_9 : List UInt8 := dkwL_law_9 ++ dktL_law_10
def dkwL_law_8 : List UInt8 := [16, 8, 21, 4, 104, 7, 96, 184, 0, 88, 54, 10, 42, 16, 8, 21, 4, 104, 8, 96, 184, 0, 88]
abbrev dktL_law_8 : List UInt8 := dkwL_law_8 ++ dktL_law_9
def dkwL_law_7 : List UInt8 := [21, 10, 7, 108, 46, 21, 10, 7, 112, 184, 0, 92, 79, 132, 10, 1, 167, 255, 226, 132, 3, 16, 42]
abbrev dktL_law_7 : List UInt8 := dkwL_law_7 ++ dktL_law_8
def dkwL_law_6 : List UInt8 := [6, 21, 8, 79, 58, 9, 3, 54, 10, 21, 10, 16, 16, 162, 0, 29, 44, 29, 21, 10, 96, 25, 9]
abbrev dktL_law_6 : List UInt8 := dkwL_law_6 ++ dktL_law_7
def dkwL_law_5 : List UInt8 := [154, 0, 5, 3, 172, 7, 188, 10, 89, 3, 21, 5, 79, 89, 4, 21, 6, 79, 89, 5, 21, 7, 79, 89]
abbrev dktL_law_5 : List UInt8 := dkwL_law_5 ++ dktL_law_6
def dkwL_law_4 : List UInt8 := [21, 5, 182, 0, 80, 21, 5, 29, 184, 0, 44, 62, 43, 21, 5, 21, 6, 21, 7, 21, 8, 182, 0, 69]
abbrev dktL_law_4 : List UInt8 := dkwL_law_4 ++ dktL_law_5
def dkwL_law_3 : List UInt8 := [6, 96, 184, 0, 88, 54, 8, 21, 4, 7, 112, 6, 160, 0, 23, 21, 5, 4, 126, 154, 0, 16, 43]
abbrev dktL_law_3 : List UInt8 := dkwL_law_3 ++ dktL_law_4
def dkwL_law_2 : List UInt8 := [184, 0, 88, 54, 6, 42, 16, 8, 21, 4, 104, 5, 96, 184, 0, 88, 54, 7, 42, 16, 8, 21, 4, 104]
abbrev dktL_law_2 : List UInt8 := dkwL_law_2 ++ dktL_law_3
def dkwL_law_1 : List UInt8 := [162, 1, 2, 42, 16, 8, 21, 4, 104, 184, 0, 88, 54, 5, 42, 16, 8, 21, 4, 104, 4, 96]
abbrev dktL_law_1 : List UInt8 := dkwL_law_1 ++ dktL_law_2
def dkwL_law_0 : List UInt8 := [187, 0, 48, 89, 183, 0, 63, 76, 17, 1, 0, 188, 10, 77, 3, 62, 3, 54, 4, 21, 4, 16, 12]
abbrev dktL_law_0 : List UInt8 := dkwL_law_0 ++ dktL_law_1
theorem dksL_law_0 : cL_law.data.toList.drop 0 = dktL_law_0 := by decide +kernel
theorem dksL_law_1 : cL_law.data.toList.drop 23 = dktL_law_1 := dk_seg dksL_law_0 23 rfl rfl
theorem dksL_law_2 : cL_law.data.toList.drop 45 = dktL_law_2 := dk_seg dksL_law_1 22 rfl rfl
theorem dksL_law_3 : cL_law.data.toList.drop 69 = dktL_law_3 := dk_seg dksL_law_2 24 rfl rfl
theorem dksL_law_4 : cL_law.data.toList.drop 92 = dktL_law_4 := dk_seg dksL_law_3 23 rfl rfl
theorem dksL_law_5 : cL_law.data.toList.drop 116 = dktL_law_5 := dk_seg dksL_law_4 24 rfl rfl
theorem dksL_law_6 : cL_law.data.toList.drop 140 = dktL_law_6 := dk_seg dksL_law_5 24 rfl rfl
theorem dksL_law_7 : cL_law.data.toList.drop 163 = dktL_law_7 := dk_seg dksL_law_6 23 rfl rfl
theorem dksL_law_8 : cL_law.data.toList.drop 186 = dktL_law_8 := dk_seg dksL_law_7 23 rfl rfl
theorem dksL_law_9 : cL_law.data.toList.drop 209 = dktL_law_9 := dk_seg dksL_law_8 23 rfl rfl
theorem dksL_law_10 : cL_law.data.toList.drop 233 = dktL_law_10 := dk_seg dksL_law_9 24 rfl rfl
theorem dksL_law_11 : cL_law.data.toList.drop 257 = dktL_law_11 := dk_seg dksL_law_10 24 rfl rfl
theorem dksL_law_12 : cL_law.data.toList.drop 281 = dktL_law_12 := dk_seg dksL_law_11 24 rfl rfl
theorem dksL_law_13 : cL_law.data.toList.drop 304 = dktL_law_13 := dk_seg dksL_law_12 23 rfl rfl
theorem dksL_law_14 : cL_law.data.toList.drop 327 = dktL_law_14 := dk_seg dksL_law_13 23 rfl rfl
theorem dksL_law_15 : cL_law.data.toList.drop 350 = dktL_law_15 := dk_seg dksL_law_14 23 rfl rfl
theorem dksL_law_16 : cL_law.data.toList.drop 374 = dktL_law_16 := dk_seg dksL_law_15 24 rfl rfl
theorem dksL_law_17 : cL_law.data.toList.drop 398 = dktL_law_17 := dk_seg dksL_law_16 24 rfl rfl
theorem dL_law_0 : decode cL_law 0 = .ok (.new 48, 3) := dk_187 0 48 (dk_at dksL_law_0 0 rfl rfl)
theorem dL_law_3 : decode cL_law 3 = .ok (.dup, 1) := dk_89 (dk_at dksL_law_0 3 rfl rfl)
theorem dL_law_4 : decode cL_law 4 = .ok (.invokespecial 63, 3) := dk_183 0 63 (dk_at dksL_law_0 4 rfl rfl)
theorem dL_law_7 : decode cL_law 7 = .ok (.astore_n 1, 1) := dk_76 (dk_at dksL_law_0 7 rfl rfl)
theorem dL_law_8 : decode cL_law 8 = .ok (.sipush 256, 3) := dk_17 1 0 (dk_at dksL_law_0 8 rfl rfl)
theorem dL_law_11 : decode cL_law 11 = .ok (.newarray .int, 2) := dk_188_10 (dk_at dksL_law_0 11 rfl rfl)
theorem dL_law_13 : decode cL_law 13 = .ok (.astore_n 2, 1) := dk_77 (dk_at dksL_law_0 13 rfl rfl)
theorem dL_law_14 : decode cL_law 14 = .ok (.iconst 0, 1) := dk_3 (dk_at dksL_law_0 14 rfl rfl)
theorem dL_law_15 : decode cL_law 15 = .ok (.istore_n 3, 1) := dk_62 (dk_at dksL_law_0 15 rfl rfl)
theorem dL_law_16 : decode cL_law 16 = .ok (.iconst 0, 1) := dk_3 (dk_at dksL_law_0 16 rfl rfl)
theorem dL_law_17 : decode cL_law 17 = .ok (.istore 4, 2) := dk_54 4 (dk_at dksL_law_0 17 rfl rfl)
theorem dL_law_19 : decode cL_law 19 = .ok (.iload 4, 2) := dk_21 4 (dk_at dksL_law_0 19 rfl rfl)
theorem dL_law_21 : decode cL_law 21 = .ok (.bipush 12, 2) := dk_16 12 (dk_at dksL_law_0 21 rfl rfl)
theorem dL_law_23 : decode cL_law 23 = .ok (.if_icmp .ge 258, 3) := dk_162 1 2 (dk_at dksL_law_1 0 rfl rfl)
theorem dL_law_26 : decode cL_law 26 = .ok (.aload_n 0, 1) := dk_42 (dk_at dksL_law_1 3 rfl rfl)
theorem dL_law_27 : decode cL_law 27 = .ok (.bipush 8, 2) := dk_16 8 (dk_at dksL_law_1 4 rfl rfl)
theorem dL_law_29 : decode cL_law 29 = .ok (.iload 4, 2) := dk_21 4 (dk_at dksL_law_1 6 rfl rfl)
theorem dL_law_31 : decode cL_law 31 = .ok (.imul, 1) := dk_104 (dk_at dksL_law_1 8 rfl rfl)
theorem dL_law_32 : decode cL_law 32 = .ok (.invokestatic 88, 3) := dk_184 0 88 (dk_at dksL_law_1 9 rfl rfl)
theorem dL_law_35 : decode cL_law 35 = .ok (.istore 5, 2) := dk_54 5 (dk_at dksL_law_1 12 rfl rfl)
theorem dL_law_37 : decode cL_law 37 = .ok (.aload_n 0, 1) := dk_42 (dk_at dksL_law_1 14 rfl rfl)
theorem dL_law_38 : decode cL_law 38 = .ok (.bipush 8, 2) := dk_16 8 (dk_at dksL_law_1 15 rfl rfl)
theorem dL_law_40 : decode cL_law 40 = .ok (.iload 4, 2) := dk_21 4 (dk_at dksL_law_1 17 rfl rfl)
theorem dL_law_42 : decode cL_law 42 = .ok (.imul, 1) := dk_104 (dk_at dksL_law_1 19 rfl rfl)
theorem dL_law_43 : decode cL_law 43 = .ok (.iconst 1, 1) := dk_4 (dk_at dksL_law_1 20 rfl rfl)
theorem dL_law_44 : decode cL_law 44 = .ok (.iadd, 1) := dk_96 (dk_at dksL_law_1 21 rfl rfl)
theorem dL_law_45 : decode cL_law 45 = .ok (.invokestatic 88, 3) := dk_184 0 88 (dk_at dksL_law_2 0 rfl rfl)
theorem dL_law_48 : decode cL_law 48 = .ok (.istore 6, 2) := dk_54 6 (dk_at dksL_law_2 3 rfl rfl)
theorem dL_law_50 : decode cL_law 50 = .ok (.aload_n 0, 1) := dk_42 (dk_at dksL_law_2 5 rfl rfl)
theorem dL_law_51 : decode cL_law 51 = .ok (.bipush 8, 2) := dk_16 8 (dk_at dksL_law_2 6 rfl rfl)
theorem dL_law_53 : decode cL_law 53 = .ok (.iload 4, 2) := dk_21 4 (dk_at dksL_law_2 8 rfl rfl)
theorem dL_law_55 : decode cL_law 55 = .ok (.imul, 1) := dk_104 (dk_at dksL_law_2 10 rfl rfl)
theorem dL_law_56 : decode cL_law 56 = .ok (.iconst 2, 1) := dk_5 (dk_at dksL_law_2 11 rfl rfl)
theorem dL_law_57 : decode cL_law 57 = .ok (.iadd, 1) := dk_96 (dk_at dksL_law_2 12 rfl rfl)
theorem dL_law_58 : decode cL_law 58 = .ok (.invokestatic 88, 3) := dk_184 0 88 (dk_at dksL_law_2 13 rfl rfl)
theorem dL_law_61 : decode cL_law 61 = .ok (.istore 7, 2) := dk_54 7 (dk_at dksL_law_2 16 rfl rfl)
theorem dL_law_63 : decode cL_law 63 = .ok (.aload_n 0, 1) := dk_42 (dk_at dksL_law_2 18 rfl rfl)
theorem dL_law_64 : decode cL_law 64 = .ok (.bipush 8, 2) := dk_16 8 (dk_at dksL_law_2 19 rfl rfl)
theorem dL_law_66 : decode cL_law 66 = .ok (.iload 4, 2) := dk_21 4 (dk_at dksL_law_2 21 rfl rfl)
theorem dL_law_68 : decode cL_law 68 = .ok (.imul, 1) := dk_104 (dk_at dksL_law_2 23 rfl rfl)
theorem dL_law_69 : decode cL_law 69 = .ok (.iconst 3, 1) := dk_6 (dk_at dksL_law_3 0 rfl rfl)
theorem dL_law_70 : decode cL_law 70 = .ok (.iadd, 1) := dk_96 (dk_at dksL_law_3 1 rfl rfl)
theorem dL_law_71 : decode cL_law 71 = .ok (.invokestatic 88, 3) := dk_184 0 88 (dk_at dksL_law_3 2 rfl rfl)
theorem dL_law_74 : decode cL_law 74 = .ok (.istore 8, 2) := dk_54 8 (dk_at dksL_law_3 5 rfl rfl)
theorem dL_law_76 : decode cL_law 76 = .ok (.iload 4, 2) := dk_21 4 (dk_at dksL_law_3 7 rfl rfl)
theorem dL_law_78 : decode cL_law 78 = .ok (.iconst 4, 1) := dk_7 (dk_at dksL_law_3 9 rfl rfl)
theorem dL_law_79 : decode cL_law 79 = .ok (.irem, 1) := dk_112 (dk_at dksL_law_3 10 rfl rfl)
theorem dL_law_80 : decode cL_law 80 = .ok (.iconst 3, 1) := dk_6 (dk_at dksL_law_3 11 rfl rfl)
theorem dL_law_81 : decode cL_law 81 = .ok (.if_icmp .ne 23, 3) := dk_160 0 23 (dk_at dksL_law_3 12 rfl rfl)
theorem dL_law_84 : decode cL_law 84 = .ok (.iload 5, 2) := dk_21 5 (dk_at dksL_law_3 15 rfl rfl)
theorem dL_law_86 : decode cL_law 86 = .ok (.iconst 1, 1) := dk_4 (dk_at dksL_law_3 17 rfl rfl)
theorem dL_law_87 : decode cL_law 87 = .ok (.iand, 1) := dk_126 (dk_at dksL_law_3 18 rfl rfl)
theorem dL_law_88 : decode cL_law 88 = .ok (.ifCond .ne 16, 3) := dk_154 0 16 (dk_at dksL_law_3 19 rfl rfl)
theorem dL_law_91 : decode cL_law 91 = .ok (.aload_n 1, 1) := dk_43 (dk_at dksL_law_3 22 rfl rfl)
theorem dL_law_92 : decode cL_law 92 = .ok (.iload 5, 2) := dk_21 5 (dk_at dksL_law_4 0 rfl rfl)
theorem dL_law_94 : decode cL_law 94 = .ok (.invokevirtual 80, 3) := dk_182 0 80 (dk_at dksL_law_4 2 rfl rfl)
theorem dL_law_97 : decode cL_law 97 = .ok (.iload 5, 2) := dk_21 5 (dk_at dksL_law_4 5 rfl rfl)
theorem dL_law_99 : decode cL_law 99 = .ok (.iload_n 3, 1) := dk_29 (dk_at dksL_law_4 7 rfl rfl)
theorem dL_law_100 : decode cL_law 100 = .ok (.invokestatic 44, 3) := dk_184 0 44 (dk_at dksL_law_4 8 rfl rfl)
theorem dL_law_103 : decode cL_law 103 = .ok (.istore_n 3, 1) := dk_62 (dk_at dksL_law_4 11 rfl rfl)
theorem dL_law_104 : decode cL_law 104 = .ok (.aload_n 1, 1) := dk_43 (dk_at dksL_law_4 12 rfl rfl)
theorem dL_law_105 : decode cL_law 105 = .ok (.iload 5, 2) := dk_21 5 (dk_at dksL_law_4 13 rfl rfl)
theorem dL_law_107 : decode cL_law 107 = .ok (.iload 6, 2) := dk_21 6 (dk_at dksL_law_4 15 rfl rfl)
theorem dL_law_109 : decode cL_law 109 = .ok (.iload 7, 2) := dk_21 7 (dk_at dksL_law_4 17 rfl rfl)
theorem dL_law_111 : decode cL_law 111 = .ok (.iload 8, 2) := dk_21 8 (dk_at dksL_law_4 19 rfl rfl)
theorem dL_law_113 : decode cL_law 113 = .ok (.invokevirtual 69, 3) := dk_182 0 69 (dk_at dksL_law_4 21 rfl rfl)
theorem dL_law_116 : decode cL_law 116 = .ok (.ifCond .ne 5, 3) := dk_154 0 5 (dk_at dksL_law_5 0 rfl rfl)
theorem dL_law_119 : decode cL_law 119 = .ok (.iconst 0, 1) := dk_3 (dk_at dksL_law_5 3 rfl rfl)
theorem dL_law_120 : decode cL_law 120 = .ok (.ireturn, 1) := dk_172 (dk_at dksL_law_5 4 rfl rfl)
theorem dL_law_121 : decode cL_law 121 = .ok (.iconst 4, 1) := dk_7 (dk_at dksL_law_5 5 rfl rfl)
theorem dL_law_122 : decode cL_law 122 = .ok (.newarray .int, 2) := dk_188_10 (dk_at dksL_law_5 6 rfl rfl)
theorem dL_law_124 : decode cL_law 124 = .ok (.dup, 1) := dk_89 (dk_at dksL_law_5 8 rfl rfl)
theorem dL_law_125 : decode cL_law 125 = .ok (.iconst 0, 1) := dk_3 (dk_at dksL_law_5 9 rfl rfl)
theorem dL_law_126 : decode cL_law 126 = .ok (.iload 5, 2) := dk_21 5 (dk_at dksL_law_5 10 rfl rfl)
theorem dL_law_128 : decode cL_law 128 = .ok (.iastore, 1) := dk_79 (dk_at dksL_law_5 12 rfl rfl)
theorem dL_law_129 : decode cL_law 129 = .ok (.dup, 1) := dk_89 (dk_at dksL_law_5 13 rfl rfl)
theorem dL_law_130 : decode cL_law 130 = .ok (.iconst 1, 1) := dk_4 (dk_at dksL_law_5 14 rfl rfl)
theorem dL_law_131 : decode cL_law 131 = .ok (.iload 6, 2) := dk_21 6 (dk_at dksL_law_5 15 rfl rfl)
theorem dL_law_133 : decode cL_law 133 = .ok (.iastore, 1) := dk_79 (dk_at dksL_law_5 17 rfl rfl)
theorem dL_law_134 : decode cL_law 134 = .ok (.dup, 1) := dk_89 (dk_at dksL_law_5 18 rfl rfl)
theorem dL_law_135 : decode cL_law 135 = .ok (.iconst 2, 1) := dk_5 (dk_at dksL_law_5 19 rfl rfl)
theorem dL_law_136 : decode cL_law 136 = .ok (.iload 7, 2) := dk_21 7 (dk_at dksL_law_5 20 rfl rfl)
theorem dL_law_138 : decode cL_law 138 = .ok (.iastore, 1) := dk_79 (dk_at dksL_law_5 22 rfl rfl)
theorem dL_law_139 : decode cL_law 139 = .ok (.dup, 1) := dk_89 (dk_at dksL_law_5 23 rfl rfl)
theorem dL_law_140 : decode cL_law 140 = .ok (.iconst 3, 1) := dk_6 (dk_at dksL_law_6 0 rfl rfl)
theorem dL_law_141 : decode cL_law 141 = .ok (.iload 8, 2) := dk_21 8 (dk_at dksL_law_6 1 rfl rfl)
theorem dL_law_143 : decode cL_law 143 = .ok (.iastore, 1) := dk_79 (dk_at dksL_law_6 3 rfl rfl)
theorem dL_law_144 : decode cL_law 144 = .ok (.astore 9, 2) := dk_58 9 (dk_at dksL_law_6 4 rfl rfl)
theorem dL_law_146 : decode cL_law 146 = .ok (.iconst 0, 1) := dk_3 (dk_at dksL_law_6 6 rfl rfl)
theorem dL_law_147 : decode cL_law 147 = .ok (.istore 10, 2) := dk_54 10 (dk_at dksL_law_6 7 rfl rfl)
theorem dL_law_149 : decode cL_law 149 = .ok (.iload 10, 2) := dk_21 10 (dk_at dksL_law_6 9 rfl rfl)
theorem dL_law_151 : decode cL_law 151 = .ok (.bipush 16, 2) := dk_16 16 (dk_at dksL_law_6 11 rfl rfl)
theorem dL_law_153 : decode cL_law 153 = .ok (.if_icmp .ge 29, 3) := dk_162 0 29 (dk_at dksL_law_6 13 rfl rfl)
theorem dL_law_156 : decode cL_law 156 = .ok (.aload_n 2, 1) := dk_44 (dk_at dksL_law_6 16 rfl rfl)
theorem dL_law_157 : decode cL_law 157 = .ok (.iload_n 3, 1) := dk_29 (dk_at dksL_law_6 17 rfl rfl)
theorem dL_law_158 : decode cL_law 158 = .ok (.iload 10, 2) := dk_21 10 (dk_at dksL_law_6 18 rfl rfl)
theorem dL_law_160 : decode cL_law 160 = .ok (.iadd, 1) := dk_96 (dk_at dksL_law_6 20 rfl rfl)
theorem dL_law_161 : decode cL_law 161 = .ok (.aload 9, 2) := dk_25 9 (dk_at dksL_law_6 21 rfl rfl)
theorem dL_law_163 : decode cL_law 163 = .ok (.iload 10, 2) := dk_21 10 (dk_at dksL_law_7 0 rfl rfl)
theorem dL_law_165 : decode cL_law 165 = .ok (.iconst 4, 1) := dk_7 (dk_at dksL_law_7 2 rfl rfl)
theorem dL_law_166 : decode cL_law 166 = .ok (.idiv, 1) := dk_108 (dk_at dksL_law_7 3 rfl rfl)
theorem dL_law_167 : decode cL_law 167 = .ok (.iaload, 1) := dk_46 (dk_at dksL_law_7 4 rfl rfl)
theorem dL_law_168 : decode cL_law 168 = .ok (.iload 10, 2) := dk_21 10 (dk_at dksL_law_7 5 rfl rfl)
theorem dL_law_170 : decode cL_law 170 = .ok (.iconst 4, 1) := dk_7 (dk_at dksL_law_7 7 rfl rfl)
theorem dL_law_171 : decode cL_law 171 = .ok (.irem, 1) := dk_112 (dk_at dksL_law_7 8 rfl rfl)
theorem dL_law_172 : decode cL_law 172 = .ok (.invokestatic 92, 3) := dk_184 0 92 (dk_at dksL_law_7 9 rfl rfl)
theorem dL_law_175 : decode cL_law 175 = .ok (.iastore, 1) := dk_79 (dk_at dksL_law_7 12 rfl rfl)
theorem dL_law_176 : decode cL_law 176 = .ok (.iinc 10 1, 3) := dk_132 10 1 (dk_at dksL_law_7 13 rfl rfl)
theorem dL_law_179 : decode cL_law 179 = .ok (.goto (-30), 3) := dk_167 255 226 (dk_at dksL_law_7 16 rfl rfl)
theorem dL_law_182 : decode cL_law 182 = .ok (.iinc 3 16, 3) := dk_132 3 16 (dk_at dksL_law_7 19 rfl rfl)
theorem dL_law_185 : decode cL_law 185 = .ok (.aload_n 0, 1) := dk_42 (dk_at dksL_law_7 22 rfl rfl)
theorem dL_law_186 : decode cL_law 186 = .ok (.bipush 8, 2) := dk_16 8 (dk_at dksL_law_8 0 rfl rfl)
theorem dL_law_188 : decode cL_law 188 = .ok (.iload 4, 2) := dk_21 4 (dk_at dksL_law_8 2 rfl rfl)
theorem dL_law_190 : decode cL_law 190 = .ok (.imul, 1) := dk_104 (dk_at dksL_law_8 4 rfl rfl)
theorem dL_law_191 : decode cL_law 191 = .ok (.iconst 4, 1) := dk_7 (dk_at dksL_law_8 5 rfl rfl)
theorem dL_law_192 : decode cL_law 192 = .ok (.iadd, 1) := dk_96 (dk_at dksL_law_8 6 rfl rfl)
theorem dL_law_193 : decode cL_law 193 = .ok (.invokestatic 88, 3) := dk_184 0 88 (dk_at dksL_law_8 7 rfl rfl)
theorem dL_law_196 : decode cL_law 196 = .ok (.istore 10, 2) := dk_54 10 (dk_at dksL_law_8 10 rfl rfl)
theorem dL_law_198 : decode cL_law 198 = .ok (.aload_n 0, 1) := dk_42 (dk_at dksL_law_8 12 rfl rfl)
theorem dL_law_199 : decode cL_law 199 = .ok (.bipush 8, 2) := dk_16 8 (dk_at dksL_law_8 13 rfl rfl)
theorem dL_law_201 : decode cL_law 201 = .ok (.iload 4, 2) := dk_21 4 (dk_at dksL_law_8 15 rfl rfl)
theorem dL_law_203 : decode cL_law 203 = .ok (.imul, 1) := dk_104 (dk_at dksL_law_8 17 rfl rfl)
theorem dL_law_204 : decode cL_law 204 = .ok (.iconst 5, 1) := dk_8 (dk_at dksL_law_8 18 rfl rfl)
theorem dL_law_205 : decode cL_law 205 = .ok (.iadd, 1) := dk_96 (dk_at dksL_law_8 19 rfl rfl)
theorem dL_law_206 : decode cL_law 206 = .ok (.invokestatic 88, 3) := dk_184 0 88 (dk_at dksL_law_8 20 rfl rfl)
theorem dL_law_209 : decode cL_law 209 = .ok (.istore 11, 2) := dk_54 11 (dk_at dksL_law_9 0 rfl rfl)
theorem dL_law_211 : decode cL_law 211 = .ok (.aload_n 1, 1) := dk_43 (dk_at dksL_law_9 2 rfl rfl)
theorem dL_law_212 : decode cL_law 212 = .ok (.aload_n 2, 1) := dk_44 (dk_at dksL_law_9 3 rfl rfl)
theorem dL_law_213 : decode cL_law 213 = .ok (.iload_n 3, 1) := dk_29 (dk_at dksL_law_9 4 rfl rfl)
theorem dL_law_214 : decode cL_law 214 = .ok (.iload 10, 2) := dk_21 10 (dk_at dksL_law_9 5 rfl rfl)
theorem dL_law_216 : decode cL_law 216 = .ok (.iload 11, 2) := dk_21 11 (dk_at dksL_law_9 7 rfl rfl)
theorem dL_law_218 : decode cL_law 218 = .ok (.aload_n 0, 1) := dk_42 (dk_at dksL_law_9 9 rfl rfl)
theorem dL_law_219 : decode cL_law 219 = .ok (.bipush 8, 2) := dk_16 8 (dk_at dksL_law_9 10 rfl rfl)
theorem dL_law_221 : decode cL_law 221 = .ok (.iload 4, 2) := dk_21 4 (dk_at dksL_law_9 12 rfl rfl)
theorem dL_law_223 : decode cL_law 223 = .ok (.imul, 1) := dk_104 (dk_at dksL_law_9 14 rfl rfl)
theorem dL_law_224 : decode cL_law 224 = .ok (.bipush 6, 2) := dk_16 6 (dk_at dksL_law_9 15 rfl rfl)
theorem dL_law_226 : decode cL_law 226 = .ok (.iadd, 1) := dk_96 (dk_at dksL_law_9 17 rfl rfl)
theorem dL_law_227 : decode cL_law 227 = .ok (.invokestatic 88, 3) := dk_184 0 88 (dk_at dksL_law_9 18 rfl rfl)
theorem dL_law_230 : decode cL_law 230 = .ok (.invokestatic 95, 3) := dk_184 0 95 (dk_at dksL_law_9 21 rfl rfl)
theorem dL_law_233 : decode cL_law 233 = .ok (.ifCond .eq 40, 3) := dk_153 0 40 (dk_at dksL_law_10 0 rfl rfl)
theorem dL_law_236 : decode cL_law 236 = .ok (.aload_n 1, 1) := dk_43 (dk_at dksL_law_10 3 rfl rfl)
theorem dL_law_237 : decode cL_law 237 = .ok (.aload_n 2, 1) := dk_44 (dk_at dksL_law_10 4 rfl rfl)
theorem dL_law_238 : decode cL_law 238 = .ok (.iload_n 3, 1) := dk_29 (dk_at dksL_law_10 5 rfl rfl)
theorem dL_law_239 : decode cL_law 239 = .ok (.iconst 0, 1) := dk_3 (dk_at dksL_law_10 6 rfl rfl)
theorem dL_law_240 : decode cL_law 240 = .ok (.iload_n 3, 1) := dk_29 (dk_at dksL_law_10 7 rfl rfl)
theorem dL_law_241 : decode cL_law 241 = .ok (.iload 10, 2) := dk_21 10 (dk_at dksL_law_10 8 rfl rfl)
theorem dL_law_243 : decode cL_law 243 = .ok (.invokestatic 95, 3) := dk_184 0 95 (dk_at dksL_law_10 10 rfl rfl)
theorem dL_law_246 : decode cL_law 246 = .ok (.ifCond .eq 27, 3) := dk_153 0 27 (dk_at dksL_law_10 13 rfl rfl)
theorem dL_law_249 : decode cL_law 249 = .ok (.aload_n 1, 1) := dk_43 (dk_at dksL_law_10 16 rfl rfl)
theorem dL_law_250 : decode cL_law 250 = .ok (.aload_n 2, 1) := dk_44 (dk_at dksL_law_10 17 rfl rfl)
theorem dL_law_251 : decode cL_law 251 = .ok (.iload_n 3, 1) := dk_29 (dk_at dksL_law_10 18 rfl rfl)
theorem dL_law_252 : decode cL_law 252 = .ok (.iload 11, 2) := dk_21 11 (dk_at dksL_law_10 19 rfl rfl)
theorem dL_law_254 : decode cL_law 254 = .ok (.aload_n 0, 1) := dk_42 (dk_at dksL_law_10 21 rfl rfl)
theorem dL_law_255 : decode cL_law 255 = .ok (.bipush 8, 2) := dk_16 8 (dk_at dksL_law_10 22 rfl rfl)
theorem dL_law_257 : decode cL_law 257 = .ok (.iload 4, 2) := dk_21 4 (dk_at dksL_law_11 0 rfl rfl)
theorem dL_law_259 : decode cL_law 259 = .ok (.imul, 1) := dk_104 (dk_at dksL_law_11 2 rfl rfl)
theorem dL_law_260 : decode cL_law 260 = .ok (.bipush 7, 2) := dk_16 7 (dk_at dksL_law_11 3 rfl rfl)
theorem dL_law_262 : decode cL_law 262 = .ok (.iadd, 1) := dk_96 (dk_at dksL_law_11 5 rfl rfl)
theorem dL_law_263 : decode cL_law 263 = .ok (.invokestatic 88, 3) := dk_184 0 88 (dk_at dksL_law_11 6 rfl rfl)
theorem dL_law_266 : decode cL_law 266 = .ok (.iconst 0, 1) := dk_3 (dk_at dksL_law_11 9 rfl rfl)
theorem dL_law_267 : decode cL_law 267 = .ok (.invokestatic 95, 3) := dk_184 0 95 (dk_at dksL_law_11 10 rfl rfl)
theorem dL_law_270 : decode cL_law 270 = .ok (.ifCond .ne 5, 3) := dk_154 0 5 (dk_at dksL_law_11 13 rfl rfl)
theorem dL_law_273 : decode cL_law 273 = .ok (.iconst 0, 1) := dk_3 (dk_at dksL_law_11 16 rfl rfl)
theorem dL_law_274 : decode cL_law 274 = .ok (.ireturn, 1) := dk_172 (dk_at dksL_law_11 17 rfl rfl)
theorem dL_law_275 : decode cL_law 275 = .ok (.iinc 4 1, 3) := dk_132 4 1 (dk_at dksL_law_11 18 rfl rfl)
theorem dL_law_278 : decode cL_law 278 = .ok (.goto (-259), 3) := dk_167 254 253 (dk_at dksL_law_11 21 rfl rfl)
theorem dL_law_281 : decode cL_law 281 = .ok (.iload_n 3, 1) := dk_29 (dk_at dksL_law_12 0 rfl rfl)
theorem dL_law_282 : decode cL_law 282 = .ok (.sipush 240, 3) := dk_17 0 240 (dk_at dksL_law_12 1 rfl rfl)
theorem dL_law_285 : decode cL_law 285 = .ok (.if_icmp .gt 95, 3) := dk_163 0 95 (dk_at dksL_law_12 4 rfl rfl)
theorem dL_law_288 : decode cL_law 288 = .ok (.aload_n 1, 1) := dk_43 (dk_at dksL_law_12 7 rfl rfl)
theorem dL_law_289 : decode cL_law 289 = .ok (.iload_n 3, 1) := dk_29 (dk_at dksL_law_12 8 rfl rfl)
theorem dL_law_290 : decode cL_law 290 = .ok (.iconst (-1), 1) := dk_2 (dk_at dksL_law_12 9 rfl rfl)
theorem dL_law_291 : decode cL_law 291 = .ok (.aload_n 0, 1) := dk_42 (dk_at dksL_law_12 10 rfl rfl)
theorem dL_law_292 : decode cL_law 292 = .ok (.iload_n 3, 1) := dk_29 (dk_at dksL_law_12 11 rfl rfl)
theorem dL_law_293 : decode cL_law 293 = .ok (.bipush 96, 2) := dk_16 96 (dk_at dksL_law_12 12 rfl rfl)
theorem dL_law_295 : decode cL_law 295 = .ok (.irem, 1) := dk_112 (dk_at dksL_law_12 14 rfl rfl)
theorem dL_law_296 : decode cL_law 296 = .ok (.invokestatic 88, 3) := dk_184 0 88 (dk_at dksL_law_12 15 rfl rfl)
theorem dL_law_299 : decode cL_law 299 = .ok (.iload_n 3, 1) := dk_29 (dk_at dksL_law_12 18 rfl rfl)
theorem dL_law_300 : decode cL_law 300 = .ok (.ineg, 1) := dk_116 (dk_at dksL_law_12 19 rfl rfl)
theorem dL_law_301 : decode cL_law 301 = .ok (.invokevirtual 69, 3) := dk_182 0 69 (dk_at dksL_law_12 20 rfl rfl)
theorem dL_law_304 : decode cL_law 304 = .ok (.ifCond .ne 5, 3) := dk_154 0 5 (dk_at dksL_law_13 0 rfl rfl)
theorem dL_law_307 : decode cL_law 307 = .ok (.iconst 0, 1) := dk_3 (dk_at dksL_law_13 3 rfl rfl)
theorem dL_law_308 : decode cL_law 308 = .ok (.ireturn, 1) := dk_172 (dk_at dksL_law_13 4 rfl rfl)
theorem dL_law_309 : decode cL_law 309 = .ok (.iconst 4, 1) := dk_7 (dk_at dksL_law_13 5 rfl rfl)
theorem dL_law_310 : decode cL_law 310 = .ok (.newarray .int, 2) := dk_188_10 (dk_at dksL_law_13 6 rfl rfl)
theorem dL_law_312 : decode cL_law 312 = .ok (.dup, 1) := dk_89 (dk_at dksL_law_13 8 rfl rfl)
theorem dL_law_313 : decode cL_law 313 = .ok (.iconst 0, 1) := dk_3 (dk_at dksL_law_13 9 rfl rfl)
theorem dL_law_314 : decode cL_law 314 = .ok (.iload_n 3, 1) := dk_29 (dk_at dksL_law_13 10 rfl rfl)
theorem dL_law_315 : decode cL_law 315 = .ok (.iastore, 1) := dk_79 (dk_at dksL_law_13 11 rfl rfl)
theorem dL_law_316 : decode cL_law 316 = .ok (.dup, 1) := dk_89 (dk_at dksL_law_13 12 rfl rfl)
theorem dL_law_317 : decode cL_law 317 = .ok (.iconst 1, 1) := dk_4 (dk_at dksL_law_13 13 rfl rfl)
theorem dL_law_318 : decode cL_law 318 = .ok (.iconst (-1), 1) := dk_2 (dk_at dksL_law_13 14 rfl rfl)
theorem dL_law_319 : decode cL_law 319 = .ok (.iastore, 1) := dk_79 (dk_at dksL_law_13 15 rfl rfl)
theorem dL_law_320 : decode cL_law 320 = .ok (.dup, 1) := dk_89 (dk_at dksL_law_13 16 rfl rfl)
theorem dL_law_321 : decode cL_law 321 = .ok (.iconst 2, 1) := dk_5 (dk_at dksL_law_13 17 rfl rfl)
theorem dL_law_322 : decode cL_law 322 = .ok (.aload_n 0, 1) := dk_42 (dk_at dksL_law_13 18 rfl rfl)
theorem dL_law_323 : decode cL_law 323 = .ok (.iload_n 3, 1) := dk_29 (dk_at dksL_law_13 19 rfl rfl)
theorem dL_law_324 : decode cL_law 324 = .ok (.bipush 96, 2) := dk_16 96 (dk_at dksL_law_13 20 rfl rfl)
theorem dL_law_326 : decode cL_law 326 = .ok (.irem, 1) := dk_112 (dk_at dksL_law_13 22 rfl rfl)
theorem dL_law_327 : decode cL_law 327 = .ok (.invokestatic 88, 3) := dk_184 0 88 (dk_at dksL_law_14 0 rfl rfl)
theorem dL_law_330 : decode cL_law 330 = .ok (.iastore, 1) := dk_79 (dk_at dksL_law_14 3 rfl rfl)
theorem dL_law_331 : decode cL_law 331 = .ok (.dup, 1) := dk_89 (dk_at dksL_law_14 4 rfl rfl)
theorem dL_law_332 : decode cL_law 332 = .ok (.iconst 3, 1) := dk_6 (dk_at dksL_law_14 5 rfl rfl)
theorem dL_law_333 : decode cL_law 333 = .ok (.iload_n 3, 1) := dk_29 (dk_at dksL_law_14 6 rfl rfl)
theorem dL_law_334 : decode cL_law 334 = .ok (.ineg, 1) := dk_116 (dk_at dksL_law_14 7 rfl rfl)
theorem dL_law_335 : decode cL_law 335 = .ok (.iastore, 1) := dk_79 (dk_at dksL_law_14 8 rfl rfl)
theorem dL_law_336 : decode cL_law 336 = .ok (.astore 4, 2) := dk_58 4 (dk_at dksL_law_14 9 rfl rfl)
theorem dL_law_338 : decode cL_law 338 = .ok (.iconst 0, 1) := dk_3 (dk_at dksL_law_14 11 rfl rfl)
theorem dL_law_339 : decode cL_law 339 = .ok (.istore 5, 2) := dk_54 5 (dk_at dksL_law_14 12 rfl rfl)
theorem dL_law_341 : decode cL_law 341 = .ok (.iload 5, 2) := dk_21 5 (dk_at dksL_law_14 14 rfl rfl)
theorem dL_law_343 : decode cL_law 343 = .ok (.bipush 16, 2) := dk_16 16 (dk_at dksL_law_14 16 rfl rfl)
theorem dL_law_345 : decode cL_law 345 = .ok (.if_icmp .ge 29, 3) := dk_162 0 29 (dk_at dksL_law_14 18 rfl rfl)
theorem dL_law_348 : decode cL_law 348 = .ok (.aload_n 2, 1) := dk_44 (dk_at dksL_law_14 21 rfl rfl)
theorem dL_law_349 : decode cL_law 349 = .ok (.iload_n 3, 1) := dk_29 (dk_at dksL_law_14 22 rfl rfl)
theorem dL_law_350 : decode cL_law 350 = .ok (.iload 5, 2) := dk_21 5 (dk_at dksL_law_15 0 rfl rfl)
theorem dL_law_352 : decode cL_law 352 = .ok (.iadd, 1) := dk_96 (dk_at dksL_law_15 2 rfl rfl)
theorem dL_law_353 : decode cL_law 353 = .ok (.aload 4, 2) := dk_25 4 (dk_at dksL_law_15 3 rfl rfl)
theorem dL_law_355 : decode cL_law 355 = .ok (.iload 5, 2) := dk_21 5 (dk_at dksL_law_15 5 rfl rfl)
theorem dL_law_357 : decode cL_law 357 = .ok (.iconst 4, 1) := dk_7 (dk_at dksL_law_15 7 rfl rfl)
theorem dL_law_358 : decode cL_law 358 = .ok (.idiv, 1) := dk_108 (dk_at dksL_law_15 8 rfl rfl)
theorem dL_law_359 : decode cL_law 359 = .ok (.iaload, 1) := dk_46 (dk_at dksL_law_15 9 rfl rfl)
theorem dL_law_360 : decode cL_law 360 = .ok (.iload 5, 2) := dk_21 5 (dk_at dksL_law_15 10 rfl rfl)
theorem dL_law_362 : decode cL_law 362 = .ok (.iconst 4, 1) := dk_7 (dk_at dksL_law_15 12 rfl rfl)
theorem dL_law_363 : decode cL_law 363 = .ok (.irem, 1) := dk_112 (dk_at dksL_law_15 13 rfl rfl)
theorem dL_law_364 : decode cL_law 364 = .ok (.invokestatic 92, 3) := dk_184 0 92 (dk_at dksL_law_15 14 rfl rfl)
theorem dL_law_367 : decode cL_law 367 = .ok (.iastore, 1) := dk_79 (dk_at dksL_law_15 17 rfl rfl)
theorem dL_law_368 : decode cL_law 368 = .ok (.iinc 5 1, 3) := dk_132 5 1 (dk_at dksL_law_15 18 rfl rfl)
theorem dL_law_371 : decode cL_law 371 = .ok (.goto (-30), 3) := dk_167 255 226 (dk_at dksL_law_15 21 rfl rfl)
theorem dL_law_374 : decode cL_law 374 = .ok (.iinc 3 16, 3) := dk_132 3 16 (dk_at dksL_law_16 0 rfl rfl)
theorem dL_law_377 : decode cL_law 377 = .ok (.goto (-96), 3) := dk_167 255 160 (dk_at dksL_law_16 3 rfl rfl)
theorem dL_law_380 : decode cL_law 380 = .ok (.aload_n 1, 1) := dk_43 (dk_at dksL_law_16 6 rfl rfl)
theorem dL_law_381 : decode cL_law 381 = .ok (.iconst 1, 1) := dk_4 (dk_at dksL_law_16 7 rfl rfl)
theorem dL_law_382 : decode cL_law 382 = .ok (.iconst 2, 1) := dk_5 (dk_at dksL_law_16 8 rfl rfl)
theorem dL_law_383 : decode cL_law 383 = .ok (.iconst 3, 1) := dk_6 (dk_at dksL_law_16 9 rfl rfl)
theorem dL_law_384 : decode cL_law 384 = .ok (.iconst 4, 1) := dk_7 (dk_at dksL_law_16 10 rfl rfl)
theorem dL_law_385 : decode cL_law 385 = .ok (.invokevirtual 69, 3) := dk_182 0 69 (dk_at dksL_law_16 11 rfl rfl)
theorem dL_law_388 : decode cL_law 388 = .ok (.ifCond .ne 29, 3) := dk_154 0 29 (dk_at dksL_law_16 14 rfl rfl)
theorem dL_law_391 : decode cL_law 391 = .ok (.aload_n 1, 1) := dk_43 (dk_at dksL_law_16 17 rfl rfl)
theorem dL_law_392 : decode cL_law 392 = .ok (.aload_n 2, 1) := dk_44 (dk_at dksL_law_16 18 rfl rfl)
theorem dL_law_393 : decode cL_law 393 = .ok (.iload_n 3, 1) := dk_29 (dk_at dksL_law_16 19 rfl rfl)
theorem dL_law_394 : decode cL_law 394 = .ok (.iconst 0, 1) := dk_3 (dk_at dksL_law_16 20 rfl rfl)
theorem dL_law_395 : decode cL_law 395 = .ok (.iload_n 3, 1) := dk_29 (dk_at dksL_law_16 21 rfl rfl)
theorem dL_law_396 : decode cL_law 396 = .ok (.aload_n 0, 1) := dk_42 (dk_at dksL_law_16 22 rfl rfl)
theorem dL_law_397 : decode cL_law 397 = .ok (.iconst 1, 1) := dk_4 (dk_at dksL_law_16 23 rfl rfl)
theorem dL_law_398 : decode cL_law 398 = .ok (.invokestatic 88, 3) := dk_184 0 88 (dk_at dksL_law_17 0 rfl rfl)
theorem dL_law_401 : decode cL_law 401 = .ok (.invokestatic 95, 3) := dk_184 0 95 (dk_at dksL_law_17 3 rfl rfl)
theorem dL_law_404 : decode cL_law 404 = .ok (.ifCond .eq 13, 3) := dk_153 0 13 (dk_at dksL_law_17 6 rfl rfl)
theorem dL_law_407 : decode cL_law 407 = .ok (.invokestatic 99, 3) := dk_184 0 99 (dk_at dksL_law_17 9 rfl rfl)
theorem dL_law_410 : decode cL_law 410 = .ok (.ifCond .eq 7, 3) := dk_153 0 7 (dk_at dksL_law_17 12 rfl rfl)
theorem dL_law_413 : decode cL_law 413 = .ok (.iconst 1, 1) := dk_4 (dk_at dksL_law_17 15 rfl rfl)
theorem dL_law_414 : decode cL_law 414 = .ok (.goto 4, 3) := dk_167 0 4 (dk_at dksL_law_17 16 rfl rfl)
theorem dL_law_417 : decode cL_law 417 = .ok (.iconst 0, 1) := dk_3 (dk_at dksL_law_17 19 rfl rfl)
theorem dL_law_418 : decode cL_law 418 = .ok (.ireturn, 1) := dk_172 (dk_at dksL_law_17 20 rfl rfl)
end
section
/-! ===== MurmurHash3 as both sides compute it, over Int32 and Int64: words, rounds, ends; nothing of the program here ===== -/
def sp_ush (x k : Int32) : Int32 := (x.toUInt32 >>> (k.toUInt32 &&& Int32.toUInt32 31)).toInt32
def sp_r32 (x k : Int32) : Int32 := (x <<< (k &&& 31)) ||| sp_ush x (-k)
def sp_lsh (x : Int64) (k : Int32) : Int64 := x <<< (k.toInt64 &&& 63)
def sp_lus (x : Int64) (k : Int32) : Int64 := (x.toUInt64 >>> (k.toInt64.toUInt64 &&& Int64.toUInt64 63)).toInt64
def sp_r64 (x : Int64) (k : Int32) : Int64 := sp_lsh x k ||| sp_lus x (-k)
/-! the 32-bit hash: of m words of four bytes (v j: the byte j, 0 to 255), with a seed s -/
def sp_m32 (w : Int32) : Int32 := sp_r32 (w * (-862048943)) 15 * 461845907
def sp_s32 (h w : Int32) : Int32 := sp_r32 (h ^^^ sp_m32 w) 13 * 5 + (-430675100)
def sp_fa (h : Int32) : Int32 := (h ^^^ sp_ush h 16) * (-2048144789)
def sp_fb (h : Int32) : Int32 := (h ^^^ sp_ush h 13) * (-1028477387)
def sp_fc (h : Int32) : Int32 := h ^^^ sp_ush h 16
def sp_f32 (h n : Int32) : Int32 := sp_fc (sp_fb (sp_fa (h ^^^ n)))
def sp_w32 (v : Nat → Int32) : Int32 := v 0 ||| (v 1 <<< ((8 : Int32) &&& 31)) ||| (v 2 <<< ((16 : Int32) &&& 31)) ||| (v 3 <<< ((24 : Int32) &&& 31))
def sp_h32 (v : Nat → Int32) (s : Int32) : Nat → Int32
  | 0 => s
  | i + 1 => sp_s32 (sp_h32 v s i) (sp_w32 (fun k => v (4 * i + k)))
def sp_F32 (v : Nat → Int32) (m : Nat) (s : Int32) : Int32 := sp_f32 (sp_h32 v s m) (nI (4 * m))
/-! the 128-bit hash: of n bytes (v j: the byte j as a long), with a seed s -/
def sp_w64 (v : Nat → Int64) : Int64 := v 0 ||| sp_lsh (v 1) 8 ||| sp_lsh (v 2) 16 ||| sp_lsh (v 3) 24 ||| sp_lsh (v 4) 32 ||| sp_lsh (v 5) 40 ||| sp_lsh (v 6) 48 ||| sp_lsh (v 7) 56
def sp_mA (w : Int64) : Int64 := sp_r64 (w * (-8663945395140668459)) 31 * 5545529020109919103
def sp_mB (w : Int64) : Int64 := sp_r64 (w * 5545529020109919103) 33 * (-8663945395140668459)
def sp_hh (h g k : Int64) : Int64 := (sp_r64 (h ^^^ sp_mA k) 27 + g) * 5 + 1390208809
def sp_gg (g h k : Int64) : Int64 := (sp_r64 (g ^^^ sp_mB k) 31 + h) * 5 + 944331445
def sp_st (p : Int64 × Int64) (k1 k2 : Int64) : Int64 × Int64 := (sp_hh p.1 p.2 k1, sp_gg p.2 (sp_hh p.1 p.2 k1) k2)
def sp_blk (v : Nat → Int64) (s : Int64) : Nat → Int64 × Int64
  | 0 => (s, s)
  | i + 1 => sp_st (sp_blk v s i) (sp_w64 (fun k => v (16 * i + k))) (sp_w64 (fun k => v (16 * i + (8 + k))))
def sp_mk (v : Nat → Int64) (n j : Nat) : Int64 := if j < n then v j else 0
def sp_pt (p : Int64 × Int64) (k1 k2 : Int64) : Int64 × Int64 := (p.1 ^^^ sp_mA k1, p.2 ^^^ sp_mB k2)
def sp_tl (p : Int64 × Int64) (v : Nat → Int64) (i n : Nat) : Int64 × Int64 := if 16 * i < n then sp_pt p (sp_w64 (fun k => sp_mk v n (16 * i + k))) (sp_w64 (fun k => sp_mk v n (16 * i + (8 + k)))) else p
def sp_x1 (h : Int64) : Int64 := (h ^^^ sp_lus h 33) * (-49064778989728563)
def sp_x2 (h : Int64) : Int64 := (h ^^^ sp_lus h 33) * (-4265267296055464877)
def sp_x3 (h : Int64) : Int64 := h ^^^ sp_lus h 33
def sp_fx (h : Int64) : Int64 := sp_x3 (sp_x2 (sp_x1 h))
def sp_fh (p : Int64 × Int64) (n : Int64) : Int64 := sp_fx ((p.1 ^^^ n) + (p.2 ^^^ n))
def sp_fg (p : Int64 × Int64) (n : Int64) : Int64 := sp_fx ((p.2 ^^^ n) + ((p.1 ^^^ n) + (p.2 ^^^ n)))
def sp_E1 (p : Int64 × Int64) (n : Int64) : Int64 := sp_fh p n + sp_fg p n
def sp_E2 (p : Int64 × Int64) (n : Int64) : Int64 := sp_fg p n + sp_E1 p n
def sp_P (v : Nat → Int64) (n : Nat) (s : Int64) : Int64 × Int64 := sp_tl (sp_blk v s (n / 16)) v (n / 16) n
/-- the half that is asked for -/
def sp_F128 (v : Nat → Int64) (n : Nat) (s : Int64) (half : Int32) : Int64 := if half &&& 1 = 0 then sp_E1 (sp_P v n s) (nI n).toInt64 else sp_E2 (sp_P v n s) (nI n).toInt64
/-! ===== they depend on the bytes ahead of the end alone ===== -/
theorem sp_w32_cg {v w : Nat → Int32} (h : ∀ k, k < 4 → v k = w k) : sp_w32 v = sp_w32 w := by
  unfold sp_w32
  rw [h 0 (by decide), h 1 (by decide), h 2 (by decide), h 3 (by decide)]
theorem sp_h32_cg {v w : Nat → Int32} {s : Int32} : ∀ m, (∀ j, j < 4 * m → v j = w j) → sp_h32 v s m = sp_h32 w s m := by
  intro m
  induction m with
  | zero => intro _; rfl
  | succ m ih =>
    intro h
    show sp_s32 (sp_h32 v s m) (sp_w32 (fun k => v (4 * m + k))) = sp_s32 (sp_h32 w s m) (sp_w32 (fun k => w (4 * m + k)))
    rw [ih (fun j hj => h j (by omega)), sp_w32_cg (w := fun k => w (4 * m + k)) (fun k hk => h _ (by omega))]
theorem sp_F32_cg {v w : Nat → Int32} {s : Int32} (m : Nat) (h : ∀ j, j < 4 * m → v j = w j) : sp_F32 v m s = sp_F32 w m s := by
  unfold sp_F32
  rw [sp_h32_cg m h]
theorem sp_w64_cg {v w : Nat → Int64} (h : ∀ k, k < 8 → v k = w k) : sp_w64 v = sp_w64 w := by
  unfold sp_w64
  rw [h 0 (by decide), h 1 (by decide), h 2 (by decide), h 3 (by decide), h 4 (by decide), h 5 (by decide), h 6 (by decide), h 7 (by decide)]
theorem sp_blk_cg {v w : Nat → Int64} {s : Int64} : ∀ m, (∀ j, j < 16 * m → v j = w j) → sp_blk v s m = sp_blk w s m := by
  intro m
  induction m with
  | zero => intro _; rfl
  | succ m ih =>
    intro h
    show sp_st (sp_blk v s m) (sp_w64 (fun k => v (16 * m + k))) (sp_w64 (fun k => v (16 * m + (8 + k)))) = sp_st (sp_blk w s m) (sp_w64 (fun k => w (16 * m + k))) (sp_w64 (fun k => w (16 * m + (8 + k))))
    rw [ih (fun j hj => h j (by omega)), sp_w64_cg (v := fun k => v (16 * m + k)) (w := fun k => w (16 * m + k)) (fun k hk => h _ (by omega)), sp_w64_cg (v := fun k => v (16 * m + (8 + k))) (w := fun k => w (16 * m + (8 + k))) (fun k hk => h _ (by omega))]
theorem sp_mk_cg {v w : Nat → Int64} {n : Nat} (h : ∀ j, j < n → v j = w j) (j : Nat) : sp_mk v n j = sp_mk w n j := by
  unfold sp_mk
  by_cases q : j < n
  · rw [if_pos q, if_pos q]; exact h j q
  · rw [if_neg q, if_neg q]
theorem sp_tl_cg {v w : Nat → Int64} {n : Nat} (p : Int64 × Int64) (i : Nat) (h : ∀ j, j < n → v j = w j) : sp_tl p v i n = sp_tl p w i n := by
  unfold sp_tl
  rw [sp_w64_cg (v := fun k => sp_mk v n (16 * i + k)) (w := fun k => sp_mk w n (16 * i + k)) (fun k _ => sp_mk_cg h _), sp_w64_cg (v := fun k => sp_mk v n (16 * i + (8 + k))) (w := fun k => sp_mk w n (16 * i + (8 + k))) (fun k _ => sp_mk_cg h _)]
theorem sp_P_cg {v w : Nat → Int64} {s : Int64} (n : Nat) (h : ∀ j, j < n → v j = w j) : sp_P v n s = sp_P w n s := by
  unfold sp_P
  rw [sp_blk_cg (n / 16) (fun j hj => h j (by omega)), sp_tl_cg _ _ h]
theorem sp_F128_cg {v w : Nat → Int64} {s : Int64} {half : Int32} (n : Nat) (h : ∀ j, j < n → v j = w j) : sp_F128 v n s half = sp_F128 w n s half := by
  unfold sp_F128
  rw [sp_P_cg n h]
/-- a full block needs no mask -/
theorem sp_full {v : Nat → Int64} {n a : Nat} (h : a + 8 ≤ n) : sp_w64 (fun k => sp_mk v n (a + k)) = sp_w64 (fun k => v (a + k)) := sp_w64_cg (fun k hk => if_pos (by omega))
/-! ===== the law's word, by Horner's rule ===== -/
def sp_hor (u : Nat → Int64) : Nat → Int64
  | 0 => 0
  | m + 1 => sp_lsh (sp_hor u m) 8 ||| u (7 - m)
theorem sp_lsh_bv (x : Int64) (k : Int32) (n : Nat) (h : ((k.toInt64 &&& 63).toBitVec.smod 64).toNat = n) : (sp_lsh x k).toBitVec = x.toBitVec <<< n := by
  unfold sp_lsh
  rw [Int64.toBitVec_shiftLeft, BitVec.shiftLeft_eq', h]
theorem sp_l8 (x : Int64) : (sp_lsh x 8).toBitVec = x.toBitVec <<< 8 := sp_lsh_bv x 8 8 (by decide +kernel)
theorem sp_l16 (x : Int64) : (sp_lsh x 16).toBitVec = x.toBitVec <<< 16 := sp_lsh_bv x 16 16 (by decide +kernel)
theorem sp_l24 (x : Int64) : (sp_lsh x 24).toBitVec = x.toBitVec <<< 24 := sp_lsh_bv x 24 24 (by decide +kernel)
theorem sp_l32 (x : Int64) : (sp_lsh x 32).toBitVec = x.toBitVec <<< 32 := sp_lsh_bv x 32 32 (by decide +kernel)
theorem sp_l40 (x : Int64) : (sp_lsh x 40).toBitVec = x.toBitVec <<< 40 := sp_lsh_bv x 40 40 (by decide +kernel)
theorem sp_l48 (x : Int64) : (sp_lsh x 48).toBitVec = x.toBitVec <<< 48 := sp_lsh_bv x 48 48 (by decide +kernel)
theorem sp_l56 (x : Int64) : (sp_lsh x 56).toBitVec = x.toBitVec <<< 56 := sp_lsh_bv x 56 56 (by decide +kernel)
theorem sp_or0 (x : BitVec 64) : 0#64 ||| x = x := by simp
theorem sp_lo (x y : BitVec 64) (n : Nat) : (x ||| y) <<< n = x <<< n ||| y <<< n := by
  apply BitVec.eq_of_getLsbD_eq
  intro i hi
  simp only [BitVec.getLsbD_or, BitVec.getLsbD_shiftLeft]
  cases decide (i < 64) <;> cases decide (i < n) <;> simp
theorem sp_ll (x : BitVec 64) (n m : Nat) : (x <<< n) <<< m = x <<< (n + m) := (BitVec.shiftLeft_add x n m).symm
theorem sp_or3 (x y z : BitVec 64) : (x ||| y) ||| z = x ||| (y ||| z) := by
  apply BitVec.eq_of_getLsbD_eq
  intro i hi
  simp only [BitVec.getLsbD_or, Bool.or_assoc]
theorem sp_orc (x y : BitVec 64) : x ||| y = y ||| x := by
  apply BitVec.eq_of_getLsbD_eq
  intro i hi
  simp only [BitVec.getLsbD_or, Bool.or_comm]
theorem sp_orl (x y z : BitVec 64) : x ||| (y ||| z) = y ||| (x ||| z) := by
  rw [← sp_or3, sp_orc x y, sp_or3]
theorem sp_hor8 (u : Nat → Int64) : sp_hor u 8 = sp_w64 u := by
  apply Int64.toBitVec_inj.mp
  have e1 : (sp_hor u 1).toBitVec = (u 7).toBitVec := by
    show (sp_lsh 0 8 ||| u 7).toBitVec = _
    rw [show sp_lsh 0 8 = 0 from by decide +kernel, Int64.toBitVec_or]
    exact sp_or0 _
  have st : ∀ m, (sp_hor u (m + 1)).toBitVec = (sp_hor u m).toBitVec <<< 8 ||| (u (7 - m)).toBitVec := by
    intro m
    show (sp_lsh (sp_hor u m) 8 ||| u (7 - m)).toBitVec = _
    rw [Int64.toBitVec_or, sp_l8]
  rw [st 7, st 6, st 5, st 4, st 3, st 2, st 1, e1]
  unfold sp_w64
  simp only [Int64.toBitVec_or, sp_l8, sp_l16, sp_l24, sp_l32, sp_l40, sp_l48, sp_l56, sp_lo, sp_ll, sp_or3]
  show _ = _
  generalize (u 7).toBitVec <<< 56 = a7
  generalize (u 6).toBitVec <<< 48 = a6
  generalize (u 5).toBitVec <<< 40 = a5
  generalize (u 4).toBitVec <<< 32 = a4
  generalize (u 3).toBitVec <<< 24 = a3
  generalize (u 2).toBitVec <<< 16 = a2
  generalize (u 1).toBitVec <<< 8 = a1
  generalize (u 0).toBitVec = a0
  apply BitVec.eq_of_getLsbD_eq
  intro i hi
  simp only [BitVec.getLsbD_or]
  cases a7.getLsbD i <;> cases a6.getLsbD i <;> cases a5.getLsbD i <;> cases a4.getLsbD i <;> cases a3.getLsbD i <;> cases a2.getLsbD i <;> cases a1.getLsbD i <;> cases a0.getLsbD i <;> rfl
/-! ===== the component's tail: the bytes, put together with ^ from the highest down ===== -/
def sp_sb (u : Nat → Int64) : Nat → Int64
  | 0 => u 0
  | 1 => sp_lsh (u 1) 8
  | 2 => sp_lsh (u 2) 16
  | 3 => sp_lsh (u 3) 24
  | 4 => sp_lsh (u 4) 32
  | 5 => sp_lsh (u 5) 40
  | 6 => sp_lsh (u 6) 48
  | _ => sp_lsh (u 7) 56
def sp_xc (u : Nat → Int64) : Nat → Int64 → Int64
  | 0, x => x
  | j + 1, x => sp_xc u j (x ^^^ sp_sb u j)
def sp_oc (u : Nat → Int64) : Nat → Int64
  | 0 => 0
  | j + 1 => sp_sb u j ||| sp_oc u j
theorem sp_xo (x y : Int64) (k : Nat) (hx : ∀ i, i < k → x.toBitVec.getLsbD i = false) (hy : ∀ i, k ≤ i → y.toBitVec.getLsbD i = false) : x ^^^ y = x ||| y := by
  apply Int64.toBitVec_inj.mp
  rw [Int64.toBitVec_xor, Int64.toBitVec_or]
  apply BitVec.eq_of_getLsbD_eq
  intro i hi
  rw [BitVec.getLsbD_xor, BitVec.getLsbD_or]
  rcases Nat.lt_or_ge i k with q | q
  · rw [hx i q]; cases y.toBitVec.getLsbD i <;> rfl
  · rw [hy i q]; cases x.toBitVec.getLsbD i <;> rfl
/-- a byte: no bit from 8 on -/
def sp_by (x : Int64) : Prop := ∀ i, 8 ≤ i → x.toBitVec.getLsbD i = false
theorem sp_sb_bv (u : Nat → Int64) (j : Nat) (hj : j < 8) : (sp_sb u j).toBitVec = (u j).toBitVec <<< (8 * j) := by
  rcases (show j = 0 ∨ j = 1 ∨ j = 2 ∨ j = 3 ∨ j = 4 ∨ j = 5 ∨ j = 6 ∨ j = 7 by omega) with rfl | rfl | rfl | rfl | rfl | rfl | rfl | rfl
  · show (u 0).toBitVec = _; simp
  · exact sp_l8 _
  · exact sp_l16 _
  · exact sp_l24 _
  · exact sp_l32 _
  · exact sp_l40 _
  · exact sp_l48 _
  · exact sp_l56 _
theorem sp_sb_hi (u : Nat → Int64) (hu : ∀ j, sp_by (u j)) (j : Nat) (hj : j < 8) (i : Nat) (h : 8 * (j + 1) ≤ i) : (sp_sb u j).toBitVec.getLsbD i = false := by
  rw [sp_sb_bv u j hj, BitVec.getLsbD_shiftLeft, hu j (i - 8 * j) (by omega)]
  simp
theorem sp_sb_lo (u : Nat → Int64) (j : Nat) (hj : j < 8) (i : Nat) (h : i < 8 * j) : (sp_sb u j).toBitVec.getLsbD i = false := by
  rw [sp_sb_bv u j hj, BitVec.getLsbD_shiftLeft, decide_eq_true h]
  simp
theorem sp_or3I (x y z : Int64) : (x ||| y) ||| z = x ||| (y ||| z) := by
  apply Int64.toBitVec_inj.mp
  simp only [Int64.toBitVec_or, sp_or3]
theorem sp_orcI (x y : Int64) : x ||| y = y ||| x := by
  apply Int64.toBitVec_inj.mp
  rw [Int64.toBitVec_or, Int64.toBitVec_or, sp_orc]
theorem sp_or0I (x : Int64) : 0 ||| x = x := by
  apply Int64.toBitVec_inj.mp
  rw [Int64.toBitVec_or]
  exact sp_or0 _
theorem sp_xc_oc (u : Nat → Int64) (hu : ∀ j, sp_by (u j)) : ∀ j, j ≤ 8 → ∀ x : Int64, (∀ i, i < 8 * j → x.toBitVec.getLsbD i = false) → sp_xc u j x = x ||| sp_oc u j := by
  intro j
  induction j with
  | zero =>
    intro _ x _
    show x = x ||| 0
    rw [sp_orcI, sp_or0I]
  | succ j ih =>
    intro hj x hx
    show sp_xc u j (x ^^^ sp_sb u j) = x ||| (sp_sb u j ||| sp_oc u j)
    rw [sp_xo x (sp_sb u j) (8 * (j + 1)) hx (fun i hi => sp_sb_hi u hu j (by omega) i hi), ih (by omega), sp_or3I]
    intro i hi
    rw [Int64.toBitVec_or, BitVec.getLsbD_or, hx i (by omega), sp_sb_lo u j (by omega) i hi]
    rfl
theorem sp_xc0 (u : Nat → Int64) (hu : ∀ j, sp_by (u j)) (j : Nat) (hj : j ≤ 8) : sp_xc u j 0 = sp_oc u j := by
  rw [sp_xc_oc u hu j hj 0 (fun i _ => by show (0#64).getLsbD i = false; simp), sp_or0I]
theorem sp_l0 (k : Int32) : sp_lsh 0 k = 0 := by
  apply Int64.toBitVec_inj.mp
  rw [sp_lsh_bv 0 k _ rfl]
  show (0#64) <<< _ = 0#64
  simp
theorem sp_oc8 (v : Nat → Int64) : sp_oc v 8 = sp_w64 v := by
  have e : sp_oc v 8 = sp_lsh (v 7) 56 ||| (sp_lsh (v 6) 48 ||| (sp_lsh (v 5) 40 ||| (sp_lsh (v 4) 32 ||| (sp_lsh (v 3) 24 ||| (sp_lsh (v 2) 16 ||| (sp_lsh (v 1) 8 ||| (v 0 ||| 0))))))) := rfl
  rw [e]
  unfold sp_w64
  rw [sp_orcI (v 0) 0, sp_or0I]
  generalize sp_lsh (v 7) 56 = a7
  generalize sp_lsh (v 6) 48 = a6
  generalize sp_lsh (v 5) 40 = a5
  generalize sp_lsh (v 4) 32 = a4
  generalize sp_lsh (v 3) 24 = a3
  generalize sp_lsh (v 2) 16 = a2
  generalize sp_lsh (v 1) 8 = a1
  generalize v 0 = a0
  rw [sp_orcI a1 a0, sp_orcI a2 (a0 ||| a1), sp_orcI a3 (a0 ||| a1 ||| a2), sp_orcI a4 (a0 ||| a1 ||| a2 ||| a3), sp_orcI a5 (a0 ||| a1 ||| a2 ||| a3 ||| a4), sp_orcI a6 (a0 ||| a1 ||| a2 ||| a3 ||| a4 ||| a5), sp_orcI a7 (a0 ||| a1 ||| a2 ||| a3 ||| a4 ||| a5 ||| a6)]
theorem sp_oc_lo (u w : Nat → Int64) (r : Nat) (hr : r ≤ 8) (h : ∀ k, k < r → w k = u k) : ∀ j, j ≤ r → sp_oc w j = sp_oc u j := by
  intro j
  induction j with
  | zero => intro _; rfl
  | succ j ih =>
    intro hj
    show sp_sb w j ||| sp_oc w j = sp_sb u j ||| sp_oc u j
    have e : sp_sb w j = sp_sb u j := Int64.toBitVec_inj.mp (by rw [sp_sb_bv w j (by omega), sp_sb_bv u j (by omega), h j (by omega)])
    rw [e, ih (by omega)]
theorem sp_oc_hi (w : Nat → Int64) (r : Nat) (h : ∀ k, r ≤ k → w k = 0) : ∀ j, r + j ≤ 8 → sp_oc w (r + j) = sp_oc w r := by
  intro j
  induction j with
  | zero => intro _; rfl
  | succ j ih =>
    intro hj
    show sp_sb w (r + j) ||| sp_oc w (r + j) = sp_oc w r
    have e : sp_sb w (r + j) = 0 := Int64.toBitVec_inj.mp (by
      rw [sp_sb_bv w (r + j) (by omega), h (r + j) (by omega)]
      show (0#64) <<< (8 * (r + j)) = 0#64
      simp)
    rw [e, sp_or0I, ih (by omega)]
/-- the parts of a word, masked at r: those below r -/
theorem sp_oc_w (u : Nat → Int64) (r : Nat) (hr : r ≤ 8) : sp_oc u r = sp_w64 (fun k => if k < r then u k else 0) := by
  rw [← sp_oc8, ← sp_oc_lo u (fun k => if k < r then u k else 0) r hr (fun k hk => if_pos hk) r (Nat.le_refl r)]
  have e := sp_oc_hi (fun k => if k < r then u k else 0) r (fun k hk => if_neg (by omega)) (8 - r) (by omega)
  rw [show r + (8 - r) = 8 by omega] at e
  exact e.symm
theorem sp_mB0 : sp_mB 0 = 0 := by decide +kernel
theorem sp_mA0 : sp_mA 0 = 0 := by decide +kernel
theorem sp_xor0 (x : Int64) : x ^^^ 0 = x := by
  apply Int64.toBitVec_inj.mp
  rw [Int64.toBitVec_xor]
  show x.toBitVec ^^^ 0#64 = _
  simp
theorem sp_w64_0 : sp_w64 (fun _ => 0) = 0 := by decide +kernel
/-! ===== one byte: the component's and the law's ===== -/
theorem sp_l255 (x : Int32) : (x &&& 255).toInt64 = x.toInt64 &&& 255 := by
  rw [Int32.toInt64_and]
  rfl
theorem sp_by255 (x : Int64) : sp_by (x &&& 255) := by
  intro i hi
  rw [Int64.toBitVec_and, BitVec.getLsbD_and]
  have e : (255 : Int64).toBitVec.getLsbD i = false := by
    show (BitVec.ofNat 64 255).getLsbD i = false
    rw [BitVec.getLsbD_ofNat]
    rcases Nat.lt_or_ge i 64 with q | q
    · have : Nat.testBit 255 i = false := by
        apply Nat.testBit_lt_two_pow
        exact Nat.lt_of_lt_of_le (show 255 < 2 ^ 8 by decide) (Nat.pow_le_pow_right (by decide) hi)
      rw [this]; simp
    · simp [Nat.not_lt.mpr q]
  rw [e]; simp
/-! ===== the component's tail makes what is published ===== -/
theorem sp_P0 (v : Nat → Int64) (n : Nat) (s : Int64) (h : n % 16 = 0) : sp_P v n s = sp_blk v s (n / 16) := by
  unfold sp_P sp_tl
  rw [if_neg (by omega)]
theorem sp_mkw (v : Nat → Int64) (n a r : Nat) (hr : a + r = n) (hv : ∀ j, sp_by (v j)) (h8 : r ≤ 8) : sp_w64 (fun k => sp_mk v n (a + k)) = sp_xc (fun j => v (a + j)) r 0 := by
  rw [sp_xc0 (fun j => v (a + j)) (fun j => hv _) r h8, sp_oc_w _ r h8]
  refine sp_w64_cg (fun k _ => ?_)
  unfold sp_mk
  by_cases q : k < r
  · rw [if_pos q, if_pos (by omega)]
  · rw [if_neg q, if_neg (by omega)]
theorem sp_mkz (v : Nat → Int64) (n a : Nat) (h : n ≤ a) : sp_w64 (fun k => sp_mk v n (a + k)) = 0 := by
  rw [← sp_w64_0]
  exact sp_w64_cg (fun k _ => if_neg (by omega))
theorem sp_mkw2 (v : Nat → Int64) (n a b : Nat) : sp_w64 (fun k => sp_mk v n (a + (b + k))) = sp_w64 (fun k => sp_mk v n ((a + b) + k)) := by
  refine sp_w64_cg (fun k _ => ?_)
  rw [Nat.add_assoc]
theorem sp_Plo (v : Nat → Int64) (n : Nat) (s : Int64) (r : Nat) (hv : ∀ j, sp_by (v j)) (h : n % 16 = r) (h0 : 0 < r) (h8 : r ≤ 8) : sp_P v n s = ((sp_blk v s (n / 16)).1 ^^^ sp_mA (sp_xc (fun j => v (16 * (n / 16) + j)) r 0), (sp_blk v s (n / 16)).2) := by
  unfold sp_P sp_tl
  rw [if_pos (by omega)]
  unfold sp_pt
  rw [sp_mkw v n (16 * (n / 16)) r (by omega) hv h8, sp_mkw2, sp_mkz v n _ (by omega), sp_mB0, sp_xor0]
theorem sp_Phi (v : Nat → Int64) (n : Nat) (s : Int64) (r : Nat) (hv : ∀ j, sp_by (v j)) (h : n % 16 = 8 + r) (h8 : r ≤ 8) : sp_P v n s = ((sp_blk v s (n / 16)).1 ^^^ sp_mA (sp_xc (fun j => v (16 * (n / 16) + j)) 8 0), (sp_blk v s (n / 16)).2 ^^^ sp_mB (sp_xc (fun j => v (16 * (n / 16) + (8 + j))) r 0)) := by
  unfold sp_P sp_tl
  rw [if_pos (by omega)]
  unfold sp_pt
  have e1 : sp_w64 (fun k => sp_mk v n (16 * (n / 16) + k)) = sp_xc (fun j => v (16 * (n / 16) + j)) 8 0 := by
    rw [sp_full (by omega), sp_xc0 (fun j => v (16 * (n / 16) + j)) (fun j => hv _) 8 (by decide), sp_oc_w _ 8 (by decide)]
    exact sp_w64_cg (fun k hk => (if_pos hk).symm)
  have e2 : sp_w64 (fun k => sp_mk v n (16 * (n / 16) + (8 + k))) = sp_xc (fun j => v (16 * (n / 16) + (8 + j))) r 0 := by
    rw [sp_mkw2, sp_mkw v n _ r (by omega) hv h8]
    congr 1
    funext j
    rw [Nat.add_assoc]
  rw [e1, e2]
/-! ===== places and numbers: a drawn number under a bound ===== -/
def sp_fr (x : Int32) (k : Nat) : Nat := x.toBitVec.toNat % 2 ^ 31 % k
theorem sp_fr_rem (x : Int32) {k : Nat} (h0 : 0 < k) (hk : k < 2 ^ 31) : (x &&& 2147483647) - (x &&& 2147483647) / nI k * nI k = nI (sp_fr x k) := by
  rw [pk_and x 31 (by decide)]
  exact pk_rem (Nat.mod_lt _ (by decide)) h0 hk
theorem sp_fr_lt (x : Int32) {k : Nat} (h0 : 0 < k) : sp_fr x k < k := Nat.mod_lt _ h0
theorem sp_ne0 {k : Nat} (h0 : 0 < k) (hk : k < 2 ^ 31) : ¬ nI k = 0 := nI_ne0 h0 hk
/-- the place a part begins at, its length, the words that are asked for -/
def sp_at (x : Int32) (sz : Nat) : Nat := sp_fr x (sz + 1)
def sp_ct (n : Int32) (sz f : Nat) : Nat := sp_fr n (sz - f + 1)
def sp_wd (w : Int32) (c : Nat) : Nat := if c / 4 = 0 then 0 else sp_fr w (c / 4 + 1)
theorem sp_at_le (x : Int32) (sz : Nat) : sp_at x sz ≤ sz := Nat.le_of_lt_succ (sp_fr_lt x (Nat.succ_pos _))
theorem sp_ct_le (n : Int32) (sz f : Nat) : sp_ct n sz f ≤ sz - f := Nat.le_of_lt_succ (sp_fr_lt n (Nat.succ_pos _))
theorem sp_wd_le (w : Int32) (c : Nat) : 4 * sp_wd w c ≤ c := by
  unfold sp_wd
  by_cases h : c / 4 = 0
  · rw [if_pos h]; omega
  · rw [if_neg h]
    have := sp_fr_lt w (Nat.succ_pos (c / 4))
    have e : sp_fr w (c / 4).succ = sp_fr w (c / 4 + 1) := rfl
    omega
/-! ===== the sixteen bytes of four numbers ===== -/
def sp_bt (x : Int32) : Int32 := x.toInt8.toInt32
theorem sp_bp (x : Int32) : sp_bt x &&& 255 = x &&& 255 := by
  unfold sp_bt
  apply Int32.toBitVec_inj.mp
  rw [Int32.toBitVec_and, Int32.toBitVec_and, Int8.toBitVec_toInt32, Int32.toBitVec_toInt8]
  apply BitVec.eq_of_getLsbD_eq
  intro i hi
  rw [BitVec.getLsbD_and, BitVec.getLsbD_and]
  have hm : ∀ i < 32, 8 ≤ i → (255 : Int32).toBitVec.getLsbD i = false := by decide
  rcases Nat.lt_or_ge i 8 with z | z
  · rw [BitVec.getLsbD_signExtend, BitVec.getLsbD_signExtend, if_pos z, if_pos hi]
    simp only [z, hi, decide_true, Bool.true_and]
  · rw [hm i hi z]; simp
theorem sp_sh0 (x : Int32) : x >>> (0 : Int32) = x := by
  apply Int32.toBitVec_inj.mp
  show x.toBitVec.sshiftRight ((0 : Int32).toBitVec.smod 32).toNat = _
  rw [show ((0 : Int32).toBitVec.smod 32).toNat = 0 from by decide]
  simp
/-- one number written at a place -/
def sp_wr (g : Nat → Int32) (k : Nat) (w : Int32) : Nat → Int32 := upd (upd (upd (upd g k (sp_bt (w >>> ((24 : Int32) &&& 31)))) (k + 1) (sp_bt (w >>> ((16 : Int32) &&& 31)))) (k + 2) (sp_bt (w >>> ((8 : Int32) &&& 31)))) (k + 3) (sp_bt w)
def sp_put (g : Nat → Int32) (k : Nat) (a b c d : Int32) : Nat → Int32 := sp_wr (sp_wr (sp_wr (sp_wr g k a) (k + 4) b) (k + 8) c) (k + 12) d
/-- the law's byte of a number -/
def sp_lp (x k : Int32) : Int32 := (x >>> ((24 - 8 * k) &&& 31)) &&& 255
def sp_row (a b c d : Int32) : Nat → Int32 := upd (upd (upd (upd (fun _ => 0) 0 a) 1 b) 2 c) 3 d
theorem sp_wr_out {g : Nat → Int32} {k : Nat} {w : Int32} {j : Nat} (h : j < k ∨ k + 4 ≤ j) : sp_wr g k w j = g j := by
  unfold sp_wr
  rw [pk_un (by omega), pk_un (by omega), pk_un (by omega), pk_un (by omega)]
theorem sp_wr_at {g : Nat → Int32} {k : Nat} {w : Int32} {i : Nat} (hi : i < 4) : sp_wr g k w (k + i) &&& 255 = sp_lp w (nI i) := by
  unfold sp_wr sp_lp
  rcases (show i = 0 ∨ i = 1 ∨ i = 2 ∨ i = 3 by omega) with rfl | rfl | rfl | rfl
  · rw [pk_un (by omega), pk_un (by omega), pk_un (by omega), Nat.add_zero, pk_us, show (24 - 8 * nI 0 : Int32) = 24 from by decide]
    exact sp_bp _
  · rw [pk_un (by omega), pk_un (by omega), pk_us, show (24 - 8 * nI 1 : Int32) = 16 from by decide]
    exact sp_bp _
  · rw [pk_un (by omega), pk_us, show (24 - 8 * nI 2 : Int32) = 8 from by decide]
    exact sp_bp _
  · rw [pk_us, show (24 - 8 * nI 3 : Int32) = 0 from by decide, show ((0 : Int32) &&& 31) = 0 from by decide, sp_sh0]
    exact sp_bp _
theorem sp_put_out {g : Nat → Int32} {k : Nat} {a b c d : Int32} {j : Nat} (h : j < k ∨ k + 16 ≤ j) : sp_put g k a b c d j = g j := by
  unfold sp_put
  rw [sp_wr_out (by omega), sp_wr_out (by omega), sp_wr_out (by omega), sp_wr_out (by omega)]
theorem sp_put_at {g : Nat → Int32} {k : Nat} {a b c d : Int32} {i : Nat} (hi : i < 16) : sp_put g k a b c d (k + i) &&& 255 = sp_lp (sp_row a b c d (i / 4)) (nI (i % 4)) := by
  have hm : i % 4 < 4 := Nat.mod_lt _ (by decide)
  unfold sp_put
  rcases (show i / 4 = 0 ∨ i / 4 = 1 ∨ i / 4 = 2 ∨ i / 4 = 3 by omega) with e | e | e | e
  · rw [sp_wr_out (by omega), sp_wr_out (by omega), sp_wr_out (by omega), show k + i = k + i % 4 by omega, sp_wr_at hm, e]
    rfl
  · rw [sp_wr_out (by omega), sp_wr_out (by omega), show k + i = (k + 4) + i % 4 by omega, sp_wr_at hm, e]
    rfl
  · rw [sp_wr_out (by omega), show k + i = (k + 8) + i % 4 by omega, sp_wr_at hm, e]
    rfl
  · rw [show k + i = (k + 12) + i % 4 by omega, sp_wr_at hm, e]
    rfl
/-- the law's word is masked at the end of its text -/
theorem sp_lm (f : Nat → Int32) (a0 n x k j : Nat) (h : x + k = a0 + j) : (if x + k < a0 + n then (f (x + k)).toInt64 else 0) = sp_mk (fun j => (f (a0 + j)).toInt64) n j := by
  unfold sp_mk
  rw [h]
  by_cases q : j < n
  · rw [if_pos q, if_pos (by omega)]
  · rw [if_neg q, if_neg (by omega)]
theorem sp_full2 {v : Nat → Int64} {n a b : Nat} (h : a + (b + 8) ≤ n) : sp_w64 (fun k => sp_mk v n (a + (b + k))) = sp_w64 (fun k => v (a + (b + k))) := sp_w64_cg (fun k hk => if_pos (by omega))
end
section
/-! ===== helpers for the walks: worlds, heads of methods, calls; rows with numbers at their places ===== -/
abbrev vwCl : List vw_C := [(RX1, TX1, 2)]
/-- what a walk knows of its method -/
abbrev Cx (p : Program) (s : State) (m : MethodId) (args : Array Value) (meth : Method) (c : Code) (cc : ByteArray) (nL : Nat) (ret : Option FieldType) (own : String) : Prop := p.tables.exec = Jvm.exec ∧ c.code = cc ∧ meth.sig.returnType = ret ∧ meth.locks = false ∧ c.maxLocals = nL ∧ s.vm.findClass own = some m.cls ∧ ∀ w ∈ lw_all, w.before args s = true
/-- a world that moves with the machine's tables -/
def mv (X : State → Heap → Prop) : Prop := ∀ (u U : State) (H : Heap), u.vm.Alike U.vm → X u H → X U H
def wT : State → Heap → Prop := fun _ _ => True
def wo (D : va_G) (ws : va_W) (tys : List (ClassId × FieldType)) : State → Heap → Prop := fun U H => va_P D vwCl ws H ∧ va_K D vwCl tys U
def wz (D : va_G) (ws : va_W) (tys : List (ClassId × FieldType)) (sz : Nat) : State → Heap → Prop := fun U H => H.size = sz ∧ va_P D vwCl ws H ∧ va_K D vwCl tys U
def wX (b L : Nat) (xs : Nat → Int32) : State → Heap → Prop := fun U H => va_X b L xs U H ∧ b < H.size
theorem mv_T : mv wT := fun _ _ _ _ h => h
theorem mv_wo {D : va_G} {ws : va_W} {tys : List (ClassId × FieldType)} : mv (wo D ws tys) := fun _ _ _ hvm h => ⟨h.1, va_K.moved hvm h.2⟩
theorem mv_wz {D : va_G} {ws : va_W} {tys : List (ClassId × FieldType)} {sz : Nat} : mv (wz D ws tys sz) := fun _ _ _ hvm h => ⟨h.1, h.2.1, va_K.moved hvm h.2.2⟩
theorem mv_wX {b L : Nat} {xs : Nat → Int32} : mv (wX b L xs) := fun _ _ _ hvm h => ⟨va_X.moved hvm h.1, h.2⟩
theorem wo_z {D : va_G} {ws : va_W} {tys : List (ClassId × FieldType)} {s : State} {H : Heap} (h : wo D ws tys s H) : wz D ws tys H.size s H := ⟨rfl, h.1, h.2⟩
theorem wo_sub {D : va_G} {ws ws' : va_W} {tys tys' : List (ClassId × FieldType)} {s : State} {H : Heap} (h : wo D ws tys s H) (is ts : List Nat) (h1 : is.filterMap (fun i => ws[i]?) = ws') (h2 : ts.filterMap (fun i => tys[i]?) = tys') : wo D ws' tys' s H := ⟨h.1.sub is h1, h.2.sub ts h2⟩
theorem wo_app {D : va_G} {ws ws' : va_W} {tys tys' : List (ClassId × FieldType)} {s : State} {H : Heap} (h : wo D ws tys s H) (h' : wo D ws' tys' s H) : wo D (ws ++ ws') (tys ++ tys') s H := ⟨h.1.app h'.1, h.2.app h'.2⟩
/-- old cells stay while a walk writes what is new alone -/
theorem wo_old {D : va_G} {ws : va_W} {tys : List (ClassId × FieldType)} {s : State} {H0 H : Heap} {locs : List Loc} (h : wo D ws tys s H0) (hS : va_S (fun q => H0.size ≤ q) H0 H locs) : wo D ws tys s H :=
  ⟨h.1.kept (fun k q hk => hS.2.1 q.1 (h.1 k q hk).lt (Nat.not_le.mpr (h.1 k q hk).lt)), h.2⟩
/-- cells that a call may not write stay -/
theorem wo_kept {D : va_G} {ws : va_W} {tys : List (ClassId × FieldType)} {s : State} {H H1 : Heap} {A1 : Nat → Prop} (h : wo D ws tys s H) (hk : ∀ q : Nat, q < H.size → ¬ A1 q → H1[q]? = H[q]?) (hA : ∀ (k : Nat) (q : Nat × va_E), ws[k]? = some q → ¬ A1 q.1) : wo D ws tys s H1 :=
  ⟨h.1.kept (fun k q hq => hk q.1 (h.1 k q hq).lt (hA k q hq)), h.2⟩
theorem wo_keptN {D : va_G} {ws : va_W} {tys : List (ClassId × FieldType)} {s : State} {H H1 : Heap} (h : wo D ws tys s H) (hk : ∀ q : Nat, q < H.size → ¬ H.size ≤ q → H1[q]? = H[q]?) : wo D ws tys s H1 :=
  ⟨h.1.kept (fun k q hq => hk q.1 (h.1 k q hq).lt (Nat.not_le.mpr (h.1 k q hq).lt)), h.2⟩
/-- the addresses alone say that cells are apart -/
theorem vd_re {A : Nat → Prop} {ws ws' : va_W} (h : va_D A ws) (he : ws.map Prod.fst = ws'.map Prod.fst) : va_D A ws' := by
  have at' : ∀ (k : Nat) (q : Nat × va_E), ws'[k]? = some q → ∃ r : Nat × va_E, ws[k]? = some r ∧ r.1 = q.1 := by
    intro k q hq
    have h1 : (ws'.map Prod.fst)[k]? = some q.1 := by rw [List.getElem?_map, hq]; rfl
    rw [← he, List.getElem?_map] at h1
    cases hr : ws[k]? with
    | none => rw [hr] at h1; cases h1
    | some r => rw [hr] at h1; exact ⟨r, rfl, Option.some.inj h1⟩
  refine ⟨fun i j p q hi hj e => ?_, fun k q hk => ?_⟩
  · obtain ⟨p1, a1, b1⟩ := at' i p hi
    obtain ⟨q1, a2, b2⟩ := at' j q hj
    exact h.1 i j p1 q1 a1 a2 (by rw [b1, b2, e])
  · obtain ⟨r, a1, b1⟩ := at' k q hk
    rw [← b1]
    exact h.2 k r a1
theorem vd_1 {A : Nat → Prop} {a : Nat} {e : va_E} (h : A a) : va_D A [(a, e)] := by
  refine ⟨fun i j p q hi hj _ => ?_, fun k q hk => ?_⟩
  · have h1 : i < 1 := (List.getElem?_eq_some_iff.mp hi).1
    have h2 : j < 1 := (List.getElem?_eq_some_iff.mp hj).1
    omega
  · have h1 : k < 1 := (List.getElem?_eq_some_iff.mp hk).1
    rw [show k = 0 by omega] at hk
    cases hk
    exact h
theorem vd_0 {A : Nat → Prop} : va_D A [] := ⟨fun i j p q hi _ _ => by simp at hi, fun k q hk => by simp at hk⟩
theorem vd_2 {A : Nat → Prop} {a b : Nat} {e f : va_E} (ha : A a) (hb : A b) (hne : a ≠ b) : va_D A [(a, e), (b, f)] := by
  refine va_D.app (vd_1 ha) (vd_1 hb) (fun i j p q hi hj => ?_)
  have h1 : i < 1 := (List.getElem?_eq_some_iff.mp hi).1
  have h2 : j < 1 := (List.getElem?_eq_some_iff.mp hj).1
  rw [show i = 0 by omega] at hi
  rw [show j = 0 by omega] at hj
  cases hi
  cases hj
  exact hne
theorem vp_0 {D : va_G} {H : Heap} : va_P D vwCl [] H := fun k q hk => by simp at hk
/-! the start of a call -/
theorem pre_S {X : State → Heap → Prop} {s : State} {H : Heap} (hm : mv X) (As : List Value) (h : X s H) : PreS s H (va_Pc As (fun U => X U U.heap)) As :=
  ⟨fun a U g mk q => ⟨q.1, hm U (U.calling g mk a) U.heap (Vm.Alike.refl U.vm) q.2⟩, fun U hU hW => ⟨rfl, by show X U U.heap; rw [hU]; exact hm _ _ _ hW.alike h⟩⟩
theorem pre_V {X : State → Heap → Prop} {s : State} {H : Heap} {D : va_G} {ws : va_W} {tys : List (ClassId × FieldType)} {b : Nat} {fs : List Value} (hm : mv X) (As : List Value) (h : X s H) (hw : wo D ws tys s H) (q0 : Nat) (he : ws[q0]? = some (b, .inr (0, fs))) : PreV s H RX1 b (va_Pc (.ref b :: As) (fun U => X U U.heap)) As :=
  ⟨fun a U g mk q => ⟨q.1, hm U (U.calling g mk a) U.heap (Vm.Alike.refl U.vm) q.2⟩, va_recv hw.2 hw.1 (ci := 0) (q0 := q0) rfl he, fun U hU hW => ⟨rfl, by show X U U.heap; rw [hU]; exact hm _ _ _ hW.alike h⟩⟩
/-- the head of any method -/
theorem m_head {l : Launch} {y : MethodName} {cc : ByteArray} {nL : Nat} {ret : Option FieldType} {own : String} {rm : Room} {av : List Value} {X : State → Heap → Prop} {Qc : Array Value → State → Outcome → State → Prop} {mc ms : Nat} {free : Addr → Prop} (hy : plainName y.cls = true) (hyc : y.cls = own) (hn : (lg_sl av).length ≤ nL)
    (body : ∀ (p : Program) (e : Env) (s : State) (m : MethodId) (below : List Frame) (meth : Method) (c : Code), Cx p s m av.toArray meth c cc nL ret own → meth.name = y.name → X s s.heap → ∀ ls : Array Slot, lv_has ls nL (lv_args 0 av) → W p l e rm s m av.toArray below meth c s.heap [] 0 0 (MQ below Qc av.toArray s mc ms free) (F0 m 0 ls [])) : Met l y (ws_ y cc nL ret) rm (va_Pc av (fun U => X U U.heap)) Qc mc ms free := by
  subst hyc
  refine Met.ofW (cc := cc) (maxL := nL) (ret := ret) hy rfl ?_
  intro p e s m args below meth c s₁ B hml hv
  obtain ⟨rfl, hX⟩ := hv
  have hts := atoms_spec (ws := ws_ y cc nL ret) B.pre
  rw [lg_entry_eq]
  exact body p e s m below meth c ⟨B.exec, B.bytes, B.returns, B.notSynchronized, hml, findClass_of_methodNamed B.named, fun w h => hts w (List.mem_cons_of_mem _ h)⟩ (name_of_methodNamed B.named B.method).1 hX _ (lv_entry av hn)
section HP
variable {p : Program} {l : Launch} {e : Env} {R : Room} {s : State} {m : MethodId} {args : Array Value} {below : List Frame} {meth : Method} {c : Code} {H : Heap} {locs : List Loc} {cells slots : Nat} {Q : State → Prop}
variable {cc : ByteArray} {pc : Nat} {ls : Array Slot} {rest : List Value} {D : va_G} {a : Nat} {tys : List (ClassId × FieldType)} {ws : va_W}
theorem mt_i {x y : Int32} (h : x = y) (k : W p l e R s m args below meth c H locs cells slots Q (F0 m pc ls (.int y :: rest))) : W p l e R s m args below meth c H locs cells slots Q (F0 m pc ls (.int x :: rest)) := by
  subst h
  exact k
theorem mt_l {x y : Int64} (h : x = y) (k : W p l e R s m args below meth c H locs cells slots Q (F0 m pc ls (.long y :: rest))) : W p l e R s m args below meth c H locs cells slots Q (F0 m pc ls (.long x :: rest)) := by
  subst h
  exact k
/-- a byte, at a number -/
theorem mt_bald (hexec : p.tables.exec = Jvm.exec) (hb : c.code = cc) (hW : wo D ws tys s H) (q0 t0 : Nat) {cA : ClassId} {n : Nat} {f : Nat → Int32} (ha : ws[q0]? = some (a, .inl (cA, n, .inl f))) (ht : tys[t0]? = some (cA, .byte)) {i : Int32} (k : Nat) (hi : i = nI k) (hk : k < n) (hn : n ≤ 256) (hdg : decode cc pc = .ok (.baload, 1))
    (kk : W p l e R s m args below meth c H locs cells slots Q (F0 m (pc + 1) ls (.int (f k) :: rest))) : W p l e R s m args below meth c H locs cells slots Q (F0 m pc ls (.int i :: .ref a :: rest)) := by
  subst hi
  refine va_bald hexec hb hW.2 hW.1 q0 t0 ha ht (vp_in_nI hk (by omega)) hdg ?_
  rw [nI_clamp (by omega)]
  exact kk
/-- an int, at a number -/
theorem mt_iald (hexec : p.tables.exec = Jvm.exec) (hb : c.code = cc) (hW : wo D ws tys s H) (q0 t0 : Nat) {cA : ClassId} {n : Nat} {f : Nat → Int32} (ha : ws[q0]? = some (a, .inl (cA, n, .inl f))) (ht : tys[t0]? = some (cA, .int)) {i : Int32} (k : Nat) (hi : i = nI k) (hk : k < n) (hn : n ≤ 256) (hdg : decode cc pc = .ok (.iaload, 1))
    (kk : W p l e R s m args below meth c H locs cells slots Q (F0 m (pc + 1) ls (.int (f k) :: rest))) : W p l e R s m args below meth c H locs cells slots Q (F0 m pc ls (.int i :: .ref a :: rest)) := by
  subst hi
  refine va_iald hexec hb hW.2 hW.1 q0 t0 ha ht (vp_in_nI hk (by omega)) hdg ?_
  rw [nI_clamp (by omega)]
  exact kk
theorem mt_bast {A : Nat → Prop} {H0 : Heap} (hexec : p.tables.exec = Jvm.exec) (hb : c.code = cc) (hW : wo D ws tys s H) (hD : va_D A ws) (hS : va_S A H0 H locs) (q0 t0 : Nat) {cA : ClassId} {n : Nat} {f : Nat → Int32} (ha : ws[q0]? = some (a, .inl (cA, n, .inl f))) (ht : tys[t0]? = some (cA, .byte)) {i x : Int32} (k : Nat) (hi : i = nI k) (hk : k < n) (hn : n ≤ 256) (hdg : decode cc pc = .ok (.bastore, 1))
    (kk : ∀ (H1 : Heap) (locs1 : List Loc), wo D (ws.set q0 (a, .inl (cA, n, .inl (upd f k (vp_nar .byte x))))) tys s H1 → va_D A (ws.set q0 (a, .inl (cA, n, .inl (upd f k (vp_nar .byte x))))) → va_S A H0 H1 locs1 → W p l e R s m args below meth c H1 locs1 cells slots Q (F0 m (pc + 1) ls rest)) : W p l e R s m args below meth c H locs cells slots Q (F0 m pc ls (.int x :: .int i :: .ref a :: rest)) := by
  subst hi
  refine va_bast hexec hb hW.2 hW.1 hD hS q0 t0 ha ht (vp_in_nI hk (by omega)) hdg ?_
  rw [nI_clamp (by omega)]
  exact fun H1 l1 h1 h2 h3 => kk H1 l1 ⟨h1, hW.2⟩ h2 h3
theorem mt_iast {A : Nat → Prop} {H0 : Heap} (hexec : p.tables.exec = Jvm.exec) (hb : c.code = cc) (hW : wo D ws tys s H) (hD : va_D A ws) (hS : va_S A H0 H locs) (q0 t0 : Nat) {cA : ClassId} {n : Nat} {f : Nat → Int32} (ha : ws[q0]? = some (a, .inl (cA, n, .inl f))) (ht : tys[t0]? = some (cA, .int)) {i x : Int32} (k : Nat) (hi : i = nI k) (hk : k < n) (hn : n ≤ 256) (hdg : decode cc pc = .ok (.iastore, 1))
    (kk : ∀ (H1 : Heap) (locs1 : List Loc), wo D (ws.set q0 (a, .inl (cA, n, .inl (upd f k x)))) tys s H1 → va_D A (ws.set q0 (a, .inl (cA, n, .inl (upd f k x)))) → va_S A H0 H1 locs1 → W p l e R s m args below meth c H1 locs1 cells slots Q (F0 m (pc + 1) ls rest)) : W p l e R s m args below meth c H locs cells slots Q (F0 m pc ls (.int x :: .int i :: .ref a :: rest)) := by
  subst hi
  refine va_iast hexec hb hW.2 hW.1 hD hS q0 t0 ha ht (vp_in_nI hk (by omega)) hdg ?_
  rw [nI_clamp (by omega)]
  exact fun H1 l1 h1 h2 h3 => kk H1 l1 ⟨h1, hW.2⟩ h2 h3
theorem mt_last {A : Nat → Prop} {H0 : Heap} (hexec : p.tables.exec = Jvm.exec) (hb : c.code = cc) (hW : wo D ws tys s H) (hD : va_D A ws) (hS : va_S A H0 H locs) (q0 t0 : Nat) {cA : ClassId} {n : Nat} {f : Nat → Int64} (ha : ws[q0]? = some (a, .inl (cA, n, .inr (.inl f)))) (ht : tys[t0]? = some (cA, .long)) {i : Int32} {x : Int64} (k : Nat) (hi : i = nI k) (hk : k < n) (hn : n ≤ 256) (hdg : decode cc pc = .ok (.lastore, 1))
    (kk : ∀ (H1 : Heap) (locs1 : List Loc), wo D (ws.set q0 (a, .inl (cA, n, .inr (.inl (vp_updL f k x))))) tys s H1 → va_D A (ws.set q0 (a, .inl (cA, n, .inr (.inl (vp_updL f k x))))) → va_S A H0 H1 locs1 → W p l e R s m args below meth c H1 locs1 cells slots Q (F0 m (pc + 1) ls rest)) : W p l e R s m args below meth c H locs cells slots Q (F0 m pc ls (.long x :: .int i :: .ref a :: rest)) := by
  subst hi
  refine va_last hexec hb hW.2 hW.1 hD hS q0 t0 ha ht (vp_in_nI hk (by omega)) hdg ?_
  rw [nI_clamp (by omega)]
  exact fun H1 l1 h1 h2 h3 => kk H1 l1 ⟨h1, hW.2⟩ h2 h3
theorem mt_lald (hexec : p.tables.exec = Jvm.exec) (hb : c.code = cc) (hW : wo D ws tys s H) (q0 t0 : Nat) {cA : ClassId} {n : Nat} {f : Nat → Int64} (ha : ws[q0]? = some (a, .inl (cA, n, .inr (.inl f)))) (ht : tys[t0]? = some (cA, .long)) {i : Int32} (k : Nat) (hi : i = nI k) (hk : k < n) (hn : n ≤ 256) (hdg : decode cc pc = .ok (.laload, 1))
    (kk : W p l e R s m args below meth c H locs cells slots Q (F0 m (pc + 1) ls (.long (f k) :: rest))) : W p l e R s m args below meth c H locs cells slots Q (F0 m pc ls (.int i :: .ref a :: rest)) := by
  subst hi
  refine va_lald hexec hb hW.2 hW.1 q0 t0 ha ht (vp_in_nI hk (by omega)) hdg ?_
  rw [nI_clamp (by omega)]
  exact kk
end HP
/-! numbers -/
abbrev RM0 : Room := { frames := 0, cells := 0, slots := 0, locals := 0 }
theorem ix0 {x : Int32} {a : Nat} (h : x = nI a) (k : Nat) {K : Int32} (hK : K = nI k) : (0 + x) + K = nI (a + k) := by
  rw [h, hK, show (0 : Int32) = nI 0 from rfl, nI_add, nI_add, Nat.zero_add]
theorem ix00 {x : Int32} {a : Nat} (h : x = nI a) : 0 + x = nI (a + 0) := by
  rw [h, show (0 : Int32) = nI 0 from rfl, nI_add, Nat.zero_add, Nat.add_zero]
theorem ix1 {x : Int32} {a : Nat} (h : x = nI a) (k : Nat) {K : Int32} (hK : K = nI k) : x + K = nI (a + k) := by
  rw [h, hK, nI_add]
theorem ix2 {x : Int32} {a b : Nat} (h : x = nI (a + b)) (k : Nat) {K : Int32} (hK : K = nI k) : x + K = nI (a + (b + k)) := by
  rw [h, hK, nI_add, Nat.add_assoc]
theorem wo_kept1 {D : va_G} {a : Nat} {e : va_E} {tys : List (ClassId × FieldType)} {s : State} {H H1 : Heap} {A1 : Nat → Prop} (h : wo D [(a, e)] tys s H) (hk : ∀ q : Nat, q < H.size → ¬ A1 q → H1[q]? = H[q]?) (hA : ¬ A1 a) : wo D [(a, e)] tys s H1 := by
  refine wo_kept h hk (fun k q hq => ?_)
  have h1 : k < 1 := (List.getElem?_eq_some_iff.mp hq).1
  rw [show k = 0 by omega] at hq
  cases hq
  exact hA
theorem wo_lt {D : va_G} {ws : va_W} {tys : List (ClassId × FieldType)} {s : State} {H : Heap} (h : wo D ws tys s H) (k : Nat) {q : Nat × va_E} (hk : ws[k]? = some q) : q.1 < H.size := (h.1 k q hk).lt
end
section
/-! ===== leaves: rotations, mixing, the law's small ones ===== -/
set_option maxHeartbeats 4000000 in
set_option maxRecDepth 100000 in
/-- Integer.rotateLeft -/
theorem met_rl32 (l : Launch) (x k : Int32) : Met l yJ0_rotateLeft (ws_ yJ0_rotateLeft cJ0_rotateLeft 2 (some .int)) (RM0) (va_Pc [.int x, .int k] (fun U => wT U U.heap)) (vp_Si (fun r => r = sp_r32 x k)) 0 0 (fun _ => False) := by
  refine m_head (own := RJ0) (by decide) rfl (Nat.le_of_ble_eq_true rfl) ?_
  intro p e s m below meth c C hnm hX ls hl
  obtain ⟨hx, hb, hr, hlocks, hml, hown, hts⟩ := C
  have hl : lv_has ls 2 [(0, .int x), (1, .int k)] := hl
  refine lv_iload_n hx hb dJ0_rotateLeft_0 rfl (lv_at hl 0 rfl) ?_
  refine lv_iload_n hx hb dJ0_rotateLeft_1 rfl (lv_at hl 1 rfl) ?_
  refine lv_ishl hx hb dJ0_rotateLeft_2 ?_
  refine lv_iload_n hx hb dJ0_rotateLeft_3 rfl (lv_at hl 0 rfl) ?_
  refine lv_iload_n hx hb dJ0_rotateLeft_4 rfl (lv_at hl 1 rfl) ?_
  refine lv_ineg hx hb dJ0_rotateLeft_5 ?_
  refine lv_iushr (v := (sp_ush x (-k))) hx hb dJ0_rotateLeft_6 rfl ?_
  refine lv_ior hx hb dJ0_rotateLeft_7 ?_
  exact W.iret (v := ((x <<< (k &&& 31)) ||| (sp_ush x (-k)))) hx hb hr (fun t ht hW => ⟨_, rfl, rfl, ht⟩) (fun _ h => by cases h) dJ0_rotateLeft_8
set_option maxHeartbeats 4000000 in
set_option maxRecDepth 100000 in
/-- Long.rotateLeft -/
theorem met_rl64 (l : Launch) (x : Int64) (k : Int32) : Met l yJ1_rotateLeft (ws_ yJ1_rotateLeft cJ1_rotateLeft 3 (some .long)) (RM0) (va_Pc [.long x, .int k] (fun U => wT U U.heap)) (vp_Sl (fun r => r = sp_r64 x k)) 0 0 (fun _ => False) := by
  refine m_head (own := RJ1) (by decide) rfl (Nat.le_of_ble_eq_true rfl) ?_
  intro p e s m below meth c C hnm hX ls hl
  obtain ⟨hx, hb, hr, hlocks, hml, hown, hts⟩ := C
  have hl : lv_has ls 3 [(0, .long x), (2, .int k)] := hl
  refine lv_lload_n hx hb dJ1_rotateLeft_0 rfl (lv_at hl 0 rfl) ?_
  refine lv_iload_n hx hb dJ1_rotateLeft_1 rfl (lv_at hl 1 rfl) ?_
  refine lv_lshl (v := (sp_lsh x k)) hx hb dJ1_rotateLeft_2 rfl ?_
  refine lv_lload_n hx hb dJ1_rotateLeft_3 rfl (lv_at hl 0 rfl) ?_
  refine lv_iload_n hx hb dJ1_rotateLeft_4 rfl (lv_at hl 1 rfl) ?_
  refine lv_ineg hx hb dJ1_rotateLeft_5 ?_
  refine lv_lushr (v := (sp_lus x (-k))) hx hb dJ1_rotateLeft_6 rfl ?_
  refine lv_lor hx hb dJ1_rotateLeft_7 ?_
  exact W.lret (v := ((sp_lsh x k) ||| (sp_lus x (-k)))) hx hb hr (fun t ht hW => ⟨_, rfl, rfl, ht⟩) (fun _ h => by cases h) dJ1_rotateLeft_8
set_option maxHeartbeats 4000000 in
set_option maxRecDepth 100000 in
/-- turned(int, int) -/
theorem met_turned32 (l : Launch) (x k : Int32) (hk : (32 - k).toUInt32 &&& Int32.toUInt32 31 = (-k).toUInt32 &&& Int32.toUInt32 31) : Met l yX0_turned (ws_ yX0_turned cX0_turned 2 (some .int)) (RM0) (va_Pc [.int x, .int k] (fun U => wT U U.heap)) (vp_Si (fun r => r = sp_r32 x k)) 0 0 (fun _ => False) := by
  refine m_head (own := RX0) (by decide) rfl (Nat.le_of_ble_eq_true rfl) ?_
  intro p e s m below meth c C hnm hX ls hl
  obtain ⟨hx, hb, hr, hlocks, hml, hown, hts⟩ := C
  have hl : lv_has ls 2 [(0, .int x), (1, .int k)] := hl
  refine lv_iload_n hx hb dX0_turned_0 rfl (lv_at hl 0 rfl) ?_
  refine lv_iload_n hx hb dX0_turned_1 rfl (lv_at hl 1 rfl) ?_
  refine lv_ishl hx hb dX0_turned_2 ?_
  refine lv_iload_n hx hb dX0_turned_3 rfl (lv_at hl 0 rfl) ?_
  refine lv_bipush (v := 32) hx hb dX0_turned_4 (by decide) ?_
  refine lv_iload_n hx hb dX0_turned_6 rfl (lv_at hl 1 rfl) ?_
  refine lv_isub hx hb dX0_turned_7 ?_
  refine lv_iushr (v := (sp_ush x (32 - k))) hx hb dX0_turned_8 rfl ?_
  refine lv_ior hx hb dX0_turned_9 ?_
  exact W.iret (v := ((x <<< (k &&& 31)) ||| (sp_ush x (32 - k)))) hx hb hr (fun t ht hW => ⟨_, rfl, (by show _ = sp_r32 x k; unfold sp_r32 sp_ush; rw [hk]), ht⟩) (fun _ h => by cases h) dX0_turned_10
set_option maxHeartbeats 4000000 in
set_option maxRecDepth 100000 in
/-- turned(long, int) -/
theorem met_turned64 (l : Launch) (x : Int64) (k : Int32) (hk : (64 - k).toInt64.toUInt64 &&& Int64.toUInt64 63 = (-k).toInt64.toUInt64 &&& Int64.toUInt64 63) : Met l yX0_turned_2 (ws_ yX0_turned_2 cX0_turned_2 3 (some .long)) (RM0) (va_Pc [.long x, .int k] (fun U => wT U U.heap)) (vp_Sl (fun r => r = sp_r64 x k)) 0 0 (fun _ => False) := by
  refine m_head (own := RX0) (by decide) rfl (Nat.le_of_ble_eq_true rfl) ?_
  intro p e s m below meth c C hnm hX ls hl
  obtain ⟨hx, hb, hr, hlocks, hml, hown, hts⟩ := C
  have hl : lv_has ls 3 [(0, .long x), (2, .int k)] := hl
  refine lv_lload_n hx hb dX0_turned_2_0 rfl (lv_at hl 0 rfl) ?_
  refine lv_iload_n hx hb dX0_turned_2_1 rfl (lv_at hl 1 rfl) ?_
  refine lv_lshl (v := (sp_lsh x k)) hx hb dX0_turned_2_2 rfl ?_
  refine lv_lload_n hx hb dX0_turned_2_3 rfl (lv_at hl 0 rfl) ?_
  refine lv_bipush (v := 64) hx hb dX0_turned_2_4 (by decide) ?_
  refine lv_iload_n hx hb dX0_turned_2_6 rfl (lv_at hl 1 rfl) ?_
  refine lv_isub hx hb dX0_turned_2_7 ?_
  refine lv_lushr (v := (sp_lus x (64 - k))) hx hb dX0_turned_2_8 rfl ?_
  refine lv_lor hx hb dX0_turned_2_9 ?_
  exact W.lret (v := ((sp_lsh x k) ||| (sp_lus x (64 - k)))) hx hb hr (fun t ht hW => ⟨_, rfl, (by show _ = sp_r64 x k; unfold sp_r64 sp_lus; rw [hk]), ht⟩) (fun _ h => by cases h) dX0_turned_2_10
set_option maxHeartbeats 4000000 in
set_option maxRecDepth 100000 in
/-- Murmur3.fmix64 -/
theorem met_fmix (l : Launch) (x : Int64) : Met l yX2_fmix64 (ws_ yX2_fmix64 cX2_fmix64 2 (some .long)) (RM0) (va_Pc [.long x] (fun U => wT U U.heap)) (vp_Sl (fun r => r = sp_fx x)) 0 0 (fun _ => False) := by
  refine m_head (own := RX2) (by decide) rfl (Nat.le_of_ble_eq_true rfl) ?_
  intro p e s m below meth c C hnm hX ls hl
  obtain ⟨hx, hb, hr, hlocks, hml, hown, hts⟩ := C
  have hl : lv_has ls 2 [(0, .long x)] := hl
  refine lv_lload_n hx hb dX2_fmix64_0 rfl (lv_at hl 0 rfl) ?_
  refine lv_lload_n hx hb dX2_fmix64_1 rfl (lv_at hl 0 rfl) ?_
  refine lv_bipush (v := 33) hx hb dX2_fmix64_2 (by decide) ?_
  refine lv_lushr (v := (sp_lus x 33)) hx hb dX2_fmix64_4 rfl ?_
  refine lv_lxor hx hb dX2_fmix64_5 ?_
  refine lv_lstore_n (lv' := [(0, .long (x ^^^ (sp_lus x 33)))]) hx hb dX2_fmix64_6 rfl hl (by decide) rfl (fun ls hl => ?_)
  refine lv_lload_n hx hb dX2_fmix64_7 rfl (lv_at hl 0 rfl) ?_
  refine lv_ldc2 (own := RX2) (index := 41) hx hb hown (hts _ q106) dX2_fmix64_8 ?_
  refine lv_lmul hx hb dX2_fmix64_11 ?_
  refine mt_l (y := (sp_x1 x)) (rfl) ?_
  refine lv_lstore_n (lv' := [(0, .long (sp_x1 x))]) hx hb dX2_fmix64_12 rfl hl (by decide) rfl (fun ls hl => ?_)
  refine lv_lload_n hx hb dX2_fmix64_13 rfl (lv_at hl 0 rfl) ?_
  refine lv_lload_n hx hb dX2_fmix64_14 rfl (lv_at hl 0 rfl) ?_
  refine lv_bipush (v := 33) hx hb dX2_fmix64_15 (by decide) ?_
  refine lv_lushr (v := (sp_lus (sp_x1 x) 33)) hx hb dX2_fmix64_17 rfl ?_
  refine lv_lxor hx hb dX2_fmix64_18 ?_
  refine lv_lstore_n (lv' := [(0, .long ((sp_x1 x) ^^^ (sp_lus (sp_x1 x) 33)))]) hx hb dX2_fmix64_19 rfl hl (by decide) rfl (fun ls hl => ?_)
  refine lv_lload_n hx hb dX2_fmix64_20 rfl (lv_at hl 0 rfl) ?_
  refine lv_ldc2 (own := RX2) (index := 43) hx hb hown (hts _ q107) dX2_fmix64_21 ?_
  refine lv_lmul hx hb dX2_fmix64_24 ?_
  refine mt_l (y := (sp_x2 (sp_x1 x))) (rfl) ?_
  refine lv_lstore_n (lv' := [(0, .long (sp_x2 (sp_x1 x)))]) hx hb dX2_fmix64_25 rfl hl (by decide) rfl (fun ls hl => ?_)
  refine lv_lload_n hx hb dX2_fmix64_26 rfl (lv_at hl 0 rfl) ?_
  refine lv_lload_n hx hb dX2_fmix64_27 rfl (lv_at hl 0 rfl) ?_
  refine lv_bipush (v := 33) hx hb dX2_fmix64_28 (by decide) ?_
  refine lv_lushr (v := (sp_lus (sp_x2 (sp_x1 x)) 33)) hx hb dX2_fmix64_30 rfl ?_
  refine lv_lxor hx hb dX2_fmix64_31 ?_
  refine lv_lstore_n (lv' := [(0, .long ((sp_x2 (sp_x1 x)) ^^^ (sp_lus (sp_x2 (sp_x1 x)) 33)))]) hx hb dX2_fmix64_32 rfl hl (by decide) rfl (fun ls hl => ?_)
  refine lv_lload_n hx hb dX2_fmix64_33 rfl (lv_at hl 0 rfl) ?_
  exact W.lret (v := ((sp_x2 (sp_x1 x)) ^^^ (sp_lus (sp_x2 (sp_x1 x)) 33))) hx hb hr (fun t ht hW => ⟨_, rfl, rfl, ht⟩) (fun _ h => by cases h) dX2_fmix64_34
set_option maxHeartbeats 4000000 in
set_option maxRecDepth 100000 in
/-- stirred(long) -/
theorem met_stirred (l : Launch) (x : Int64) : Met l yX0_stirred (ws_ yX0_stirred cX0_stirred 4 (some .long)) (RM0) (va_Pc [.long x] (fun U => wT U U.heap)) (vp_Sl (fun r => r = sp_fx x)) 0 0 (fun _ => False) := by
  refine m_head (own := RX0) (by decide) rfl (Nat.le_of_ble_eq_true rfl) ?_
  intro p e s m below meth c C hnm hX ls hl
  obtain ⟨hx, hb, hr, hlocks, hml, hown, hts⟩ := C
  have hl : lv_has ls 4 [(0, .long x)] := hl
  refine lv_lload_n hx hb dX0_stirred_0 rfl (lv_at hl 0 rfl) ?_
  refine lv_lload_n hx hb dX0_stirred_1 rfl (lv_at hl 0 rfl) ?_
  refine lv_bipush (v := 33) hx hb dX0_stirred_2 (by decide) ?_
  refine lv_lushr (v := (sp_lus x 33)) hx hb dX0_stirred_4 rfl ?_
  refine lv_lxor hx hb dX0_stirred_5 ?_
  refine lv_ldc2 (own := RX0) (index := 18) hx hb hown (hts _ q125) dX0_stirred_6 ?_
  refine lv_lmul hx hb dX0_stirred_9 ?_
  refine mt_l (y := (sp_x1 x)) (rfl) ?_
  refine lv_lstore_n (lv' := [(2, .long (sp_x1 x)), (0, .long x)]) hx hb dX0_stirred_10 rfl hl (by decide) rfl (fun ls hl => ?_)
  refine lv_lload_n hx hb dX0_stirred_11 rfl (lv_at hl 0 rfl) ?_
  refine lv_lload_n hx hb dX0_stirred_12 rfl (lv_at hl 0 rfl) ?_
  refine lv_bipush (v := 33) hx hb dX0_stirred_13 (by decide) ?_
  refine lv_lushr (v := (sp_lus (sp_x1 x) 33)) hx hb dX0_stirred_15 rfl ?_
  refine lv_lxor hx hb dX0_stirred_16 ?_
  refine lv_ldc2 (own := RX0) (index := 20) hx hb hown (hts _ q126) dX0_stirred_17 ?_
  refine lv_lmul hx hb dX0_stirred_20 ?_
  refine mt_l (y := (sp_x2 (sp_x1 x))) (rfl) ?_
  refine lv_lstore_n (lv' := [(2, .long (sp_x2 (sp_x1 x))), (0, .long x)]) hx hb dX0_stirred_21 rfl hl (by decide) rfl (fun ls hl => ?_)
  refine lv_lload_n hx hb dX0_stirred_22 rfl (lv_at hl 0 rfl) ?_
  refine lv_lload_n hx hb dX0_stirred_23 rfl (lv_at hl 0 rfl) ?_
  refine lv_bipush (v := 33) hx hb dX0_stirred_24 (by decide) ?_
  refine lv_lushr (v := (sp_lus (sp_x2 (sp_x1 x)) 33)) hx hb dX0_stirred_26 rfl ?_
  refine lv_lxor hx hb dX0_stirred_27 ?_
  exact W.lret (v := ((sp_x2 (sp_x1 x)) ^^^ (sp_lus (sp_x2 (sp_x1 x)) 33))) hx hb hr (fun t ht hW => ⟨_, rfl, rfl, ht⟩) (fun _ h => by cases h) dX0_stirred_28
set_option maxHeartbeats 4000000 in
set_option maxRecDepth 100000 in
/-- part(int, int): a byte of a number -/
theorem met_lpart (l : Launch) (x k : Int32) : Met l yX0_part (ws_ yX0_part cX0_part 2 (some .int)) (RM0) (va_Pc [.int x, .int k] (fun U => wT U U.heap)) (vp_Si (fun r => r = (x >>> ((24 - 8 * k) &&& 31)) &&& 255)) 0 0 (fun _ => False) := by
  refine m_head (own := RX0) (by decide) rfl (Nat.le_of_ble_eq_true rfl) ?_
  intro p e s m below meth c C hnm hX ls hl
  obtain ⟨hx, hb, hr, hlocks, hml, hown, hts⟩ := C
  have hl : lv_has ls 2 [(0, .int x), (1, .int k)] := hl
  refine lv_iload_n hx hb dX0_part_0 rfl (lv_at hl 0 rfl) ?_
  refine lv_bipush (v := 24) hx hb dX0_part_1 (by decide) ?_
  refine lv_bipush (v := 8) hx hb dX0_part_3 (by decide) ?_
  refine lv_iload_n hx hb dX0_part_5 rfl (lv_at hl 1 rfl) ?_
  refine lv_imul hx hb dX0_part_6 ?_
  refine lv_isub hx hb dX0_part_7 ?_
  refine lv_ishr hx hb dX0_part_8 ?_
  refine lv_sipush (v := 255) hx hb dX0_part_9 (by decide) ?_
  refine lv_iand hx hb dX0_part_12 ?_
  exact W.iret (v := ((x >>> ((24 - (8 * k)) &&& 31)) &&& 255)) hx hb hr (fun t ht hW => ⟨_, rfl, rfl, ht⟩) (fun _ h => by cases h) dX0_part_13
end
section
/-! ===== Murmur3.hash32: of whole words ===== -/
abbrev RM1 : Room := { frames := 1, cells := 0, slots := 0, locals := 22 }
set_option maxHeartbeats 4000000 in
set_option maxRecDepth 100000 in
/-- the loop: i words read -/
theorem h32_loop {p : Program} {l : Launch} {e : Env} {s : State} {m : MethodId} {args : Array Value} {below : List Frame} {meth : Method} {c : Code} {H : Heap} {locs : List Loc} {Q : State → Prop} (C : Cx p s m args meth c cX2_hash32 8 (some .int) RX2) (D : va_G) (b0 : Nat) (dB : ClassId) (n0 : Nat) (g : Nat → Int32) (mm : Nat) (seed : Int32) (h4 : 4 * mm ≤ n0) (hn : n0 ≤ 256) (hW : wo D [(b0, .inl (dB, n0, .inl g))] [(dB, .byte)] s H)
    (kk : ∀ ls : Array Slot, lv_has ls 8 [(0, .ref b0), (1, .int (nI (4 * mm))), (3, .int (sp_h32 (fun j => g j &&& 255) seed mm)), (4, .int (nI mm))] → W p l e RM1 s m args below meth c H locs 0 0 Q (F0 m 121 ls [])) :
    ∀ (d i : Nat), i + d = mm → ∀ ls : Array Slot, lv_has ls 8 [(0, .ref b0), (1, .int (nI (4 * mm))), (3, .int (sp_h32 (fun j => g j &&& 255) seed i)), (4, .int (nI mm)), (5, .int (nI i))] → W p l e RM1 s m args below meth c H locs 0 0 Q (F0 m 10 ls []) := by
  obtain ⟨hx, hb, hr, hlocks, hml, hown, hts⟩ := C
  intro d
  induction d with
  | zero =>
    intro i hi ls hl
    refine lv_iload hx hb dX2_hash32_10 (lv_at hl 4 rfl) ?_
    refine lv_iload hx hb dX2_hash32_12 (lv_at hl 3 rfl) ?_
    refine lv_icmp_ge (tgt := 121) hx hb dX2_hash32_14 (by decide) (fun c14 => ?_) (fun c14 => ?_)
    · exact kk ls (by have hq : i = mm := (by omega); subst hq; exact lv_sub hl [0, 1, 2, 3] rfl)
    · exact absurd (nI_le (by omega) (by omega)) c14
  | succ d ih =>
    intro i hi ls hl
    refine lv_iload hx hb dX2_hash32_10 (lv_at hl 4 rfl) ?_
    refine lv_iload hx hb dX2_hash32_12 (lv_at hl 3 rfl) ?_
    refine lv_icmp_ge (tgt := 121) hx hb dX2_hash32_14 (by decide) (fun c14 => ?_) (fun c14 => ?_)
    · exact absurd c14 (nI_ge (by omega) (by omega))
    · refine lv_iload hx hb dX2_hash32_17 (lv_at hl 4 rfl) ?_
      refine lv_iconst (v := 2) hx hb dX2_hash32_19 (by decide) ?_
      refine lv_ishl hx hb dX2_hash32_20 ?_
      refine mt_i (y := (nI (4 * i))) (by rw [pk_shlN _ 2 (by decide) (by omega)]; exact congrArg nI (by omega)) ?_
      refine lv_istore (lv' := [(6, .int (nI (4 * i))), (0, .ref b0), (1, .int (nI (4 * mm))), (3, .int (sp_h32 (fun j => g j &&& 255) seed i)), (4, .int (nI mm)), (5, .int (nI i))]) hx hb dX2_hash32_21 hl (by decide) rfl (fun ls hl => ?_)
      refine lv_aload_n hx hb dX2_hash32_23 rfl (lv_at hl 1 rfl) ?_
      refine lv_iload hx hb dX2_hash32_24 (lv_at hl 0 rfl) ?_
      refine mt_bald hx hb hW 0 0 rfl rfl (4 * i) rfl (by omega) hn dX2_hash32_26 ?_
      refine lv_sipush (v := 255) hx hb dX2_hash32_27 (by decide) ?_
      refine lv_iand hx hb dX2_hash32_30 ?_
      refine lv_aload_n hx hb dX2_hash32_31 rfl (lv_at hl 1 rfl) ?_
      refine lv_iload hx hb dX2_hash32_32 (lv_at hl 0 rfl) ?_
      refine lv_iconst (v := 1) hx hb dX2_hash32_34 (by decide) ?_
      refine lv_iadd hx hb dX2_hash32_35 ?_
      refine mt_bald hx hb hW 0 0 rfl rfl (4 * i + 1) (ix1 rfl 1 rfl) (by omega) hn dX2_hash32_36 ?_
      refine lv_sipush (v := 255) hx hb dX2_hash32_37 (by decide) ?_
      refine lv_iand hx hb dX2_hash32_40 ?_
      refine lv_bipush (v := 8) hx hb dX2_hash32_41 (by decide) ?_
      refine lv_ishl hx hb dX2_hash32_43 ?_
      refine lv_ior hx hb dX2_hash32_44 ?_
      refine lv_aload_n hx hb dX2_hash32_45 rfl (lv_at hl 1 rfl) ?_
      refine lv_iload hx hb dX2_hash32_46 (lv_at hl 0 rfl) ?_
      refine lv_iconst (v := 2) hx hb dX2_hash32_48 (by decide) ?_
      refine lv_iadd hx hb dX2_hash32_49 ?_
      refine mt_bald hx hb hW 0 0 rfl rfl (4 * i + 2) (ix1 rfl 2 rfl) (by omega) hn dX2_hash32_50 ?_
      refine lv_sipush (v := 255) hx hb dX2_hash32_51 (by decide) ?_
      refine lv_iand hx hb dX2_hash32_54 ?_
      refine lv_bipush (v := 16) hx hb dX2_hash32_55 (by decide) ?_
      refine lv_ishl hx hb dX2_hash32_57 ?_
      refine lv_ior hx hb dX2_hash32_58 ?_
      refine lv_aload_n hx hb dX2_hash32_59 rfl (lv_at hl 1 rfl) ?_
      refine lv_iload hx hb dX2_hash32_60 (lv_at hl 0 rfl) ?_
      refine lv_iconst (v := 3) hx hb dX2_hash32_62 (by decide) ?_
      refine lv_iadd hx hb dX2_hash32_63 ?_
      refine mt_bald hx hb hW 0 0 rfl rfl (4 * i + 3) (ix1 rfl 3 rfl) (by omega) hn dX2_hash32_64 ?_
      refine lv_sipush (v := 255) hx hb dX2_hash32_65 (by decide) ?_
      refine lv_iand hx hb dX2_hash32_68 ?_
      refine lv_bipush (v := 24) hx hb dX2_hash32_69 (by decide) ?_
      refine lv_ishl hx hb dX2_hash32_71 ?_
      refine lv_ior hx hb dX2_hash32_72 ?_
      refine mt_i (y := (sp_w32 (fun k => g (4 * i + k) &&& 255))) (rfl) ?_
      refine lv_istore (lv' := [(7, .int (sp_w32 (fun k => g (4 * i + k) &&& 255))), (6, .int (nI (4 * i))), (0, .ref b0), (1, .int (nI (4 * mm))), (3, .int (sp_h32 (fun j => g j &&& 255) seed i)), (4, .int (nI mm)), (5, .int (nI i))]) hx hb dX2_hash32_73 hl (by decide) rfl (fun ls hl => ?_)
      refine lv_iload hx hb dX2_hash32_75 (lv_at hl 0 rfl) ?_
      refine lv_ldc (own := RX2) (index := 9) hx hb hown (hts _ q68) dX2_hash32_77 ?_
      refine lv_imul hx hb dX2_hash32_79 ?_
      refine lv_istore (lv' := [(7, .int ((sp_w32 (fun k => g (4 * i + k) &&& 255)) * (-862048943))), (6, .int (nI (4 * i))), (0, .ref b0), (1, .int (nI (4 * mm))), (3, .int (sp_h32 (fun j => g j &&& 255) seed i)), (4, .int (nI mm)), (5, .int (nI i))]) hx hb dX2_hash32_80 hl (by decide) rfl (fun ls hl => ?_)
      refine lv_iload hx hb dX2_hash32_82 (lv_at hl 0 rfl) ?_
      refine lv_bipush (v := 15) hx hb dX2_hash32_84 (by decide) ?_
      refine vp_callSi (va_runS (As := [.int ((sp_w32 (fun k => g (4 * i + k) &&& 255)) * (-862048943)), .int 15]) (rest := []) ⟨hx, hb, hml, hown, hts⟩ (met_rl32 l ((sp_w32 (fun k => g (4 * i + k) &&& 255)) * (-862048943)) 15) (va_cwS 2 hts (lw_S q69 q70 q6 q71) rfl rfl rfl (by decide +kernel) ⟨Nat.le_of_ble_eq_true rfl, Nat.le_of_ble_eq_true rfl⟩) (pre_S mv_T _ trivial) rfl rfl hl.1 rfl (lv_room (Nat.le_of_ble_eq_true rfl)) dX2_hash32_86 ⟨Nat.le_of_ble_eq_true rfl, Nat.le_of_ble_eq_true rfl⟩).run (fun r86 hr86 => ?_)
      obtain rfl : r86 = (sp_r32 ((sp_w32 (fun k => g (4 * i + k) &&& 255)) * (-862048943)) 15) := hr86
      refine lv_istore (lv' := [(7, .int (sp_r32 ((sp_w32 (fun k => g (4 * i + k) &&& 255)) * (-862048943)) 15)), (6, .int (nI (4 * i))), (0, .ref b0), (1, .int (nI (4 * mm))), (3, .int (sp_h32 (fun j => g j &&& 255) seed i)), (4, .int (nI mm)), (5, .int (nI i))]) hx hb dX2_hash32_89 hl (by decide) rfl (fun ls hl => ?_)
      refine lv_iload hx hb dX2_hash32_91 (lv_at hl 0 rfl) ?_
      refine lv_ldc (own := RX2) (index := 16) hx hb hown (hts _ q72) dX2_hash32_93 ?_
      refine lv_imul hx hb dX2_hash32_95 ?_
      refine mt_i (y := (sp_m32 (sp_w32 (fun k => g (4 * i + k) &&& 255)))) (rfl) ?_
      refine lv_istore (lv' := [(7, .int (sp_m32 (sp_w32 (fun k => g (4 * i + k) &&& 255)))), (6, .int (nI (4 * i))), (0, .ref b0), (1, .int (nI (4 * mm))), (3, .int (sp_h32 (fun j => g j &&& 255) seed i)), (4, .int (nI mm)), (5, .int (nI i))]) hx hb dX2_hash32_96 hl (by decide) rfl (fun ls hl => ?_)
      refine lv_iload_n hx hb dX2_hash32_98 rfl (lv_at hl 4 rfl) ?_
      refine lv_iload hx hb dX2_hash32_99 (lv_at hl 0 rfl) ?_
      refine lv_ixor hx hb dX2_hash32_101 ?_
      refine lv_istore_n (lv' := [(3, .int ((sp_h32 (fun j => g j &&& 255) seed i) ^^^ (sp_m32 (sp_w32 (fun k => g (4 * i + k) &&& 255))))), (7, .int (sp_m32 (sp_w32 (fun k => g (4 * i + k) &&& 255)))), (6, .int (nI (4 * i))), (0, .ref b0), (1, .int (nI (4 * mm))), (4, .int (nI mm)), (5, .int (nI i))]) hx hb dX2_hash32_102 rfl hl (by decide) rfl (fun ls hl => ?_)
      refine lv_iload_n hx hb dX2_hash32_103 rfl (lv_at hl 0 rfl) ?_
      refine lv_bipush (v := 13) hx hb dX2_hash32_104 (by decide) ?_
      refine vp_callSi (va_runS (As := [.int ((sp_h32 (fun j => g j &&& 255) seed i) ^^^ (sp_m32 (sp_w32 (fun k => g (4 * i + k) &&& 255)))), .int 13]) (rest := []) ⟨hx, hb, hml, hown, hts⟩ (met_rl32 l ((sp_h32 (fun j => g j &&& 255) seed i) ^^^ (sp_m32 (sp_w32 (fun k => g (4 * i + k) &&& 255)))) 13) (va_cwS 2 hts (lw_S q69 q70 q6 q71) rfl rfl rfl (by decide +kernel) ⟨Nat.le_of_ble_eq_true rfl, Nat.le_of_ble_eq_true rfl⟩) (pre_S mv_T _ trivial) rfl rfl hl.1 rfl (lv_room (Nat.le_of_ble_eq_true rfl)) dX2_hash32_106 ⟨Nat.le_of_ble_eq_true rfl, Nat.le_of_ble_eq_true rfl⟩).run (fun r106 hr106 => ?_)
      obtain rfl : r106 = (sp_r32 ((sp_h32 (fun j => g j &&& 255) seed i) ^^^ (sp_m32 (sp_w32 (fun k => g (4 * i + k) &&& 255)))) 13) := hr106
      refine lv_iconst (v := 5) hx hb dX2_hash32_109 (by decide) ?_
      refine lv_imul hx hb dX2_hash32_110 ?_
      refine lv_ldc (own := RX2) (index := 17) hx hb hown (hts _ q73) dX2_hash32_111 ?_
      refine lv_iadd hx hb dX2_hash32_113 ?_
      refine mt_i (y := (sp_h32 (fun j => g j &&& 255) seed (i + 1))) (rfl) ?_
      refine lv_istore_n (lv' := [(3, .int (sp_h32 (fun j => g j &&& 255) seed (i + 1))), (7, .int (sp_m32 (sp_w32 (fun k => g (4 * i + k) &&& 255)))), (6, .int (nI (4 * i))), (0, .ref b0), (1, .int (nI (4 * mm))), (4, .int (nI mm)), (5, .int (nI i))]) hx hb dX2_hash32_114 rfl hl (by decide) rfl (fun ls hl => ?_)
      refine lv_iinc (v := (nI (i + 1))) (lv' := [(5, .int (nI (i + 1))), (3, .int (sp_h32 (fun j => g j &&& 255) seed (i + 1))), (7, .int (sp_m32 (sp_w32 (fun k => g (4 * i + k) &&& 255)))), (6, .int (nI (4 * i))), (0, .ref b0), (1, .int (nI (4 * mm))), (4, .int (nI mm))]) hx hb dX2_hash32_115 hl (k := 6) rfl (nI_1 i) (by decide) rfl (fun ls hl => ?_)
      refine lv_goto (tgt := 10) hx hb dX2_hash32_118 (by decide) ?_
      exact ih (i + 1) (by omega) ls (lv_sub hl [4, 5, 1, 6, 0] rfl)
set_option maxHeartbeats 4000000 in
set_option maxRecDepth 100000 in
/-- Murmur3.hash32 of the first mm words -/
theorem met_hash32 (l : Launch) (D : va_G) (b0 : Nat) (dB : ClassId) (n0 : Nat) (g : Nat → Int32) (mm : Nat) (seed : Int32) (h4 : 4 * mm ≤ n0) (hn : n0 ≤ 256) : Met l yX2_hash32 (ws_ yX2_hash32 cX2_hash32 8 (some .int)) RM1 (va_Pc [.ref b0, .int (nI (4 * mm)), .int seed] (fun U => wo D [(b0, .inl (dB, n0, .inl g))] [(dB, .byte)] U U.heap)) (vp_Si (fun r => r = sp_F32 (fun j => g j &&& 255) mm seed)) 0 0 (fun _ => False) := by
  refine m_head (own := RX2) (by decide) rfl (Nat.le_of_ble_eq_true rfl) ?_
  intro p e s m below meth c C hnm hW ls hl
  have C0 := C
  obtain ⟨hx, hb, hr, hlocks, hml, hown, hts⟩ := C
  have hl : lv_has ls 8 [(0, .ref b0), (1, .int (nI (4 * mm))), (2, .int seed)] := hl
  refine lv_iload_n hx hb dX2_hash32_0 rfl (lv_at hl 2 rfl) ?_
  refine lv_istore_n (lv' := [(3, .int seed), (0, .ref b0), (1, .int (nI (4 * mm))), (2, .int seed)]) hx hb dX2_hash32_1 rfl hl (by decide) rfl (fun ls hl => ?_)
  refine lv_iload_n hx hb dX2_hash32_2 rfl (lv_at hl 2 rfl) ?_
  refine lv_iconst (v := 2) hx hb dX2_hash32_3 (by decide) ?_
  refine lv_ishr hx hb dX2_hash32_4 ?_
  refine mt_i (y := (nI mm)) (by rw [pk_shrN (by omega) _ 2 (by decide)]; exact congrArg nI (by omega)) ?_
  refine lv_istore (lv' := [(4, .int (nI mm)), (3, .int seed), (0, .ref b0), (1, .int (nI (4 * mm))), (2, .int seed)]) hx hb dX2_hash32_5 hl (by decide) rfl (fun ls hl => ?_)
  refine lv_iconst (v := 0) hx hb dX2_hash32_7 (by decide) ?_
  refine mt_i (y := (nI 0)) (rfl) ?_
  refine lv_istore (lv' := [(5, .int (nI 0)), (4, .int (nI mm)), (3, .int seed), (0, .ref b0), (1, .int (nI (4 * mm))), (2, .int seed)]) hx hb dX2_hash32_8 hl (by decide) rfl (fun ls hl => ?_)
  refine h32_loop C0 D b0 dB n0 g mm seed h4 hn hW (fun ls hl => ?_) mm 0 (Nat.zero_add _) ls (lv_sub hl [3, 4, 2, 1, 0] rfl)
  refine lv_iload hx hb dX2_hash32_121 (lv_at hl 3 rfl) ?_
  refine lv_iconst (v := 2) hx hb dX2_hash32_123 (by decide) ?_
  refine lv_ishl hx hb dX2_hash32_124 ?_
  refine mt_i (y := (nI (4 * mm))) (by rw [pk_shlN _ 2 (by decide) (by omega)]; exact congrArg nI (by omega)) ?_
  refine lv_istore (lv' := [(5, .int (nI (4 * mm))), (0, .ref b0), (1, .int (nI (4 * mm))), (3, .int (sp_h32 (fun j => g j &&& 255) seed mm)), (4, .int (nI mm))]) hx hb dX2_hash32_125 hl (by decide) rfl (fun ls hl => ?_)
  refine lv_iconst (v := 0) hx hb dX2_hash32_127 (by decide) ?_
  refine lv_istore (lv' := [(6, .int 0), (5, .int (nI (4 * mm))), (0, .ref b0), (1, .int (nI (4 * mm))), (3, .int (sp_h32 (fun j => g j &&& 255) seed mm)), (4, .int (nI mm))]) hx hb dX2_hash32_128 hl (by decide) rfl (fun ls hl => ?_)
  refine lv_iload_n hx hb dX2_hash32_130 rfl (lv_at hl 3 rfl) ?_
  refine lv_iload hx hb dX2_hash32_131 (lv_at hl 1 rfl) ?_
  refine lv_isub hx hb dX2_hash32_133 ?_
  refine mt_i (y := 0) (Int32.sub_self _) ?_
  refine lv_tableOut (tgt := 225) hx hb dX2_hash32_134 (Or.inl (by decide)) (by decide) ?_
  refine lv_iload_n hx hb dX2_hash32_225 rfl (lv_at hl 4 rfl) ?_
  refine lv_iload_n hx hb dX2_hash32_226 rfl (lv_at hl 3 rfl) ?_
  refine lv_ixor hx hb dX2_hash32_227 ?_
  refine lv_istore_n (lv' := [(3, .int ((sp_h32 (fun j => g j &&& 255) seed mm) ^^^ (nI (4 * mm)))), (6, .int 0), (5, .int (nI (4 * mm))), (0, .ref b0), (1, .int (nI (4 * mm))), (4, .int (nI mm))]) hx hb dX2_hash32_228 rfl hl (by decide) rfl (fun ls hl => ?_)
  refine lv_iload_n hx hb dX2_hash32_229 rfl (lv_at hl 0 rfl) ?_
  refine lv_iload_n hx hb dX2_hash32_230 rfl (lv_at hl 0 rfl) ?_
  refine lv_bipush (v := 16) hx hb dX2_hash32_231 (by decide) ?_
  refine lv_iushr (v := (sp_ush ((sp_h32 (fun j => g j &&& 255) seed mm) ^^^ (nI (4 * mm))) 16)) hx hb dX2_hash32_233 rfl ?_
  refine lv_ixor hx hb dX2_hash32_234 ?_
  refine lv_istore_n (lv' := [(3, .int (((sp_h32 (fun j => g j &&& 255) seed mm) ^^^ (nI (4 * mm))) ^^^ (sp_ush ((sp_h32 (fun j => g j &&& 255) seed mm) ^^^ (nI (4 * mm))) 16))), (6, .int 0), (5, .int (nI (4 * mm))), (0, .ref b0), (1, .int (nI (4 * mm))), (4, .int (nI mm))]) hx hb dX2_hash32_235 rfl hl (by decide) rfl (fun ls hl => ?_)
  refine lv_iload_n hx hb dX2_hash32_236 rfl (lv_at hl 0 rfl) ?_
  refine lv_ldc (own := RX2) (index := 18) hx hb hown (hts _ q74) dX2_hash32_237 ?_
  refine lv_imul hx hb dX2_hash32_239 ?_
  refine mt_i (y := (sp_fa ((sp_h32 (fun j => g j &&& 255) seed mm) ^^^ (nI (4 * mm))))) (rfl) ?_
  refine lv_istore_n (lv' := [(3, .int (sp_fa ((sp_h32 (fun j => g j &&& 255) seed mm) ^^^ (nI (4 * mm))))), (6, .int 0), (5, .int (nI (4 * mm))), (0, .ref b0), (1, .int (nI (4 * mm))), (4, .int (nI mm))]) hx hb dX2_hash32_240 rfl hl (by decide) rfl (fun ls hl => ?_)
  refine lv_iload_n hx hb dX2_hash32_241 rfl (lv_at hl 0 rfl) ?_
  refine lv_iload_n hx hb dX2_hash32_242 rfl (lv_at hl 0 rfl) ?_
  refine lv_bipush (v := 13) hx hb dX2_hash32_243 (by decide) ?_
  refine lv_iushr (v := (sp_ush (sp_fa ((sp_h32 (fun j => g j &&& 255) seed mm) ^^^ (nI (4 * mm)))) 13)) hx hb dX2_hash32_245 rfl ?_
  refine lv_ixor hx hb dX2_hash32_246 ?_
  refine lv_istore_n (lv' := [(3, .int ((sp_fa ((sp_h32 (fun j => g j &&& 255) seed mm) ^^^ (nI (4 * mm)))) ^^^ (sp_ush (sp_fa ((sp_h32 (fun j => g j &&& 255) seed mm) ^^^ (nI (4 * mm)))) 13))), (6, .int 0), (5, .int (nI (4 * mm))), (0, .ref b0), (1, .int (nI (4 * mm))), (4, .int (nI mm))]) hx hb dX2_hash32_247 rfl hl (by decide) rfl (fun ls hl => ?_)
  refine lv_iload_n hx hb dX2_hash32_248 rfl (lv_at hl 0 rfl) ?_
  refine lv_ldc (own := RX2) (index := 19) hx hb hown (hts _ q75) dX2_hash32_249 ?_
  refine lv_imul hx hb dX2_hash32_251 ?_
  refine mt_i (y := (sp_fb (sp_fa ((sp_h32 (fun j => g j &&& 255) seed mm) ^^^ (nI (4 * mm)))))) (rfl) ?_
  refine lv_istore_n (lv' := [(3, .int (sp_fb (sp_fa ((sp_h32 (fun j => g j &&& 255) seed mm) ^^^ (nI (4 * mm)))))), (6, .int 0), (5, .int (nI (4 * mm))), (0, .ref b0), (1, .int (nI (4 * mm))), (4, .int (nI mm))]) hx hb dX2_hash32_252 rfl hl (by decide) rfl (fun ls hl => ?_)
  refine lv_iload_n hx hb dX2_hash32_253 rfl (lv_at hl 0 rfl) ?_
  refine lv_iload_n hx hb dX2_hash32_254 rfl (lv_at hl 0 rfl) ?_
  refine lv_bipush (v := 16) hx hb dX2_hash32_255 (by decide) ?_
  refine lv_iushr (v := (sp_ush (sp_fb (sp_fa ((sp_h32 (fun j => g j &&& 255) seed mm) ^^^ (nI (4 * mm))))) 16)) hx hb dX2_hash32_257 rfl ?_
  refine lv_ixor hx hb dX2_hash32_258 ?_
  refine mt_i (y := (sp_F32 (fun j => g j &&& 255) mm seed)) (rfl) ?_
  refine lv_istore_n (lv' := [(3, .int (sp_F32 (fun j => g j &&& 255) mm seed)), (6, .int 0), (5, .int (nI (4 * mm))), (0, .ref b0), (1, .int (nI (4 * mm))), (4, .int (nI mm))]) hx hb dX2_hash32_259 rfl hl (by decide) rfl (fun ls hl => ?_)
  refine lv_iload_n hx hb dX2_hash32_260 rfl (lv_at hl 0 rfl) ?_
  exact W.iret (v := (sp_F32 (fun j => g j &&& 255) mm seed)) hx hb hr (fun t ht hW => ⟨_, rfl, rfl, ht⟩) (fun _ h => by cases h) dX2_hash32_261
/-! ===== the law's 32-bit hash ===== -/
set_option maxHeartbeats 4000000 in
set_option maxRecDepth 100000 in
/-- the loop: i words read -/
theorem lsm_loop {p : Program} {l : Launch} {e : Env} {s : State} {m : MethodId} {args : Array Value} {below : List Frame} {meth : Method} {c : Code} {H : Heap} {locs : List Loc} {Q : State → Prop} (C : Cx p s m args meth c cX0_small 7 (some .int) RX0) (D : va_G) (t0 : Nat) (dT : ClassId) (f : Nat → Int32) (a0 mm : Nat) (seed : Int32) (h4 : a0 + 4 * mm ≤ 256) (hW : wo D [(t0, .inl (dT, 256, .inl f))] [(dT, .int)] s H)
    (kk : ∀ ls : Array Slot, lv_has ls 7 [(0, .ref t0), (1, .int (nI a0)), (2, .int (nI (4 * mm))), (4, .int (sp_h32 (fun j => f (a0 + j)) seed mm))] → W p l e RM1 s m args below meth c H locs 0 0 Q (F0 m 88 ls [])) :
    ∀ (d i : Nat), i + d = mm → ∀ ls : Array Slot, lv_has ls 7 [(0, .ref t0), (1, .int (nI a0)), (2, .int (nI (4 * mm))), (4, .int (sp_h32 (fun j => f (a0 + j)) seed i)), (5, .int (nI (a0 + 4 * i)))] → W p l e RM1 s m args below meth c H locs 0 0 Q (F0 m 6 ls []) := by
  obtain ⟨hx, hb, hr, hlocks, hml, hown, hts⟩ := C
  intro d
  induction d with
  | zero =>
    intro i hi ls hl
    refine lv_iload hx hb dX0_small_6 (lv_at hl 4 rfl) ?_
    refine lv_iload_n hx hb dX0_small_8 rfl (lv_at hl 1 rfl) ?_
    refine lv_iload_n hx hb dX0_small_9 rfl (lv_at hl 2 rfl) ?_
    refine lv_iadd hx hb dX0_small_10 ?_
    refine mt_i (y := (nI (a0 + 4 * mm))) (nI_add _ _) ?_
    refine lv_icmp_ge (tgt := 88) hx hb dX0_small_11 (by decide) (fun c11 => ?_) (fun c11 => ?_)
    · exact kk ls (by have hq : i = mm := (by omega); subst hq; exact lv_sub hl [0, 1, 2, 3] rfl)
    · exact absurd (nI_le (by omega) (by omega)) c11
  | succ d ih =>
    intro i hi ls hl
    refine lv_iload hx hb dX0_small_6 (lv_at hl 4 rfl) ?_
    refine lv_iload_n hx hb dX0_small_8 rfl (lv_at hl 1 rfl) ?_
    refine lv_iload_n hx hb dX0_small_9 rfl (lv_at hl 2 rfl) ?_
    refine lv_iadd hx hb dX0_small_10 ?_
    refine mt_i (y := (nI (a0 + 4 * mm))) (nI_add _ _) ?_
    refine lv_icmp_ge (tgt := 88) hx hb dX0_small_11 (by decide) (fun c11 => ?_) (fun c11 => ?_)
    · exact absurd c11 (nI_ge (by omega) (by omega))
    · refine lv_aload_n hx hb dX0_small_14 rfl (lv_at hl 0 rfl) ?_
      refine lv_iload hx hb dX0_small_15 (lv_at hl 4 rfl) ?_
      refine mt_iald hx hb hW 0 0 rfl rfl (a0 + (4 * i + 0)) rfl (by omega) (by omega) dX0_small_17 ?_
      refine lv_aload_n hx hb dX0_small_18 rfl (lv_at hl 0 rfl) ?_
      refine lv_iload hx hb dX0_small_19 (lv_at hl 4 rfl) ?_
      refine lv_iconst (v := 1) hx hb dX0_small_21 (by decide) ?_
      refine lv_iadd hx hb dX0_small_22 ?_
      refine mt_iald hx hb hW 0 0 rfl rfl (a0 + (4 * i + 1)) (ix2 rfl 1 rfl) (by omega) (by omega) dX0_small_23 ?_
      refine lv_bipush (v := 8) hx hb dX0_small_24 (by decide) ?_
      refine lv_ishl hx hb dX0_small_26 ?_
      refine lv_ior hx hb dX0_small_27 ?_
      refine lv_aload_n hx hb dX0_small_28 rfl (lv_at hl 0 rfl) ?_
      refine lv_iload hx hb dX0_small_29 (lv_at hl 4 rfl) ?_
      refine lv_iconst (v := 2) hx hb dX0_small_31 (by decide) ?_
      refine lv_iadd hx hb dX0_small_32 ?_
      refine mt_iald hx hb hW 0 0 rfl rfl (a0 + (4 * i + 2)) (ix2 rfl 2 rfl) (by omega) (by omega) dX0_small_33 ?_
      refine lv_bipush (v := 16) hx hb dX0_small_34 (by decide) ?_
      refine lv_ishl hx hb dX0_small_36 ?_
      refine lv_ior hx hb dX0_small_37 ?_
      refine lv_aload_n hx hb dX0_small_38 rfl (lv_at hl 0 rfl) ?_
      refine lv_iload hx hb dX0_small_39 (lv_at hl 4 rfl) ?_
      refine lv_iconst (v := 3) hx hb dX0_small_41 (by decide) ?_
      refine lv_iadd hx hb dX0_small_42 ?_
      refine mt_iald hx hb hW 0 0 rfl rfl (a0 + (4 * i + 3)) (ix2 rfl 3 rfl) (by omega) (by omega) dX0_small_43 ?_
      refine lv_bipush (v := 24) hx hb dX0_small_44 (by decide) ?_
      refine lv_ishl hx hb dX0_small_46 ?_
      refine lv_ior hx hb dX0_small_47 ?_
      refine mt_i (y := (sp_w32 (fun k => f (a0 + (4 * i + k))))) (rfl) ?_
      refine lv_istore (lv' := [(6, .int (sp_w32 (fun k => f (a0 + (4 * i + k))))), (0, .ref t0), (1, .int (nI a0)), (2, .int (nI (4 * mm))), (4, .int (sp_h32 (fun j => f (a0 + j)) seed i)), (5, .int (nI (a0 + 4 * i)))]) hx hb dX0_small_48 hl (by decide) rfl (fun ls hl => ?_)
      refine lv_iload hx hb dX0_small_50 (lv_at hl 0 rfl) ?_
      refine lv_ldc (own := RX0) (index := 7) hx hb hown (hts _ q79) dX0_small_52 ?_
      refine lv_imul hx hb dX0_small_54 ?_
      refine lv_bipush (v := 15) hx hb dX0_small_55 (by decide) ?_
      refine vp_callSi (va_runS (As := [.int ((sp_w32 (fun k => f (a0 + (4 * i + k)))) * (-862048943)), .int 15]) (rest := []) ⟨hx, hb, hml, hown, hts⟩ (met_turned32 l ((sp_w32 (fun k => f (a0 + (4 * i + k)))) * (-862048943)) 15 (by decide +kernel)) (va_cwS 2 hts (lw_S q80 q81 q3 q82) rfl rfl rfl (by decide +kernel) ⟨Nat.le_of_ble_eq_true rfl, Nat.le_of_ble_eq_true rfl⟩) (pre_S mv_T _ trivial) rfl rfl hl.1 rfl (lv_room (Nat.le_of_ble_eq_true rfl)) dX0_small_57 ⟨Nat.le_of_ble_eq_true rfl, Nat.le_of_ble_eq_true rfl⟩).run (fun r57 hr57 => ?_)
      obtain rfl : r57 = (sp_r32 ((sp_w32 (fun k => f (a0 + (4 * i + k)))) * (-862048943)) 15) := hr57
      refine lv_ldc (own := RX0) (index := 14) hx hb hown (hts _ q83) dX0_small_60 ?_
      refine lv_imul hx hb dX0_small_62 ?_
      refine mt_i (y := (sp_m32 (sp_w32 (fun k => f (a0 + (4 * i + k)))))) (rfl) ?_
      refine lv_istore (lv' := [(6, .int (sp_m32 (sp_w32 (fun k => f (a0 + (4 * i + k)))))), (0, .ref t0), (1, .int (nI a0)), (2, .int (nI (4 * mm))), (4, .int (sp_h32 (fun j => f (a0 + j)) seed i)), (5, .int (nI (a0 + 4 * i)))]) hx hb dX0_small_63 hl (by decide) rfl (fun ls hl => ?_)
      refine lv_iload hx hb dX0_small_65 (lv_at hl 4 rfl) ?_
      refine lv_iload hx hb dX0_small_67 (lv_at hl 0 rfl) ?_
      refine lv_ixor hx hb dX0_small_69 ?_
      refine lv_bipush (v := 13) hx hb dX0_small_70 (by decide) ?_
      refine vp_callSi (va_runS (As := [.int ((sp_h32 (fun j => f (a0 + j)) seed i) ^^^ (sp_m32 (sp_w32 (fun k => f (a0 + (4 * i + k)))))), .int 13]) (rest := []) ⟨hx, hb, hml, hown, hts⟩ (met_turned32 l ((sp_h32 (fun j => f (a0 + j)) seed i) ^^^ (sp_m32 (sp_w32 (fun k => f (a0 + (4 * i + k)))))) 13 (by decide +kernel)) (va_cwS 2 hts (lw_S q80 q81 q3 q82) rfl rfl rfl (by decide +kernel) ⟨Nat.le_of_ble_eq_true rfl, Nat.le_of_ble_eq_true rfl⟩) (pre_S mv_T _ trivial) rfl rfl hl.1 rfl (lv_room (Nat.le_of_ble_eq_true rfl)) dX0_small_72 ⟨Nat.le_of_ble_eq_true rfl, Nat.le_of_ble_eq_true rfl⟩).run (fun r72 hr72 => ?_)
      obtain rfl : r72 = (sp_r32 ((sp_h32 (fun j => f (a0 + j)) seed i) ^^^ (sp_m32 (sp_w32 (fun k => f (a0 + (4 * i + k)))))) 13) := hr72
      refine lv_iconst (v := 5) hx hb dX0_small_75 (by decide) ?_
      refine lv_imul hx hb dX0_small_76 ?_
      refine lv_ldc (own := RX0) (index := 15) hx hb hown (hts _ q84) dX0_small_77 ?_
      refine lv_iadd hx hb dX0_small_79 ?_
      refine mt_i (y := (sp_h32 (fun j => f (a0 + j)) seed (i + 1))) (rfl) ?_
      refine lv_istore (lv' := [(4, .int (sp_h32 (fun j => f (a0 + j)) seed (i + 1))), (6, .int (sp_m32 (sp_w32 (fun k => f (a0 + (4 * i + k)))))), (0, .ref t0), (1, .int (nI a0)), (2, .int (nI (4 * mm))), (5, .int (nI (a0 + 4 * i)))]) hx hb dX0_small_80 hl (by decide) rfl (fun ls hl => ?_)
      refine lv_iinc (v := (nI (a0 + 4 * (i + 1)))) (lv' := [(5, .int (nI (a0 + 4 * (i + 1)))), (4, .int (sp_h32 (fun j => f (a0 + j)) seed (i + 1))), (6, .int (sp_m32 (sp_w32 (fun k => f (a0 + (4 * i + k)))))), (0, .ref t0), (1, .int (nI a0)), (2, .int (nI (4 * mm)))]) hx hb dX0_small_82 hl (k := 5) rfl (by rw [show Int32.ofInt 4 = nI 4 from rfl, nI_add]; exact congrArg nI (by omega)) (by decide) rfl (fun ls hl => ?_)
      refine lv_goto (tgt := 6) hx hb dX0_small_85 (by decide) ?_
      exact ih (i + 1) (by omega) ls (lv_sub hl [3, 4, 5, 1, 0] rfl)
set_option maxHeartbeats 4000000 in
set_option maxRecDepth 100000 in
/-- the law's small: of mm words from a0 on -/
theorem met_lsmall (l : Launch) (D : va_G) (t0 : Nat) (dT : ClassId) (f : Nat → Int32) (a0 mm : Nat) (seed : Int32) (h4 : a0 + 4 * mm ≤ 256) : Met l yX0_small (ws_ yX0_small cX0_small 7 (some .int)) RM1 (va_Pc [.ref t0, .int (nI a0), .int (nI (4 * mm)), .int seed] (fun U => wo D [(t0, .inl (dT, 256, .inl f))] [(dT, .int)] U U.heap)) (vp_Si (fun r => r = sp_F32 (fun j => f (a0 + j)) mm seed)) 0 0 (fun _ => False) := by
  refine m_head (own := RX0) (by decide) rfl (Nat.le_of_ble_eq_true rfl) ?_
  intro p e s m below meth c C hnm hW ls hl
  have C0 := C
  obtain ⟨hx, hb, hr, hlocks, hml, hown, hts⟩ := C
  have hl : lv_has ls 7 [(0, .ref t0), (1, .int (nI a0)), (2, .int (nI (4 * mm))), (3, .int seed)] := hl
  refine lv_iload_n hx hb dX0_small_0 rfl (lv_at hl 3 rfl) ?_
  refine lv_istore (lv' := [(4, .int seed), (0, .ref t0), (1, .int (nI a0)), (2, .int (nI (4 * mm))), (3, .int seed)]) hx hb dX0_small_1 hl (by decide) rfl (fun ls hl => ?_)
  refine lv_iload_n hx hb dX0_small_3 rfl (lv_at hl 2 rfl) ?_
  refine lv_istore (lv' := [(5, .int (nI a0)), (4, .int seed), (0, .ref t0), (1, .int (nI a0)), (2, .int (nI (4 * mm))), (3, .int seed)]) hx hb dX0_small_4 hl (by decide) rfl (fun ls hl => ?_)
  refine lsm_loop C0 D t0 dT f a0 mm seed h4 hW (fun ls hl => ?_) mm 0 (Nat.zero_add _) ls (lv_sub hl [2, 3, 4, 1, 0] rfl)
  refine lv_iload hx hb dX0_small_88 (lv_at hl 3 rfl) ?_
  refine lv_iload_n hx hb dX0_small_90 rfl (lv_at hl 2 rfl) ?_
  refine lv_ixor hx hb dX0_small_91 ?_
  refine lv_istore (lv' := [(4, .int ((sp_h32 (fun j => f (a0 + j)) seed mm) ^^^ (nI (4 * mm)))), (0, .ref t0), (1, .int (nI a0)), (2, .int (nI (4 * mm)))]) hx hb dX0_small_92 hl (by decide) rfl (fun ls hl => ?_)
  refine lv_iload hx hb dX0_small_94 (lv_at hl 0 rfl) ?_
  refine lv_iload hx hb dX0_small_96 (lv_at hl 0 rfl) ?_
  refine lv_bipush (v := 16) hx hb dX0_small_98 (by decide) ?_
  refine lv_iushr (v := (sp_ush ((sp_h32 (fun j => f (a0 + j)) seed mm) ^^^ (nI (4 * mm))) 16)) hx hb dX0_small_100 rfl ?_
  refine lv_ixor hx hb dX0_small_101 ?_
  refine lv_ldc (own := RX0) (index := 16) hx hb hown (hts _ q85) dX0_small_102 ?_
  refine lv_imul hx hb dX0_small_104 ?_
  refine mt_i (y := (sp_fa ((sp_h32 (fun j => f (a0 + j)) seed mm) ^^^ (nI (4 * mm))))) (rfl) ?_
  refine lv_istore (lv' := [(4, .int (sp_fa ((sp_h32 (fun j => f (a0 + j)) seed mm) ^^^ (nI (4 * mm))))), (0, .ref t0), (1, .int (nI a0)), (2, .int (nI (4 * mm)))]) hx hb dX0_small_105 hl (by decide) rfl (fun ls hl => ?_)
  refine lv_iload hx hb dX0_small_107 (lv_at hl 0 rfl) ?_
  refine lv_iload hx hb dX0_small_109 (lv_at hl 0 rfl) ?_
  refine lv_bipush (v := 13) hx hb dX0_small_111 (by decide) ?_
  refine lv_iushr (v := (sp_ush (sp_fa ((sp_h32 (fun j => f (a0 + j)) seed mm) ^^^ (nI (4 * mm)))) 13)) hx hb dX0_small_113 rfl ?_
  refine lv_ixor hx hb dX0_small_114 ?_
  refine lv_ldc (own := RX0) (index := 17) hx hb hown (hts _ q86) dX0_small_115 ?_
  refine lv_imul hx hb dX0_small_117 ?_
  refine mt_i (y := (sp_fb (sp_fa ((sp_h32 (fun j => f (a0 + j)) seed mm) ^^^ (nI (4 * mm)))))) (rfl) ?_
  refine lv_istore (lv' := [(4, .int (sp_fb (sp_fa ((sp_h32 (fun j => f (a0 + j)) seed mm) ^^^ (nI (4 * mm)))))), (0, .ref t0), (1, .int (nI a0)), (2, .int (nI (4 * mm)))]) hx hb dX0_small_118 hl (by decide) rfl (fun ls hl => ?_)
  refine lv_iload hx hb dX0_small_120 (lv_at hl 0 rfl) ?_
  refine lv_iload hx hb dX0_small_122 (lv_at hl 0 rfl) ?_
  refine lv_bipush (v := 16) hx hb dX0_small_124 (by decide) ?_
  refine lv_iushr (v := (sp_ush (sp_fb (sp_fa ((sp_h32 (fun j => f (a0 + j)) seed mm) ^^^ (nI (4 * mm))))) 16)) hx hb dX0_small_126 rfl ?_
  refine lv_ixor hx hb dX0_small_127 ?_
  exact W.iret (v := ((sp_fb (sp_fa ((sp_h32 (fun j => f (a0 + j)) seed mm) ^^^ (nI (4 * mm))))) ^^^ (sp_ush (sp_fb (sp_fa ((sp_h32 (fun j => f (a0 + j)) seed mm) ^^^ (nI (4 * mm))))) 16))) hx hb hr (fun t ht hW => ⟨_, rfl, rfl, ht⟩) (fun _ h => by cases h) dX0_small_128
end
section
/-! ===== Murmur3.hash128: its loop ===== -/
abbrev RM2 : Room := { frames := 1, cells := 1, slots := 2, locals := 22 }
set_option maxHeartbeats 4000000 in
set_option maxRecDepth 100000 in
/-- a word of eight bytes -/
theorem h128_w1 {p : Program} {l : Launch} {e : Env} {s : State} {m : MethodId} {args : Array Value} {below : List Frame} {meth : Method} {c : Code} {H : Heap} {locs : List Loc} {Q : State → Prop} (C : Cx p s m args meth c cX2_hash128 15 (some (.array .long)) RX2) (D : va_G) (b0 : Nat) (dB : ClassId) (n0 : Nat) (g : Nat → Int32) (nb : Nat) (n3 : Int32) (h4 : 16 * nb ≤ n0) (hn : n0 ≤ 256) (hW : wo D [(b0, .inl (dB, n0, .inl g))] [(dB, .byte)] s H) (i : Nat) (hi : i < nb) (kk : ∀ ls : Array Slot, lv_has ls 15 [(11, .long (sp_w64 (fun k => (g (16 * i + k) &&& 255).toInt64))), (0, .ref b0), (1, .int 0), (2, .int (nI n0)), (4, .long (sp_blk (fun j => (g j &&& 255).toInt64) n3.toInt64 i).1), (6, .long (sp_blk (fun j => (g j &&& 255).toInt64) n3.toInt64 i).2), (8, .int (nI nb)), (9, .int (nI i)), (10, .int (nI (16 * i)))] → W p l e RM2 s m args below meth c H locs 0 0 Q (F0 m 163 ls [])) :
    ∀ ls : Array Slot, lv_has ls 15 [(0, .ref b0), (1, .int 0), (2, .int (nI n0)), (4, .long (sp_blk (fun j => (g j &&& 255).toInt64) n3.toInt64 i).1), (6, .long (sp_blk (fun j => (g j &&& 255).toInt64) n3.toInt64 i).2), (8, .int (nI nb)), (9, .int (nI i)), (10, .int (nI (16 * i)))] → W p l e RM2 s m args below meth c H locs 0 0 Q (F0 m 29 ls []) := by
  intro ls hl
  obtain ⟨hx, hb, hr, hlocks, hml, hown, hts⟩ := C
  refine lv_aload_n hx hb dX2_hash128_29 rfl (lv_at hl 0 rfl) ?_
  refine lv_iload_n hx hb dX2_hash128_30 rfl (lv_at hl 1 rfl) ?_
  refine lv_iload hx hb dX2_hash128_31 (lv_at hl 7 rfl) ?_
  refine lv_iadd hx hb dX2_hash128_33 ?_
  refine mt_bald hx hb hW 0 0 rfl rfl (16 * i + 0) (ix00 rfl) (by omega) hn dX2_hash128_34 ?_
  refine lv_i2l (v := ((g (16 * i + 0))).toInt64) hx hb dX2_hash128_35 rfl ?_
  refine lv_ldc2 (own := RX2) (index := 20) hx hb hown (hts _ q94) dX2_hash128_36 ?_
  refine lv_land hx hb dX2_hash128_39 ?_
  refine mt_l (y := ((g (16 * i + 0) &&& 255).toInt64)) ((sp_l255 _).symm) ?_
  refine lv_aload_n hx hb dX2_hash128_40 rfl (lv_at hl 0 rfl) ?_
  refine lv_iload_n hx hb dX2_hash128_41 rfl (lv_at hl 1 rfl) ?_
  refine lv_iload hx hb dX2_hash128_42 (lv_at hl 7 rfl) ?_
  refine lv_iadd hx hb dX2_hash128_44 ?_
  refine lv_iconst (v := 1) hx hb dX2_hash128_45 (by decide) ?_
  refine lv_iadd hx hb dX2_hash128_46 ?_
  refine mt_bald hx hb hW 0 0 rfl rfl (16 * i + 1) (ix0 rfl 1 rfl) (by omega) hn dX2_hash128_47 ?_
  refine lv_i2l (v := ((g (16 * i + 1))).toInt64) hx hb dX2_hash128_48 rfl ?_
  refine lv_ldc2 (own := RX2) (index := 20) hx hb hown (hts _ q94) dX2_hash128_49 ?_
  refine lv_land hx hb dX2_hash128_52 ?_
  refine mt_l (y := ((g (16 * i + 1) &&& 255).toInt64)) ((sp_l255 _).symm) ?_
  refine lv_bipush (v := 8) hx hb dX2_hash128_53 (by decide) ?_
  refine lv_lshl (v := (sp_lsh ((g (16 * i + 1) &&& 255).toInt64) 8)) hx hb dX2_hash128_55 rfl ?_
  refine lv_lor hx hb dX2_hash128_56 ?_
  refine lv_aload_n hx hb dX2_hash128_57 rfl (lv_at hl 0 rfl) ?_
  refine lv_iload_n hx hb dX2_hash128_58 rfl (lv_at hl 1 rfl) ?_
  refine lv_iload hx hb dX2_hash128_59 (lv_at hl 7 rfl) ?_
  refine lv_iadd hx hb dX2_hash128_61 ?_
  refine lv_iconst (v := 2) hx hb dX2_hash128_62 (by decide) ?_
  refine lv_iadd hx hb dX2_hash128_63 ?_
  refine mt_bald hx hb hW 0 0 rfl rfl (16 * i + 2) (ix0 rfl 2 rfl) (by omega) hn dX2_hash128_64 ?_
  refine lv_i2l (v := ((g (16 * i + 2))).toInt64) hx hb dX2_hash128_65 rfl ?_
  refine lv_ldc2 (own := RX2) (index := 20) hx hb hown (hts _ q94) dX2_hash128_66 ?_
  refine lv_land hx hb dX2_hash128_69 ?_
  refine mt_l (y := ((g (16 * i + 2) &&& 255).toInt64)) ((sp_l255 _).symm) ?_
  refine lv_bipush (v := 16) hx hb dX2_hash128_70 (by decide) ?_
  refine lv_lshl (v := (sp_lsh ((g (16 * i + 2) &&& 255).toInt64) 16)) hx hb dX2_hash128_72 rfl ?_
  refine lv_lor hx hb dX2_hash128_73 ?_
  refine lv_aload_n hx hb dX2_hash128_74 rfl (lv_at hl 0 rfl) ?_
  refine lv_iload_n hx hb dX2_hash128_75 rfl (lv_at hl 1 rfl) ?_
  refine lv_iload hx hb dX2_hash128_76 (lv_at hl 7 rfl) ?_
  refine lv_iadd hx hb dX2_hash128_78 ?_
  refine lv_iconst (v := 3) hx hb dX2_hash128_79 (by decide) ?_
  refine lv_iadd hx hb dX2_hash128_80 ?_
  refine mt_bald hx hb hW 0 0 rfl rfl (16 * i + 3) (ix0 rfl 3 rfl) (by omega) hn dX2_hash128_81 ?_
  refine lv_i2l (v := ((g (16 * i + 3))).toInt64) hx hb dX2_hash128_82 rfl ?_
  refine lv_ldc2 (own := RX2) (index := 20) hx hb hown (hts _ q94) dX2_hash128_83 ?_
  refine lv_land hx hb dX2_hash128_86 ?_
  refine mt_l (y := ((g (16 * i + 3) &&& 255).toInt64)) ((sp_l255 _).symm) ?_
  refine lv_bipush (v := 24) hx hb dX2_hash128_87 (by decide) ?_
  refine lv_lshl (v := (sp_lsh ((g (16 * i + 3) &&& 255).toInt64) 24)) hx hb dX2_hash128_89 rfl ?_
  refine lv_lor hx hb dX2_hash128_90 ?_
  refine lv_aload_n hx hb dX2_hash128_91 rfl (lv_at hl 0 rfl) ?_
  refine lv_iload_n hx hb dX2_hash128_92 rfl (lv_at hl 1 rfl) ?_
  refine lv_iload hx hb dX2_hash128_93 (lv_at hl 7 rfl) ?_
  refine lv_iadd hx hb dX2_hash128_95 ?_
  refine lv_iconst (v := 4) hx hb dX2_hash128_96 (by decide) ?_
  refine lv_iadd hx hb dX2_hash128_97 ?_
  refine mt_bald hx hb hW 0 0 rfl rfl (16 * i + 4) (ix0 rfl 4 rfl) (by omega) hn dX2_hash128_98 ?_
  refine lv_i2l (v := ((g (16 * i + 4))).toInt64) hx hb dX2_hash128_99 rfl ?_
  refine lv_ldc2 (own := RX2) (index := 20) hx hb hown (hts _ q94) dX2_hash128_100 ?_
  refine lv_land hx hb dX2_hash128_103 ?_
  refine mt_l (y := ((g (16 * i + 4) &&& 255).toInt64)) ((sp_l255 _).symm) ?_
  refine lv_bipush (v := 32) hx hb dX2_hash128_104 (by decide) ?_
  refine lv_lshl (v := (sp_lsh ((g (16 * i + 4) &&& 255).toInt64) 32)) hx hb dX2_hash128_106 rfl ?_
  refine lv_lor hx hb dX2_hash128_107 ?_
  refine lv_aload_n hx hb dX2_hash128_108 rfl (lv_at hl 0 rfl) ?_
  refine lv_iload_n hx hb dX2_hash128_109 rfl (lv_at hl 1 rfl) ?_
  refine lv_iload hx hb dX2_hash128_110 (lv_at hl 7 rfl) ?_
  refine lv_iadd hx hb dX2_hash128_112 ?_
  refine lv_iconst (v := 5) hx hb dX2_hash128_113 (by decide) ?_
  refine lv_iadd hx hb dX2_hash128_114 ?_
  refine mt_bald hx hb hW 0 0 rfl rfl (16 * i + 5) (ix0 rfl 5 rfl) (by omega) hn dX2_hash128_115 ?_
  refine lv_i2l (v := ((g (16 * i + 5))).toInt64) hx hb dX2_hash128_116 rfl ?_
  refine lv_ldc2 (own := RX2) (index := 20) hx hb hown (hts _ q94) dX2_hash128_117 ?_
  refine lv_land hx hb dX2_hash128_120 ?_
  refine mt_l (y := ((g (16 * i + 5) &&& 255).toInt64)) ((sp_l255 _).symm) ?_
  refine lv_bipush (v := 40) hx hb dX2_hash128_121 (by decide) ?_
  refine lv_lshl (v := (sp_lsh ((g (16 * i + 5) &&& 255).toInt64) 40)) hx hb dX2_hash128_123 rfl ?_
  refine lv_lor hx hb dX2_hash128_124 ?_
  refine lv_aload_n hx hb dX2_hash128_125 rfl (lv_at hl 0 rfl) ?_
  refine lv_iload_n hx hb dX2_hash128_126 rfl (lv_at hl 1 rfl) ?_
  refine lv_iload hx hb dX2_hash128_127 (lv_at hl 7 rfl) ?_
  refine lv_iadd hx hb dX2_hash128_129 ?_
  refine lv_bipush (v := 6) hx hb dX2_hash128_130 (by decide) ?_
  refine lv_iadd hx hb dX2_hash128_132 ?_
  refine mt_bald hx hb hW 0 0 rfl rfl (16 * i + 6) (ix0 rfl 6 rfl) (by omega) hn dX2_hash128_133 ?_
  refine lv_i2l (v := ((g (16 * i + 6))).toInt64) hx hb dX2_hash128_134 rfl ?_
  refine lv_ldc2 (own := RX2) (index := 20) hx hb hown (hts _ q94) dX2_hash128_135 ?_
  refine lv_land hx hb dX2_hash128_138 ?_
  refine mt_l (y := ((g (16 * i + 6) &&& 255).toInt64)) ((sp_l255 _).symm) ?_
  refine lv_bipush (v := 48) hx hb dX2_hash128_139 (by decide) ?_
  refine lv_lshl (v := (sp_lsh ((g (16 * i + 6) &&& 255).toInt64) 48)) hx hb dX2_hash128_141 rfl ?_
  refine lv_lor hx hb dX2_hash128_142 ?_
  refine lv_aload_n hx hb dX2_hash128_143 rfl (lv_at hl 0 rfl) ?_
  refine lv_iload_n hx hb dX2_hash128_144 rfl (lv_at hl 1 rfl) ?_
  refine lv_iload hx hb dX2_hash128_145 (lv_at hl 7 rfl) ?_
  refine lv_iadd hx hb dX2_hash128_147 ?_
  refine lv_bipush (v := 7) hx hb dX2_hash128_148 (by decide) ?_
  refine lv_iadd hx hb dX2_hash128_150 ?_
  refine mt_bald hx hb hW 0 0 rfl rfl (16 * i + 7) (ix0 rfl 7 rfl) (by omega) hn dX2_hash128_151 ?_
  refine lv_i2l (v := ((g (16 * i + 7))).toInt64) hx hb dX2_hash128_152 rfl ?_
  refine lv_ldc2 (own := RX2) (index := 20) hx hb hown (hts _ q94) dX2_hash128_153 ?_
  refine lv_land hx hb dX2_hash128_156 ?_
  refine mt_l (y := ((g (16 * i + 7) &&& 255).toInt64)) ((sp_l255 _).symm) ?_
  refine lv_bipush (v := 56) hx hb dX2_hash128_157 (by decide) ?_
  refine lv_lshl (v := (sp_lsh ((g (16 * i + 7) &&& 255).toInt64) 56)) hx hb dX2_hash128_159 rfl ?_
  refine lv_lor hx hb dX2_hash128_160 ?_
  refine mt_l (y := (sp_w64 (fun k => (g (16 * i + k) &&& 255).toInt64))) (rfl) ?_
  refine lv_lstore (lv' := [(11, .long (sp_w64 (fun k => (g (16 * i + k) &&& 255).toInt64))), (0, .ref b0), (1, .int 0), (2, .int (nI n0)), (4, .long (sp_blk (fun j => (g j &&& 255).toInt64) n3.toInt64 i).1), (6, .long (sp_blk (fun j => (g j &&& 255).toInt64) n3.toInt64 i).2), (8, .int (nI nb)), (9, .int (nI i)), (10, .int (nI (16 * i)))]) hx hb dX2_hash128_161 hl (by decide) rfl (fun ls hl => ?_)
  exact kk ls hl
set_option maxHeartbeats 4000000 in
set_option maxRecDepth 100000 in
/-- a word of eight bytes -/
theorem h128_w2 {p : Program} {l : Launch} {e : Env} {s : State} {m : MethodId} {args : Array Value} {below : List Frame} {meth : Method} {c : Code} {H : Heap} {locs : List Loc} {Q : State → Prop} (C : Cx p s m args meth c cX2_hash128 15 (some (.array .long)) RX2) (D : va_G) (b0 : Nat) (dB : ClassId) (n0 : Nat) (g : Nat → Int32) (nb : Nat) (n3 : Int32) (h4 : 16 * nb ≤ n0) (hn : n0 ≤ 256) (hW : wo D [(b0, .inl (dB, n0, .inl g))] [(dB, .byte)] s H) (i : Nat) (hi : i < nb) (k1 : Int64) (kk : ∀ ls : Array Slot, lv_has ls 15 [(13, .long (sp_w64 (fun k => (g (16 * i + (8 + k)) &&& 255).toInt64))), (0, .ref b0), (1, .int 0), (2, .int (nI n0)), (4, .long (sp_blk (fun j => (g j &&& 255).toInt64) n3.toInt64 i).1), (6, .long (sp_blk (fun j => (g j &&& 255).toInt64) n3.toInt64 i).2), (8, .int (nI nb)), (9, .int (nI i)), (10, .int (nI (16 * i))), (11, .long k1)] → W p l e RM2 s m args below meth c H locs 0 0 Q (F0 m 305 ls [])) :
    ∀ ls : Array Slot, lv_has ls 15 [(0, .ref b0), (1, .int 0), (2, .int (nI n0)), (4, .long (sp_blk (fun j => (g j &&& 255).toInt64) n3.toInt64 i).1), (6, .long (sp_blk (fun j => (g j &&& 255).toInt64) n3.toInt64 i).2), (8, .int (nI nb)), (9, .int (nI i)), (10, .int (nI (16 * i))), (11, .long k1)] → W p l e RM2 s m args below meth c H locs 0 0 Q (F0 m 163 ls []) := by
  intro ls hl
  obtain ⟨hx, hb, hr, hlocks, hml, hown, hts⟩ := C
  refine lv_aload_n hx hb dX2_hash128_163 rfl (lv_at hl 0 rfl) ?_
  refine lv_iload_n hx hb dX2_hash128_164 rfl (lv_at hl 1 rfl) ?_
  refine lv_iload hx hb dX2_hash128_165 (lv_at hl 7 rfl) ?_
  refine lv_iadd hx hb dX2_hash128_167 ?_
  refine lv_bipush (v := 8) hx hb dX2_hash128_168 (by decide) ?_
  refine lv_iadd hx hb dX2_hash128_170 ?_
  refine mt_bald hx hb hW 0 0 rfl rfl (16 * i + 8) (ix0 rfl 8 rfl) (by omega) hn dX2_hash128_171 ?_
  refine lv_i2l (v := ((g (16 * i + 8))).toInt64) hx hb dX2_hash128_172 rfl ?_
  refine lv_ldc2 (own := RX2) (index := 20) hx hb hown (hts _ q94) dX2_hash128_173 ?_
  refine lv_land hx hb dX2_hash128_176 ?_
  refine mt_l (y := ((g (16 * i + 8) &&& 255).toInt64)) ((sp_l255 _).symm) ?_
  refine lv_aload_n hx hb dX2_hash128_177 rfl (lv_at hl 0 rfl) ?_
  refine lv_iload_n hx hb dX2_hash128_178 rfl (lv_at hl 1 rfl) ?_
  refine lv_iload hx hb dX2_hash128_179 (lv_at hl 7 rfl) ?_
  refine lv_iadd hx hb dX2_hash128_181 ?_
  refine lv_bipush (v := 9) hx hb dX2_hash128_182 (by decide) ?_
  refine lv_iadd hx hb dX2_hash128_184 ?_
  refine mt_bald hx hb hW 0 0 rfl rfl (16 * i + 9) (ix0 rfl 9 rfl) (by omega) hn dX2_hash128_185 ?_
  refine lv_i2l (v := ((g (16 * i + 9))).toInt64) hx hb dX2_hash128_186 rfl ?_
  refine lv_ldc2 (own := RX2) (index := 20) hx hb hown (hts _ q94) dX2_hash128_187 ?_
  refine lv_land hx hb dX2_hash128_190 ?_
  refine mt_l (y := ((g (16 * i + 9) &&& 255).toInt64)) ((sp_l255 _).symm) ?_
  refine lv_bipush (v := 8) hx hb dX2_hash128_191 (by decide) ?_
  refine lv_lshl (v := (sp_lsh ((g (16 * i + 9) &&& 255).toInt64) 8)) hx hb dX2_hash128_193 rfl ?_
  refine lv_lor hx hb dX2_hash128_194 ?_
  refine lv_aload_n hx hb dX2_hash128_195 rfl (lv_at hl 0 rfl) ?_
  refine lv_iload_n hx hb dX2_hash128_196 rfl (lv_at hl 1 rfl) ?_
  refine lv_iload hx hb dX2_hash128_197 (lv_at hl 7 rfl) ?_
  refine lv_iadd hx hb dX2_hash128_199 ?_
  refine lv_bipush (v := 10) hx hb dX2_hash128_200 (by decide) ?_
  refine lv_iadd hx hb dX2_hash128_202 ?_
  refine mt_bald hx hb hW 0 0 rfl rfl (16 * i + 10) (ix0 rfl 10 rfl) (by omega) hn dX2_hash128_203 ?_
  refine lv_i2l (v := ((g (16 * i + 10))).toInt64) hx hb dX2_hash128_204 rfl ?_
  refine lv_ldc2 (own := RX2) (index := 20) hx hb hown (hts _ q94) dX2_hash128_205 ?_
  refine lv_land hx hb dX2_hash128_208 ?_
  refine mt_l (y := ((g (16 * i + 10) &&& 255).toInt64)) ((sp_l255 _).symm) ?_
  refine lv_bipush (v := 16) hx hb dX2_hash128_209 (by decide) ?_
  refine lv_lshl (v := (sp_lsh ((g (16 * i + 10) &&& 255).toInt64) 16)) hx hb dX2_hash128_211 rfl ?_
  refine lv_lor hx hb dX2_hash128_212 ?_
  refine lv_aload_n hx hb dX2_hash128_213 rfl (lv_at hl 0 rfl) ?_
  refine lv_iload_n hx hb dX2_hash128_214 rfl (lv_at hl 1 rfl) ?_
  refine lv_iload hx hb dX2_hash128_215 (lv_at hl 7 rfl) ?_
  refine lv_iadd hx hb dX2_hash128_217 ?_
  refine lv_bipush (v := 11) hx hb dX2_hash128_218 (by decide) ?_
  refine lv_iadd hx hb dX2_hash128_220 ?_
  refine mt_bald hx hb hW 0 0 rfl rfl (16 * i + 11) (ix0 rfl 11 rfl) (by omega) hn dX2_hash128_221 ?_
  refine lv_i2l (v := ((g (16 * i + 11))).toInt64) hx hb dX2_hash128_222 rfl ?_
  refine lv_ldc2 (own := RX2) (index := 20) hx hb hown (hts _ q94) dX2_hash128_223 ?_
  refine lv_land hx hb dX2_hash128_226 ?_
  refine mt_l (y := ((g (16 * i + 11) &&& 255).toInt64)) ((sp_l255 _).symm) ?_
  refine lv_bipush (v := 24) hx hb dX2_hash128_227 (by decide) ?_
  refine lv_lshl (v := (sp_lsh ((g (16 * i + 11) &&& 255).toInt64) 24)) hx hb dX2_hash128_229 rfl ?_
  refine lv_lor hx hb dX2_hash128_230 ?_
  refine lv_aload_n hx hb dX2_hash128_231 rfl (lv_at hl 0 rfl) ?_
  refine lv_iload_n hx hb dX2_hash128_232 rfl (lv_at hl 1 rfl) ?_
  refine lv_iload hx hb dX2_hash128_233 (lv_at hl 7 rfl) ?_
  refine lv_iadd hx hb dX2_hash128_235 ?_
  refine lv_bipush (v := 12) hx hb dX2_hash128_236 (by decide) ?_
  refine lv_iadd hx hb dX2_hash128_238 ?_
  refine mt_bald hx hb hW 0 0 rfl rfl (16 * i + 12) (ix0 rfl 12 rfl) (by omega) hn dX2_hash128_239 ?_
  refine lv_i2l (v := ((g (16 * i + 12))).toInt64) hx hb dX2_hash128_240 rfl ?_
  refine lv_ldc2 (own := RX2) (index := 20) hx hb hown (hts _ q94) dX2_hash128_241 ?_
  refine lv_land hx hb dX2_hash128_244 ?_
  refine mt_l (y := ((g (16 * i + 12) &&& 255).toInt64)) ((sp_l255 _).symm) ?_
  refine lv_bipush (v := 32) hx hb dX2_hash128_245 (by decide) ?_
  refine lv_lshl (v := (sp_lsh ((g (16 * i + 12) &&& 255).toInt64) 32)) hx hb dX2_hash128_247 rfl ?_
  refine lv_lor hx hb dX2_hash128_248 ?_
  refine lv_aload_n hx hb dX2_hash128_249 rfl (lv_at hl 0 rfl) ?_
  refine lv_iload_n hx hb dX2_hash128_250 rfl (lv_at hl 1 rfl) ?_
  refine lv_iload hx hb dX2_hash128_251 (lv_at hl 7 rfl) ?_
  refine lv_iadd hx hb dX2_hash128_253 ?_
  refine lv_bipush (v := 13) hx hb dX2_hash128_254 (by decide) ?_
  refine lv_iadd hx hb dX2_hash128_256 ?_
  refine mt_bald hx hb hW 0 0 rfl rfl (16 * i + 13) (ix0 rfl 13 rfl) (by omega) hn dX2_hash128_257 ?_
  refine lv_i2l (v := ((g (16 * i + 13))).toInt64) hx hb dX2_hash128_258 rfl ?_
  refine lv_ldc2 (own := RX2) (index := 20) hx hb hown (hts _ q94) dX2_hash128_259 ?_
  refine lv_land hx hb dX2_hash128_262 ?_
  refine mt_l (y := ((g (16 * i + 13) &&& 255).toInt64)) ((sp_l255 _).symm) ?_
  refine lv_bipush (v := 40) hx hb dX2_hash128_263 (by decide) ?_
  refine lv_lshl (v := (sp_lsh ((g (16 * i + 13) &&& 255).toInt64) 40)) hx hb dX2_hash128_265 rfl ?_
  refine lv_lor hx hb dX2_hash128_266 ?_
  refine lv_aload_n hx hb dX2_hash128_267 rfl (lv_at hl 0 rfl) ?_
  refine lv_iload_n hx hb dX2_hash128_268 rfl (lv_at hl 1 rfl) ?_
  refine lv_iload hx hb dX2_hash128_269 (lv_at hl 7 rfl) ?_
  refine lv_iadd hx hb dX2_hash128_271 ?_
  refine lv_bipush (v := 14) hx hb dX2_hash128_272 (by decide) ?_
  refine lv_iadd hx hb dX2_hash128_274 ?_
  refine mt_bald hx hb hW 0 0 rfl rfl (16 * i + 14) (ix0 rfl 14 rfl) (by omega) hn dX2_hash128_275 ?_
  refine lv_i2l (v := ((g (16 * i + 14))).toInt64) hx hb dX2_hash128_276 rfl ?_
  refine lv_ldc2 (own := RX2) (index := 20) hx hb hown (hts _ q94) dX2_hash128_277 ?_
  refine lv_land hx hb dX2_hash128_280 ?_
  refine mt_l (y := ((g (16 * i + 14) &&& 255).toInt64)) ((sp_l255 _).symm) ?_
  refine lv_bipush (v := 48) hx hb dX2_hash128_281 (by decide) ?_
  refine lv_lshl (v := (sp_lsh ((g (16 * i + 14) &&& 255).toInt64) 48)) hx hb dX2_hash128_283 rfl ?_
  refine lv_lor hx hb dX2_hash128_284 ?_
  refine lv_aload_n hx hb dX2_hash128_285 rfl (lv_at hl 0 rfl) ?_
  refine lv_iload_n hx hb dX2_hash128_286 rfl (lv_at hl 1 rfl) ?_
  refine lv_iload hx hb dX2_hash128_287 (lv_at hl 7 rfl) ?_
  refine lv_iadd hx hb dX2_hash128_289 ?_
  refine lv_bipush (v := 15) hx hb dX2_hash128_290 (by decide) ?_
  refine lv_iadd hx hb dX2_hash128_292 ?_
  refine mt_bald hx hb hW 0 0 rfl rfl (16 * i + 15) (ix0 rfl 15 rfl) (by omega) hn dX2_hash128_293 ?_
  refine lv_i2l (v := ((g (16 * i + 15))).toInt64) hx hb dX2_hash128_294 rfl ?_
  refine lv_ldc2 (own := RX2) (index := 20) hx hb hown (hts _ q94) dX2_hash128_295 ?_
  refine lv_land hx hb dX2_hash128_298 ?_
  refine mt_l (y := ((g (16 * i + 15) &&& 255).toInt64)) ((sp_l255 _).symm) ?_
  refine lv_bipush (v := 56) hx hb dX2_hash128_299 (by decide) ?_
  refine lv_lshl (v := (sp_lsh ((g (16 * i + 15) &&& 255).toInt64) 56)) hx hb dX2_hash128_301 rfl ?_
  refine lv_lor hx hb dX2_hash128_302 ?_
  refine mt_l (y := (sp_w64 (fun k => (g (16 * i + (8 + k)) &&& 255).toInt64))) (rfl) ?_
  refine lv_lstore (lv' := [(13, .long (sp_w64 (fun k => (g (16 * i + (8 + k)) &&& 255).toInt64))), (0, .ref b0), (1, .int 0), (2, .int (nI n0)), (4, .long (sp_blk (fun j => (g j &&& 255).toInt64) n3.toInt64 i).1), (6, .long (sp_blk (fun j => (g j &&& 255).toInt64) n3.toInt64 i).2), (8, .int (nI nb)), (9, .int (nI i)), (10, .int (nI (16 * i))), (11, .long k1)]) hx hb dX2_hash128_303 hl (by decide) rfl (fun ls hl => ?_)
  exact kk ls hl
set_option maxHeartbeats 4000000 in
set_option maxRecDepth 100000 in
/-- a block is mixed in -/
theorem h128_mix {p : Program} {l : Launch} {e : Env} {s : State} {m : MethodId} {args : Array Value} {below : List Frame} {meth : Method} {c : Code} {H : Heap} {locs : List Loc} {Q : State → Prop} (C : Cx p s m args meth c cX2_hash128 15 (some (.array .long)) RX2) (D : va_G) (b0 : Nat) (dB : ClassId) (n0 : Nat) (g : Nat → Int32) (nb : Nat) (n3 : Int32) (h4 : 16 * nb ≤ n0) (hn : n0 ≤ 256) (i : Nat) (kk : ∀ ls : Array Slot, lv_has ls 15 [(0, .ref b0), (1, .int 0), (2, .int (nI n0)), (4, .long (sp_blk (fun j => (g j &&& 255).toInt64) n3.toInt64 (i + 1)).1), (6, .long (sp_blk (fun j => (g j &&& 255).toInt64) n3.toInt64 (i + 1)).2), (8, .int (nI nb)), (9, .int (nI i))] → W p l e RM2 s m args below meth c H locs 0 0 Q (F0 m 425 ls [])) :
    ∀ ls : Array Slot, lv_has ls 15 [(0, .ref b0), (1, .int 0), (2, .int (nI n0)), (4, .long (sp_blk (fun j => (g j &&& 255).toInt64) n3.toInt64 i).1), (6, .long (sp_blk (fun j => (g j &&& 255).toInt64) n3.toInt64 i).2), (8, .int (nI nb)), (9, .int (nI i)), (11, .long (sp_w64 (fun k => (g (16 * i + k) &&& 255).toInt64))), (13, .long (sp_w64 (fun k => (g (16 * i + (8 + k)) &&& 255).toInt64)))] → W p l e RM2 s m args below meth c H locs 0 0 Q (F0 m 305 ls []) := by
  intro ls hl
  obtain ⟨hx, hb, hr, hlocks, hml, hown, hts⟩ := C
  refine lv_lload hx hb dX2_hash128_305 (lv_at hl 7 rfl) ?_
  refine lv_ldc2 (own := RX2) (index := 22) hx hb hown (hts _ q95) dX2_hash128_307 ?_
  refine lv_lmul hx hb dX2_hash128_310 ?_
  refine lv_lstore (lv' := [(11, .long ((sp_w64 (fun k => (g (16 * i + k) &&& 255).toInt64)) * (-8663945395140668459))), (0, .ref b0), (1, .int 0), (2, .int (nI n0)), (4, .long (sp_blk (fun j => (g j &&& 255).toInt64) n3.toInt64 i).1), (6, .long (sp_blk (fun j => (g j &&& 255).toInt64) n3.toInt64 i).2), (8, .int (nI nb)), (9, .int (nI i)), (13, .long (sp_w64 (fun k => (g (16 * i + (8 + k)) &&& 255).toInt64)))]) hx hb dX2_hash128_311 hl (by decide) rfl (fun ls hl => ?_)
  refine lv_lload hx hb dX2_hash128_313 (lv_at hl 0 rfl) ?_
  refine lv_bipush (v := 31) hx hb dX2_hash128_315 (by decide) ?_
  refine vp_callSl (va_runS (As := [.long ((sp_w64 (fun k => (g (16 * i + k) &&& 255).toInt64)) * (-8663945395140668459)), .int 31]) (rest := []) ⟨hx, hb, hml, hown, hts⟩ (met_rl64 l ((sp_w64 (fun k => (g (16 * i + k) &&& 255).toInt64)) * (-8663945395140668459)) 31) (va_cwS 2 hts (lw_S q96 q97 q7 q98) rfl rfl rfl (by decide +kernel) ⟨Nat.le_of_ble_eq_true rfl, Nat.le_of_ble_eq_true rfl⟩) (pre_S mv_T _ trivial) rfl rfl hl.1 rfl (lv_room (Nat.le_of_ble_eq_true rfl)) dX2_hash128_317 ⟨Nat.le_of_ble_eq_true rfl, Nat.le_of_ble_eq_true rfl⟩).run (fun r317 hr317 => ?_)
  obtain rfl : r317 = (sp_r64 ((sp_w64 (fun k => (g (16 * i + k) &&& 255).toInt64)) * (-8663945395140668459)) 31) := hr317
  refine lv_lstore (lv' := [(11, .long (sp_r64 ((sp_w64 (fun k => (g (16 * i + k) &&& 255).toInt64)) * (-8663945395140668459)) 31)), (0, .ref b0), (1, .int 0), (2, .int (nI n0)), (4, .long (sp_blk (fun j => (g j &&& 255).toInt64) n3.toInt64 i).1), (6, .long (sp_blk (fun j => (g j &&& 255).toInt64) n3.toInt64 i).2), (8, .int (nI nb)), (9, .int (nI i)), (13, .long (sp_w64 (fun k => (g (16 * i + (8 + k)) &&& 255).toInt64)))]) hx hb dX2_hash128_320 hl (by decide) rfl (fun ls hl => ?_)
  refine lv_lload hx hb dX2_hash128_322 (lv_at hl 0 rfl) ?_
  refine lv_ldc2 (own := RX2) (index := 29) hx hb hown (hts _ q99) dX2_hash128_324 ?_
  refine lv_lmul hx hb dX2_hash128_327 ?_
  refine mt_l (y := (sp_mA (sp_w64 (fun k => (g (16 * i + k) &&& 255).toInt64)))) (rfl) ?_
  refine lv_lstore (lv' := [(11, .long (sp_mA (sp_w64 (fun k => (g (16 * i + k) &&& 255).toInt64)))), (0, .ref b0), (1, .int 0), (2, .int (nI n0)), (4, .long (sp_blk (fun j => (g j &&& 255).toInt64) n3.toInt64 i).1), (6, .long (sp_blk (fun j => (g j &&& 255).toInt64) n3.toInt64 i).2), (8, .int (nI nb)), (9, .int (nI i)), (13, .long (sp_w64 (fun k => (g (16 * i + (8 + k)) &&& 255).toInt64)))]) hx hb dX2_hash128_328 hl (by decide) rfl (fun ls hl => ?_)
  refine lv_lload hx hb dX2_hash128_330 (lv_at hl 4 rfl) ?_
  refine lv_lload hx hb dX2_hash128_332 (lv_at hl 0 rfl) ?_
  refine lv_lxor hx hb dX2_hash128_334 ?_
  refine lv_lstore (lv' := [(4, .long ((sp_blk (fun j => (g j &&& 255).toInt64) n3.toInt64 i).1 ^^^ (sp_mA (sp_w64 (fun k => (g (16 * i + k) &&& 255).toInt64))))), (11, .long (sp_mA (sp_w64 (fun k => (g (16 * i + k) &&& 255).toInt64)))), (0, .ref b0), (1, .int 0), (2, .int (nI n0)), (6, .long (sp_blk (fun j => (g j &&& 255).toInt64) n3.toInt64 i).2), (8, .int (nI nb)), (9, .int (nI i)), (13, .long (sp_w64 (fun k => (g (16 * i + (8 + k)) &&& 255).toInt64)))]) hx hb dX2_hash128_335 hl (by decide) rfl (fun ls hl => ?_)
  refine lv_lload hx hb dX2_hash128_337 (lv_at hl 0 rfl) ?_
  refine lv_bipush (v := 27) hx hb dX2_hash128_339 (by decide) ?_
  refine vp_callSl (va_runS (As := [.long ((sp_blk (fun j => (g j &&& 255).toInt64) n3.toInt64 i).1 ^^^ (sp_mA (sp_w64 (fun k => (g (16 * i + k) &&& 255).toInt64)))), .int 27]) (rest := []) ⟨hx, hb, hml, hown, hts⟩ (met_rl64 l ((sp_blk (fun j => (g j &&& 255).toInt64) n3.toInt64 i).1 ^^^ (sp_mA (sp_w64 (fun k => (g (16 * i + k) &&& 255).toInt64)))) 27) (va_cwS 2 hts (lw_S q96 q97 q7 q98) rfl rfl rfl (by decide +kernel) ⟨Nat.le_of_ble_eq_true rfl, Nat.le_of_ble_eq_true rfl⟩) (pre_S mv_T _ trivial) rfl rfl hl.1 rfl (lv_room (Nat.le_of_ble_eq_true rfl)) dX2_hash128_341 ⟨Nat.le_of_ble_eq_true rfl, Nat.le_of_ble_eq_true rfl⟩).run (fun r341 hr341 => ?_)
  obtain rfl : r341 = (sp_r64 ((sp_blk (fun j => (g j &&& 255).toInt64) n3.toInt64 i).1 ^^^ (sp_mA (sp_w64 (fun k => (g (16 * i + k) &&& 255).toInt64)))) 27) := hr341
  refine lv_lstore (lv' := [(4, .long (sp_r64 ((sp_blk (fun j => (g j &&& 255).toInt64) n3.toInt64 i).1 ^^^ (sp_mA (sp_w64 (fun k => (g (16 * i + k) &&& 255).toInt64)))) 27)), (11, .long (sp_mA (sp_w64 (fun k => (g (16 * i + k) &&& 255).toInt64)))), (0, .ref b0), (1, .int 0), (2, .int (nI n0)), (6, .long (sp_blk (fun j => (g j &&& 255).toInt64) n3.toInt64 i).2), (8, .int (nI nb)), (9, .int (nI i)), (13, .long (sp_w64 (fun k => (g (16 * i + (8 + k)) &&& 255).toInt64)))]) hx hb dX2_hash128_344 hl (by decide) rfl (fun ls hl => ?_)
  refine lv_lload hx hb dX2_hash128_346 (lv_at hl 0 rfl) ?_
  refine lv_lload hx hb dX2_hash128_348 (lv_at hl 5 rfl) ?_
  refine lv_ladd hx hb dX2_hash128_350 ?_
  refine lv_lstore (lv' := [(4, .long ((sp_r64 ((sp_blk (fun j => (g j &&& 255).toInt64) n3.toInt64 i).1 ^^^ (sp_mA (sp_w64 (fun k => (g (16 * i + k) &&& 255).toInt64)))) 27) + (sp_blk (fun j => (g j &&& 255).toInt64) n3.toInt64 i).2)), (11, .long (sp_mA (sp_w64 (fun k => (g (16 * i + k) &&& 255).toInt64)))), (0, .ref b0), (1, .int 0), (2, .int (nI n0)), (6, .long (sp_blk (fun j => (g j &&& 255).toInt64) n3.toInt64 i).2), (8, .int (nI nb)), (9, .int (nI i)), (13, .long (sp_w64 (fun k => (g (16 * i + (8 + k)) &&& 255).toInt64)))]) hx hb dX2_hash128_351 hl (by decide) rfl (fun ls hl => ?_)
  refine lv_lload hx hb dX2_hash128_353 (lv_at hl 0 rfl) ?_
  refine lv_ldc2 (own := RX2) (index := 31) hx hb hown (hts _ q100) dX2_hash128_355 ?_
  refine lv_lmul hx hb dX2_hash128_358 ?_
  refine lv_ldc2 (own := RX2) (index := 33) hx hb hown (hts _ q101) dX2_hash128_359 ?_
  refine lv_ladd hx hb dX2_hash128_362 ?_
  refine mt_l (y := (sp_blk (fun j => (g j &&& 255).toInt64) n3.toInt64 (i + 1)).1) (rfl) ?_
  refine lv_lstore (lv' := [(4, .long (sp_blk (fun j => (g j &&& 255).toInt64) n3.toInt64 (i + 1)).1), (11, .long (sp_mA (sp_w64 (fun k => (g (16 * i + k) &&& 255).toInt64)))), (0, .ref b0), (1, .int 0), (2, .int (nI n0)), (6, .long (sp_blk (fun j => (g j &&& 255).toInt64) n3.toInt64 i).2), (8, .int (nI nb)), (9, .int (nI i)), (13, .long (sp_w64 (fun k => (g (16 * i + (8 + k)) &&& 255).toInt64)))]) hx hb dX2_hash128_363 hl (by decide) rfl (fun ls hl => ?_)
  refine lv_lload hx hb dX2_hash128_365 (lv_at hl 8 rfl) ?_
  refine lv_ldc2 (own := RX2) (index := 29) hx hb hown (hts _ q99) dX2_hash128_367 ?_
  refine lv_lmul hx hb dX2_hash128_370 ?_
  refine lv_lstore (lv' := [(13, .long ((sp_w64 (fun k => (g (16 * i + (8 + k)) &&& 255).toInt64)) * 5545529020109919103)), (4, .long (sp_blk (fun j => (g j &&& 255).toInt64) n3.toInt64 (i + 1)).1), (11, .long (sp_mA (sp_w64 (fun k => (g (16 * i + k) &&& 255).toInt64)))), (0, .ref b0), (1, .int 0), (2, .int (nI n0)), (6, .long (sp_blk (fun j => (g j &&& 255).toInt64) n3.toInt64 i).2), (8, .int (nI nb)), (9, .int (nI i))]) hx hb dX2_hash128_371 hl (by decide) rfl (fun ls hl => ?_)
  refine lv_lload hx hb dX2_hash128_373 (lv_at hl 0 rfl) ?_
  refine lv_bipush (v := 33) hx hb dX2_hash128_375 (by decide) ?_
  refine vp_callSl (va_runS (As := [.long ((sp_w64 (fun k => (g (16 * i + (8 + k)) &&& 255).toInt64)) * 5545529020109919103), .int 33]) (rest := []) ⟨hx, hb, hml, hown, hts⟩ (met_rl64 l ((sp_w64 (fun k => (g (16 * i + (8 + k)) &&& 255).toInt64)) * 5545529020109919103) 33) (va_cwS 2 hts (lw_S q96 q97 q7 q98) rfl rfl rfl (by decide +kernel) ⟨Nat.le_of_ble_eq_true rfl, Nat.le_of_ble_eq_true rfl⟩) (pre_S mv_T _ trivial) rfl rfl hl.1 rfl (lv_room (Nat.le_of_ble_eq_true rfl)) dX2_hash128_377 ⟨Nat.le_of_ble_eq_true rfl, Nat.le_of_ble_eq_true rfl⟩).run (fun r377 hr377 => ?_)
  obtain rfl : r377 = (sp_r64 ((sp_w64 (fun k => (g (16 * i + (8 + k)) &&& 255).toInt64)) * 5545529020109919103) 33) := hr377
  refine lv_lstore (lv' := [(13, .long (sp_r64 ((sp_w64 (fun k => (g (16 * i + (8 + k)) &&& 255).toInt64)) * 5545529020109919103) 33)), (4, .long (sp_blk (fun j => (g j &&& 255).toInt64) n3.toInt64 (i + 1)).1), (11, .long (sp_mA (sp_w64 (fun k => (g (16 * i + k) &&& 255).toInt64)))), (0, .ref b0), (1, .int 0), (2, .int (nI n0)), (6, .long (sp_blk (fun j => (g j &&& 255).toInt64) n3.toInt64 i).2), (8, .int (nI nb)), (9, .int (nI i))]) hx hb dX2_hash128_380 hl (by decide) rfl (fun ls hl => ?_)
  refine lv_lload hx hb dX2_hash128_382 (lv_at hl 0 rfl) ?_
  refine lv_ldc2 (own := RX2) (index := 22) hx hb hown (hts _ q95) dX2_hash128_384 ?_
  refine lv_lmul hx hb dX2_hash128_387 ?_
  refine mt_l (y := (sp_mB (sp_w64 (fun k => (g (16 * i + (8 + k)) &&& 255).toInt64)))) (rfl) ?_
  refine lv_lstore (lv' := [(13, .long (sp_mB (sp_w64 (fun k => (g (16 * i + (8 + k)) &&& 255).toInt64)))), (4, .long (sp_blk (fun j => (g j &&& 255).toInt64) n3.toInt64 (i + 1)).1), (11, .long (sp_mA (sp_w64 (fun k => (g (16 * i + k) &&& 255).toInt64)))), (0, .ref b0), (1, .int 0), (2, .int (nI n0)), (6, .long (sp_blk (fun j => (g j &&& 255).toInt64) n3.toInt64 i).2), (8, .int (nI nb)), (9, .int (nI i))]) hx hb dX2_hash128_388 hl (by decide) rfl (fun ls hl => ?_)
  refine lv_lload hx hb dX2_hash128_390 (lv_at hl 6 rfl) ?_
  refine lv_lload hx hb dX2_hash128_392 (lv_at hl 0 rfl) ?_
  refine lv_lxor hx hb dX2_hash128_394 ?_
  refine lv_lstore (lv' := [(6, .long ((sp_blk (fun j => (g j &&& 255).toInt64) n3.toInt64 i).2 ^^^ (sp_mB (sp_w64 (fun k => (g (16 * i + (8 + k)) &&& 255).toInt64))))), (13, .long (sp_mB (sp_w64 (fun k => (g (16 * i + (8 + k)) &&& 255).toInt64)))), (4, .long (sp_blk (fun j => (g j &&& 255).toInt64) n3.toInt64 (i + 1)).1), (11, .long (sp_mA (sp_w64 (fun k => (g (16 * i + k) &&& 255).toInt64)))), (0, .ref b0), (1, .int 0), (2, .int (nI n0)), (8, .int (nI nb)), (9, .int (nI i))]) hx hb dX2_hash128_395 hl (by decide) rfl (fun ls hl => ?_)
  refine lv_lload hx hb dX2_hash128_397 (lv_at hl 0 rfl) ?_
  refine lv_bipush (v := 31) hx hb dX2_hash128_399 (by decide) ?_
  refine vp_callSl (va_runS (As := [.long ((sp_blk (fun j => (g j &&& 255).toInt64) n3.toInt64 i).2 ^^^ (sp_mB (sp_w64 (fun k => (g (16 * i + (8 + k)) &&& 255).toInt64)))), .int 31]) (rest := []) ⟨hx, hb, hml, hown, hts⟩ (met_rl64 l ((sp_blk (fun j => (g j &&& 255).toInt64) n3.toInt64 i).2 ^^^ (sp_mB (sp_w64 (fun k => (g (16 * i + (8 + k)) &&& 255).toInt64)))) 31) (va_cwS 2 hts (lw_S q96 q97 q7 q98) rfl rfl rfl (by decide +kernel) ⟨Nat.le_of_ble_eq_true rfl, Nat.le_of_ble_eq_true rfl⟩) (pre_S mv_T _ trivial) rfl rfl hl.1 rfl (lv_room (Nat.le_of_ble_eq_true rfl)) dX2_hash128_401 ⟨Nat.le_of_ble_eq_true rfl, Nat.le_of_ble_eq_true rfl⟩).run (fun r401 hr401 => ?_)
  obtain rfl : r401 = (sp_r64 ((sp_blk (fun j => (g j &&& 255).toInt64) n3.toInt64 i).2 ^^^ (sp_mB (sp_w64 (fun k => (g (16 * i + (8 + k)) &&& 255).toInt64)))) 31) := hr401
  refine lv_lstore (lv' := [(6, .long (sp_r64 ((sp_blk (fun j => (g j &&& 255).toInt64) n3.toInt64 i).2 ^^^ (sp_mB (sp_w64 (fun k => (g (16 * i + (8 + k)) &&& 255).toInt64)))) 31)), (13, .long (sp_mB (sp_w64 (fun k => (g (16 * i + (8 + k)) &&& 255).toInt64)))), (4, .long (sp_blk (fun j => (g j &&& 255).toInt64) n3.toInt64 (i + 1)).1), (11, .long (sp_mA (sp_w64 (fun k => (g (16 * i + k) &&& 255).toInt64)))), (0, .ref b0), (1, .int 0), (2, .int (nI n0)), (8, .int (nI nb)), (9, .int (nI i))]) hx hb dX2_hash128_404 hl (by decide) rfl (fun ls hl => ?_)
  refine lv_lload hx hb dX2_hash128_406 (lv_at hl 0 rfl) ?_
  refine lv_lload hx hb dX2_hash128_408 (lv_at hl 2 rfl) ?_
  refine lv_ladd hx hb dX2_hash128_410 ?_
  refine lv_lstore (lv' := [(6, .long ((sp_r64 ((sp_blk (fun j => (g j &&& 255).toInt64) n3.toInt64 i).2 ^^^ (sp_mB (sp_w64 (fun k => (g (16 * i + (8 + k)) &&& 255).toInt64)))) 31) + (sp_blk (fun j => (g j &&& 255).toInt64) n3.toInt64 (i + 1)).1)), (13, .long (sp_mB (sp_w64 (fun k => (g (16 * i + (8 + k)) &&& 255).toInt64)))), (4, .long (sp_blk (fun j => (g j &&& 255).toInt64) n3.toInt64 (i + 1)).1), (11, .long (sp_mA (sp_w64 (fun k => (g (16 * i + k) &&& 255).toInt64)))), (0, .ref b0), (1, .int 0), (2, .int (nI n0)), (8, .int (nI nb)), (9, .int (nI i))]) hx hb dX2_hash128_411 hl (by decide) rfl (fun ls hl => ?_)
  refine lv_lload hx hb dX2_hash128_413 (lv_at hl 0 rfl) ?_
  refine lv_ldc2 (own := RX2) (index := 31) hx hb hown (hts _ q100) dX2_hash128_415 ?_
  refine lv_lmul hx hb dX2_hash128_418 ?_
  refine lv_ldc2 (own := RX2) (index := 35) hx hb hown (hts _ q102) dX2_hash128_419 ?_
  refine lv_ladd hx hb dX2_hash128_422 ?_
  refine mt_l (y := (sp_blk (fun j => (g j &&& 255).toInt64) n3.toInt64 (i + 1)).2) (rfl) ?_
  refine lv_lstore (lv' := [(6, .long (sp_blk (fun j => (g j &&& 255).toInt64) n3.toInt64 (i + 1)).2), (13, .long (sp_mB (sp_w64 (fun k => (g (16 * i + (8 + k)) &&& 255).toInt64)))), (4, .long (sp_blk (fun j => (g j &&& 255).toInt64) n3.toInt64 (i + 1)).1), (11, .long (sp_mA (sp_w64 (fun k => (g (16 * i + k) &&& 255).toInt64)))), (0, .ref b0), (1, .int 0), (2, .int (nI n0)), (8, .int (nI nb)), (9, .int (nI i))]) hx hb dX2_hash128_423 hl (by decide) rfl (fun ls hl => ?_)
  exact kk ls (lv_sub hl [4, 5, 6, 2, 0, 7, 8] rfl)
set_option maxHeartbeats 4000000 in
set_option maxRecDepth 100000 in
/-- the loop: i blocks read -/
theorem h128_loop {p : Program} {l : Launch} {e : Env} {s : State} {m : MethodId} {args : Array Value} {below : List Frame} {meth : Method} {c : Code} {H : Heap} {locs : List Loc} {Q : State → Prop} (C : Cx p s m args meth c cX2_hash128 15 (some (.array .long)) RX2) (D : va_G) (b0 : Nat) (dB : ClassId) (n0 : Nat) (g : Nat → Int32) (nb : Nat) (n3 : Int32) (h4 : 16 * nb ≤ n0) (hn : n0 ≤ 256) (hW : wo D [(b0, .inl (dB, n0, .inl g))] [(dB, .byte)] s H)
    (kk : ∀ ls : Array Slot, lv_has ls 15 [(0, .ref b0), (1, .int 0), (2, .int (nI n0)), (4, .long (sp_blk (fun j => (g j &&& 255).toInt64) n3.toInt64 nb).1), (6, .long (sp_blk (fun j => (g j &&& 255).toInt64) n3.toInt64 nb).2), (8, .int (nI nb))] → W p l e RM2 s m args below meth c H locs 0 0 Q (F0 m 431 ls [])) :
    ∀ (d i : Nat), i + d = nb → ∀ ls : Array Slot, lv_has ls 15 [(0, .ref b0), (1, .int 0), (2, .int (nI n0)), (4, .long (sp_blk (fun j => (g j &&& 255).toInt64) n3.toInt64 i).1), (6, .long (sp_blk (fun j => (g j &&& 255).toInt64) n3.toInt64 i).2), (8, .int (nI nb)), (9, .int (nI i))] → W p l e RM2 s m args below meth c H locs 0 0 Q (F0 m 16 ls []) := by
  have C0 := C
  obtain ⟨hx, hb, hr, hlocks, hml, hown, hts⟩ := C
  intro d
  induction d with
  | zero =>
    intro i hi ls hl
    refine lv_iload hx hb dX2_hash128_16 (lv_at hl 6 rfl) ?_
    refine lv_iload hx hb dX2_hash128_18 (lv_at hl 5 rfl) ?_
    refine lv_icmp_ge (tgt := 431) hx hb dX2_hash128_20 (by decide) (fun c20 => ?_) (fun c20 => ?_)
    · exact kk ls (by have hq : i = nb := (by omega); subst hq; exact lv_sub hl [0, 1, 2, 3, 4, 5] rfl)
    · exact absurd (nI_le (by omega) (by omega)) c20
  | succ d ih =>
    intro i hi ls hl
    refine lv_iload hx hb dX2_hash128_16 (lv_at hl 6 rfl) ?_
    refine lv_iload hx hb dX2_hash128_18 (lv_at hl 5 rfl) ?_
    refine lv_icmp_ge (tgt := 431) hx hb dX2_hash128_20 (by decide) (fun c20 => ?_) (fun c20 => ?_)
    · exact absurd c20 (nI_ge (by omega) (by omega))
    · refine lv_iload hx hb dX2_hash128_23 (lv_at hl 6 rfl) ?_
      refine lv_iconst (v := 4) hx hb dX2_hash128_25 (by decide) ?_
      refine lv_ishl hx hb dX2_hash128_26 ?_
      refine mt_i (y := (nI (16 * i))) (by rw [pk_shlN _ 4 (by decide) (by omega)]; exact congrArg nI (by omega)) ?_
      refine lv_istore (lv' := [(10, .int (nI (16 * i))), (0, .ref b0), (1, .int 0), (2, .int (nI n0)), (4, .long (sp_blk (fun j => (g j &&& 255).toInt64) n3.toInt64 i).1), (6, .long (sp_blk (fun j => (g j &&& 255).toInt64) n3.toInt64 i).2), (8, .int (nI nb)), (9, .int (nI i))]) hx hb dX2_hash128_27 hl (by decide) rfl (fun ls hl => ?_)
      refine h128_w1 C0 D b0 dB n0 g nb n3 h4 hn hW i (by omega) (fun ls hl => ?_) ls (lv_sub hl [1, 2, 3, 4, 5, 6, 7, 0] rfl)
      refine h128_w2 C0 D b0 dB n0 g nb n3 h4 hn hW i (by omega) _ (fun ls hl => ?_) ls (lv_sub hl [1, 2, 3, 4, 5, 6, 7, 8, 0] rfl)
      refine h128_mix C0 D b0 dB n0 g nb n3 h4 hn i (fun ls hl => ?_) ls (lv_sub hl [1, 2, 3, 4, 5, 6, 7, 9, 0] rfl)
      refine lv_iinc (v := (nI (i + 1))) (lv' := [(9, .int (nI (i + 1))), (0, .ref b0), (1, .int 0), (2, .int (nI n0)), (4, .long (sp_blk (fun j => (g j &&& 255).toInt64) n3.toInt64 (i + 1)).1), (6, .long (sp_blk (fun j => (g j &&& 255).toInt64) n3.toInt64 (i + 1)).2), (8, .int (nI nb))]) hx hb dX2_hash128_425 hl (k := 6) rfl (nI_1 i) (by decide) rfl (fun ls hl => ?_)
      refine lv_goto (tgt := 16) hx hb dX2_hash128_428 (by decide) ?_
      exact ih (i + 1) (by omega) ls (lv_sub hl [1, 2, 3, 4, 5, 6, 0] rfl)
end
section
/-! ===== Murmur3.hash128: what is left behind the blocks: the bytes from the highest down ===== -/
set_option maxHeartbeats 4000000 in
set_option maxRecDepth 100000 in
/-- the low word is mixed in -/
theorem h128_mA {p : Program} {l : Launch} {e : Env} {s : State} {m : MethodId} {args : Array Value} {below : List Frame} {meth : Method} {c : Code} {H : Heap} {locs : List Loc} {Q : State → Prop} (C : Cx p s m args meth c cX2_hash128 15 (some (.array .long)) RX2) (D : va_G) (b0 : Nat) (dB : ClassId) (n0 : Nat) (g : Nat → Int32) (T : Nat) (hn : n0 ≤ 256) (hW : wo D [(b0, .inl (dB, n0, .inl g))] [(dB, .byte)] s H) (h1 h2 x y : Int64)  (kk : ∀ ls : Array Slot, lv_has ls 15 [(0, .ref b0), (1, .int 0), (2, .int (nI n0)), (4, .long (h1 ^^^ sp_mA x)), (6, .long h2)] → W p l e RM2 s m args below meth c H locs 0 0 Q (F0 m 900 ls [])) :
    ∀ ls : Array Slot, lv_has ls 15 [(0, .ref b0), (1, .int 0), (2, .int (nI n0)), (4, .long h1), (6, .long h2), (9, .long x), (11, .long y), (13, .int (nI T))] → W p l e RM2 s m args below meth c H locs 0 0 Q (F0 m 868 ls []) := by
  intro ls hl
  have C0 := C
  obtain ⟨hx, hb, hr, hlocks, hml, hown, hts⟩ := C
  refine lv_lload hx hb dX2_hash128_868 (lv_at hl 5 rfl) ?_
  refine lv_ldc2 (own := RX2) (index := 22) hx hb hown (hts _ q95) dX2_hash128_870 ?_
  refine lv_lmul hx hb dX2_hash128_873 ?_
  refine lv_lstore (lv' := [(9, .long (x * (-8663945395140668459))), (0, .ref b0), (1, .int 0), (2, .int (nI n0)), (4, .long h1), (6, .long h2), (11, .long y), (13, .int (nI T))]) hx hb dX2_hash128_874 hl (by decide) rfl (fun ls hl => ?_)
  refine lv_lload hx hb dX2_hash128_876 (lv_at hl 0 rfl) ?_
  refine lv_bipush (v := 31) hx hb dX2_hash128_878 (by decide) ?_
  refine vp_callSl (va_runS (As := [.long (x * (-8663945395140668459)), .int 31]) (rest := []) ⟨hx, hb, hml, hown, hts⟩ (met_rl64 l (x * (-8663945395140668459)) 31) (va_cwS 2 hts (lw_S q96 q97 q7 q98) rfl rfl rfl (by decide +kernel) ⟨Nat.le_of_ble_eq_true rfl, Nat.le_of_ble_eq_true rfl⟩) (pre_S mv_T _ trivial) rfl rfl hl.1 rfl (lv_room (Nat.le_of_ble_eq_true rfl)) dX2_hash128_880 ⟨Nat.le_of_ble_eq_true rfl, Nat.le_of_ble_eq_true rfl⟩).run (fun r880 hr880 => ?_)
  obtain rfl : r880 = (sp_r64 (x * (-8663945395140668459)) 31) := hr880
  refine lv_lstore (lv' := [(9, .long (sp_r64 (x * (-8663945395140668459)) 31)), (0, .ref b0), (1, .int 0), (2, .int (nI n0)), (4, .long h1), (6, .long h2), (11, .long y), (13, .int (nI T))]) hx hb dX2_hash128_883 hl (by decide) rfl (fun ls hl => ?_)
  refine lv_lload hx hb dX2_hash128_885 (lv_at hl 0 rfl) ?_
  refine lv_ldc2 (own := RX2) (index := 29) hx hb hown (hts _ q99) dX2_hash128_887 ?_
  refine lv_lmul hx hb dX2_hash128_890 ?_
  refine mt_l (y := (sp_mA x)) (rfl) ?_
  refine lv_lstore (lv' := [(9, .long (sp_mA x)), (0, .ref b0), (1, .int 0), (2, .int (nI n0)), (4, .long h1), (6, .long h2), (11, .long y), (13, .int (nI T))]) hx hb dX2_hash128_891 hl (by decide) rfl (fun ls hl => ?_)
  refine lv_lload hx hb dX2_hash128_893 (lv_at hl 4 rfl) ?_
  refine lv_lload hx hb dX2_hash128_895 (lv_at hl 0 rfl) ?_
  refine lv_lxor hx hb dX2_hash128_897 ?_
  refine lv_lstore (lv' := [(4, .long (h1 ^^^ (sp_mA x))), (9, .long (sp_mA x)), (0, .ref b0), (1, .int 0), (2, .int (nI n0)), (6, .long h2), (11, .long y), (13, .int (nI T))]) hx hb dX2_hash128_898 hl (by decide) rfl (fun ls hl => ?_)
  exact kk ls (lv_sub hl [2, 3, 4, 0, 5] rfl)
set_option maxHeartbeats 4000000 in
set_option maxRecDepth 100000 in
/-- byte 0 and those below -/
theorem h128_t1 {p : Program} {l : Launch} {e : Env} {s : State} {m : MethodId} {args : Array Value} {below : List Frame} {meth : Method} {c : Code} {H : Heap} {locs : List Loc} {Q : State → Prop} (C : Cx p s m args meth c cX2_hash128 15 (some (.array .long)) RX2) (D : va_G) (b0 : Nat) (dB : ClassId) (n0 : Nat) (g : Nat → Int32) (T : Nat) (hn : n0 ≤ 256) (hW : wo D [(b0, .inl (dB, n0, .inl g))] [(dB, .byte)] s H) (h1 h2 x y : Int64) (hT : T + 1 ≤ n0) (kk : ∀ ls : Array Slot, lv_has ls 15 [(0, .ref b0), (1, .int 0), (2, .int (nI n0)), (4, .long h1), (6, .long h2), (9, .long (sp_xc (fun j => (g (T + j) &&& 255).toInt64) 1 x)), (11, .long y), (13, .int (nI T))] → W p l e RM2 s m args below meth c H locs 0 0 Q (F0 m 868 ls [])) :
    ∀ ls : Array Slot, lv_has ls 15 [(0, .ref b0), (1, .int 0), (2, .int (nI n0)), (4, .long h1), (6, .long h2), (9, .long x), (11, .long y), (13, .int (nI T))] → W p l e RM2 s m args below meth c H locs 0 0 Q (F0 m 852 ls []) := by
  intro ls hl
  have C0 := C
  obtain ⟨hx, hb, hr, hlocks, hml, hown, hts⟩ := C
  refine lv_lload hx hb dX2_hash128_852 (lv_at hl 5 rfl) ?_
  refine lv_aload_n hx hb dX2_hash128_854 rfl (lv_at hl 0 rfl) ?_
  refine lv_iload_n hx hb dX2_hash128_855 rfl (lv_at hl 1 rfl) ?_
  refine lv_iload hx hb dX2_hash128_856 (lv_at hl 7 rfl) ?_
  refine lv_iadd hx hb dX2_hash128_858 ?_
  refine mt_bald hx hb hW 0 0 rfl rfl (T + 0) (ix00 rfl) (by omega) hn dX2_hash128_859 ?_
  refine lv_sipush (v := 255) hx hb dX2_hash128_860 (by decide) ?_
  refine lv_iand hx hb dX2_hash128_863 ?_
  refine lv_i2l (v := (((g (T + 0)) &&& 255)).toInt64) hx hb dX2_hash128_864 rfl ?_
  refine lv_lxor hx hb dX2_hash128_865 ?_
  refine mt_l (y := (x ^^^ sp_sb (fun j => (g (T + j) &&& 255).toInt64) 0)) (rfl) ?_
  refine lv_lstore (lv' := [(9, .long (x ^^^ sp_sb (fun j => (g (T + j) &&& 255).toInt64) 0)), (0, .ref b0), (1, .int 0), (2, .int (nI n0)), (4, .long h1), (6, .long h2), (11, .long y), (13, .int (nI T))]) hx hb dX2_hash128_866 hl (by decide) rfl (fun ls hl => ?_)
  exact kk ls (lv_sub hl [1, 2, 3, 4, 5, 0, 6, 7] rfl)
set_option maxHeartbeats 4000000 in
set_option maxRecDepth 100000 in
/-- byte 1 and those below -/
theorem h128_t2 {p : Program} {l : Launch} {e : Env} {s : State} {m : MethodId} {args : Array Value} {below : List Frame} {meth : Method} {c : Code} {H : Heap} {locs : List Loc} {Q : State → Prop} (C : Cx p s m args meth c cX2_hash128 15 (some (.array .long)) RX2) (D : va_G) (b0 : Nat) (dB : ClassId) (n0 : Nat) (g : Nat → Int32) (T : Nat) (hn : n0 ≤ 256) (hW : wo D [(b0, .inl (dB, n0, .inl g))] [(dB, .byte)] s H) (h1 h2 x y : Int64) (hT : T + 2 ≤ n0) (kk : ∀ ls : Array Slot, lv_has ls 15 [(0, .ref b0), (1, .int 0), (2, .int (nI n0)), (4, .long h1), (6, .long h2), (9, .long (sp_xc (fun j => (g (T + j) &&& 255).toInt64) 2 x)), (11, .long y), (13, .int (nI T))] → W p l e RM2 s m args below meth c H locs 0 0 Q (F0 m 868 ls [])) :
    ∀ ls : Array Slot, lv_has ls 15 [(0, .ref b0), (1, .int 0), (2, .int (nI n0)), (4, .long h1), (6, .long h2), (9, .long x), (11, .long y), (13, .int (nI T))] → W p l e RM2 s m args below meth c H locs 0 0 Q (F0 m 831 ls []) := by
  intro ls hl
  have C0 := C
  obtain ⟨hx, hb, hr, hlocks, hml, hown, hts⟩ := C
  refine lv_lload hx hb dX2_hash128_831 (lv_at hl 5 rfl) ?_
  refine lv_aload_n hx hb dX2_hash128_833 rfl (lv_at hl 0 rfl) ?_
  refine lv_iload_n hx hb dX2_hash128_834 rfl (lv_at hl 1 rfl) ?_
  refine lv_iload hx hb dX2_hash128_835 (lv_at hl 7 rfl) ?_
  refine lv_iadd hx hb dX2_hash128_837 ?_
  refine lv_iconst (v := 1) hx hb dX2_hash128_838 (by decide) ?_
  refine lv_iadd hx hb dX2_hash128_839 ?_
  refine mt_bald hx hb hW 0 0 rfl rfl (T + 1) (ix0 rfl 1 rfl) (by omega) hn dX2_hash128_840 ?_
  refine lv_sipush (v := 255) hx hb dX2_hash128_841 (by decide) ?_
  refine lv_iand hx hb dX2_hash128_844 ?_
  refine lv_i2l (v := (((g (T + 1)) &&& 255)).toInt64) hx hb dX2_hash128_845 rfl ?_
  refine lv_bipush (v := 8) hx hb dX2_hash128_846 (by decide) ?_
  refine lv_lshl (v := (sp_lsh ((((g (T + 1)) &&& 255)).toInt64) 8)) hx hb dX2_hash128_848 rfl ?_
  refine lv_lxor hx hb dX2_hash128_849 ?_
  refine mt_l (y := (x ^^^ sp_sb (fun j => (g (T + j) &&& 255).toInt64) 1)) (rfl) ?_
  refine lv_lstore (lv' := [(9, .long (x ^^^ sp_sb (fun j => (g (T + j) &&& 255).toInt64) 1)), (0, .ref b0), (1, .int 0), (2, .int (nI n0)), (4, .long h1), (6, .long h2), (11, .long y), (13, .int (nI T))]) hx hb dX2_hash128_850 hl (by decide) rfl (fun ls hl => ?_)
  exact h128_t1 C0 D b0 dB n0 g T hn hW h1 h2 (x ^^^ sp_sb (fun j => (g (T + j) &&& 255).toInt64) 1) y (by omega) kk ls (lv_sub hl [1, 2, 3, 4, 5, 0, 6, 7] rfl)
set_option maxHeartbeats 4000000 in
set_option maxRecDepth 100000 in
/-- byte 2 and those below -/
theorem h128_t3 {p : Program} {l : Launch} {e : Env} {s : State} {m : MethodId} {args : Array Value} {below : List Frame} {meth : Method} {c : Code} {H : Heap} {locs : List Loc} {Q : State → Prop} (C : Cx p s m args meth c cX2_hash128 15 (some (.array .long)) RX2) (D : va_G) (b0 : Nat) (dB : ClassId) (n0 : Nat) (g : Nat → Int32) (T : Nat) (hn : n0 ≤ 256) (hW : wo D [(b0, .inl (dB, n0, .inl g))] [(dB, .byte)] s H) (h1 h2 x y : Int64) (hT : T + 3 ≤ n0) (kk : ∀ ls : Array Slot, lv_has ls 15 [(0, .ref b0), (1, .int 0), (2, .int (nI n0)), (4, .long h1), (6, .long h2), (9, .long (sp_xc (fun j => (g (T + j) &&& 255).toInt64) 3 x)), (11, .long y), (13, .int (nI T))] → W p l e RM2 s m args below meth c H locs 0 0 Q (F0 m 868 ls [])) :
    ∀ ls : Array Slot, lv_has ls 15 [(0, .ref b0), (1, .int 0), (2, .int (nI n0)), (4, .long h1), (6, .long h2), (9, .long x), (11, .long y), (13, .int (nI T))] → W p l e RM2 s m args below meth c H locs 0 0 Q (F0 m 810 ls []) := by
  intro ls hl
  have C0 := C
  obtain ⟨hx, hb, hr, hlocks, hml, hown, hts⟩ := C
  refine lv_lload hx hb dX2_hash128_810 (lv_at hl 5 rfl) ?_
  refine lv_aload_n hx hb dX2_hash128_812 rfl (lv_at hl 0 rfl) ?_
  refine lv_iload_n hx hb dX2_hash128_813 rfl (lv_at hl 1 rfl) ?_
  refine lv_iload hx hb dX2_hash128_814 (lv_at hl 7 rfl) ?_
  refine lv_iadd hx hb dX2_hash128_816 ?_
  refine lv_iconst (v := 2) hx hb dX2_hash128_817 (by decide) ?_
  refine lv_iadd hx hb dX2_hash128_818 ?_
  refine mt_bald hx hb hW 0 0 rfl rfl (T + 2) (ix0 rfl 2 rfl) (by omega) hn dX2_hash128_819 ?_
  refine lv_sipush (v := 255) hx hb dX2_hash128_820 (by decide) ?_
  refine lv_iand hx hb dX2_hash128_823 ?_
  refine lv_i2l (v := (((g (T + 2)) &&& 255)).toInt64) hx hb dX2_hash128_824 rfl ?_
  refine lv_bipush (v := 16) hx hb dX2_hash128_825 (by decide) ?_
  refine lv_lshl (v := (sp_lsh ((((g (T + 2)) &&& 255)).toInt64) 16)) hx hb dX2_hash128_827 rfl ?_
  refine lv_lxor hx hb dX2_hash128_828 ?_
  refine mt_l (y := (x ^^^ sp_sb (fun j => (g (T + j) &&& 255).toInt64) 2)) (rfl) ?_
  refine lv_lstore (lv' := [(9, .long (x ^^^ sp_sb (fun j => (g (T + j) &&& 255).toInt64) 2)), (0, .ref b0), (1, .int 0), (2, .int (nI n0)), (4, .long h1), (6, .long h2), (11, .long y), (13, .int (nI T))]) hx hb dX2_hash128_829 hl (by decide) rfl (fun ls hl => ?_)
  exact h128_t2 C0 D b0 dB n0 g T hn hW h1 h2 (x ^^^ sp_sb (fun j => (g (T + j) &&& 255).toInt64) 2) y (by omega) kk ls (lv_sub hl [1, 2, 3, 4, 5, 0, 6, 7] rfl)
set_option maxHeartbeats 4000000 in
set_option maxRecDepth 100000 in
/-- byte 3 and those below -/
theorem h128_t4 {p : Program} {l : Launch} {e : Env} {s : State} {m : MethodId} {args : Array Value} {below : List Frame} {meth : Method} {c : Code} {H : Heap} {locs : List Loc} {Q : State → Prop} (C : Cx p s m args meth c cX2_hash128 15 (some (.array .long)) RX2) (D : va_G) (b0 : Nat) (dB : ClassId) (n0 : Nat) (g : Nat → Int32) (T : Nat) (hn : n0 ≤ 256) (hW : wo D [(b0, .inl (dB, n0, .inl g))] [(dB, .byte)] s H) (h1 h2 x y : Int64) (hT : T + 4 ≤ n0) (kk : ∀ ls : Array Slot, lv_has ls 15 [(0, .ref b0), (1, .int 0), (2, .int (nI n0)), (4, .long h1), (6, .long h2), (9, .long (sp_xc (fun j => (g (T + j) &&& 255).toInt64) 4 x)), (11, .long y), (13, .int (nI T))] → W p l e RM2 s m args below meth c H locs 0 0 Q (F0 m 868 ls [])) :
    ∀ ls : Array Slot, lv_has ls 15 [(0, .ref b0), (1, .int 0), (2, .int (nI n0)), (4, .long h1), (6, .long h2), (9, .long x), (11, .long y), (13, .int (nI T))] → W p l e RM2 s m args below meth c H locs 0 0 Q (F0 m 789 ls []) := by
  intro ls hl
  have C0 := C
  obtain ⟨hx, hb, hr, hlocks, hml, hown, hts⟩ := C
  refine lv_lload hx hb dX2_hash128_789 (lv_at hl 5 rfl) ?_
  refine lv_aload_n hx hb dX2_hash128_791 rfl (lv_at hl 0 rfl) ?_
  refine lv_iload_n hx hb dX2_hash128_792 rfl (lv_at hl 1 rfl) ?_
  refine lv_iload hx hb dX2_hash128_793 (lv_at hl 7 rfl) ?_
  refine lv_iadd hx hb dX2_hash128_795 ?_
  refine lv_iconst (v := 3) hx hb dX2_hash128_796 (by decide) ?_
  refine lv_iadd hx hb dX2_hash128_797 ?_
  refine mt_bald hx hb hW 0 0 rfl rfl (T + 3) (ix0 rfl 3 rfl) (by omega) hn dX2_hash128_798 ?_
  refine lv_sipush (v := 255) hx hb dX2_hash128_799 (by decide) ?_
  refine lv_iand hx hb dX2_hash128_802 ?_
  refine lv_i2l (v := (((g (T + 3)) &&& 255)).toInt64) hx hb dX2_hash128_803 rfl ?_
  refine lv_bipush (v := 24) hx hb dX2_hash128_804 (by decide) ?_
  refine lv_lshl (v := (sp_lsh ((((g (T + 3)) &&& 255)).toInt64) 24)) hx hb dX2_hash128_806 rfl ?_
  refine lv_lxor hx hb dX2_hash128_807 ?_
  refine mt_l (y := (x ^^^ sp_sb (fun j => (g (T + j) &&& 255).toInt64) 3)) (rfl) ?_
  refine lv_lstore (lv' := [(9, .long (x ^^^ sp_sb (fun j => (g (T + j) &&& 255).toInt64) 3)), (0, .ref b0), (1, .int 0), (2, .int (nI n0)), (4, .long h1), (6, .long h2), (11, .long y), (13, .int (nI T))]) hx hb dX2_hash128_808 hl (by decide) rfl (fun ls hl => ?_)
  exact h128_t3 C0 D b0 dB n0 g T hn hW h1 h2 (x ^^^ sp_sb (fun j => (g (T + j) &&& 255).toInt64) 3) y (by omega) kk ls (lv_sub hl [1, 2, 3, 4, 5, 0, 6, 7] rfl)
set_option maxHeartbeats 4000000 in
set_option maxRecDepth 100000 in
/-- byte 4 and those below -/
theorem h128_t5 {p : Program} {l : Launch} {e : Env} {s : State} {m : MethodId} {args : Array Value} {below : List Frame} {meth : Method} {c : Code} {H : Heap} {locs : List Loc} {Q : State → Prop} (C : Cx p s m args meth c cX2_hash128 15 (some (.array .long)) RX2) (D : va_G) (b0 : Nat) (dB : ClassId) (n0 : Nat) (g : Nat → Int32) (T : Nat) (hn : n0 ≤ 256) (hW : wo D [(b0, .inl (dB, n0, .inl g))] [(dB, .byte)] s H) (h1 h2 x y : Int64) (hT : T + 5 ≤ n0) (kk : ∀ ls : Array Slot, lv_has ls 15 [(0, .ref b0), (1, .int 0), (2, .int (nI n0)), (4, .long h1), (6, .long h2), (9, .long (sp_xc (fun j => (g (T + j) &&& 255).toInt64) 5 x)), (11, .long y), (13, .int (nI T))] → W p l e RM2 s m args below meth c H locs 0 0 Q (F0 m 868 ls [])) :
    ∀ ls : Array Slot, lv_has ls 15 [(0, .ref b0), (1, .int 0), (2, .int (nI n0)), (4, .long h1), (6, .long h2), (9, .long x), (11, .long y), (13, .int (nI T))] → W p l e RM2 s m args below meth c H locs 0 0 Q (F0 m 768 ls []) := by
  intro ls hl
  have C0 := C
  obtain ⟨hx, hb, hr, hlocks, hml, hown, hts⟩ := C
  refine lv_lload hx hb dX2_hash128_768 (lv_at hl 5 rfl) ?_
  refine lv_aload_n hx hb dX2_hash128_770 rfl (lv_at hl 0 rfl) ?_
  refine lv_iload_n hx hb dX2_hash128_771 rfl (lv_at hl 1 rfl) ?_
  refine lv_iload hx hb dX2_hash128_772 (lv_at hl 7 rfl) ?_
  refine lv_iadd hx hb dX2_hash128_774 ?_
  refine lv_iconst (v := 4) hx hb dX2_hash128_775 (by decide) ?_
  refine lv_iadd hx hb dX2_hash128_776 ?_
  refine mt_bald hx hb hW 0 0 rfl rfl (T + 4) (ix0 rfl 4 rfl) (by omega) hn dX2_hash128_777 ?_
  refine lv_sipush (v := 255) hx hb dX2_hash128_778 (by decide) ?_
  refine lv_iand hx hb dX2_hash128_781 ?_
  refine lv_i2l (v := (((g (T + 4)) &&& 255)).toInt64) hx hb dX2_hash128_782 rfl ?_
  refine lv_bipush (v := 32) hx hb dX2_hash128_783 (by decide) ?_
  refine lv_lshl (v := (sp_lsh ((((g (T + 4)) &&& 255)).toInt64) 32)) hx hb dX2_hash128_785 rfl ?_
  refine lv_lxor hx hb dX2_hash128_786 ?_
  refine mt_l (y := (x ^^^ sp_sb (fun j => (g (T + j) &&& 255).toInt64) 4)) (rfl) ?_
  refine lv_lstore (lv' := [(9, .long (x ^^^ sp_sb (fun j => (g (T + j) &&& 255).toInt64) 4)), (0, .ref b0), (1, .int 0), (2, .int (nI n0)), (4, .long h1), (6, .long h2), (11, .long y), (13, .int (nI T))]) hx hb dX2_hash128_787 hl (by decide) rfl (fun ls hl => ?_)
  exact h128_t4 C0 D b0 dB n0 g T hn hW h1 h2 (x ^^^ sp_sb (fun j => (g (T + j) &&& 255).toInt64) 4) y (by omega) kk ls (lv_sub hl [1, 2, 3, 4, 5, 0, 6, 7] rfl)
set_option maxHeartbeats 4000000 in
set_option maxRecDepth 100000 in
/-- byte 5 and those below -/
theorem h128_t6 {p : Program} {l : Launch} {e : Env} {s : State} {m : MethodId} {args : Array Value} {below : List Frame} {meth : Method} {c : Code} {H : Heap} {locs : List Loc} {Q : State → Prop} (C : Cx p s m args meth c cX2_hash128 15 (some (.array .long)) RX2) (D : va_G) (b0 : Nat) (dB : ClassId) (n0 : Nat) (g : Nat → Int32) (T : Nat) (hn : n0 ≤ 256) (hW : wo D [(b0, .inl (dB, n0, .inl g))] [(dB, .byte)] s H) (h1 h2 x y : Int64) (hT : T + 6 ≤ n0) (kk : ∀ ls : Array Slot, lv_has ls 15 [(0, .ref b0), (1, .int 0), (2, .int (nI n0)), (4, .long h1), (6, .long h2), (9, .long (sp_xc (fun j => (g (T + j) &&& 255).toInt64) 6 x)), (11, .long y), (13, .int (nI T))] → W p l e RM2 s m args below meth c H locs 0 0 Q (F0 m 868 ls [])) :
    ∀ ls : Array Slot, lv_has ls 15 [(0, .ref b0), (1, .int 0), (2, .int (nI n0)), (4, .long h1), (6, .long h2), (9, .long x), (11, .long y), (13, .int (nI T))] → W p l e RM2 s m args below meth c H locs 0 0 Q (F0 m 747 ls []) := by
  intro ls hl
  have C0 := C
  obtain ⟨hx, hb, hr, hlocks, hml, hown, hts⟩ := C
  refine lv_lload hx hb dX2_hash128_747 (lv_at hl 5 rfl) ?_
  refine lv_aload_n hx hb dX2_hash128_749 rfl (lv_at hl 0 rfl) ?_
  refine lv_iload_n hx hb dX2_hash128_750 rfl (lv_at hl 1 rfl) ?_
  refine lv_iload hx hb dX2_hash128_751 (lv_at hl 7 rfl) ?_
  refine lv_iadd hx hb dX2_hash128_753 ?_
  refine lv_iconst (v := 5) hx hb dX2_hash128_754 (by decide) ?_
  refine lv_iadd hx hb dX2_hash128_755 ?_
  refine mt_bald hx hb hW 0 0 rfl rfl (T + 5) (ix0 rfl 5 rfl) (by omega) hn dX2_hash128_756 ?_
  refine lv_sipush (v := 255) hx hb dX2_hash128_757 (by decide) ?_
  refine lv_iand hx hb dX2_hash128_760 ?_
  refine lv_i2l (v := (((g (T + 5)) &&& 255)).toInt64) hx hb dX2_hash128_761 rfl ?_
  refine lv_bipush (v := 40) hx hb dX2_hash128_762 (by decide) ?_
  refine lv_lshl (v := (sp_lsh ((((g (T + 5)) &&& 255)).toInt64) 40)) hx hb dX2_hash128_764 rfl ?_
  refine lv_lxor hx hb dX2_hash128_765 ?_
  refine mt_l (y := (x ^^^ sp_sb (fun j => (g (T + j) &&& 255).toInt64) 5)) (rfl) ?_
  refine lv_lstore (lv' := [(9, .long (x ^^^ sp_sb (fun j => (g (T + j) &&& 255).toInt64) 5)), (0, .ref b0), (1, .int 0), (2, .int (nI n0)), (4, .long h1), (6, .long h2), (11, .long y), (13, .int (nI T))]) hx hb dX2_hash128_766 hl (by decide) rfl (fun ls hl => ?_)
  exact h128_t5 C0 D b0 dB n0 g T hn hW h1 h2 (x ^^^ sp_sb (fun j => (g (T + j) &&& 255).toInt64) 5) y (by omega) kk ls (lv_sub hl [1, 2, 3, 4, 5, 0, 6, 7] rfl)
set_option maxHeartbeats 4000000 in
set_option maxRecDepth 100000 in
/-- byte 6 and those below -/
theorem h128_t7 {p : Program} {l : Launch} {e : Env} {s : State} {m : MethodId} {args : Array Value} {below : List Frame} {meth : Method} {c : Code} {H : Heap} {locs : List Loc} {Q : State → Prop} (C : Cx p s m args meth c cX2_hash128 15 (some (.array .long)) RX2) (D : va_G) (b0 : Nat) (dB : ClassId) (n0 : Nat) (g : Nat → Int32) (T : Nat) (hn : n0 ≤ 256) (hW : wo D [(b0, .inl (dB, n0, .inl g))] [(dB, .byte)] s H) (h1 h2 x y : Int64) (hT : T + 7 ≤ n0) (kk : ∀ ls : Array Slot, lv_has ls 15 [(0, .ref b0), (1, .int 0), (2, .int (nI n0)), (4, .long h1), (6, .long h2), (9, .long (sp_xc (fun j => (g (T + j) &&& 255).toInt64) 7 x)), (11, .long y), (13, .int (nI T))] → W p l e RM2 s m args below meth c H locs 0 0 Q (F0 m 868 ls [])) :
    ∀ ls : Array Slot, lv_has ls 15 [(0, .ref b0), (1, .int 0), (2, .int (nI n0)), (4, .long h1), (6, .long h2), (9, .long x), (11, .long y), (13, .int (nI T))] → W p l e RM2 s m args below meth c H locs 0 0 Q (F0 m 725 ls []) := by
  intro ls hl
  have C0 := C
  obtain ⟨hx, hb, hr, hlocks, hml, hown, hts⟩ := C
  refine lv_lload hx hb dX2_hash128_725 (lv_at hl 5 rfl) ?_
  refine lv_aload_n hx hb dX2_hash128_727 rfl (lv_at hl 0 rfl) ?_
  refine lv_iload_n hx hb dX2_hash128_728 rfl (lv_at hl 1 rfl) ?_
  refine lv_iload hx hb dX2_hash128_729 (lv_at hl 7 rfl) ?_
  refine lv_iadd hx hb dX2_hash128_731 ?_
  refine lv_bipush (v := 6) hx hb dX2_hash128_732 (by decide) ?_
  refine lv_iadd hx hb dX2_hash128_734 ?_
  refine mt_bald hx hb hW 0 0 rfl rfl (T + 6) (ix0 rfl 6 rfl) (by omega) hn dX2_hash128_735 ?_
  refine lv_sipush (v := 255) hx hb dX2_hash128_736 (by decide) ?_
  refine lv_iand hx hb dX2_hash128_739 ?_
  refine lv_i2l (v := (((g (T + 6)) &&& 255)).toInt64) hx hb dX2_hash128_740 rfl ?_
  refine lv_bipush (v := 48) hx hb dX2_hash128_741 (by decide) ?_
  refine lv_lshl (v := (sp_lsh ((((g (T + 6)) &&& 255)).toInt64) 48)) hx hb dX2_hash128_743 rfl ?_
  refine lv_lxor hx hb dX2_hash128_744 ?_
  refine mt_l (y := (x ^^^ sp_sb (fun j => (g (T + j) &&& 255).toInt64) 6)) (rfl) ?_
  refine lv_lstore (lv' := [(9, .long (x ^^^ sp_sb (fun j => (g (T + j) &&& 255).toInt64) 6)), (0, .ref b0), (1, .int 0), (2, .int (nI n0)), (4, .long h1), (6, .long h2), (11, .long y), (13, .int (nI T))]) hx hb dX2_hash128_745 hl (by decide) rfl (fun ls hl => ?_)
  exact h128_t6 C0 D b0 dB n0 g T hn hW h1 h2 (x ^^^ sp_sb (fun j => (g (T + j) &&& 255).toInt64) 6) y (by omega) kk ls (lv_sub hl [1, 2, 3, 4, 5, 0, 6, 7] rfl)
set_option maxHeartbeats 4000000 in
set_option maxRecDepth 100000 in
/-- byte 7 and those below -/
theorem h128_t8 {p : Program} {l : Launch} {e : Env} {s : State} {m : MethodId} {args : Array Value} {below : List Frame} {meth : Method} {c : Code} {H : Heap} {locs : List Loc} {Q : State → Prop} (C : Cx p s m args meth c cX2_hash128 15 (some (.array .long)) RX2) (D : va_G) (b0 : Nat) (dB : ClassId) (n0 : Nat) (g : Nat → Int32) (T : Nat) (hn : n0 ≤ 256) (hW : wo D [(b0, .inl (dB, n0, .inl g))] [(dB, .byte)] s H) (h1 h2 x y : Int64) (hT : T + 8 ≤ n0) (kk : ∀ ls : Array Slot, lv_has ls 15 [(0, .ref b0), (1, .int 0), (2, .int (nI n0)), (4, .long h1), (6, .long h2), (9, .long (sp_xc (fun j => (g (T + j) &&& 255).toInt64) 8 x)), (11, .long y), (13, .int (nI T))] → W p l e RM2 s m args below meth c H locs 0 0 Q (F0 m 868 ls [])) :
    ∀ ls : Array Slot, lv_has ls 15 [(0, .ref b0), (1, .int 0), (2, .int (nI n0)), (4, .long h1), (6, .long h2), (9, .long x), (11, .long y), (13, .int (nI T))] → W p l e RM2 s m args below meth c H locs 0 0 Q (F0 m 703 ls []) := by
  intro ls hl
  have C0 := C
  obtain ⟨hx, hb, hr, hlocks, hml, hown, hts⟩ := C
  refine lv_lload hx hb dX2_hash128_703 (lv_at hl 5 rfl) ?_
  refine lv_aload_n hx hb dX2_hash128_705 rfl (lv_at hl 0 rfl) ?_
  refine lv_iload_n hx hb dX2_hash128_706 rfl (lv_at hl 1 rfl) ?_
  refine lv_iload hx hb dX2_hash128_707 (lv_at hl 7 rfl) ?_
  refine lv_iadd hx hb dX2_hash128_709 ?_
  refine lv_bipush (v := 7) hx hb dX2_hash128_710 (by decide) ?_
  refine lv_iadd hx hb dX2_hash128_712 ?_
  refine mt_bald hx hb hW 0 0 rfl rfl (T + 7) (ix0 rfl 7 rfl) (by omega) hn dX2_hash128_713 ?_
  refine lv_sipush (v := 255) hx hb dX2_hash128_714 (by decide) ?_
  refine lv_iand hx hb dX2_hash128_717 ?_
  refine lv_i2l (v := (((g (T + 7)) &&& 255)).toInt64) hx hb dX2_hash128_718 rfl ?_
  refine lv_bipush (v := 56) hx hb dX2_hash128_719 (by decide) ?_
  refine lv_lshl (v := (sp_lsh ((((g (T + 7)) &&& 255)).toInt64) 56)) hx hb dX2_hash128_721 rfl ?_
  refine lv_lxor hx hb dX2_hash128_722 ?_
  refine mt_l (y := (x ^^^ sp_sb (fun j => (g (T + j) &&& 255).toInt64) 7)) (rfl) ?_
  refine lv_lstore (lv' := [(9, .long (x ^^^ sp_sb (fun j => (g (T + j) &&& 255).toInt64) 7)), (0, .ref b0), (1, .int 0), (2, .int (nI n0)), (4, .long h1), (6, .long h2), (11, .long y), (13, .int (nI T))]) hx hb dX2_hash128_723 hl (by decide) rfl (fun ls hl => ?_)
  exact h128_t7 C0 D b0 dB n0 g T hn hW h1 h2 (x ^^^ sp_sb (fun j => (g (T + j) &&& 255).toInt64) 7) y (by omega) kk ls (lv_sub hl [1, 2, 3, 4, 5, 0, 6, 7] rfl)
set_option maxHeartbeats 4000000 in
set_option maxRecDepth 100000 in
/-- the high word is mixed in -/
theorem h128_mB {p : Program} {l : Launch} {e : Env} {s : State} {m : MethodId} {args : Array Value} {below : List Frame} {meth : Method} {c : Code} {H : Heap} {locs : List Loc} {Q : State → Prop} (C : Cx p s m args meth c cX2_hash128 15 (some (.array .long)) RX2) (D : va_G) (b0 : Nat) (dB : ClassId) (n0 : Nat) (g : Nat → Int32) (T : Nat) (hn : n0 ≤ 256) (hW : wo D [(b0, .inl (dB, n0, .inl g))] [(dB, .byte)] s H) (h1 h2 x y : Int64)  (kk : ∀ ls : Array Slot, lv_has ls 15 [(0, .ref b0), (1, .int 0), (2, .int (nI n0)), (4, .long h1), (6, .long (h2 ^^^ sp_mB y)), (9, .long x), (11, .long (sp_mB y)), (13, .int (nI T))] → W p l e RM2 s m args below meth c H locs 0 0 Q (F0 m 703 ls [])) :
    ∀ ls : Array Slot, lv_has ls 15 [(0, .ref b0), (1, .int 0), (2, .int (nI n0)), (4, .long h1), (6, .long h2), (9, .long x), (11, .long y), (13, .int (nI T))] → W p l e RM2 s m args below meth c H locs 0 0 Q (F0 m 671 ls []) := by
  intro ls hl
  have C0 := C
  obtain ⟨hx, hb, hr, hlocks, hml, hown, hts⟩ := C
  refine lv_lload hx hb dX2_hash128_671 (lv_at hl 6 rfl) ?_
  refine lv_ldc2 (own := RX2) (index := 29) hx hb hown (hts _ q99) dX2_hash128_673 ?_
  refine lv_lmul hx hb dX2_hash128_676 ?_
  refine lv_lstore (lv' := [(11, .long (y * 5545529020109919103)), (0, .ref b0), (1, .int 0), (2, .int (nI n0)), (4, .long h1), (6, .long h2), (9, .long x), (13, .int (nI T))]) hx hb dX2_hash128_677 hl (by decide) rfl (fun ls hl => ?_)
  refine lv_lload hx hb dX2_hash128_679 (lv_at hl 0 rfl) ?_
  refine lv_bipush (v := 33) hx hb dX2_hash128_681 (by decide) ?_
  refine vp_callSl (va_runS (As := [.long (y * 5545529020109919103), .int 33]) (rest := []) ⟨hx, hb, hml, hown, hts⟩ (met_rl64 l (y * 5545529020109919103) 33) (va_cwS 2 hts (lw_S q96 q97 q7 q98) rfl rfl rfl (by decide +kernel) ⟨Nat.le_of_ble_eq_true rfl, Nat.le_of_ble_eq_true rfl⟩) (pre_S mv_T _ trivial) rfl rfl hl.1 rfl (lv_room (Nat.le_of_ble_eq_true rfl)) dX2_hash128_683 ⟨Nat.le_of_ble_eq_true rfl, Nat.le_of_ble_eq_true rfl⟩).run (fun r683 hr683 => ?_)
  obtain rfl : r683 = (sp_r64 (y * 5545529020109919103) 33) := hr683
  refine lv_lstore (lv' := [(11, .long (sp_r64 (y * 5545529020109919103) 33)), (0, .ref b0), (1, .int 0), (2, .int (nI n0)), (4, .long h1), (6, .long h2), (9, .long x), (13, .int (nI T))]) hx hb dX2_hash128_686 hl (by decide) rfl (fun ls hl => ?_)
  refine lv_lload hx hb dX2_hash128_688 (lv_at hl 0 rfl) ?_
  refine lv_ldc2 (own := RX2) (index := 22) hx hb hown (hts _ q95) dX2_hash128_690 ?_
  refine lv_lmul hx hb dX2_hash128_693 ?_
  refine mt_l (y := (sp_mB y)) (rfl) ?_
  refine lv_lstore (lv' := [(11, .long (sp_mB y)), (0, .ref b0), (1, .int 0), (2, .int (nI n0)), (4, .long h1), (6, .long h2), (9, .long x), (13, .int (nI T))]) hx hb dX2_hash128_694 hl (by decide) rfl (fun ls hl => ?_)
  refine lv_lload hx hb dX2_hash128_696 (lv_at hl 5 rfl) ?_
  refine lv_lload hx hb dX2_hash128_698 (lv_at hl 0 rfl) ?_
  refine lv_lxor hx hb dX2_hash128_700 ?_
  refine lv_lstore (lv' := [(6, .long (h2 ^^^ (sp_mB y))), (11, .long (sp_mB y)), (0, .ref b0), (1, .int 0), (2, .int (nI n0)), (4, .long h1), (9, .long x), (13, .int (nI T))]) hx hb dX2_hash128_701 hl (by decide) rfl (fun ls hl => ?_)
  exact kk ls (lv_sub hl [2, 3, 4, 5, 0, 6, 1, 7] rfl)
set_option maxHeartbeats 4000000 in
set_option maxRecDepth 100000 in
/-- byte 8 and those below, to byte 8 -/
theorem h128_u1 {p : Program} {l : Launch} {e : Env} {s : State} {m : MethodId} {args : Array Value} {below : List Frame} {meth : Method} {c : Code} {H : Heap} {locs : List Loc} {Q : State → Prop} (C : Cx p s m args meth c cX2_hash128 15 (some (.array .long)) RX2) (D : va_G) (b0 : Nat) (dB : ClassId) (n0 : Nat) (g : Nat → Int32) (T : Nat) (hn : n0 ≤ 256) (hW : wo D [(b0, .inl (dB, n0, .inl g))] [(dB, .byte)] s H) (h1 h2 x y : Int64) (hT : T + 9 ≤ n0) (kk : ∀ ls : Array Slot, lv_has ls 15 [(0, .ref b0), (1, .int 0), (2, .int (nI n0)), (4, .long h1), (6, .long h2), (9, .long x), (11, .long (sp_xc (fun j => (g (T + (8 + j)) &&& 255).toInt64) 1 y)), (13, .int (nI T))] → W p l e RM2 s m args below meth c H locs 0 0 Q (F0 m 671 ls [])) :
    ∀ ls : Array Slot, lv_has ls 15 [(0, .ref b0), (1, .int 0), (2, .int (nI n0)), (4, .long h1), (6, .long h2), (9, .long x), (11, .long y), (13, .int (nI T))] → W p l e RM2 s m args below meth c H locs 0 0 Q (F0 m 652 ls []) := by
  intro ls hl
  have C0 := C
  obtain ⟨hx, hb, hr, hlocks, hml, hown, hts⟩ := C
  refine lv_lload hx hb dX2_hash128_652 (lv_at hl 6 rfl) ?_
  refine lv_aload_n hx hb dX2_hash128_654 rfl (lv_at hl 0 rfl) ?_
  refine lv_iload_n hx hb dX2_hash128_655 rfl (lv_at hl 1 rfl) ?_
  refine lv_iload hx hb dX2_hash128_656 (lv_at hl 7 rfl) ?_
  refine lv_iadd hx hb dX2_hash128_658 ?_
  refine lv_bipush (v := 8) hx hb dX2_hash128_659 (by decide) ?_
  refine lv_iadd hx hb dX2_hash128_661 ?_
  refine mt_bald hx hb hW 0 0 rfl rfl (T + (8 + 0)) (ix0 rfl 8 rfl) (by omega) hn dX2_hash128_662 ?_
  refine lv_sipush (v := 255) hx hb dX2_hash128_663 (by decide) ?_
  refine lv_iand hx hb dX2_hash128_666 ?_
  refine lv_i2l (v := (((g (T + (8 + 0))) &&& 255)).toInt64) hx hb dX2_hash128_667 rfl ?_
  refine lv_lxor hx hb dX2_hash128_668 ?_
  refine mt_l (y := (y ^^^ sp_sb (fun j => (g (T + (8 + j)) &&& 255).toInt64) 0)) (rfl) ?_
  refine lv_lstore (lv' := [(11, .long (y ^^^ sp_sb (fun j => (g (T + (8 + j)) &&& 255).toInt64) 0)), (0, .ref b0), (1, .int 0), (2, .int (nI n0)), (4, .long h1), (6, .long h2), (9, .long x), (13, .int (nI T))]) hx hb dX2_hash128_669 hl (by decide) rfl (fun ls hl => ?_)
  exact kk ls (lv_sub hl [1, 2, 3, 4, 5, 6, 0, 7] rfl)
set_option maxHeartbeats 4000000 in
set_option maxRecDepth 100000 in
/-- byte 9 and those below, to byte 8 -/
theorem h128_u2 {p : Program} {l : Launch} {e : Env} {s : State} {m : MethodId} {args : Array Value} {below : List Frame} {meth : Method} {c : Code} {H : Heap} {locs : List Loc} {Q : State → Prop} (C : Cx p s m args meth c cX2_hash128 15 (some (.array .long)) RX2) (D : va_G) (b0 : Nat) (dB : ClassId) (n0 : Nat) (g : Nat → Int32) (T : Nat) (hn : n0 ≤ 256) (hW : wo D [(b0, .inl (dB, n0, .inl g))] [(dB, .byte)] s H) (h1 h2 x y : Int64) (hT : T + 10 ≤ n0) (kk : ∀ ls : Array Slot, lv_has ls 15 [(0, .ref b0), (1, .int 0), (2, .int (nI n0)), (4, .long h1), (6, .long h2), (9, .long x), (11, .long (sp_xc (fun j => (g (T + (8 + j)) &&& 255).toInt64) 2 y)), (13, .int (nI T))] → W p l e RM2 s m args below meth c H locs 0 0 Q (F0 m 671 ls [])) :
    ∀ ls : Array Slot, lv_has ls 15 [(0, .ref b0), (1, .int 0), (2, .int (nI n0)), (4, .long h1), (6, .long h2), (9, .long x), (11, .long y), (13, .int (nI T))] → W p l e RM2 s m args below meth c H locs 0 0 Q (F0 m 630 ls []) := by
  intro ls hl
  have C0 := C
  obtain ⟨hx, hb, hr, hlocks, hml, hown, hts⟩ := C
  refine lv_lload hx hb dX2_hash128_630 (lv_at hl 6 rfl) ?_
  refine lv_aload_n hx hb dX2_hash128_632 rfl (lv_at hl 0 rfl) ?_
  refine lv_iload_n hx hb dX2_hash128_633 rfl (lv_at hl 1 rfl) ?_
  refine lv_iload hx hb dX2_hash128_634 (lv_at hl 7 rfl) ?_
  refine lv_iadd hx hb dX2_hash128_636 ?_
  refine lv_bipush (v := 9) hx hb dX2_hash128_637 (by decide) ?_
  refine lv_iadd hx hb dX2_hash128_639 ?_
  refine mt_bald hx hb hW 0 0 rfl rfl (T + (8 + 1)) (ix0 rfl 9 rfl) (by omega) hn dX2_hash128_640 ?_
  refine lv_sipush (v := 255) hx hb dX2_hash128_641 (by decide) ?_
  refine lv_iand hx hb dX2_hash128_644 ?_
  refine lv_i2l (v := (((g (T + (8 + 1))) &&& 255)).toInt64) hx hb dX2_hash128_645 rfl ?_
  refine lv_bipush (v := 8) hx hb dX2_hash128_646 (by decide) ?_
  refine lv_lshl (v := (sp_lsh ((((g (T + (8 + 1))) &&& 255)).toInt64) 8)) hx hb dX2_hash128_648 rfl ?_
  refine lv_lxor hx hb dX2_hash128_649 ?_
  refine mt_l (y := (y ^^^ sp_sb (fun j => (g (T + (8 + j)) &&& 255).toInt64) 1)) (rfl) ?_
  refine lv_lstore (lv' := [(11, .long (y ^^^ sp_sb (fun j => (g (T + (8 + j)) &&& 255).toInt64) 1)), (0, .ref b0), (1, .int 0), (2, .int (nI n0)), (4, .long h1), (6, .long h2), (9, .long x), (13, .int (nI T))]) hx hb dX2_hash128_650 hl (by decide) rfl (fun ls hl => ?_)
  exact h128_u1 C0 D b0 dB n0 g T hn hW h1 h2 x (y ^^^ sp_sb (fun j => (g (T + (8 + j)) &&& 255).toInt64) 1) (by omega) kk ls (lv_sub hl [1, 2, 3, 4, 5, 6, 0, 7] rfl)
set_option maxHeartbeats 4000000 in
set_option maxRecDepth 100000 in
/-- byte 10 and those below, to byte 8 -/
theorem h128_u3 {p : Program} {l : Launch} {e : Env} {s : State} {m : MethodId} {args : Array Value} {below : List Frame} {meth : Method} {c : Code} {H : Heap} {locs : List Loc} {Q : State → Prop} (C : Cx p s m args meth c cX2_hash128 15 (some (.array .long)) RX2) (D : va_G) (b0 : Nat) (dB : ClassId) (n0 : Nat) (g : Nat → Int32) (T : Nat) (hn : n0 ≤ 256) (hW : wo D [(b0, .inl (dB, n0, .inl g))] [(dB, .byte)] s H) (h1 h2 x y : Int64) (hT : T + 11 ≤ n0) (kk : ∀ ls : Array Slot, lv_has ls 15 [(0, .ref b0), (1, .int 0), (2, .int (nI n0)), (4, .long h1), (6, .long h2), (9, .long x), (11, .long (sp_xc (fun j => (g (T + (8 + j)) &&& 255).toInt64) 3 y)), (13, .int (nI T))] → W p l e RM2 s m args below meth c H locs 0 0 Q (F0 m 671 ls [])) :
    ∀ ls : Array Slot, lv_has ls 15 [(0, .ref b0), (1, .int 0), (2, .int (nI n0)), (4, .long h1), (6, .long h2), (9, .long x), (11, .long y), (13, .int (nI T))] → W p l e RM2 s m args below meth c H locs 0 0 Q (F0 m 608 ls []) := by
  intro ls hl
  have C0 := C
  obtain ⟨hx, hb, hr, hlocks, hml, hown, hts⟩ := C
  refine lv_lload hx hb dX2_hash128_608 (lv_at hl 6 rfl) ?_
  refine lv_aload_n hx hb dX2_hash128_610 rfl (lv_at hl 0 rfl) ?_
  refine lv_iload_n hx hb dX2_hash128_611 rfl (lv_at hl 1 rfl) ?_
  refine lv_iload hx hb dX2_hash128_612 (lv_at hl 7 rfl) ?_
  refine lv_iadd hx hb dX2_hash128_614 ?_
  refine lv_bipush (v := 10) hx hb dX2_hash128_615 (by decide) ?_
  refine lv_iadd hx hb dX2_hash128_617 ?_
  refine mt_bald hx hb hW 0 0 rfl rfl (T + (8 + 2)) (ix0 rfl 10 rfl) (by omega) hn dX2_hash128_618 ?_
  refine lv_sipush (v := 255) hx hb dX2_hash128_619 (by decide) ?_
  refine lv_iand hx hb dX2_hash128_622 ?_
  refine lv_i2l (v := (((g (T + (8 + 2))) &&& 255)).toInt64) hx hb dX2_hash128_623 rfl ?_
  refine lv_bipush (v := 16) hx hb dX2_hash128_624 (by decide) ?_
  refine lv_lshl (v := (sp_lsh ((((g (T + (8 + 2))) &&& 255)).toInt64) 16)) hx hb dX2_hash128_626 rfl ?_
  refine lv_lxor hx hb dX2_hash128_627 ?_
  refine mt_l (y := (y ^^^ sp_sb (fun j => (g (T + (8 + j)) &&& 255).toInt64) 2)) (rfl) ?_
  refine lv_lstore (lv' := [(11, .long (y ^^^ sp_sb (fun j => (g (T + (8 + j)) &&& 255).toInt64) 2)), (0, .ref b0), (1, .int 0), (2, .int (nI n0)), (4, .long h1), (6, .long h2), (9, .long x), (13, .int (nI T))]) hx hb dX2_hash128_628 hl (by decide) rfl (fun ls hl => ?_)
  exact h128_u2 C0 D b0 dB n0 g T hn hW h1 h2 x (y ^^^ sp_sb (fun j => (g (T + (8 + j)) &&& 255).toInt64) 2) (by omega) kk ls (lv_sub hl [1, 2, 3, 4, 5, 6, 0, 7] rfl)
set_option maxHeartbeats 4000000 in
set_option maxRecDepth 100000 in
/-- byte 11 and those below, to byte 8 -/
theorem h128_u4 {p : Program} {l : Launch} {e : Env} {s : State} {m : MethodId} {args : Array Value} {below : List Frame} {meth : Method} {c : Code} {H : Heap} {locs : List Loc} {Q : State → Prop} (C : Cx p s m args meth c cX2_hash128 15 (some (.array .long)) RX2) (D : va_G) (b0 : Nat) (dB : ClassId) (n0 : Nat) (g : Nat → Int32) (T : Nat) (hn : n0 ≤ 256) (hW : wo D [(b0, .inl (dB, n0, .inl g))] [(dB, .byte)] s H) (h1 h2 x y : Int64) (hT : T + 12 ≤ n0) (kk : ∀ ls : Array Slot, lv_has ls 15 [(0, .ref b0), (1, .int 0), (2, .int (nI n0)), (4, .long h1), (6, .long h2), (9, .long x), (11, .long (sp_xc (fun j => (g (T + (8 + j)) &&& 255).toInt64) 4 y)), (13, .int (nI T))] → W p l e RM2 s m args below meth c H locs 0 0 Q (F0 m 671 ls [])) :
    ∀ ls : Array Slot, lv_has ls 15 [(0, .ref b0), (1, .int 0), (2, .int (nI n0)), (4, .long h1), (6, .long h2), (9, .long x), (11, .long y), (13, .int (nI T))] → W p l e RM2 s m args below meth c H locs 0 0 Q (F0 m 586 ls []) := by
  intro ls hl
  have C0 := C
  obtain ⟨hx, hb, hr, hlocks, hml, hown, hts⟩ := C
  refine lv_lload hx hb dX2_hash128_586 (lv_at hl 6 rfl) ?_
  refine lv_aload_n hx hb dX2_hash128_588 rfl (lv_at hl 0 rfl) ?_
  refine lv_iload_n hx hb dX2_hash128_589 rfl (lv_at hl 1 rfl) ?_
  refine lv_iload hx hb dX2_hash128_590 (lv_at hl 7 rfl) ?_
  refine lv_iadd hx hb dX2_hash128_592 ?_
  refine lv_bipush (v := 11) hx hb dX2_hash128_593 (by decide) ?_
  refine lv_iadd hx hb dX2_hash128_595 ?_
  refine mt_bald hx hb hW 0 0 rfl rfl (T + (8 + 3)) (ix0 rfl 11 rfl) (by omega) hn dX2_hash128_596 ?_
  refine lv_sipush (v := 255) hx hb dX2_hash128_597 (by decide) ?_
  refine lv_iand hx hb dX2_hash128_600 ?_
  refine lv_i2l (v := (((g (T + (8 + 3))) &&& 255)).toInt64) hx hb dX2_hash128_601 rfl ?_
  refine lv_bipush (v := 24) hx hb dX2_hash128_602 (by decide) ?_
  refine lv_lshl (v := (sp_lsh ((((g (T + (8 + 3))) &&& 255)).toInt64) 24)) hx hb dX2_hash128_604 rfl ?_
  refine lv_lxor hx hb dX2_hash128_605 ?_
  refine mt_l (y := (y ^^^ sp_sb (fun j => (g (T + (8 + j)) &&& 255).toInt64) 3)) (rfl) ?_
  refine lv_lstore (lv' := [(11, .long (y ^^^ sp_sb (fun j => (g (T + (8 + j)) &&& 255).toInt64) 3)), (0, .ref b0), (1, .int 0), (2, .int (nI n0)), (4, .long h1), (6, .long h2), (9, .long x), (13, .int (nI T))]) hx hb dX2_hash128_606 hl (by decide) rfl (fun ls hl => ?_)
  exact h128_u3 C0 D b0 dB n0 g T hn hW h1 h2 x (y ^^^ sp_sb (fun j => (g (T + (8 + j)) &&& 255).toInt64) 3) (by omega) kk ls (lv_sub hl [1, 2, 3, 4, 5, 6, 0, 7] rfl)
set_option maxHeartbeats 4000000 in
set_option maxRecDepth 100000 in
/-- byte 12 and those below, to byte 8 -/
theorem h128_u5 {p : Program} {l : Launch} {e : Env} {s : State} {m : MethodId} {args : Array Value} {below : List Frame} {meth : Method} {c : Code} {H : Heap} {locs : List Loc} {Q : State → Prop} (C : Cx p s m args meth c cX2_hash128 15 (some (.array .long)) RX2) (D : va_G) (b0 : Nat) (dB : ClassId) (n0 : Nat) (g : Nat → Int32) (T : Nat) (hn : n0 ≤ 256) (hW : wo D [(b0, .inl (dB, n0, .inl g))] [(dB, .byte)] s H) (h1 h2 x y : Int64) (hT : T + 13 ≤ n0) (kk : ∀ ls : Array Slot, lv_has ls 15 [(0, .ref b0), (1, .int 0), (2, .int (nI n0)), (4, .long h1), (6, .long h2), (9, .long x), (11, .long (sp_xc (fun j => (g (T + (8 + j)) &&& 255).toInt64) 5 y)), (13, .int (nI T))] → W p l e RM2 s m args below meth c H locs 0 0 Q (F0 m 671 ls [])) :
    ∀ ls : Array Slot, lv_has ls 15 [(0, .ref b0), (1, .int 0), (2, .int (nI n0)), (4, .long h1), (6, .long h2), (9, .long x), (11, .long y), (13, .int (nI T))] → W p l e RM2 s m args below meth c H locs 0 0 Q (F0 m 564 ls []) := by
  intro ls hl
  have C0 := C
  obtain ⟨hx, hb, hr, hlocks, hml, hown, hts⟩ := C
  refine lv_lload hx hb dX2_hash128_564 (lv_at hl 6 rfl) ?_
  refine lv_aload_n hx hb dX2_hash128_566 rfl (lv_at hl 0 rfl) ?_
  refine lv_iload_n hx hb dX2_hash128_567 rfl (lv_at hl 1 rfl) ?_
  refine lv_iload hx hb dX2_hash128_568 (lv_at hl 7 rfl) ?_
  refine lv_iadd hx hb dX2_hash128_570 ?_
  refine lv_bipush (v := 12) hx hb dX2_hash128_571 (by decide) ?_
  refine lv_iadd hx hb dX2_hash128_573 ?_
  refine mt_bald hx hb hW 0 0 rfl rfl (T + (8 + 4)) (ix0 rfl 12 rfl) (by omega) hn dX2_hash128_574 ?_
  refine lv_sipush (v := 255) hx hb dX2_hash128_575 (by decide) ?_
  refine lv_iand hx hb dX2_hash128_578 ?_
  refine lv_i2l (v := (((g (T + (8 + 4))) &&& 255)).toInt64) hx hb dX2_hash128_579 rfl ?_
  refine lv_bipush (v := 32) hx hb dX2_hash128_580 (by decide) ?_
  refine lv_lshl (v := (sp_lsh ((((g (T + (8 + 4))) &&& 255)).toInt64) 32)) hx hb dX2_hash128_582 rfl ?_
  refine lv_lxor hx hb dX2_hash128_583 ?_
  refine mt_l (y := (y ^^^ sp_sb (fun j => (g (T + (8 + j)) &&& 255).toInt64) 4)) (rfl) ?_
  refine lv_lstore (lv' := [(11, .long (y ^^^ sp_sb (fun j => (g (T + (8 + j)) &&& 255).toInt64) 4)), (0, .ref b0), (1, .int 0), (2, .int (nI n0)), (4, .long h1), (6, .long h2), (9, .long x), (13, .int (nI T))]) hx hb dX2_hash128_584 hl (by decide) rfl (fun ls hl => ?_)
  exact h128_u4 C0 D b0 dB n0 g T hn hW h1 h2 x (y ^^^ sp_sb (fun j => (g (T + (8 + j)) &&& 255).toInt64) 4) (by omega) kk ls (lv_sub hl [1, 2, 3, 4, 5, 6, 0, 7] rfl)
set_option maxHeartbeats 4000000 in
set_option maxRecDepth 100000 in
/-- byte 13 and those below, to byte 8 -/
theorem h128_u6 {p : Program} {l : Launch} {e : Env} {s : State} {m : MethodId} {args : Array Value} {below : List Frame} {meth : Method} {c : Code} {H : Heap} {locs : List Loc} {Q : State → Prop} (C : Cx p s m args meth c cX2_hash128 15 (some (.array .long)) RX2) (D : va_G) (b0 : Nat) (dB : ClassId) (n0 : Nat) (g : Nat → Int32) (T : Nat) (hn : n0 ≤ 256) (hW : wo D [(b0, .inl (dB, n0, .inl g))] [(dB, .byte)] s H) (h1 h2 x y : Int64) (hT : T + 14 ≤ n0) (kk : ∀ ls : Array Slot, lv_has ls 15 [(0, .ref b0), (1, .int 0), (2, .int (nI n0)), (4, .long h1), (6, .long h2), (9, .long x), (11, .long (sp_xc (fun j => (g (T + (8 + j)) &&& 255).toInt64) 6 y)), (13, .int (nI T))] → W p l e RM2 s m args below meth c H locs 0 0 Q (F0 m 671 ls [])) :
    ∀ ls : Array Slot, lv_has ls 15 [(0, .ref b0), (1, .int 0), (2, .int (nI n0)), (4, .long h1), (6, .long h2), (9, .long x), (11, .long y), (13, .int (nI T))] → W p l e RM2 s m args below meth c H locs 0 0 Q (F0 m 542 ls []) := by
  intro ls hl
  have C0 := C
  obtain ⟨hx, hb, hr, hlocks, hml, hown, hts⟩ := C
  refine lv_lload hx hb dX2_hash128_542 (lv_at hl 6 rfl) ?_
  refine lv_aload_n hx hb dX2_hash128_544 rfl (lv_at hl 0 rfl) ?_
  refine lv_iload_n hx hb dX2_hash128_545 rfl (lv_at hl 1 rfl) ?_
  refine lv_iload hx hb dX2_hash128_546 (lv_at hl 7 rfl) ?_
  refine lv_iadd hx hb dX2_hash128_548 ?_
  refine lv_bipush (v := 13) hx hb dX2_hash128_549 (by decide) ?_
  refine lv_iadd hx hb dX2_hash128_551 ?_
  refine mt_bald hx hb hW 0 0 rfl rfl (T + (8 + 5)) (ix0 rfl 13 rfl) (by omega) hn dX2_hash128_552 ?_
  refine lv_sipush (v := 255) hx hb dX2_hash128_553 (by decide) ?_
  refine lv_iand hx hb dX2_hash128_556 ?_
  refine lv_i2l (v := (((g (T + (8 + 5))) &&& 255)).toInt64) hx hb dX2_hash128_557 rfl ?_
  refine lv_bipush (v := 40) hx hb dX2_hash128_558 (by decide) ?_
  refine lv_lshl (v := (sp_lsh ((((g (T + (8 + 5))) &&& 255)).toInt64) 40)) hx hb dX2_hash128_560 rfl ?_
  refine lv_lxor hx hb dX2_hash128_561 ?_
  refine mt_l (y := (y ^^^ sp_sb (fun j => (g (T + (8 + j)) &&& 255).toInt64) 5)) (rfl) ?_
  refine lv_lstore (lv' := [(11, .long (y ^^^ sp_sb (fun j => (g (T + (8 + j)) &&& 255).toInt64) 5)), (0, .ref b0), (1, .int 0), (2, .int (nI n0)), (4, .long h1), (6, .long h2), (9, .long x), (13, .int (nI T))]) hx hb dX2_hash128_562 hl (by decide) rfl (fun ls hl => ?_)
  exact h128_u5 C0 D b0 dB n0 g T hn hW h1 h2 x (y ^^^ sp_sb (fun j => (g (T + (8 + j)) &&& 255).toInt64) 5) (by omega) kk ls (lv_sub hl [1, 2, 3, 4, 5, 6, 0, 7] rfl)
set_option maxHeartbeats 4000000 in
set_option maxRecDepth 100000 in
/-- byte 14 and those below, to byte 8 -/
theorem h128_u7 {p : Program} {l : Launch} {e : Env} {s : State} {m : MethodId} {args : Array Value} {below : List Frame} {meth : Method} {c : Code} {H : Heap} {locs : List Loc} {Q : State → Prop} (C : Cx p s m args meth c cX2_hash128 15 (some (.array .long)) RX2) (D : va_G) (b0 : Nat) (dB : ClassId) (n0 : Nat) (g : Nat → Int32) (T : Nat) (hn : n0 ≤ 256) (hW : wo D [(b0, .inl (dB, n0, .inl g))] [(dB, .byte)] s H) (h1 h2 x y : Int64) (hT : T + 15 ≤ n0) (kk : ∀ ls : Array Slot, lv_has ls 15 [(0, .ref b0), (1, .int 0), (2, .int (nI n0)), (4, .long h1), (6, .long h2), (9, .long x), (11, .long (sp_xc (fun j => (g (T + (8 + j)) &&& 255).toInt64) 7 y)), (13, .int (nI T))] → W p l e RM2 s m args below meth c H locs 0 0 Q (F0 m 671 ls [])) :
    ∀ ls : Array Slot, lv_has ls 15 [(0, .ref b0), (1, .int 0), (2, .int (nI n0)), (4, .long h1), (6, .long h2), (9, .long x), (11, .long y), (13, .int (nI T))] → W p l e RM2 s m args below meth c H locs 0 0 Q (F0 m 520 ls []) := by
  intro ls hl
  have C0 := C
  obtain ⟨hx, hb, hr, hlocks, hml, hown, hts⟩ := C
  refine lv_lload hx hb dX2_hash128_520 (lv_at hl 6 rfl) ?_
  refine lv_aload_n hx hb dX2_hash128_522 rfl (lv_at hl 0 rfl) ?_
  refine lv_iload_n hx hb dX2_hash128_523 rfl (lv_at hl 1 rfl) ?_
  refine lv_iload hx hb dX2_hash128_524 (lv_at hl 7 rfl) ?_
  refine lv_iadd hx hb dX2_hash128_526 ?_
  refine lv_bipush (v := 14) hx hb dX2_hash128_527 (by decide) ?_
  refine lv_iadd hx hb dX2_hash128_529 ?_
  refine mt_bald hx hb hW 0 0 rfl rfl (T + (8 + 6)) (ix0 rfl 14 rfl) (by omega) hn dX2_hash128_530 ?_
  refine lv_sipush (v := 255) hx hb dX2_hash128_531 (by decide) ?_
  refine lv_iand hx hb dX2_hash128_534 ?_
  refine lv_i2l (v := (((g (T + (8 + 6))) &&& 255)).toInt64) hx hb dX2_hash128_535 rfl ?_
  refine lv_bipush (v := 48) hx hb dX2_hash128_536 (by decide) ?_
  refine lv_lshl (v := (sp_lsh ((((g (T + (8 + 6))) &&& 255)).toInt64) 48)) hx hb dX2_hash128_538 rfl ?_
  refine lv_lxor hx hb dX2_hash128_539 ?_
  refine mt_l (y := (y ^^^ sp_sb (fun j => (g (T + (8 + j)) &&& 255).toInt64) 6)) (rfl) ?_
  refine lv_lstore (lv' := [(11, .long (y ^^^ sp_sb (fun j => (g (T + (8 + j)) &&& 255).toInt64) 6)), (0, .ref b0), (1, .int 0), (2, .int (nI n0)), (4, .long h1), (6, .long h2), (9, .long x), (13, .int (nI T))]) hx hb dX2_hash128_540 hl (by decide) rfl (fun ls hl => ?_)
  exact h128_u6 C0 D b0 dB n0 g T hn hW h1 h2 x (y ^^^ sp_sb (fun j => (g (T + (8 + j)) &&& 255).toInt64) 6) (by omega) kk ls (lv_sub hl [1, 2, 3, 4, 5, 6, 0, 7] rfl)
end
section
/-! ===== Murmur3.hash128: the end, and the method ===== -/
set_option maxHeartbeats 4000000 in
set_option maxRecDepth 100000 in
/-- from the two halves to the answer -/
theorem h128_end {p : Program} {l : Launch} {e : Env} {s : State} {m : MethodId} {args : Array Value} {below : List Frame} {meth : Method} {c : Code} (C : Cx p s m args meth c cX2_hash128 15 (some (.array .long)) RX2) (D : va_G) (n0 : Nat) (g : Nat → Int32) (n3 : Int32) (sz : Nat) (hsz : s.heap.size = sz) (hK : va_K D vwCl [] s) (h1 h2 : Int64) (hp : sp_P (fun j => (g j &&& 255).toInt64) n0 n3.toInt64 = (h1, h2)) :
    ∀ ls : Array Slot, lv_has ls 15 [(2, .int (nI n0)), (4, .long h1), (6, .long h2)] → W p l e RM2 s m args below meth c s.heap [] 0 0 (MQ below (va_Qr (fun u : ClassId × (Nat → Int64) => u.2 0 = sp_E1 (sp_P (fun j => (g j &&& 255).toInt64) n0 n3.toInt64) (nI n0).toInt64 ∧ u.2 1 = sp_E2 (sp_P (fun j => (g j &&& 255).toInt64) n0 n3.toInt64) (nI n0).toInt64) (fun u ra t => va_P D vwCl [(ra, .inl (u.1, 2, .inr (.inl u.2)))] t.heap ∧ va_K D vwCl [(u.1, .long)] t) (fun q => sz ≤ q)) args s 1 2 (fun q => sz ≤ q)) (F0 m 900 ls []) := by
  intro ls hl
  obtain ⟨hx, hb, hr, hlocks, hml, hown, hts⟩ := C
  subst hsz
  have hA : ∀ q : Nat, s.heap.size ≤ q → (fun q : Nat => s.heap.size ≤ q) q := fun _ h => h
  have hS : va_S (fun q : Nat => s.heap.size ≤ q) s.heap s.heap [] := va_S.rf
  refine lv_lload hx hb dX2_hash128_900 (lv_at hl 1 rfl) ?_
  refine lv_iload_n hx hb dX2_hash128_902 rfl (lv_at hl 0 rfl) ?_
  refine lv_i2l (v := ((nI n0)).toInt64) hx hb dX2_hash128_903 rfl ?_
  refine lv_lxor hx hb dX2_hash128_904 ?_
  refine lv_lstore (lv' := [(4, .long (h1 ^^^ (((nI n0)).toInt64))), (2, .int (nI n0)), (6, .long h2)]) hx hb dX2_hash128_905 hl (by decide) rfl (fun ls hl => ?_)
  refine lv_lload hx hb dX2_hash128_907 (lv_at hl 2 rfl) ?_
  refine lv_iload_n hx hb dX2_hash128_909 rfl (lv_at hl 1 rfl) ?_
  refine lv_i2l (v := ((nI n0)).toInt64) hx hb dX2_hash128_910 rfl ?_
  refine lv_lxor hx hb dX2_hash128_911 ?_
  refine lv_lstore (lv' := [(6, .long (h2 ^^^ (((nI n0)).toInt64))), (4, .long (h1 ^^^ (((nI n0)).toInt64))), (2, .int (nI n0))]) hx hb dX2_hash128_912 hl (by decide) rfl (fun ls hl => ?_)
  refine lv_lload hx hb dX2_hash128_914 (lv_at hl 1 rfl) ?_
  refine lv_lload hx hb dX2_hash128_916 (lv_at hl 0 rfl) ?_
  refine lv_ladd hx hb dX2_hash128_918 ?_
  refine lv_lstore (lv' := [(4, .long ((h1 ^^^ (((nI n0)).toInt64)) + (h2 ^^^ (((nI n0)).toInt64)))), (6, .long (h2 ^^^ (((nI n0)).toInt64))), (2, .int (nI n0))]) hx hb dX2_hash128_919 hl (by decide) rfl (fun ls hl => ?_)
  refine lv_lload hx hb dX2_hash128_921 (lv_at hl 1 rfl) ?_
  refine lv_lload hx hb dX2_hash128_923 (lv_at hl 0 rfl) ?_
  refine lv_ladd hx hb dX2_hash128_925 ?_
  refine lv_lstore (lv' := [(6, .long ((h2 ^^^ (((nI n0)).toInt64)) + ((h1 ^^^ (((nI n0)).toInt64)) + (h2 ^^^ (((nI n0)).toInt64))))), (4, .long ((h1 ^^^ (((nI n0)).toInt64)) + (h2 ^^^ (((nI n0)).toInt64)))), (2, .int (nI n0))]) hx hb dX2_hash128_926 hl (by decide) rfl (fun ls hl => ?_)
  refine lv_lload hx hb dX2_hash128_928 (lv_at hl 1 rfl) ?_
  refine vp_callSl (va_runS (As := [.long ((h1 ^^^ (((nI n0)).toInt64)) + (h2 ^^^ (((nI n0)).toInt64)))]) (rest := []) ⟨hx, hb, hml, hown, hts⟩ (met_fmix l ((h1 ^^^ (((nI n0)).toInt64)) + (h2 ^^^ (((nI n0)).toInt64)))) (va_cwS 1 hts (lw_S q103 q104 q5 q105) rfl rfl rfl (by decide +kernel) ⟨Nat.le_of_ble_eq_true rfl, Nat.le_of_ble_eq_true rfl⟩) (pre_S mv_T _ trivial) rfl rfl hl.1 rfl (lv_room (Nat.le_of_ble_eq_true rfl)) dX2_hash128_930 ⟨Nat.le_of_ble_eq_true rfl, Nat.le_of_ble_eq_true rfl⟩).run (fun r930 hr930 => ?_)
  obtain rfl : r930 = (sp_fx ((h1 ^^^ (((nI n0)).toInt64)) + (h2 ^^^ (((nI n0)).toInt64)))) := hr930
  refine mt_l (y := (sp_fh (h1, h2) (nI n0).toInt64)) (rfl) ?_
  refine lv_lstore (lv' := [(4, .long (sp_fh (h1, h2) (nI n0).toInt64)), (6, .long ((h2 ^^^ (((nI n0)).toInt64)) + ((h1 ^^^ (((nI n0)).toInt64)) + (h2 ^^^ (((nI n0)).toInt64))))), (2, .int (nI n0))]) hx hb dX2_hash128_933 hl (by decide) rfl (fun ls hl => ?_)
  refine lv_lload hx hb dX2_hash128_935 (lv_at hl 1 rfl) ?_
  refine vp_callSl (va_runS (As := [.long ((h2 ^^^ (((nI n0)).toInt64)) + ((h1 ^^^ (((nI n0)).toInt64)) + (h2 ^^^ (((nI n0)).toInt64))))]) (rest := []) ⟨hx, hb, hml, hown, hts⟩ (met_fmix l ((h2 ^^^ (((nI n0)).toInt64)) + ((h1 ^^^ (((nI n0)).toInt64)) + (h2 ^^^ (((nI n0)).toInt64))))) (va_cwS 1 hts (lw_S q103 q104 q5 q105) rfl rfl rfl (by decide +kernel) ⟨Nat.le_of_ble_eq_true rfl, Nat.le_of_ble_eq_true rfl⟩) (pre_S mv_T _ trivial) rfl rfl hl.1 rfl (lv_room (Nat.le_of_ble_eq_true rfl)) dX2_hash128_937 ⟨Nat.le_of_ble_eq_true rfl, Nat.le_of_ble_eq_true rfl⟩).run (fun r937 hr937 => ?_)
  obtain rfl : r937 = (sp_fx ((h2 ^^^ (((nI n0)).toInt64)) + ((h1 ^^^ (((nI n0)).toInt64)) + (h2 ^^^ (((nI n0)).toInt64))))) := hr937
  refine mt_l (y := (sp_fg (h1, h2) (nI n0).toInt64)) (rfl) ?_
  refine lv_lstore (lv' := [(6, .long (sp_fg (h1, h2) (nI n0).toInt64)), (4, .long (sp_fh (h1, h2) (nI n0).toInt64)), (2, .int (nI n0))]) hx hb dX2_hash128_940 hl (by decide) rfl (fun ls hl => ?_)
  refine lv_lload hx hb dX2_hash128_942 (lv_at hl 1 rfl) ?_
  refine lv_lload hx hb dX2_hash128_944 (lv_at hl 0 rfl) ?_
  refine lv_ladd hx hb dX2_hash128_946 ?_
  refine mt_l (y := (sp_E1 (h1, h2) (nI n0).toInt64)) (rfl) ?_
  refine lv_lstore (lv' := [(4, .long (sp_E1 (h1, h2) (nI n0).toInt64)), (6, .long (sp_fg (h1, h2) (nI n0).toInt64)), (2, .int (nI n0))]) hx hb dX2_hash128_947 hl (by decide) rfl (fun ls hl => ?_)
  refine lv_lload hx hb dX2_hash128_949 (lv_at hl 1 rfl) ?_
  refine lv_lload hx hb dX2_hash128_951 (lv_at hl 0 rfl) ?_
  refine lv_ladd hx hb dX2_hash128_953 ?_
  refine mt_l (y := (sp_E2 (h1, h2) (nI n0).toInt64)) (rfl) ?_
  refine lv_lstore (lv' := [(6, .long (sp_E2 (h1, h2) (nI n0).toInt64)), (4, .long (sp_E1 (h1, h2) (nI n0).toInt64)), (2, .int (nI n0))]) hx hb dX2_hash128_954 hl (by decide) rfl (fun ls hl => ?_)
  refine lv_iconst (v := 2) hx hb dX2_hash128_956 (by decide) ?_
  refine va_newa (atype := .long) (ty := .long) (a0 := (2, .inr (.inl (fun _ => 0)))) (N' := 2) hx hb (hts _ q127) rfl hK vp_0 vd_0 hS hA (fun _ => rfl) (by decide) (by decide) (by decide) (Nat.le_of_ble_eq_true rfl) (Nat.le_of_ble_eq_true rfl) dX2_hash128_957 (fun ra dL H hK hP hD hS => ?_)
  have hW : wo D [(ra, .inl (dL, 2, .inr (.inl (fun _ => 0))))] [(dL, .long)] s H := ⟨hP, hK⟩
  have hD : va_D (fun q : Nat => s.heap.size ≤ q) [(ra, .inl (dL, 2, .inr (.inl (fun _ => 0))))] := hD
  refine lv_dup hx hb dX2_hash128_959 rfl ?_
  refine lv_iconst (v := 0) hx hb dX2_hash128_960 (by decide) ?_
  refine lv_lload hx hb dX2_hash128_961 (lv_at hl 1 rfl) ?_
  refine mt_last hx hb hW hD hS 0 0 rfl rfl 0 rfl (by decide) (by decide) dX2_hash128_963 (fun H locs hW hD hS => ?_)
  have hW : wo D [(ra, .inl (dL, 2, .inr (.inl (vp_updL (fun _ => 0) 0 (sp_E1 (h1, h2) (nI n0).toInt64)))))] [(dL, .long)] s H := hW
  have hD : va_D (fun q : Nat => s.heap.size ≤ q) [(ra, .inl (dL, 2, .inr (.inl (vp_updL (fun _ => 0) 0 (sp_E1 (h1, h2) (nI n0).toInt64)))))] := hD
  refine lv_dup hx hb dX2_hash128_964 rfl ?_
  refine lv_iconst (v := 1) hx hb dX2_hash128_965 (by decide) ?_
  refine lv_lload hx hb dX2_hash128_966 (lv_at hl 0 rfl) ?_
  refine mt_last hx hb hW hD hS 0 0 rfl rfl 1 rfl (by decide) (by decide) dX2_hash128_968 (fun H locs hW hD hS => ?_)
  have hW : wo D [(ra, .inl (dL, 2, .inr (.inl (vp_updL (vp_updL (fun _ => 0) 0 (sp_E1 (h1, h2) (nI n0).toInt64)) 1 (sp_E2 (h1, h2) (nI n0).toInt64)))))] [(dL, .long)] s H := hW
  have hD : va_D (fun q : Nat => s.heap.size ≤ q) [(ra, .inl (dL, 2, .inr (.inl (vp_updL (vp_updL (fun _ => 0) 0 (sp_E1 (h1, h2) (nI n0).toInt64)) 1 (sp_E2 (h1, h2) (nI n0).toInt64)))))] := hD
  have e0 : (vp_updL (vp_updL (fun _ => 0) 0 (sp_E1 (h1, h2) (nI n0).toInt64)) 1 (sp_E2 (h1, h2) (nI n0).toInt64)) 0 = sp_E1 (h1, h2) (nI n0).toInt64 := by rw [pk_uLn (by decide), pk_uLs]
  have e1 : (vp_updL (vp_updL (fun _ => 0) 0 (sp_E1 (h1, h2) (nI n0).toInt64)) 1 (sp_E2 (h1, h2) (nI n0).toInt64)) 1 = sp_E2 (h1, h2) (nI n0).toInt64 := pk_uLs
  exact W.aret (v := .ref ra) (rt := .array .long) hx hb hr (Or.inr ⟨_, rfl⟩) (Or.inr ⟨_, rfl⟩) (fun t ht hV => ⟨⟨(dL, (vp_updL (vp_updL (fun _ => 0) 0 (sp_E1 (h1, h2) (nI n0).toInt64)) 1 (sp_E2 (h1, h2) (nI n0).toInt64))), ra, rfl, ⟨by rw [hp]; exact e0, by rw [hp]; exact e1⟩, by rw [ht]; exact hW.1, va_K.moved hV.alike hW.2⟩, hS.F ht⟩) hS.2.2 dX2_hash128_969
set_option maxHeartbeats 4000000 in
set_option maxRecDepth 100000 in
/-- Murmur3.hash128 of all of an array: a new array of two halves -/
theorem met_hash128 (l : Launch) (D : va_G) (b0 : Nat) (dB : ClassId) (n0 : Nat) (g : Nat → Int32) (n3 : Int32) (sz : Nat) (hn : n0 ≤ 256) : Met l yX2_hash128 (ws_ yX2_hash128 cX2_hash128 15 (some (.array .long))) RM2 (va_Pc [.ref b0, .int 0, .int (nI n0), .int n3] (fun U => wz D [(b0, .inl (dB, n0, .inl g))] [(dB, .byte)] sz U U.heap)) (va_Qr (fun u : ClassId × (Nat → Int64) => u.2 0 = sp_E1 (sp_P (fun j => (g j &&& 255).toInt64) n0 n3.toInt64) (nI n0).toInt64 ∧ u.2 1 = sp_E2 (sp_P (fun j => (g j &&& 255).toInt64) n0 n3.toInt64) (nI n0).toInt64) (fun u ra t => va_P D vwCl [(ra, .inl (u.1, 2, .inr (.inl u.2)))] t.heap ∧ va_K D vwCl [(u.1, .long)] t) (fun q => sz ≤ q)) 1 2 (fun q => sz ≤ q) := by
  refine m_head (own := RX2) (by decide) rfl (Nat.le_of_ble_eq_true rfl) ?_
  intro p e s m below meth c C hnm hZ ls hl
  have C0 := C
  obtain ⟨hx, hb, hr, hlocks, hml, hown, hts⟩ := C
  have hl : lv_has ls 15 [(0, .ref b0), (1, .int 0), (2, .int (nI n0)), (3, .int n3)] := hl
  obtain ⟨hsz, hP0, hK0⟩ := hZ
  have hW : wo D [(b0, .inl (dB, n0, .inl g))] [(dB, .byte)] s s.heap := ⟨hP0, hK0⟩
  have hK : va_K D vwCl [] s := hK0.sub [] rfl
  refine lv_iload_n hx hb dX2_hash128_0 rfl (lv_at hl 3 rfl) ?_
  refine lv_i2l (v := (n3).toInt64) hx hb dX2_hash128_1 rfl ?_
  refine lv_lstore (lv' := [(4, .long ((n3).toInt64)), (0, .ref b0), (1, .int 0), (2, .int (nI n0)), (3, .int n3)]) hx hb dX2_hash128_2 hl (by decide) rfl (fun ls hl => ?_)
  refine lv_iload_n hx hb dX2_hash128_4 rfl (lv_at hl 4 rfl) ?_
  refine lv_i2l (v := (n3).toInt64) hx hb dX2_hash128_5 rfl ?_
  refine lv_lstore (lv' := [(6, .long ((n3).toInt64)), (4, .long ((n3).toInt64)), (0, .ref b0), (1, .int 0), (2, .int (nI n0)), (3, .int n3)]) hx hb dX2_hash128_6 hl (by decide) rfl (fun ls hl => ?_)
  refine lv_iload_n hx hb dX2_hash128_8 rfl (lv_at hl 4 rfl) ?_
  refine lv_iconst (v := 4) hx hb dX2_hash128_9 (by decide) ?_
  refine lv_ishr hx hb dX2_hash128_10 ?_
  refine mt_i (y := (nI (n0 / 16))) (by rw [pk_shrN (by omega) _ 4 (by decide)]) ?_
  refine lv_istore (lv' := [(8, .int (nI (n0 / 16))), (6, .long ((n3).toInt64)), (4, .long ((n3).toInt64)), (0, .ref b0), (1, .int 0), (2, .int (nI n0)), (3, .int n3)]) hx hb dX2_hash128_11 hl (by decide) rfl (fun ls hl => ?_)
  refine lv_iconst (v := 0) hx hb dX2_hash128_13 (by decide) ?_
  refine mt_i (y := (nI 0)) (rfl) ?_
  refine lv_istore (lv' := [(9, .int (nI 0)), (8, .int (nI (n0 / 16))), (6, .long ((n3).toInt64)), (4, .long ((n3).toInt64)), (0, .ref b0), (1, .int 0), (2, .int (nI n0)), (3, .int n3)]) hx hb dX2_hash128_14 hl (by decide) rfl (fun ls hl => ?_)
  refine h128_loop C0 D b0 dB n0 g (n0 / 16) n3 (by omega) hn hW (fun ls hl => ?_) (n0 / 16) 0 (Nat.zero_add _) ls (lv_sub hl [4, 5, 6, 3, 2, 1, 0] rfl)
  obtain ⟨h1, eh1⟩ : ∃ z, z = (sp_blk (fun j => (g j &&& 255).toInt64) n3.toInt64 (n0 / 16)).1 := ⟨_, rfl⟩
  obtain ⟨h2, eh2⟩ : ∃ z, z = (sp_blk (fun j => (g j &&& 255).toInt64) n3.toInt64 (n0 / 16)).2 := ⟨_, rfl⟩
  rw [← eh1, ← eh2] at hl
  have hbk : sp_blk (fun j => (g j &&& 255).toInt64) n3.toInt64 (n0 / 16) = (h1, h2) := by rw [eh1, eh2]
  refine lv_lconst (v := 0) hx hb dX2_hash128_431 (by decide) ?_
  refine lv_lstore (lv' := [(9, .long 0), (0, .ref b0), (1, .int 0), (2, .int (nI n0)), (4, .long h1), (6, .long h2), (8, .int (nI (n0 / 16)))]) hx hb dX2_hash128_432 hl (by decide) rfl (fun ls hl => ?_)
  refine lv_lconst (v := 0) hx hb dX2_hash128_434 (by decide) ?_
  refine lv_lstore (lv' := [(11, .long 0), (9, .long 0), (0, .ref b0), (1, .int 0), (2, .int (nI n0)), (4, .long h1), (6, .long h2), (8, .int (nI (n0 / 16)))]) hx hb dX2_hash128_435 hl (by decide) rfl (fun ls hl => ?_)
  refine lv_iload hx hb dX2_hash128_437 (lv_at hl 7 rfl) ?_
  refine lv_iconst (v := 4) hx hb dX2_hash128_439 (by decide) ?_
  refine lv_ishl hx hb dX2_hash128_440 ?_
  refine mt_i (y := (nI (16 * (n0 / 16)))) (by rw [pk_shlN _ 4 (by decide) (by omega)]; exact congrArg nI (by omega)) ?_
  refine lv_istore (lv' := [(13, .int (nI (16 * (n0 / 16)))), (11, .long 0), (9, .long 0), (0, .ref b0), (1, .int 0), (2, .int (nI n0)), (4, .long h1), (6, .long h2), (8, .int (nI (n0 / 16)))]) hx hb dX2_hash128_441 hl (by decide) rfl (fun ls hl => ?_)
  refine lv_iload_n hx hb dX2_hash128_443 rfl (lv_at hl 5 rfl) ?_
  refine lv_iload hx hb dX2_hash128_444 (lv_at hl 0 rfl) ?_
  refine lv_isub hx hb dX2_hash128_446 ?_
  refine mt_i (y := (nI (n0 % 16))) (by rw [pk_sub (by omega)]; exact congrArg nI (by omega)) ?_
  obtain ⟨r, er⟩ : ∃ r, r = n0 % 16 := ⟨_, rfl⟩
  have hr16 : r < 16 := by omega
  rw [← er]
  have hby : ∀ j, sp_by ((fun j => (g j &&& 255).toInt64) j) := fun j => by show sp_by (g j &&& 255).toInt64; rw [sp_l255]; exact sp_by255 _
  rcases (show r = 0 ∨ r = 1 ∨ r = 2 ∨ r = 3 ∨ r = 4 ∨ r = 5 ∨ r = 6 ∨ r = 7 ∨ r = 8 ∨ r = 9 ∨ r = 10 ∨ r = 11 ∨ r = 12 ∨ r = 13 ∨ r = 14 ∨ r = 15 by omega) with rfl | rfl | rfl | rfl | rfl | rfl | rfl | rfl | rfl | rfl | rfl | rfl | rfl | rfl | rfl | rfl
  · refine lv_tableOut (tgt := 900) hx hb dX2_hash128_447 (Or.inl (by decide)) (by decide) ?_
    exact h128_end C0 D n0 g n3 sz hsz hK h1 h2 (by rw [sp_P0 _ _ _ er.symm, hbk]) ls (lv_sub hl [5, 6, 7] rfl)
  · refine lv_tableIn (off := 405) (tgt := 852) hx hb dX2_hash128_447 (by decide) (by decide) (by decide) (by decide) ?_
    refine h128_t1 C0 D b0 dB n0 g (16 * (n0 / 16)) hn hW h1 h2 0 0 (by omega) (fun ls hl => ?_) ls (lv_sub hl [3, 4, 5, 6, 7, 2, 1, 0] rfl)
    refine h128_mA C0 D b0 dB n0 g (16 * (n0 / 16)) hn hW h1 h2 _ 0 (fun ls hl => ?_) ls hl
    exact h128_end C0 D n0 g n3 sz hsz hK _ _ (by rw [sp_Plo _ _ _ 1 hby er.symm (by decide) (by decide), hbk]) ls (lv_sub hl [2, 3, 4] rfl)
  · refine lv_tableIn (off := 384) (tgt := 831) hx hb dX2_hash128_447 (by decide) (by decide) (by decide) (by decide) ?_
    refine h128_t2 C0 D b0 dB n0 g (16 * (n0 / 16)) hn hW h1 h2 0 0 (by omega) (fun ls hl => ?_) ls (lv_sub hl [3, 4, 5, 6, 7, 2, 1, 0] rfl)
    refine h128_mA C0 D b0 dB n0 g (16 * (n0 / 16)) hn hW h1 h2 _ 0 (fun ls hl => ?_) ls hl
    exact h128_end C0 D n0 g n3 sz hsz hK _ _ (by rw [sp_Plo _ _ _ 2 hby er.symm (by decide) (by decide), hbk]) ls (lv_sub hl [2, 3, 4] rfl)
  · refine lv_tableIn (off := 363) (tgt := 810) hx hb dX2_hash128_447 (by decide) (by decide) (by decide) (by decide) ?_
    refine h128_t3 C0 D b0 dB n0 g (16 * (n0 / 16)) hn hW h1 h2 0 0 (by omega) (fun ls hl => ?_) ls (lv_sub hl [3, 4, 5, 6, 7, 2, 1, 0] rfl)
    refine h128_mA C0 D b0 dB n0 g (16 * (n0 / 16)) hn hW h1 h2 _ 0 (fun ls hl => ?_) ls hl
    exact h128_end C0 D n0 g n3 sz hsz hK _ _ (by rw [sp_Plo _ _ _ 3 hby er.symm (by decide) (by decide), hbk]) ls (lv_sub hl [2, 3, 4] rfl)
  · refine lv_tableIn (off := 342) (tgt := 789) hx hb dX2_hash128_447 (by decide) (by decide) (by decide) (by decide) ?_
    refine h128_t4 C0 D b0 dB n0 g (16 * (n0 / 16)) hn hW h1 h2 0 0 (by omega) (fun ls hl => ?_) ls (lv_sub hl [3, 4, 5, 6, 7, 2, 1, 0] rfl)
    refine h128_mA C0 D b0 dB n0 g (16 * (n0 / 16)) hn hW h1 h2 _ 0 (fun ls hl => ?_) ls hl
    exact h128_end C0 D n0 g n3 sz hsz hK _ _ (by rw [sp_Plo _ _ _ 4 hby er.symm (by decide) (by decide), hbk]) ls (lv_sub hl [2, 3, 4] rfl)
  · refine lv_tableIn (off := 321) (tgt := 768) hx hb dX2_hash128_447 (by decide) (by decide) (by decide) (by decide) ?_
    refine h128_t5 C0 D b0 dB n0 g (16 * (n0 / 16)) hn hW h1 h2 0 0 (by omega) (fun ls hl => ?_) ls (lv_sub hl [3, 4, 5, 6, 7, 2, 1, 0] rfl)
    refine h128_mA C0 D b0 dB n0 g (16 * (n0 / 16)) hn hW h1 h2 _ 0 (fun ls hl => ?_) ls hl
    exact h128_end C0 D n0 g n3 sz hsz hK _ _ (by rw [sp_Plo _ _ _ 5 hby er.symm (by decide) (by decide), hbk]) ls (lv_sub hl [2, 3, 4] rfl)
  · refine lv_tableIn (off := 300) (tgt := 747) hx hb dX2_hash128_447 (by decide) (by decide) (by decide) (by decide) ?_
    refine h128_t6 C0 D b0 dB n0 g (16 * (n0 / 16)) hn hW h1 h2 0 0 (by omega) (fun ls hl => ?_) ls (lv_sub hl [3, 4, 5, 6, 7, 2, 1, 0] rfl)
    refine h128_mA C0 D b0 dB n0 g (16 * (n0 / 16)) hn hW h1 h2 _ 0 (fun ls hl => ?_) ls hl
    exact h128_end C0 D n0 g n3 sz hsz hK _ _ (by rw [sp_Plo _ _ _ 6 hby er.symm (by decide) (by decide), hbk]) ls (lv_sub hl [2, 3, 4] rfl)
  · refine lv_tableIn (off := 278) (tgt := 725) hx hb dX2_hash128_447 (by decide) (by decide) (by decide) (by decide) ?_
    refine h128_t7 C0 D b0 dB n0 g (16 * (n0 / 16)) hn hW h1 h2 0 0 (by omega) (fun ls hl => ?_) ls (lv_sub hl [3, 4, 5, 6, 7, 2, 1, 0] rfl)
    refine h128_mA C0 D b0 dB n0 g (16 * (n0 / 16)) hn hW h1 h2 _ 0 (fun ls hl => ?_) ls hl
    exact h128_end C0 D n0 g n3 sz hsz hK _ _ (by rw [sp_Plo _ _ _ 7 hby er.symm (by decide) (by decide), hbk]) ls (lv_sub hl [2, 3, 4] rfl)
  · refine lv_tableIn (off := 256) (tgt := 703) hx hb dX2_hash128_447 (by decide) (by decide) (by decide) (by decide) ?_
    refine h128_t8 C0 D b0 dB n0 g (16 * (n0 / 16)) hn hW h1 h2 0 0 (by omega) (fun ls hl => ?_) ls (lv_sub hl [3, 4, 5, 6, 7, 2, 1, 0] rfl)
    refine h128_mA C0 D b0 dB n0 g (16 * (n0 / 16)) hn hW h1 h2 _ 0 (fun ls hl => ?_) ls hl
    exact h128_end C0 D n0 g n3 sz hsz hK _ _ (by rw [sp_Plo _ _ _ 8 hby er.symm (by decide) (by decide), hbk]) ls (lv_sub hl [2, 3, 4] rfl)
  · refine lv_tableIn (off := 205) (tgt := 652) hx hb dX2_hash128_447 (by decide) (by decide) (by decide) (by decide) ?_
    refine h128_u1 C0 D b0 dB n0 g (16 * (n0 / 16)) hn hW h1 h2 0 0 (by omega) (fun ls hl => ?_) ls (lv_sub hl [3, 4, 5, 6, 7, 2, 1, 0] rfl)
    refine h128_mB C0 D b0 dB n0 g (16 * (n0 / 16)) hn hW h1 h2 0 _ (fun ls hl => ?_) ls hl
    refine h128_t8 C0 D b0 dB n0 g (16 * (n0 / 16)) hn hW h1 _ 0 _ (by omega) (fun ls hl => ?_) ls hl
    refine h128_mA C0 D b0 dB n0 g (16 * (n0 / 16)) hn hW h1 _ _ _ (fun ls hl => ?_) ls hl
    exact h128_end C0 D n0 g n3 sz hsz hK _ _ (by rw [sp_Phi _ _ _ 1 hby er.symm (by decide), hbk]) ls (lv_sub hl [2, 3, 4] rfl)
  · refine lv_tableIn (off := 183) (tgt := 630) hx hb dX2_hash128_447 (by decide) (by decide) (by decide) (by decide) ?_
    refine h128_u2 C0 D b0 dB n0 g (16 * (n0 / 16)) hn hW h1 h2 0 0 (by omega) (fun ls hl => ?_) ls (lv_sub hl [3, 4, 5, 6, 7, 2, 1, 0] rfl)
    refine h128_mB C0 D b0 dB n0 g (16 * (n0 / 16)) hn hW h1 h2 0 _ (fun ls hl => ?_) ls hl
    refine h128_t8 C0 D b0 dB n0 g (16 * (n0 / 16)) hn hW h1 _ 0 _ (by omega) (fun ls hl => ?_) ls hl
    refine h128_mA C0 D b0 dB n0 g (16 * (n0 / 16)) hn hW h1 _ _ _ (fun ls hl => ?_) ls hl
    exact h128_end C0 D n0 g n3 sz hsz hK _ _ (by rw [sp_Phi _ _ _ 2 hby er.symm (by decide), hbk]) ls (lv_sub hl [2, 3, 4] rfl)
  · refine lv_tableIn (off := 161) (tgt := 608) hx hb dX2_hash128_447 (by decide) (by decide) (by decide) (by decide) ?_
    refine h128_u3 C0 D b0 dB n0 g (16 * (n0 / 16)) hn hW h1 h2 0 0 (by omega) (fun ls hl => ?_) ls (lv_sub hl [3, 4, 5, 6, 7, 2, 1, 0] rfl)
    refine h128_mB C0 D b0 dB n0 g (16 * (n0 / 16)) hn hW h1 h2 0 _ (fun ls hl => ?_) ls hl
    refine h128_t8 C0 D b0 dB n0 g (16 * (n0 / 16)) hn hW h1 _ 0 _ (by omega) (fun ls hl => ?_) ls hl
    refine h128_mA C0 D b0 dB n0 g (16 * (n0 / 16)) hn hW h1 _ _ _ (fun ls hl => ?_) ls hl
    exact h128_end C0 D n0 g n3 sz hsz hK _ _ (by rw [sp_Phi _ _ _ 3 hby er.symm (by decide), hbk]) ls (lv_sub hl [2, 3, 4] rfl)
  · refine lv_tableIn (off := 139) (tgt := 586) hx hb dX2_hash128_447 (by decide) (by decide) (by decide) (by decide) ?_
    refine h128_u4 C0 D b0 dB n0 g (16 * (n0 / 16)) hn hW h1 h2 0 0 (by omega) (fun ls hl => ?_) ls (lv_sub hl [3, 4, 5, 6, 7, 2, 1, 0] rfl)
    refine h128_mB C0 D b0 dB n0 g (16 * (n0 / 16)) hn hW h1 h2 0 _ (fun ls hl => ?_) ls hl
    refine h128_t8 C0 D b0 dB n0 g (16 * (n0 / 16)) hn hW h1 _ 0 _ (by omega) (fun ls hl => ?_) ls hl
    refine h128_mA C0 D b0 dB n0 g (16 * (n0 / 16)) hn hW h1 _ _ _ (fun ls hl => ?_) ls hl
    exact h128_end C0 D n0 g n3 sz hsz hK _ _ (by rw [sp_Phi _ _ _ 4 hby er.symm (by decide), hbk]) ls (lv_sub hl [2, 3, 4] rfl)
  · refine lv_tableIn (off := 117) (tgt := 564) hx hb dX2_hash128_447 (by decide) (by decide) (by decide) (by decide) ?_
    refine h128_u5 C0 D b0 dB n0 g (16 * (n0 / 16)) hn hW h1 h2 0 0 (by omega) (fun ls hl => ?_) ls (lv_sub hl [3, 4, 5, 6, 7, 2, 1, 0] rfl)
    refine h128_mB C0 D b0 dB n0 g (16 * (n0 / 16)) hn hW h1 h2 0 _ (fun ls hl => ?_) ls hl
    refine h128_t8 C0 D b0 dB n0 g (16 * (n0 / 16)) hn hW h1 _ 0 _ (by omega) (fun ls hl => ?_) ls hl
    refine h128_mA C0 D b0 dB n0 g (16 * (n0 / 16)) hn hW h1 _ _ _ (fun ls hl => ?_) ls hl
    exact h128_end C0 D n0 g n3 sz hsz hK _ _ (by rw [sp_Phi _ _ _ 5 hby er.symm (by decide), hbk]) ls (lv_sub hl [2, 3, 4] rfl)
  · refine lv_tableIn (off := 95) (tgt := 542) hx hb dX2_hash128_447 (by decide) (by decide) (by decide) (by decide) ?_
    refine h128_u6 C0 D b0 dB n0 g (16 * (n0 / 16)) hn hW h1 h2 0 0 (by omega) (fun ls hl => ?_) ls (lv_sub hl [3, 4, 5, 6, 7, 2, 1, 0] rfl)
    refine h128_mB C0 D b0 dB n0 g (16 * (n0 / 16)) hn hW h1 h2 0 _ (fun ls hl => ?_) ls hl
    refine h128_t8 C0 D b0 dB n0 g (16 * (n0 / 16)) hn hW h1 _ 0 _ (by omega) (fun ls hl => ?_) ls hl
    refine h128_mA C0 D b0 dB n0 g (16 * (n0 / 16)) hn hW h1 _ _ _ (fun ls hl => ?_) ls hl
    exact h128_end C0 D n0 g n3 sz hsz hK _ _ (by rw [sp_Phi _ _ _ 6 hby er.symm (by decide), hbk]) ls (lv_sub hl [2, 3, 4] rfl)
  · refine lv_tableIn (off := 73) (tgt := 520) hx hb dX2_hash128_447 (by decide) (by decide) (by decide) (by decide) ?_
    refine h128_u7 C0 D b0 dB n0 g (16 * (n0 / 16)) hn hW h1 h2 0 0 (by omega) (fun ls hl => ?_) ls (lv_sub hl [3, 4, 5, 6, 7, 2, 1, 0] rfl)
    refine h128_mB C0 D b0 dB n0 g (16 * (n0 / 16)) hn hW h1 h2 0 _ (fun ls hl => ?_) ls hl
    refine h128_t8 C0 D b0 dB n0 g (16 * (n0 / 16)) hn hW h1 _ 0 _ (by omega) (fun ls hl => ?_) ls hl
    refine h128_mA C0 D b0 dB n0 g (16 * (n0 / 16)) hn hW h1 _ _ _ (fun ls hl => ?_) ls hl
    exact h128_end C0 D n0 g n3 sz hsz hK _ _ (by rw [sp_Phi _ _ _ 7 hby er.symm (by decide), hbk]) ls (lv_sub hl [2, 3, 4] rfl)
end
section
/-! ===== the law's word: eight bytes, those behind the end are nought ===== -/
set_option maxHeartbeats 4000000 in
set_option maxRecDepth 100000 in
/-- the loop: mm bytes read, from the highest down -/
theorem lwo_loop {p : Program} {l : Launch} {e : Env} {s : State} {m : MethodId} {args : Array Value} {below : List Frame} {meth : Method} {c : Code} {H : Heap} {locs : List Loc} {Q : State → Prop} (C : Cx p s m args meth c cX0_word 6 (some .long) RX0) (D : va_G) (t0 : Nat) (dT : ClassId) (f : Nat → Int32) (a1 e1 : Nat) (he : e1 ≤ 256) (ha : a1 ≤ 1000) (hW : wo D [(t0, .inl (dT, 256, .inl f))] [(dT, .int)] s H)
    (kk : ∀ ls : Array Slot, lv_has ls 6 [(3, .long (sp_hor (fun k => if a1 + k < e1 then (f (a1 + k)).toInt64 else 0) 8))] → W p l e RM0 s m args below meth c H locs 0 0 Q (F0 m 42 ls [])) :
    ∀ (d mm : Nat), mm + d = 8 → ∀ ls : Array Slot, lv_has ls 6 [(0, .ref t0), (1, .int (nI a1)), (2, .int (nI e1)), (3, .long (sp_hor (fun k => if a1 + k < e1 then (f (a1 + k)).toInt64 else 0) mm)), (5, .int (nI d - 1))] → W p l e RM0 s m args below meth c H locs 0 0 Q (F0 m 6 ls []) := by
  obtain ⟨hx, hb, hr, hlocks, hml, hown, hts⟩ := C
  intro d
  induction d with
  | zero =>
    intro mm hi ls hl
    refine lv_iload hx hb dX0_word_6 (lv_at hl 4 rfl) ?_
    refine lv_if_lt (tgt := 42) hx hb dX0_word_8 (by decide) (fun c8 => ?_) (fun c8 => ?_)
    · exact kk ls (by have hq : mm = 8 := (by omega); subst hq; exact lv_sub hl [3] rfl)
    · exact absurd (show nI 0 - 1 < 0 by decide) c8
  | succ d ih =>
    intro mm hi ls hl
    have h7 : 7 - mm = d := by omega
    rw [nI_pred] at hl
    refine lv_iload hx hb dX0_word_6 (lv_at hl 4 rfl) ?_
    refine lv_if_lt (tgt := 42) hx hb dX0_word_8 (by decide) (fun c8 => ?_) (fun c8 => ?_)
    · exact absurd c8 (nI_pos (by omega))
    · refine lv_lload_n hx hb dX0_word_11 rfl (lv_at hl 3 rfl) ?_
      refine lv_bipush (v := 8) hx hb dX0_word_12 (by decide) ?_
      refine lv_lshl (v := (sp_lsh (sp_hor (fun k => if a1 + k < e1 then (f (a1 + k)).toInt64 else 0) mm) 8)) hx hb dX0_word_14 rfl ?_
      refine lv_iload_n hx hb dX0_word_15 rfl (lv_at hl 1 rfl) ?_
      refine lv_iload hx hb dX0_word_16 (lv_at hl 4 rfl) ?_
      refine lv_iadd hx hb dX0_word_18 ?_
      refine mt_i (y := (nI (a1 + d))) (nI_add _ _) ?_
      refine lv_iload_n hx hb dX0_word_19 rfl (lv_at hl 2 rfl) ?_
      refine lv_icmp_ge (tgt := 32) hx hb dX0_word_20 (by decide) (fun c20 => ?_) (fun c20 => ?_)
      · have hq : ¬ a1 + d < e1 := fun q => nI_ge q (by omega) c20
        refine lv_iconst (v := 0) hx hb dX0_word_32 (by decide) ?_
        refine lv_i2l (v := (0).toInt64) hx hb dX0_word_33 rfl ?_
        refine lv_lor hx hb dX0_word_34 ?_
        refine mt_l (y := (sp_hor (fun k => if a1 + k < e1 then (f (a1 + k)).toInt64 else 0) (mm + 1))) (by show _ = sp_lsh _ 8 ||| (if a1 + (7 - mm) < e1 then _ else 0); rw [h7, if_neg hq]; rfl) ?_
        refine lv_lstore_n (lv' := [(3, .long (sp_hor (fun k => if a1 + k < e1 then (f (a1 + k)).toInt64 else 0) (mm + 1))), (0, .ref t0), (1, .int (nI a1)), (2, .int (nI e1)), (5, .int (nI d))]) hx hb dX0_word_35 rfl hl (by decide) rfl (fun ls hl => ?_)
        refine lv_iinc (v := (nI d - 1)) (lv' := [(5, .int (nI d - 1)), (3, .long (sp_hor (fun k => if a1 + k < e1 then (f (a1 + k)).toInt64 else 0) (mm + 1))), (0, .ref t0), (1, .int (nI a1)), (2, .int (nI e1))]) hx hb dX0_word_36 hl (k := 4) rfl (by rw [show Int32.ofInt (-1) = -1 from by decide]; exact (Int32.sub_eq_add_neg _ _).symm) (by decide) rfl (fun ls hl => ?_)
        refine lv_goto (tgt := 6) hx hb dX0_word_39 (by decide) ?_
        exact ih (mm + 1) (by omega) ls (lv_sub hl [2, 3, 4, 1, 0] rfl)
      · have hq : a1 + d < e1 := Nat.lt_of_not_le (fun q => c20 (nI_le q (by omega)))
        refine lv_aload_n hx hb dX0_word_23 rfl (lv_at hl 0 rfl) ?_
        refine lv_iload_n hx hb dX0_word_24 rfl (lv_at hl 1 rfl) ?_
        refine lv_iload hx hb dX0_word_25 (lv_at hl 4 rfl) ?_
        refine lv_iadd hx hb dX0_word_27 ?_
        refine mt_i (y := (nI (a1 + d))) (nI_add _ _) ?_
        refine mt_iald hx hb hW 0 0 rfl rfl (a1 + d) rfl (by omega) (by omega) dX0_word_28 ?_
        refine lv_goto (tgt := 33) hx hb dX0_word_29 (by decide) ?_
        refine lv_i2l (v := ((f (a1 + d))).toInt64) hx hb dX0_word_33 rfl ?_
        refine lv_lor hx hb dX0_word_34 ?_
        refine mt_l (y := (sp_hor (fun k => if a1 + k < e1 then (f (a1 + k)).toInt64 else 0) (mm + 1))) (by show _ = sp_lsh _ 8 ||| (if a1 + (7 - mm) < e1 then (f (a1 + (7 - mm))).toInt64 else 0); rw [h7, if_pos hq]) ?_
        refine lv_lstore_n (lv' := [(3, .long (sp_hor (fun k => if a1 + k < e1 then (f (a1 + k)).toInt64 else 0) (mm + 1))), (0, .ref t0), (1, .int (nI a1)), (2, .int (nI e1)), (5, .int (nI d))]) hx hb dX0_word_35 rfl hl (by decide) rfl (fun ls hl => ?_)
        refine lv_iinc (v := (nI d - 1)) (lv' := [(5, .int (nI d - 1)), (3, .long (sp_hor (fun k => if a1 + k < e1 then (f (a1 + k)).toInt64 else 0) (mm + 1))), (0, .ref t0), (1, .int (nI a1)), (2, .int (nI e1))]) hx hb dX0_word_36 hl (k := 4) rfl (by rw [show Int32.ofInt (-1) = -1 from by decide]; exact (Int32.sub_eq_add_neg _ _).symm) (by decide) rfl (fun ls hl => ?_)
        refine lv_goto (tgt := 6) hx hb dX0_word_39 (by decide) ?_
        exact ih (mm + 1) (by omega) ls (lv_sub hl [2, 3, 4, 1, 0] rfl)
set_option maxHeartbeats 4000000 in
set_option maxRecDepth 100000 in
/-- the law's word -/
theorem met_lword (l : Launch) (D : va_G) (t0 : Nat) (dT : ClassId) (f : Nat → Int32) (a1 e1 : Nat) (he : e1 ≤ 256) (ha : a1 ≤ 1000) : Met l yX0_word (ws_ yX0_word cX0_word 6 (some .long)) RM0 (va_Pc [.ref t0, .int (nI a1), .int (nI e1)] (fun U => wo D [(t0, .inl (dT, 256, .inl f))] [(dT, .int)] U U.heap)) (vp_Sl (fun r => r = sp_w64 (fun k => if a1 + k < e1 then (f (a1 + k)).toInt64 else 0))) 0 0 (fun _ => False) := by
  refine m_head (own := RX0) (by decide) rfl (Nat.le_of_ble_eq_true rfl) ?_
  intro p e s m below meth c C hnm hW ls hl
  have C0 := C
  obtain ⟨hx, hb, hr, hlocks, hml, hown, hts⟩ := C
  have hl : lv_has ls 6 [(0, .ref t0), (1, .int (nI a1)), (2, .int (nI e1))] := hl
  refine lv_lconst (v := 0) hx hb dX0_word_0 (by decide) ?_
  refine mt_l (y := (sp_hor (fun k => if a1 + k < e1 then (f (a1 + k)).toInt64 else 0) 0)) (rfl) ?_
  refine lv_lstore_n (lv' := [(3, .long (sp_hor (fun k => if a1 + k < e1 then (f (a1 + k)).toInt64 else 0) 0)), (0, .ref t0), (1, .int (nI a1)), (2, .int (nI e1))]) hx hb dX0_word_1 rfl hl (by decide) rfl (fun ls hl => ?_)
  refine lv_bipush (v := 7) hx hb dX0_word_2 (by decide) ?_
  refine mt_i (y := (nI 8 - 1)) (by decide) ?_
  refine lv_istore (lv' := [(5, .int (nI 8 - 1)), (3, .long (sp_hor (fun k => if a1 + k < e1 then (f (a1 + k)).toInt64 else 0) 0)), (0, .ref t0), (1, .int (nI a1)), (2, .int (nI e1))]) hx hb dX0_word_4 hl (by decide) rfl (fun ls hl => ?_)
  refine lwo_loop C0 D t0 dT f a1 e1 he ha hW (fun ls hl => ?_) 8 0 rfl ls (lv_sub hl [2, 3, 4, 1, 0] rfl)
  refine lv_lload_n hx hb dX0_word_42 rfl (lv_at hl 0 rfl) ?_
  exact W.lret (v := (sp_hor (fun k => if a1 + k < e1 then (f (a1 + k)).toInt64 else 0) 8)) hx hb hr (fun t ht hW => ⟨_, rfl, sp_hor8 _, ht⟩) (fun _ h => by cases h) dX0_word_43
/-! ===== the law's 128-bit hash ===== -/
abbrev RM3 : Room := { frames := 1, cells := 0, slots := 0, locals := 28 }
set_option maxHeartbeats 4000000 in
set_option maxRecDepth 100000 in
/-- two words are read, the first is mixed in -/
theorem lwi_words {p : Program} {l : Launch} {e : Env} {s : State} {m : MethodId} {args : Array Value} {below : List Frame} {meth : Method} {c : Code} {H : Heap} {locs : List Loc} {Q : State → Prop} (C : Cx p s m args meth c cX0_wide 19 (some .long) RX0) (D : va_G) (t0 : Nat) (dT : ClassId) (f : Nat → Int32) (a0 n : Nat) (n3 n4 : Int32) (h4 : a0 + n ≤ 256) (hW : wo D [(t0, .inl (dT, 256, .inl f))] [(dT, .int)] s H) (i : Nat) (hi : 16 * i < n) (h1 h2 : Int64) (kk : ∀ ls : Array Slot, lv_has ls 19 [(0, .ref t0), (1, .int (nI a0)), (2, .int (nI n)), (4, .int n4), (5, .long (-8663945395140668459)), (7, .long 5545529020109919103), (9, .long (h1 ^^^ sp_mA (sp_w64 (fun k => sp_mk (fun j => (f (a0 + j)).toInt64) n (16 * i + k))))), (11, .long h2), (13, .int (nI (a0 + n))), (14, .int (nI (a0 + 16 * i))), (17, .long (sp_mB (sp_w64 (fun k => sp_mk (fun j => (f (a0 + j)).toInt64) n (16 * i + (8 + k))))))] → W p l e RM3 s m args below meth c H locs 0 0 Q (F0 m 88 ls [])) :
    ∀ ls : Array Slot, lv_has ls 19 [(0, .ref t0), (1, .int (nI a0)), (2, .int (nI n)), (4, .int n4), (5, .long (-8663945395140668459)), (7, .long 5545529020109919103), (9, .long h1), (11, .long h2), (13, .int (nI (a0 + n))), (14, .int (nI (a0 + 16 * i)))] → W p l e RM3 s m args below meth c H locs 0 0 Q (F0 m 36 ls []) := by
  intro ls hl
  obtain ⟨hx, hb, hr, hlocks, hml, hown, hts⟩ := C
  refine lv_aload_n hx hb dX0_wide_36 rfl (lv_at hl 0 rfl) ?_
  refine lv_iload hx hb dX0_wide_37 (lv_at hl 9 rfl) ?_
  refine lv_iload hx hb dX0_wide_39 (lv_at hl 8 rfl) ?_
  refine vp_callSl (va_runS (As := [.ref t0, .int (nI (a0 + 16 * i)), .int (nI (a0 + n))]) (rest := []) ⟨hx, hb, hml, hown, hts⟩ (met_lword l D t0 dT f (a0 + 16 * i) (a0 + n) (by omega) (by omega)) (va_cwS 3 hts (lw_S q113 q114 q3 q115) rfl rfl rfl (by decide +kernel) ⟨Nat.le_of_ble_eq_true rfl, Nat.le_of_ble_eq_true rfl⟩) (pre_S mv_wo _ hW) rfl rfl hl.1 rfl (lv_room (Nat.le_of_ble_eq_true rfl)) dX0_wide_41 ⟨Nat.le_of_ble_eq_true rfl, Nat.le_of_ble_eq_true rfl⟩).run (fun r41 hr41 => ?_)
  obtain rfl : r41 = (sp_w64 (fun k => if (a0 + 16 * i) + k < a0 + n then (f ((a0 + 16 * i) + k)).toInt64 else 0)) := hr41
  refine mt_l (y := (sp_w64 (fun k => sp_mk (fun j => (f (a0 + j)).toInt64) n (16 * i + k)))) (sp_w64_cg (fun k _ => sp_lm f a0 n _ _ _ (by omega))) ?_
  refine lv_lload hx hb dX0_wide_44 (lv_at hl 4 rfl) ?_
  refine lv_lmul hx hb dX0_wide_46 ?_
  refine lv_bipush (v := 31) hx hb dX0_wide_47 (by decide) ?_
  refine vp_callSl (va_runS (As := [.long ((sp_w64 (fun k => sp_mk (fun j => (f (a0 + j)).toInt64) n (16 * i + k))) * (-8663945395140668459)), .int 31]) (rest := []) ⟨hx, hb, hml, hown, hts⟩ (met_turned64 l ((sp_w64 (fun k => sp_mk (fun j => (f (a0 + j)).toInt64) n (16 * i + k))) * (-8663945395140668459)) 31 (by decide +kernel)) (va_cwS 2 hts (lw_S q116 q117 q3 q118) rfl rfl rfl (by decide +kernel) ⟨Nat.le_of_ble_eq_true rfl, Nat.le_of_ble_eq_true rfl⟩) (pre_S mv_T _ trivial) rfl rfl hl.1 rfl (lv_room (Nat.le_of_ble_eq_true rfl)) dX0_wide_49 ⟨Nat.le_of_ble_eq_true rfl, Nat.le_of_ble_eq_true rfl⟩).run (fun r49 hr49 => ?_)
  obtain rfl : r49 = (sp_r64 ((sp_w64 (fun k => sp_mk (fun j => (f (a0 + j)).toInt64) n (16 * i + k))) * (-8663945395140668459)) 31) := hr49
  refine lv_lload hx hb dX0_wide_52 (lv_at hl 5 rfl) ?_
  refine lv_lmul hx hb dX0_wide_54 ?_
  refine mt_l (y := (sp_mA (sp_w64 (fun k => sp_mk (fun j => (f (a0 + j)).toInt64) n (16 * i + k))))) (rfl) ?_
  refine lv_lstore (lv' := [(15, .long (sp_mA (sp_w64 (fun k => sp_mk (fun j => (f (a0 + j)).toInt64) n (16 * i + k))))), (0, .ref t0), (1, .int (nI a0)), (2, .int (nI n)), (4, .int n4), (5, .long (-8663945395140668459)), (7, .long 5545529020109919103), (9, .long h1), (11, .long h2), (13, .int (nI (a0 + n))), (14, .int (nI (a0 + 16 * i)))]) hx hb dX0_wide_55 hl (by decide) rfl (fun ls hl => ?_)
  refine lv_aload_n hx hb dX0_wide_57 rfl (lv_at hl 1 rfl) ?_
  refine lv_iload hx hb dX0_wide_58 (lv_at hl 10 rfl) ?_
  refine lv_bipush (v := 8) hx hb dX0_wide_60 (by decide) ?_
  refine lv_iadd hx hb dX0_wide_62 ?_
  refine mt_i (y := (nI (a0 + (16 * i + 8)))) (ix2 rfl 8 rfl) ?_
  refine lv_iload hx hb dX0_wide_63 (lv_at hl 9 rfl) ?_
  refine vp_callSl (va_runS (As := [.ref t0, .int (nI (a0 + (16 * i + 8))), .int (nI (a0 + n))]) (rest := []) ⟨hx, hb, hml, hown, hts⟩ (met_lword l D t0 dT f (a0 + (16 * i + 8)) (a0 + n) (by omega) (by omega)) (va_cwS 3 hts (lw_S q113 q114 q3 q115) rfl rfl rfl (by decide +kernel) ⟨Nat.le_of_ble_eq_true rfl, Nat.le_of_ble_eq_true rfl⟩) (pre_S mv_wo _ hW) rfl rfl hl.1 rfl (lv_room (Nat.le_of_ble_eq_true rfl)) dX0_wide_65 ⟨Nat.le_of_ble_eq_true rfl, Nat.le_of_ble_eq_true rfl⟩).run (fun r65 hr65 => ?_)
  obtain rfl : r65 = (sp_w64 (fun k => if (a0 + (16 * i + 8)) + k < a0 + n then (f ((a0 + (16 * i + 8)) + k)).toInt64 else 0)) := hr65
  refine mt_l (y := (sp_w64 (fun k => sp_mk (fun j => (f (a0 + j)).toInt64) n (16 * i + (8 + k))))) (sp_w64_cg (fun k _ => sp_lm f a0 n _ _ _ (by omega))) ?_
  refine lv_lload hx hb dX0_wide_68 (lv_at hl 6 rfl) ?_
  refine lv_lmul hx hb dX0_wide_70 ?_
  refine lv_bipush (v := 33) hx hb dX0_wide_71 (by decide) ?_
  refine vp_callSl (va_runS (As := [.long ((sp_w64 (fun k => sp_mk (fun j => (f (a0 + j)).toInt64) n (16 * i + (8 + k)))) * 5545529020109919103), .int 33]) (rest := []) ⟨hx, hb, hml, hown, hts⟩ (met_turned64 l ((sp_w64 (fun k => sp_mk (fun j => (f (a0 + j)).toInt64) n (16 * i + (8 + k)))) * 5545529020109919103) 33 (by decide +kernel)) (va_cwS 2 hts (lw_S q116 q117 q3 q118) rfl rfl rfl (by decide +kernel) ⟨Nat.le_of_ble_eq_true rfl, Nat.le_of_ble_eq_true rfl⟩) (pre_S mv_T _ trivial) rfl rfl hl.1 rfl (lv_room (Nat.le_of_ble_eq_true rfl)) dX0_wide_73 ⟨Nat.le_of_ble_eq_true rfl, Nat.le_of_ble_eq_true rfl⟩).run (fun r73 hr73 => ?_)
  obtain rfl : r73 = (sp_r64 ((sp_w64 (fun k => sp_mk (fun j => (f (a0 + j)).toInt64) n (16 * i + (8 + k)))) * 5545529020109919103) 33) := hr73
  refine lv_lload hx hb dX0_wide_76 (lv_at hl 5 rfl) ?_
  refine lv_lmul hx hb dX0_wide_78 ?_
  refine mt_l (y := (sp_mB (sp_w64 (fun k => sp_mk (fun j => (f (a0 + j)).toInt64) n (16 * i + (8 + k)))))) (rfl) ?_
  refine lv_lstore (lv' := [(17, .long (sp_mB (sp_w64 (fun k => sp_mk (fun j => (f (a0 + j)).toInt64) n (16 * i + (8 + k)))))), (15, .long (sp_mA (sp_w64 (fun k => sp_mk (fun j => (f (a0 + j)).toInt64) n (16 * i + k))))), (0, .ref t0), (1, .int (nI a0)), (2, .int (nI n)), (4, .int n4), (5, .long (-8663945395140668459)), (7, .long 5545529020109919103), (9, .long h1), (11, .long h2), (13, .int (nI (a0 + n))), (14, .int (nI (a0 + 16 * i)))]) hx hb dX0_wide_79 hl (by decide) rfl (fun ls hl => ?_)
  refine lv_lload hx hb dX0_wide_81 (lv_at hl 8 rfl) ?_
  refine lv_lload hx hb dX0_wide_83 (lv_at hl 1 rfl) ?_
  refine lv_lxor hx hb dX0_wide_85 ?_
  refine lv_lstore (lv' := [(9, .long (h1 ^^^ (sp_mA (sp_w64 (fun k => sp_mk (fun j => (f (a0 + j)).toInt64) n (16 * i + k)))))), (17, .long (sp_mB (sp_w64 (fun k => sp_mk (fun j => (f (a0 + j)).toInt64) n (16 * i + (8 + k)))))), (15, .long (sp_mA (sp_w64 (fun k => sp_mk (fun j => (f (a0 + j)).toInt64) n (16 * i + k))))), (0, .ref t0), (1, .int (nI a0)), (2, .int (nI n)), (4, .int n4), (5, .long (-8663945395140668459)), (7, .long 5545529020109919103), (11, .long h2), (13, .int (nI (a0 + n))), (14, .int (nI (a0 + 16 * i)))]) hx hb dX0_wide_86 hl (by decide) rfl (fun ls hl => ?_)
  exact kk ls (lv_sub hl [3, 4, 5, 6, 7, 8, 0, 9, 10, 11, 1] rfl)
set_option maxHeartbeats 4000000 in
set_option maxRecDepth 100000 in
/-- the loop: i blocks read -/
theorem lwi_loop {p : Program} {l : Launch} {e : Env} {s : State} {m : MethodId} {args : Array Value} {below : List Frame} {meth : Method} {c : Code} {H : Heap} {locs : List Loc} {Q : State → Prop} (C : Cx p s m args meth c cX0_wide 19 (some .long) RX0) (D : va_G) (t0 : Nat) (dT : ClassId) (f : Nat → Int32) (a0 n : Nat) (n3 n4 : Int32) (h4 : a0 + n ≤ 256) (hW : wo D [(t0, .inl (dT, 256, .inl f))] [(dT, .int)] s H)
    (kk : ∀ ls : Array Slot, lv_has ls 19 [(2, .int (nI n)), (4, .int n4), (9, .long (sp_P (fun j => (f (a0 + j)).toInt64) n ((n3 &&& 2147483647)).toInt64).1), (11, .long (sp_P (fun j => (f (a0 + j)).toInt64) n ((n3 &&& 2147483647)).toInt64).2)] → W p l e RM3 s m args below meth c H locs 0 0 Q (F0 m 157 ls [])) :
    ∀ (d i : Nat), i + d = n / 16 → ∀ ls : Array Slot, lv_has ls 19 [(0, .ref t0), (1, .int (nI a0)), (2, .int (nI n)), (4, .int n4), (5, .long (-8663945395140668459)), (7, .long 5545529020109919103), (9, .long (sp_blk (fun j => (f (a0 + j)).toInt64) ((n3 &&& 2147483647)).toInt64 i).1), (11, .long (sp_blk (fun j => (f (a0 + j)).toInt64) ((n3 &&& 2147483647)).toInt64 i).2), (13, .int (nI (a0 + n))), (14, .int (nI (a0 + 16 * i)))] → W p l e RM3 s m args below meth c H locs 0 0 Q (F0 m 29 ls []) := by
  have C0 := C
  obtain ⟨hx, hb, hr, hlocks, hml, hown, hts⟩ := C
  intro d
  induction d with
  | zero =>
    intro i hi ls hl
    have ei : i = n / 16 := by omega
    refine lv_iload hx hb dX0_wide_29 (lv_at hl 9 rfl) ?_
    refine lv_iload hx hb dX0_wide_31 (lv_at hl 8 rfl) ?_
    refine lv_icmp_ge (tgt := 157) hx hb dX0_wide_33 (by decide) (fun c33 => ?_) (fun c33 => ?_)
    · have hq : ¬ 16 * i < n := fun q => nI_ge (show a0 + 16 * i < a0 + n by omega) (by omega) c33
      refine kk ls ?_
      have e : sp_P (fun j => (f (a0 + j)).toInt64) n ((n3 &&& 2147483647)).toInt64 = sp_blk (fun j => (f (a0 + j)).toInt64) ((n3 &&& 2147483647)).toInt64 i := by rw [ei]; unfold sp_P sp_tl; rw [if_neg (by rw [← ei]; exact hq)]
      rw [e]
      exact lv_sub hl [2, 3, 6, 7] rfl
    · have hq : 16 * i < n := Nat.lt_of_not_le (fun q => c33 (nI_le (show a0 + n ≤ a0 + 16 * i by omega) (by omega)))
      have e : sp_P (fun j => (f (a0 + j)).toInt64) n ((n3 &&& 2147483647)).toInt64 = sp_pt (sp_blk (fun j => (f (a0 + j)).toInt64) ((n3 &&& 2147483647)).toInt64 i) (sp_w64 (fun k => sp_mk (fun j => (f (a0 + j)).toInt64) n (16 * i + k))) (sp_w64 (fun k => sp_mk (fun j => (f (a0 + j)).toInt64) n (16 * i + (8 + k)))) := by rw [ei]; unfold sp_P sp_tl; rw [if_pos (by rw [← ei]; exact hq)]
      refine lwi_words C0 D t0 dT f a0 n n3 n4 h4 hW i hq _ _ (fun ls hl => ?_) ls hl
      refine lv_iload hx hb dX0_wide_88 (lv_at hl 9 rfl) ?_
      refine lv_bipush (v := 16) hx hb dX0_wide_90 (by decide) ?_
      refine lv_iadd hx hb dX0_wide_92 ?_
      refine mt_i (y := (nI (a0 + (16 * i + 16)))) (ix2 rfl 16 rfl) ?_
      refine lv_iload hx hb dX0_wide_93 (lv_at hl 8 rfl) ?_
      refine lv_icmp_le (tgt := 108) hx hb dX0_wide_95 (by decide) (fun c95 => ?_) (fun c95 => ?_)
      · exact absurd c95 (nI_ge (show a0 + n < a0 + (16 * i + 16) by omega) (by omega))
      · refine lv_lload hx hb dX0_wide_98 (lv_at hl 7 rfl) ?_
        refine lv_lload hx hb dX0_wide_100 (lv_at hl 10 rfl) ?_
        refine lv_lxor hx hb dX0_wide_102 ?_
        refine lv_lstore (lv' := [(11, .long ((sp_blk (fun j => (f (a0 + j)).toInt64) ((n3 &&& 2147483647)).toInt64 i).2 ^^^ (sp_mB (sp_w64 (fun k => sp_mk (fun j => (f (a0 + j)).toInt64) n (16 * i + (8 + k))))))), (0, .ref t0), (1, .int (nI a0)), (2, .int (nI n)), (4, .int n4), (5, .long (-8663945395140668459)), (7, .long 5545529020109919103), (9, .long ((sp_blk (fun j => (f (a0 + j)).toInt64) ((n3 &&& 2147483647)).toInt64 i).1 ^^^ sp_mA (sp_w64 (fun k => sp_mk (fun j => (f (a0 + j)).toInt64) n (16 * i + k))))), (13, .int (nI (a0 + n))), (14, .int (nI (a0 + 16 * i))), (17, .long (sp_mB (sp_w64 (fun k => sp_mk (fun j => (f (a0 + j)).toInt64) n (16 * i + (8 + k))))))]) hx hb dX0_wide_103 hl (by decide) rfl (fun ls hl => ?_)
        refine lv_goto (tgt := 151) hx hb dX0_wide_105 (by decide) ?_
        refine lv_iinc (v := (nI (a0 + 16 * (i + 1)))) (lv' := [(14, .int (nI (a0 + 16 * (i + 1)))), (11, .long ((sp_blk (fun j => (f (a0 + j)).toInt64) ((n3 &&& 2147483647)).toInt64 i).2 ^^^ (sp_mB (sp_w64 (fun k => sp_mk (fun j => (f (a0 + j)).toInt64) n (16 * i + (8 + k))))))), (0, .ref t0), (1, .int (nI a0)), (2, .int (nI n)), (4, .int n4), (5, .long (-8663945395140668459)), (7, .long 5545529020109919103), (9, .long ((sp_blk (fun j => (f (a0 + j)).toInt64) ((n3 &&& 2147483647)).toInt64 i).1 ^^^ sp_mA (sp_w64 (fun k => sp_mk (fun j => (f (a0 + j)).toInt64) n (16 * i + k))))), (13, .int (nI (a0 + n))), (17, .long (sp_mB (sp_w64 (fun k => sp_mk (fun j => (f (a0 + j)).toInt64) n (16 * i + (8 + k))))))]) hx hb dX0_wide_151 hl (k := 9) rfl (by rw [show Int32.ofInt 16 = nI 16 from rfl, nI_add]; exact congrArg nI (by omega)) (by decide) rfl (fun ls hl => ?_)
        refine lv_goto (tgt := 29) hx hb dX0_wide_154 (by decide) ?_
        refine lv_iload hx hb dX0_wide_29 (lv_at hl 0 rfl) ?_
        refine lv_iload hx hb dX0_wide_31 (lv_at hl 9 rfl) ?_
        refine lv_icmp_ge (tgt := 157) hx hb dX0_wide_33 (by decide) (fun c33b => ?_) (fun c33b => ?_)
        · refine kk ls ?_
          rw [e]
          exact lv_sub hl [4, 5, 8, 1] rfl
        · exact absurd (nI_le (show a0 + n ≤ a0 + 16 * (i + 1) by omega) (by omega)) c33b
  | succ d ih =>
    intro i hi ls hl
    have hq : 16 * i + 16 ≤ n := by omega
    refine lv_iload hx hb dX0_wide_29 (lv_at hl 9 rfl) ?_
    refine lv_iload hx hb dX0_wide_31 (lv_at hl 8 rfl) ?_
    refine lv_icmp_ge (tgt := 157) hx hb dX0_wide_33 (by decide) (fun c33 => ?_) (fun c33 => ?_)
    · exact absurd c33 (nI_ge (show a0 + 16 * i < a0 + n by omega) (by omega))
    · refine lwi_words C0 D t0 dT f a0 n n3 n4 h4 hW i (by omega) _ _ (fun ls hl => ?_) ls hl
      have eA : (sp_w64 (fun k => sp_mk (fun j => (f (a0 + j)).toInt64) n (16 * i + k))) = sp_w64 (fun k => (fun j => (f (a0 + j)).toInt64) (16 * i + k)) := sp_full (by omega)
      have eB : (sp_w64 (fun k => sp_mk (fun j => (f (a0 + j)).toInt64) n (16 * i + (8 + k)))) = sp_w64 (fun k => (fun j => (f (a0 + j)).toInt64) (16 * i + (8 + k))) := sp_full2 (by omega)
      rw [eA, eB] at hl
      refine lv_iload hx hb dX0_wide_88 (lv_at hl 9 rfl) ?_
      refine lv_bipush (v := 16) hx hb dX0_wide_90 (by decide) ?_
      refine lv_iadd hx hb dX0_wide_92 ?_
      refine mt_i (y := (nI (a0 + (16 * i + 16)))) (ix2 rfl 16 rfl) ?_
      refine lv_iload hx hb dX0_wide_93 (lv_at hl 8 rfl) ?_
      refine lv_icmp_le (tgt := 108) hx hb dX0_wide_95 (by decide) (fun c95 => ?_) (fun c95 => ?_)
      · refine lv_lload hx hb dX0_wide_108 (lv_at hl 6 rfl) ?_
        refine lv_bipush (v := 27) hx hb dX0_wide_110 (by decide) ?_
        refine vp_callSl (va_runS (As := [.long ((sp_blk (fun j => (f (a0 + j)).toInt64) ((n3 &&& 2147483647)).toInt64 i).1 ^^^ sp_mA (sp_w64 (fun k => (fun j => (f (a0 + j)).toInt64) (16 * i + k)))), .int 27]) (rest := []) ⟨hx, hb, hml, hown, hts⟩ (met_turned64 l ((sp_blk (fun j => (f (a0 + j)).toInt64) ((n3 &&& 2147483647)).toInt64 i).1 ^^^ sp_mA (sp_w64 (fun k => (fun j => (f (a0 + j)).toInt64) (16 * i + k)))) 27 (by decide +kernel)) (va_cwS 2 hts (lw_S q116 q117 q3 q118) rfl rfl rfl (by decide +kernel) ⟨Nat.le_of_ble_eq_true rfl, Nat.le_of_ble_eq_true rfl⟩) (pre_S mv_T _ trivial) rfl rfl hl.1 rfl (lv_room (Nat.le_of_ble_eq_true rfl)) dX0_wide_112 ⟨Nat.le_of_ble_eq_true rfl, Nat.le_of_ble_eq_true rfl⟩).run (fun r112 hr112 => ?_)
        obtain rfl : r112 = (sp_r64 ((sp_blk (fun j => (f (a0 + j)).toInt64) ((n3 &&& 2147483647)).toInt64 i).1 ^^^ sp_mA (sp_w64 (fun k => (fun j => (f (a0 + j)).toInt64) (16 * i + k)))) 27) := hr112
        refine lv_lload hx hb dX0_wide_115 (lv_at hl 7 rfl) ?_
        refine lv_ladd hx hb dX0_wide_117 ?_
        refine lv_ldc2 (own := RX0) (index := 34) hx hb hown (hts _ q119) dX0_wide_118 ?_
        refine lv_lmul hx hb dX0_wide_121 ?_
        refine lv_ldc2 (own := RX0) (index := 36) hx hb hown (hts _ q120) dX0_wide_122 ?_
        refine lv_ladd hx hb dX0_wide_125 ?_
        refine mt_l (y := (sp_blk (fun j => (f (a0 + j)).toInt64) ((n3 &&& 2147483647)).toInt64 (i + 1)).1) (rfl) ?_
        refine lv_lstore (lv' := [(9, .long (sp_blk (fun j => (f (a0 + j)).toInt64) ((n3 &&& 2147483647)).toInt64 (i + 1)).1), (0, .ref t0), (1, .int (nI a0)), (2, .int (nI n)), (4, .int n4), (5, .long (-8663945395140668459)), (7, .long 5545529020109919103), (11, .long (sp_blk (fun j => (f (a0 + j)).toInt64) ((n3 &&& 2147483647)).toInt64 i).2), (13, .int (nI (a0 + n))), (14, .int (nI (a0 + 16 * i))), (17, .long (sp_mB (sp_w64 (fun k => (fun j => (f (a0 + j)).toInt64) (16 * i + (8 + k))))))]) hx hb dX0_wide_126 hl (by decide) rfl (fun ls hl => ?_)
        refine lv_lload hx hb dX0_wide_128 (lv_at hl 7 rfl) ?_
        refine lv_lload hx hb dX0_wide_130 (lv_at hl 10 rfl) ?_
        refine lv_lxor hx hb dX0_wide_132 ?_
        refine lv_bipush (v := 31) hx hb dX0_wide_133 (by decide) ?_
        refine vp_callSl (va_runS (As := [.long ((sp_blk (fun j => (f (a0 + j)).toInt64) ((n3 &&& 2147483647)).toInt64 i).2 ^^^ (sp_mB (sp_w64 (fun k => (fun j => (f (a0 + j)).toInt64) (16 * i + (8 + k)))))), .int 31]) (rest := []) ⟨hx, hb, hml, hown, hts⟩ (met_turned64 l ((sp_blk (fun j => (f (a0 + j)).toInt64) ((n3 &&& 2147483647)).toInt64 i).2 ^^^ (sp_mB (sp_w64 (fun k => (fun j => (f (a0 + j)).toInt64) (16 * i + (8 + k)))))) 31 (by decide +kernel)) (va_cwS 2 hts (lw_S q116 q117 q3 q118) rfl rfl rfl (by decide +kernel) ⟨Nat.le_of_ble_eq_true rfl, Nat.le_of_ble_eq_true rfl⟩) (pre_S mv_T _ trivial) rfl rfl hl.1 rfl (lv_room (Nat.le_of_ble_eq_true rfl)) dX0_wide_135 ⟨Nat.le_of_ble_eq_true rfl, Nat.le_of_ble_eq_true rfl⟩).run (fun r135 hr135 => ?_)
        obtain rfl : r135 = (sp_r64 ((sp_blk (fun j => (f (a0 + j)).toInt64) ((n3 &&& 2147483647)).toInt64 i).2 ^^^ (sp_mB (sp_w64 (fun k => (fun j => (f (a0 + j)).toInt64) (16 * i + (8 + k)))))) 31) := hr135
        refine lv_lload hx hb dX0_wide_138 (lv_at hl 0 rfl) ?_
        refine lv_ladd hx hb dX0_wide_140 ?_
        refine lv_ldc2 (own := RX0) (index := 34) hx hb hown (hts _ q119) dX0_wide_141 ?_
        refine lv_lmul hx hb dX0_wide_144 ?_
        refine lv_ldc2 (own := RX0) (index := 38) hx hb hown (hts _ q121) dX0_wide_145 ?_
        refine lv_ladd hx hb dX0_wide_148 ?_
        refine mt_l (y := (sp_blk (fun j => (f (a0 + j)).toInt64) ((n3 &&& 2147483647)).toInt64 (i + 1)).2) (rfl) ?_
        refine lv_lstore (lv' := [(11, .long (sp_blk (fun j => (f (a0 + j)).toInt64) ((n3 &&& 2147483647)).toInt64 (i + 1)).2), (9, .long (sp_blk (fun j => (f (a0 + j)).toInt64) ((n3 &&& 2147483647)).toInt64 (i + 1)).1), (0, .ref t0), (1, .int (nI a0)), (2, .int (nI n)), (4, .int n4), (5, .long (-8663945395140668459)), (7, .long 5545529020109919103), (13, .int (nI (a0 + n))), (14, .int (nI (a0 + 16 * i))), (17, .long (sp_mB (sp_w64 (fun k => (fun j => (f (a0 + j)).toInt64) (16 * i + (8 + k))))))]) hx hb dX0_wide_149 hl (by decide) rfl (fun ls hl => ?_)
        refine lv_iinc (v := (nI (a0 + 16 * (i + 1)))) (lv' := [(14, .int (nI (a0 + 16 * (i + 1)))), (11, .long (sp_blk (fun j => (f (a0 + j)).toInt64) ((n3 &&& 2147483647)).toInt64 (i + 1)).2), (9, .long (sp_blk (fun j => (f (a0 + j)).toInt64) ((n3 &&& 2147483647)).toInt64 (i + 1)).1), (0, .ref t0), (1, .int (nI a0)), (2, .int (nI n)), (4, .int n4), (5, .long (-8663945395140668459)), (7, .long 5545529020109919103), (13, .int (nI (a0 + n))), (17, .long (sp_mB (sp_w64 (fun k => (fun j => (f (a0 + j)).toInt64) (16 * i + (8 + k))))))]) hx hb dX0_wide_151 hl (k := 9) rfl (by rw [show Int32.ofInt 16 = nI 16 from rfl, nI_add]; exact congrArg nI (by omega)) (by decide) rfl (fun ls hl => ?_)
        refine lv_goto (tgt := 29) hx hb dX0_wide_154 (by decide) ?_
        exact ih (i + 1) (by omega) ls (lv_sub hl [3, 4, 5, 6, 7, 8, 2, 1, 9, 0] rfl)
      · exact absurd (nI_le (show a0 + (16 * i + 16) ≤ a0 + n by omega) (by omega)) c95
set_option maxHeartbeats 4000000 in
set_option maxRecDepth 100000 in
/-- the law's wide -/
theorem met_lwide (l : Launch) (D : va_G) (t0 : Nat) (dT : ClassId) (f : Nat → Int32) (a0 n : Nat) (n3 n4 : Int32) (h4 : a0 + n ≤ 256) : Met l yX0_wide (ws_ yX0_wide cX0_wide 19 (some .long)) RM3 (va_Pc [.ref t0, .int (nI a0), .int (nI n), .int n3, .int n4] (fun U => wo D [(t0, .inl (dT, 256, .inl f))] [(dT, .int)] U U.heap)) (vp_Sl (fun r => r = sp_F128 (fun j => (f (a0 + j)).toInt64) n ((n3 &&& 2147483647)).toInt64 n4)) 0 0 (fun _ => False) := by
  refine m_head (own := RX0) (by decide) rfl (Nat.le_of_ble_eq_true rfl) ?_
  intro p e s m below meth c C hnm hW ls hl
  have C0 := C
  obtain ⟨hx, hb, hr, hlocks, hml, hown, hts⟩ := C
  have hl : lv_has ls 19 [(0, .ref t0), (1, .int (nI a0)), (2, .int (nI n)), (3, .int n3), (4, .int n4)] := hl
  refine lv_ldc2 (own := RX0) (index := 22) hx hb hown (hts _ q111) dX0_wide_0 ?_
  refine lv_lstore (lv' := [(5, .long (-8663945395140668459)), (0, .ref t0), (1, .int (nI a0)), (2, .int (nI n)), (3, .int n3), (4, .int n4)]) hx hb dX0_wide_3 hl (by decide) rfl (fun ls hl => ?_)
  refine lv_ldc2 (own := RX0) (index := 24) hx hb hown (hts _ q112) dX0_wide_5 ?_
  refine lv_lstore (lv' := [(7, .long 5545529020109919103), (5, .long (-8663945395140668459)), (0, .ref t0), (1, .int (nI a0)), (2, .int (nI n)), (3, .int n3), (4, .int n4)]) hx hb dX0_wide_8 hl (by decide) rfl (fun ls hl => ?_)
  refine lv_iload_n hx hb dX0_wide_10 rfl (lv_at hl 5 rfl) ?_
  refine lv_ldc (own := RX0) (index := 26) hx hb hown (hts _ q49) dX0_wide_11 ?_
  refine lv_iand hx hb dX0_wide_13 ?_
  refine lv_i2l (v := ((n3 &&& 2147483647)).toInt64) hx hb dX0_wide_14 rfl ?_
  refine lv_lstore (lv' := [(9, .long (((n3 &&& 2147483647)).toInt64)), (7, .long 5545529020109919103), (5, .long (-8663945395140668459)), (0, .ref t0), (1, .int (nI a0)), (2, .int (nI n)), (3, .int n3), (4, .int n4)]) hx hb dX0_wide_15 hl (by decide) rfl (fun ls hl => ?_)
  refine lv_lload hx hb dX0_wide_17 (lv_at hl 0 rfl) ?_
  refine lv_lstore (lv' := [(11, .long (((n3 &&& 2147483647)).toInt64)), (9, .long (((n3 &&& 2147483647)).toInt64)), (7, .long 5545529020109919103), (5, .long (-8663945395140668459)), (0, .ref t0), (1, .int (nI a0)), (2, .int (nI n)), (3, .int n3), (4, .int n4)]) hx hb dX0_wide_19 hl (by decide) rfl (fun ls hl => ?_)
  refine lv_iload_n hx hb dX0_wide_21 rfl (lv_at hl 5 rfl) ?_
  refine lv_iload_n hx hb dX0_wide_22 rfl (lv_at hl 6 rfl) ?_
  refine lv_iadd hx hb dX0_wide_23 ?_
  refine mt_i (y := (nI (a0 + n))) (nI_add _ _) ?_
  refine lv_istore (lv' := [(13, .int (nI (a0 + n))), (11, .long (((n3 &&& 2147483647)).toInt64)), (9, .long (((n3 &&& 2147483647)).toInt64)), (7, .long 5545529020109919103), (5, .long (-8663945395140668459)), (0, .ref t0), (1, .int (nI a0)), (2, .int (nI n)), (3, .int n3), (4, .int n4)]) hx hb dX0_wide_24 hl (by decide) rfl (fun ls hl => ?_)
  refine lv_iload_n hx hb dX0_wide_26 rfl (lv_at hl 6 rfl) ?_
  refine lv_istore (lv' := [(14, .int (nI a0)), (13, .int (nI (a0 + n))), (11, .long (((n3 &&& 2147483647)).toInt64)), (9, .long (((n3 &&& 2147483647)).toInt64)), (7, .long 5545529020109919103), (5, .long (-8663945395140668459)), (0, .ref t0), (1, .int (nI a0)), (2, .int (nI n)), (3, .int n3), (4, .int n4)]) hx hb dX0_wide_27 hl (by decide) rfl (fun ls hl => ?_)
  refine lwi_loop C0 D t0 dT f a0 n n3 n4 h4 hW (fun ls hl => ?_) (n / 16) 0 (Nat.zero_add _) ls (lv_sub hl [6, 7, 8, 10, 5, 4, 3, 2, 1, 0] rfl)
  obtain ⟨q, eq⟩ : ∃ q, q = sp_P (fun j => (f (a0 + j)).toInt64) n ((n3 &&& 2147483647)).toInt64 := ⟨_, rfl⟩
  rw [← eq] at hl
  refine lv_lload hx hb dX0_wide_157 (lv_at hl 2 rfl) ?_
  refine lv_iload_n hx hb dX0_wide_159 rfl (lv_at hl 0 rfl) ?_
  refine lv_i2l (v := ((nI n)).toInt64) hx hb dX0_wide_160 rfl ?_
  refine lv_lxor hx hb dX0_wide_161 ?_
  refine lv_lstore (lv' := [(9, .long (q.1 ^^^ (((nI n)).toInt64))), (2, .int (nI n)), (4, .int n4), (11, .long q.2)]) hx hb dX0_wide_162 hl (by decide) rfl (fun ls hl => ?_)
  refine lv_lload hx hb dX0_wide_164 (lv_at hl 3 rfl) ?_
  refine lv_iload_n hx hb dX0_wide_166 rfl (lv_at hl 1 rfl) ?_
  refine lv_i2l (v := ((nI n)).toInt64) hx hb dX0_wide_167 rfl ?_
  refine lv_lxor hx hb dX0_wide_168 ?_
  refine lv_lstore (lv' := [(11, .long (q.2 ^^^ (((nI n)).toInt64))), (9, .long (q.1 ^^^ (((nI n)).toInt64))), (2, .int (nI n)), (4, .int n4)]) hx hb dX0_wide_169 hl (by decide) rfl (fun ls hl => ?_)
  refine lv_lload hx hb dX0_wide_171 (lv_at hl 1 rfl) ?_
  refine lv_lload hx hb dX0_wide_173 (lv_at hl 0 rfl) ?_
  refine lv_ladd hx hb dX0_wide_175 ?_
  refine lv_lstore (lv' := [(9, .long ((q.1 ^^^ (((nI n)).toInt64)) + (q.2 ^^^ (((nI n)).toInt64)))), (11, .long (q.2 ^^^ (((nI n)).toInt64))), (2, .int (nI n)), (4, .int n4)]) hx hb dX0_wide_176 hl (by decide) rfl (fun ls hl => ?_)
  refine lv_lload hx hb dX0_wide_178 (lv_at hl 1 rfl) ?_
  refine lv_lload hx hb dX0_wide_180 (lv_at hl 0 rfl) ?_
  refine lv_ladd hx hb dX0_wide_182 ?_
  refine lv_lstore (lv' := [(11, .long ((q.2 ^^^ (((nI n)).toInt64)) + ((q.1 ^^^ (((nI n)).toInt64)) + (q.2 ^^^ (((nI n)).toInt64))))), (9, .long ((q.1 ^^^ (((nI n)).toInt64)) + (q.2 ^^^ (((nI n)).toInt64)))), (2, .int (nI n)), (4, .int n4)]) hx hb dX0_wide_183 hl (by decide) rfl (fun ls hl => ?_)
  refine lv_lload hx hb dX0_wide_185 (lv_at hl 1 rfl) ?_
  refine vp_callSl (va_runS (As := [.long ((q.1 ^^^ (((nI n)).toInt64)) + (q.2 ^^^ (((nI n)).toInt64)))]) (rest := []) ⟨hx, hb, hml, hown, hts⟩ (met_stirred l ((q.1 ^^^ (((nI n)).toInt64)) + (q.2 ^^^ (((nI n)).toInt64)))) (va_cwS 1 hts (lw_S q122 q123 q3 q124) rfl rfl rfl (by decide +kernel) ⟨Nat.le_of_ble_eq_true rfl, Nat.le_of_ble_eq_true rfl⟩) (pre_S mv_T _ trivial) rfl rfl hl.1 rfl (lv_room (Nat.le_of_ble_eq_true rfl)) dX0_wide_187 ⟨Nat.le_of_ble_eq_true rfl, Nat.le_of_ble_eq_true rfl⟩).run (fun r187 hr187 => ?_)
  obtain rfl : r187 = (sp_fx ((q.1 ^^^ (((nI n)).toInt64)) + (q.2 ^^^ (((nI n)).toInt64)))) := hr187
  refine mt_l (y := (sp_fh q (nI n).toInt64)) (rfl) ?_
  refine lv_lstore (lv' := [(9, .long (sp_fh q (nI n).toInt64)), (11, .long ((q.2 ^^^ (((nI n)).toInt64)) + ((q.1 ^^^ (((nI n)).toInt64)) + (q.2 ^^^ (((nI n)).toInt64))))), (2, .int (nI n)), (4, .int n4)]) hx hb dX0_wide_190 hl (by decide) rfl (fun ls hl => ?_)
  refine lv_lload hx hb dX0_wide_192 (lv_at hl 1 rfl) ?_
  refine vp_callSl (va_runS (As := [.long ((q.2 ^^^ (((nI n)).toInt64)) + ((q.1 ^^^ (((nI n)).toInt64)) + (q.2 ^^^ (((nI n)).toInt64))))]) (rest := []) ⟨hx, hb, hml, hown, hts⟩ (met_stirred l ((q.2 ^^^ (((nI n)).toInt64)) + ((q.1 ^^^ (((nI n)).toInt64)) + (q.2 ^^^ (((nI n)).toInt64))))) (va_cwS 1 hts (lw_S q122 q123 q3 q124) rfl rfl rfl (by decide +kernel) ⟨Nat.le_of_ble_eq_true rfl, Nat.le_of_ble_eq_true rfl⟩) (pre_S mv_T _ trivial) rfl rfl hl.1 rfl (lv_room (Nat.le_of_ble_eq_true rfl)) dX0_wide_194 ⟨Nat.le_of_ble_eq_true rfl, Nat.le_of_ble_eq_true rfl⟩).run (fun r194 hr194 => ?_)
  obtain rfl : r194 = (sp_fx ((q.2 ^^^ (((nI n)).toInt64)) + ((q.1 ^^^ (((nI n)).toInt64)) + (q.2 ^^^ (((nI n)).toInt64))))) := hr194
  refine mt_l (y := (sp_fg q (nI n).toInt64)) (rfl) ?_
  refine lv_lstore (lv' := [(11, .long (sp_fg q (nI n).toInt64)), (9, .long (sp_fh q (nI n).toInt64)), (2, .int (nI n)), (4, .int n4)]) hx hb dX0_wide_197 hl (by decide) rfl (fun ls hl => ?_)
  refine lv_lload hx hb dX0_wide_199 (lv_at hl 1 rfl) ?_
  refine lv_lload hx hb dX0_wide_201 (lv_at hl 0 rfl) ?_
  refine lv_ladd hx hb dX0_wide_203 ?_
  refine mt_l (y := (sp_E1 q (nI n).toInt64)) (rfl) ?_
  refine lv_lstore (lv' := [(9, .long (sp_E1 q (nI n).toInt64)), (11, .long (sp_fg q (nI n).toInt64)), (2, .int (nI n)), (4, .int n4)]) hx hb dX0_wide_204 hl (by decide) rfl (fun ls hl => ?_)
  refine lv_iload hx hb dX0_wide_206 (lv_at hl 3 rfl) ?_
  refine lv_iconst (v := 1) hx hb dX0_wide_208 (by decide) ?_
  refine lv_iand hx hb dX0_wide_209 ?_
  refine lv_if_ne (tgt := 218) hx hb dX0_wide_210 (by decide) (fun c210 => ?_) (fun c210 => ?_)
  · refine lv_lload hx hb dX0_wide_218 (lv_at hl 1 rfl) ?_
    refine lv_lload hx hb dX0_wide_220 (lv_at hl 0 rfl) ?_
    refine lv_ladd hx hb dX0_wide_222 ?_
    refine mt_l (y := (sp_E2 q (nI n).toInt64)) (rfl) ?_
    exact W.lret hx hb hr (fun t ht hW => ⟨_, rfl, by show _ = sp_F128 _ _ _ _; unfold sp_F128; rw [if_neg c210, ← eq], ht⟩) (fun _ h => by cases h) dX0_wide_223
  · refine lv_lload hx hb dX0_wide_213 (lv_at hl 0 rfl) ?_
    refine lv_goto (tgt := 223) hx hb dX0_wide_215 (by decide) ?_
    exact W.lret hx hb hr (fun t ht hW => ⟨_, rfl, by show _ = sp_F128 _ _ _ _; unfold sp_F128; rw [if_pos c210, ← eq], ht⟩) (fun _ h => by cases h) dX0_wide_223
end
section
/-! ===== the law's from and cell; the desk's from, count, word ===== -/
set_option maxHeartbeats 4000000 in
set_option maxRecDepth 100000 in
/-- the law's from -/
theorem met_lfrom (l : Launch) (x : Int32) (sz : Nat) (hz : sz ≤ 256) : Met l yX0_from (ws_ yX0_from cX0_from 2 (some .int)) RM0 (va_Pc [.int x, .int (nI sz)] (fun U => wT U U.heap)) (vp_Si (fun r => r = nI (sp_at x sz))) 0 0 (fun _ => False) := by
  refine m_head (own := RX0) (by decide) rfl (Nat.le_of_ble_eq_true rfl) ?_
  intro p e s m below meth c C hnm hW ls hl
  have C0 := C
  obtain ⟨hx, hb, hr, hlocks, hml, hown, hts⟩ := C
  have hl : lv_has ls 2 [(0, .int x), (1, .int (nI sz))] := hl
  refine lv_iload_n hx hb dX0_from_0 rfl (lv_at hl 0 rfl) ?_
  refine lv_ldc (own := RX0) (index := 26) hx hb hown (hts _ q49) dX0_from_1 ?_
  refine lv_iand hx hb dX0_from_3 ?_
  refine lv_iload_n hx hb dX0_from_4 rfl (lv_at hl 1 rfl) ?_
  refine lv_iconst (v := 1) hx hb dX0_from_5 (by decide) ?_
  refine lv_iadd hx hb dX0_from_6 ?_
  refine mt_i (y := (nI (sz + 1))) (nI_1 _) ?_
  refine lv_irem hx hb dX0_from_7 (sp_ne0 (by omega) (by omega)) ?_
  refine mt_i (y := (nI (sp_at x sz))) (sp_fr_rem _ (by omega) (by omega)) ?_
  exact W.iret hx hb hr (fun t ht hW => ⟨_, rfl, rfl, ht⟩) (fun _ h => by cases h) dX0_from_8
/-- the script, nought behind its end -/
def sp_cl (L : Nat) (xs : Nat → Int32) (k : Nat) : Int32 := if k < L then xs k else 0
set_option maxHeartbeats 4000000 in
set_option maxRecDepth 100000 in
/-- cell -/
theorem met_cell (l : Launch) (b L : Nat) (xs : Nat → Int32) (k : Nat) (hL : L ≤ 96) (hk : k ≤ 1000) : Met l yX0_cell (ws_ yX0_cell cX0_cell 2 (some .int)) RM0 (va_Pc [.ref b, .int (nI k)] (fun U => wX b L xs U U.heap)) (vp_Si (fun r => r = sp_cl L xs k)) 0 0 (fun _ => False) := by
  refine m_head (own := RX0) (by decide) rfl (Nat.le_of_ble_eq_true rfl) ?_
  intro p e s m below meth c C hnm hW ls hl
  have C0 := C
  obtain ⟨hx, hb, hr, hlocks, hml, hown, hts⟩ := C
  have hl : lv_has ls 2 [(0, .ref b), (1, .int (nI k))] := hl
  obtain ⟨hX, hbl⟩ := hW
  have hS : va_S (fun q : Nat => s.heap.size ≤ q) s.heap s.heap [] := va_S.rf
  have hbA : ¬ (fun q : Nat => s.heap.size ≤ q) b := Nat.not_le.mpr hbl
  refine lv_iload_n hx hb dX0_cell_0 rfl (lv_at hl 1 rfl) ?_
  refine lv_aload_n hx hb dX0_cell_1 rfl (lv_at hl 0 rfl) ?_
  refine va_slen hx hb hX hbl hbA hS dX0_cell_2 ?_
  refine lv_icmp_ge (tgt := 12) hx hb dX0_cell_3 (by decide) (fun c3 => ?_) (fun c3 => ?_)
  · have hq : ¬ k < L := fun q => nI_ge q (by omega) c3
    refine lv_iconst (v := 0) hx hb dX0_cell_12 (by decide) ?_
    exact W.iret hx hb hr (fun t ht hW => ⟨_, rfl, (if_neg hq).symm, ht⟩) (fun _ h => by cases h) dX0_cell_13
  · have hq : k < L := Nat.lt_of_not_le (fun q => c3 (nI_le q (by omega)))
    refine lv_aload_n hx hb dX0_cell_6 rfl (lv_at hl 0 rfl) ?_
    refine lv_iload_n hx hb dX0_cell_7 rfl (lv_at hl 1 rfl) ?_
    refine va_sld hx hb hX hbl hbA hS (vp_in_nI hq (by omega)) dX0_cell_8 ?_
    refine mt_i (y := (xs k)) (by rw [nI_clamp (by omega)]) ?_
    refine lv_goto (tgt := 13) hx hb dX0_cell_9 (by decide) ?_
    exact W.iret hx hb hr (fun t ht hW => ⟨_, rfl, (if_pos hq).symm, ht⟩) (fun _ h => by cases h) dX0_cell_13
set_option maxHeartbeats 4000000 in
set_option maxRecDepth 100000 in
/-- the desk's from -/
theorem met_dfrom (l : Launch) (D : va_G) (h0 h1 : Nat) (sz : Nat) (x : Int32) (hz : sz ≤ 256) : Met l yX1_from (ws_ yX1_from cX1_from 2 (some .int)) RM0 (va_Pc [.ref h0, .int x] (fun U => wo D [(h0, .inr (0, [.ref h1, .int (nI sz)]))] [] U U.heap)) (vp_Si (fun r => r = nI (sp_at x sz))) 0 0 (fun _ => False) := by
  refine m_head (own := RX1) (by decide) rfl (Nat.le_of_ble_eq_true rfl) ?_
  intro p e s m below meth c C hnm hW ls hl
  have C0 := C
  obtain ⟨hx, hb, hr, hlocks, hml, hown, hts⟩ := C
  have hl : lv_has ls 2 [(0, .ref h0), (1, .int x)] := hl
  refine lv_iload_n hx hb dX1_from_0 rfl (lv_at hl 1 rfl) ?_
  refine lv_ldc (own := RX1) (index := 25) hx hb hown (hts _ q39) dX1_from_1 ?_
  refine lv_iand hx hb dX1_from_3 ?_
  refine lv_aload_n hx hb dX1_from_4 rfl (lv_at hl 0 rfl) ?_
  refine va_get (D := D) (ci := 0) (v := .int (nI sz)) (C := RX1) (T := TX1) (N := 2) hx hb hts in_X1 hown hW.2 hW.1 0 rfl rfl 1 (by decide) (hts _ q17) (fun _ h9 => h9) rfl dX1_from_5 ?_
  refine lv_iconst (v := 1) hx hb dX1_from_8 (by decide) ?_
  refine lv_iadd hx hb dX1_from_9 ?_
  refine mt_i (y := (nI (sz + 1))) (nI_1 _) ?_
  refine lv_irem hx hb dX1_from_10 (sp_ne0 (by omega) (by omega)) ?_
  refine mt_i (y := (nI (sp_at x sz))) (sp_fr_rem _ (by omega) (by omega)) ?_
  exact W.iret hx hb hr (fun t ht hW => ⟨_, rfl, rfl, ht⟩) (fun _ h => by cases h) dX1_from_11
set_option maxHeartbeats 4000000 in
set_option maxRecDepth 100000 in
/-- the desk's count -/
theorem met_count (l : Launch) (D : va_G) (h0 h1 : Nat) (sz k : Nat) (x : Int32) (hz : sz ≤ 256) (hk : k ≤ sz) : Met l yX1_count (ws_ yX1_count cX1_count 3 (some .int)) RM0 (va_Pc [.ref h0, .int (nI k), .int x] (fun U => wo D [(h0, .inr (0, [.ref h1, .int (nI sz)]))] [] U U.heap)) (vp_Si (fun r => r = nI (sp_ct x sz k))) 0 0 (fun _ => False) := by
  refine m_head (own := RX1) (by decide) rfl (Nat.le_of_ble_eq_true rfl) ?_
  intro p e s m below meth c C hnm hW ls hl
  have C0 := C
  obtain ⟨hx, hb, hr, hlocks, hml, hown, hts⟩ := C
  have hl : lv_has ls 3 [(0, .ref h0), (1, .int (nI k)), (2, .int x)] := hl
  refine lv_iload_n hx hb dX1_count_0 rfl (lv_at hl 2 rfl) ?_
  refine lv_ldc (own := RX1) (index := 25) hx hb hown (hts _ q39) dX1_count_1 ?_
  refine lv_iand hx hb dX1_count_3 ?_
  refine lv_aload_n hx hb dX1_count_4 rfl (lv_at hl 0 rfl) ?_
  refine va_get (D := D) (ci := 0) (v := .int (nI sz)) (C := RX1) (T := TX1) (N := 2) hx hb hts in_X1 hown hW.2 hW.1 0 rfl rfl 1 (by decide) (hts _ q17) (fun _ h9 => h9) rfl dX1_count_5 ?_
  refine lv_iload_n hx hb dX1_count_8 rfl (lv_at hl 1 rfl) ?_
  refine lv_isub hx hb dX1_count_9 ?_
  refine mt_i (y := (nI (sz - k))) (pk_sub hk) ?_
  refine lv_iconst (v := 1) hx hb dX1_count_10 (by decide) ?_
  refine lv_iadd hx hb dX1_count_11 ?_
  refine mt_i (y := (nI (sz - k + 1))) (nI_1 _) ?_
  refine lv_irem hx hb dX1_count_12 (sp_ne0 (by omega) (by omega)) ?_
  refine mt_i (y := (nI (sp_ct x sz k))) (sp_fr_rem _ (by omega) (by omega)) ?_
  exact W.iret hx hb hr (fun t ht hW => ⟨_, rfl, rfl, ht⟩) (fun _ h => by cases h) dX1_count_13
set_option maxHeartbeats 4000000 in
set_option maxRecDepth 100000 in
/-- the desk's word: four bytes are written -/
theorem met_word (l : Launch) (D : va_G) (h1 : Nat) (dB : ClassId) (g : Nat → Int32) (k : Nat) (x : Int32) (hk : k + 4 ≤ 256) : Met l yX1_word (ws_ yX1_word cX1_word 3 none) RM0 (va_Pc [.ref h1, .int (nI k), .int x] (fun U => wo D [(h1, .inl (dB, 256, .inl g))] [(dB, .byte)] U U.heap)) (va_Qv (fun _ : Unit => True) (fun _ t => va_P D vwCl [(h1, .inl (dB, 256, .inl (sp_wr g k x)))] t.heap) (fun q => q = h1)) 0 0 (fun q => q = h1) := by
  refine m_head (own := RX1) (by decide) rfl (Nat.le_of_ble_eq_true rfl) ?_
  intro p e s m below meth c C hnm hW ls hl
  have C0 := C
  obtain ⟨hx, hb, hr, hlocks, hml, hown, hts⟩ := C
  have hl : lv_has ls 3 [(0, .ref h1), (1, .int (nI k)), (2, .int x)] := hl
  have hS : va_S (fun q : Nat => q = h1) s.heap s.heap [] := va_S.rf
  have hD : va_D (fun q : Nat => q = h1) [(h1, .inl (dB, 256, .inl g))] := vd_1 rfl
  refine lv_aload_n hx hb dX1_word_0 rfl (lv_at hl 0 rfl) ?_
  refine lv_iload_n hx hb dX1_word_1 rfl (lv_at hl 1 rfl) ?_
  refine lv_iload_n hx hb dX1_word_2 rfl (lv_at hl 2 rfl) ?_
  refine lv_bipush (v := 24) hx hb dX1_word_3 (by decide) ?_
  refine lv_ishr hx hb dX1_word_5 ?_
  refine lv_i2b (v := ((x >>> (24 &&& 31))).toInt8.toInt32) hx hb dX1_word_6 rfl ?_
  refine mt_bast hx hb hW hD hS 0 0 rfl rfl (k) rfl (by omega) (by decide) dX1_word_7 (fun H locs hW hD hS => ?_)
  rw [pk_vb] at hW hD
  have hW : wo D [(h1, .inl (dB, 256, .inl (upd g (k) (sp_bt (x >>> ((24 : Int32) &&& 31))))))] [(dB, .byte)] s H := hW
  have hD : va_D (fun q : Nat => q = h1) [(h1, .inl (dB, 256, .inl (upd g (k) (sp_bt (x >>> ((24 : Int32) &&& 31))))))] := hD
  refine lv_aload_n hx hb dX1_word_8 rfl (lv_at hl 0 rfl) ?_
  refine lv_iload_n hx hb dX1_word_9 rfl (lv_at hl 1 rfl) ?_
  refine lv_iconst (v := 1) hx hb dX1_word_10 (by decide) ?_
  refine lv_iadd hx hb dX1_word_11 ?_
  refine lv_iload_n hx hb dX1_word_12 rfl (lv_at hl 2 rfl) ?_
  refine lv_bipush (v := 16) hx hb dX1_word_13 (by decide) ?_
  refine lv_ishr hx hb dX1_word_15 ?_
  refine lv_i2b (v := ((x >>> (16 &&& 31))).toInt8.toInt32) hx hb dX1_word_16 rfl ?_
  refine mt_bast hx hb hW hD hS 0 0 rfl rfl (k + 1) (ix1 rfl 1 rfl) (by omega) (by decide) dX1_word_17 (fun H locs hW hD hS => ?_)
  rw [pk_vb] at hW hD
  have hW : wo D [(h1, .inl (dB, 256, .inl (upd (upd g (k) (sp_bt (x >>> ((24 : Int32) &&& 31)))) (k + 1) (sp_bt (x >>> ((16 : Int32) &&& 31))))))] [(dB, .byte)] s H := hW
  have hD : va_D (fun q : Nat => q = h1) [(h1, .inl (dB, 256, .inl (upd (upd g (k) (sp_bt (x >>> ((24 : Int32) &&& 31)))) (k + 1) (sp_bt (x >>> ((16 : Int32) &&& 31))))))] := hD
  refine lv_aload_n hx hb dX1_word_18 rfl (lv_at hl 0 rfl) ?_
  refine lv_iload_n hx hb dX1_word_19 rfl (lv_at hl 1 rfl) ?_
  refine lv_iconst (v := 2) hx hb dX1_word_20 (by decide) ?_
  refine lv_iadd hx hb dX1_word_21 ?_
  refine lv_iload_n hx hb dX1_word_22 rfl (lv_at hl 2 rfl) ?_
  refine lv_bipush (v := 8) hx hb dX1_word_23 (by decide) ?_
  refine lv_ishr hx hb dX1_word_25 ?_
  refine lv_i2b (v := ((x >>> (8 &&& 31))).toInt8.toInt32) hx hb dX1_word_26 rfl ?_
  refine mt_bast hx hb hW hD hS 0 0 rfl rfl (k + 2) (ix1 rfl 2 rfl) (by omega) (by decide) dX1_word_27 (fun H locs hW hD hS => ?_)
  rw [pk_vb] at hW hD
  have hW : wo D [(h1, .inl (dB, 256, .inl (upd (upd (upd g (k) (sp_bt (x >>> ((24 : Int32) &&& 31)))) (k + 1) (sp_bt (x >>> ((16 : Int32) &&& 31)))) (k + 2) (sp_bt (x >>> ((8 : Int32) &&& 31))))))] [(dB, .byte)] s H := hW
  have hD : va_D (fun q : Nat => q = h1) [(h1, .inl (dB, 256, .inl (upd (upd (upd g (k) (sp_bt (x >>> ((24 : Int32) &&& 31)))) (k + 1) (sp_bt (x >>> ((16 : Int32) &&& 31)))) (k + 2) (sp_bt (x >>> ((8 : Int32) &&& 31))))))] := hD
  refine lv_aload_n hx hb dX1_word_28 rfl (lv_at hl 0 rfl) ?_
  refine lv_iload_n hx hb dX1_word_29 rfl (lv_at hl 1 rfl) ?_
  refine lv_iconst (v := 3) hx hb dX1_word_30 (by decide) ?_
  refine lv_iadd hx hb dX1_word_31 ?_
  refine lv_iload_n hx hb dX1_word_32 rfl (lv_at hl 2 rfl) ?_
  refine lv_i2b (v := (x).toInt8.toInt32) hx hb dX1_word_33 rfl ?_
  refine mt_bast hx hb hW hD hS 0 0 rfl rfl (k + 3) (ix1 rfl 3 rfl) (by omega) (by decide) dX1_word_34 (fun H locs hW hD hS => ?_)
  rw [pk_vb] at hW hD
  have hW : wo D [(h1, .inl (dB, 256, .inl (upd (upd (upd (upd g (k) (sp_bt (x >>> ((24 : Int32) &&& 31)))) (k + 1) (sp_bt (x >>> ((16 : Int32) &&& 31)))) (k + 2) (sp_bt (x >>> ((8 : Int32) &&& 31)))) (k + 3) (sp_bt x))))] [(dB, .byte)] s H := hW
  have hD : va_D (fun q : Nat => q = h1) [(h1, .inl (dB, 256, .inl (upd (upd (upd (upd g (k) (sp_bt (x >>> ((24 : Int32) &&& 31)))) (k + 1) (sp_bt (x >>> ((16 : Int32) &&& 31)))) (k + 2) (sp_bt (x >>> ((8 : Int32) &&& 31)))) (k + 3) (sp_bt x))))] := hD
  exact W.vret hx hb hr (fun t ht hV => ⟨⟨(), rfl, trivial, by show va_P _ _ _ t.heap; rw [ht]; exact hW.1⟩, hS.F ht⟩) hS.2.2 dX1_word_35
end
section
/-! ===== the desk's constructor, put, trim ===== -/
abbrev RM4 : Room := { frames := 1, cells := 0, slots := 0, locals := 22 }
set_option maxHeartbeats 4000000 in
set_option maxRecDepth 100000 in
/-- trim -/
theorem met_trim (l : Launch) (D : va_G) (h0 h1 : Nat) (sz : Nat) (x : Int32) (hz : sz ≤ 256) : Met l yX1_trim (ws_ yX1_trim cX1_trim 2 none) RM4 (va_Pc [.ref h0, .int x] (fun U => wo D [(h0, .inr (0, [.ref h1, .int (nI sz)]))] [] U U.heap)) (va_Qv (fun _ : Unit => True) (fun _ t => va_P D vwCl [(h0, .inr (0, [.ref h1, .int (nI (sp_at x sz))]))] t.heap) (fun q : Nat => q = h0)) 0 0 (fun q : Nat => q = h0) := by
  refine m_head (own := RX1) (by decide) rfl (Nat.le_of_ble_eq_true rfl) ?_
  intro p e s m below meth c C hnm hW ls hl
  have C0 := C
  obtain ⟨hx, hb, hr, hlocks, hml, hown, hts⟩ := C
  have hl : lv_has ls 2 [(0, .ref h0), (1, .int x)] := hl
  have hS : va_S (fun q : Nat => q = h0) s.heap s.heap [] := va_S.rf
  have hD : va_D (fun q : Nat => q = h0) [(h0, .inr (0, [.ref h1, .int (nI sz)]))] := vd_1 rfl
  refine lv_aload_n hx hb dX1_trim_0 rfl (lv_at hl 0 rfl) ?_
  refine lv_aload_n hx hb dX1_trim_1 rfl (lv_at hl 0 rfl) ?_
  refine lv_iload_n hx hb dX1_trim_2 rfl (lv_at hl 1 rfl) ?_
  refine vp_callSi (va_runV (As := [.int x]) (rest := [.ref h0]) ⟨hx, hb, hml, hown, hts⟩ (met_dfrom l D h0 h1 sz x hz) (cwV 1 hts (lw_V q35 q37 qs0 q4 q38) rfl rfl rfl (by decide +kernel) ⟨Nat.le_of_ble_eq_true rfl, Nat.le_of_ble_eq_true rfl⟩) (pre_V mv_wo _ hW hW 0 rfl) rfl rfl hl.1 rfl (lv_room (Nat.le_of_ble_eq_true rfl)) dX1_trim_3 ⟨Nat.le_of_ble_eq_true rfl, Nat.le_of_ble_eq_true rfl⟩).run (fun r3 hr3 => ?_)
  obtain rfl : r3 = (nI (sp_at x sz)) := hr3
  refine va_put (D := D) (ci := 0) (v := .int (nI (sp_at x sz))) (ty := .int) (C := RX1) (T := TX1) (N := 2) hx hb hts in_X1 tyX1 tyX1_ok nmX1 hown hW.2 hW.1 hD hS 0 rfl rfl 1 (by decide) (hts _ q17) (fun _ h9 => h9) rfl (by decide +kernel) rfl rfl (Nat.le_of_ble_eq_true rfl) dX1_trim_6 (fun H locs hP hD hS => ?_)
  have hP : va_P D vwCl [(h0, .inr (0, [.ref h1, .int (nI (sp_at x sz))]))] H := hP
  exact W.vret hx hb hr (fun t ht hV => ⟨⟨(), rfl, trivial, by show va_P _ _ _ t.heap; rw [ht]; exact hP⟩, hS.F ht⟩) hS.2.2 dX1_trim_9
set_option maxHeartbeats 4000000 in
set_option maxRecDepth 100000 in
/-- put, with no room left -/
theorem met_put_no (l : Launch) (D : va_G) (h0 h1 : Nat) (dB : ClassId) (g : Nat → Int32) (sz : Nat) (a b c4 d4 : Int32) (hz : sz ≤ 256) (hz2 : 240 < sz) : Met l yX1_put (ws_ yX1_put cX1_put 5 (some .boolean)) RM4 (va_Pc [.ref h0, .int a, .int b, .int c4, .int d4] (fun U => wo D [(h0, .inr (0, [.ref h1, .int (nI sz)])), (h1, .inl (dB, 256, .inl g))] [(dB, .byte)] U U.heap)) (vp_Si (fun r => r = 0)) 0 0 (fun _ => False) := by
  refine m_head (own := RX1) (by decide) rfl (Nat.le_of_ble_eq_true rfl) ?_
  intro p e s m below meth c C hnm hW ls hl
  have C0 := C
  obtain ⟨hx, hb, hr, hlocks, hml, hown, hts⟩ := C
  have hl : lv_has ls 5 [(0, .ref h0), (1, .int a), (2, .int b), (3, .int c4), (4, .int d4)] := hl
  refine lv_aload_n hx hb dX1_put_0 rfl (lv_at hl 0 rfl) ?_
  refine va_get (D := D) (ci := 0) (v := .int (nI sz)) (C := RX1) (T := TX1) (N := 2) hx hb hts in_X1 hown hW.2 hW.1 0 rfl rfl 1 (by decide) (hts _ q17) (fun _ h9 => h9) rfl dX1_put_1 ?_
  refine lv_aload_n hx hb dX1_put_4 rfl (lv_at hl 0 rfl) ?_
  refine va_get (D := D) (ci := 0) (v := .ref h1) (C := RX1) (T := TX1) (N := 2) hx hb hts in_X1 hown hW.2 hW.1 0 rfl rfl 0 (by decide) (hts _ q16) (fun _ h9 => h9) rfl dX1_put_5 ?_
  refine va_alen (v := nI 256) hx hb hW.2 hW.1 1 0 rfl rfl rfl dX1_put_8 ?_
  refine lv_bipush (v := 16) hx hb dX1_put_9 (by decide) ?_
  refine lv_isub hx hb dX1_put_11 ?_
  refine mt_i (y := (nI 240)) (show nI 256 - nI 16 = nI 240 from pk_sub (by decide)) ?_
  refine lv_icmp_le (tgt := 17) hx hb dX1_put_12 (by decide) (fun c12 => ?_) (fun c12 => ?_)
  · exact absurd c12 (nI_ge hz2 (by omega))
  · refine lv_iconst (v := 0) hx hb dX1_put_15 (by decide) ?_
    exact W.zret (v := 0) hx hb hr rfl (fun t ht hW => ⟨_, rfl, rfl, ht⟩) (fun _ h => by cases h) dX1_put_16
set_option maxHeartbeats 4000000 in
set_option maxRecDepth 100000 in
/-- put -/
theorem met_put (l : Launch) (D : va_G) (h0 h1 : Nat) (dB : ClassId) (g : Nat → Int32) (sz : Nat) (a b c4 d4 : Int32) (hne : h0 ≠ h1) (hz : sz ≤ 240) : Met l yX1_put (ws_ yX1_put cX1_put 5 (some .boolean)) RM4 (va_Pc [.ref h0, .int a, .int b, .int c4, .int d4] (fun U => wo D [(h0, .inr (0, [.ref h1, .int (nI sz)])), (h1, .inl (dB, 256, .inl g))] [(dB, .byte)] U U.heap)) (va_Qi (fun r (_ : Unit) => r = 1) (fun _ t => va_P D vwCl [(h0, .inr (0, [.ref h1, .int (nI (sz + 16))])), (h1, .inl (dB, 256, .inl (sp_put g sz a b c4 d4)))] t.heap) (fun q : Nat => q = h0 ∨ q = h1)) 0 0 (fun q : Nat => q = h0 ∨ q = h1) := by
  refine m_head (own := RX1) (by decide) rfl (Nat.le_of_ble_eq_true rfl) ?_
  intro p e s m below meth c C hnm hW ls hl
  have C0 := C
  obtain ⟨hx, hb, hr, hlocks, hml, hown, hts⟩ := C
  have hl : lv_has ls 5 [(0, .ref h0), (1, .int a), (2, .int b), (3, .int c4), (4, .int d4)] := hl
  have hS : va_S (fun q : Nat => q = h0 ∨ q = h1) s.heap s.heap [] := va_S.rf
  have hD : va_D (fun q : Nat => q = h0 ∨ q = h1) [(h0, .inr (0, [.ref h1, .int (nI sz)])), (h1, .inl (dB, 256, .inl g))] := vd_2 (Or.inl rfl) (Or.inr rfl) hne
  refine lv_aload_n hx hb dX1_put_0 rfl (lv_at hl 0 rfl) ?_
  refine va_get (D := D) (ci := 0) (v := .int (nI sz)) (C := RX1) (T := TX1) (N := 2) hx hb hts in_X1 hown hW.2 hW.1 0 rfl rfl 1 (by decide) (hts _ q17) (fun _ h9 => h9) rfl dX1_put_1 ?_
  refine lv_aload_n hx hb dX1_put_4 rfl (lv_at hl 0 rfl) ?_
  refine va_get (D := D) (ci := 0) (v := .ref h1) (C := RX1) (T := TX1) (N := 2) hx hb hts in_X1 hown hW.2 hW.1 0 rfl rfl 0 (by decide) (hts _ q16) (fun _ h9 => h9) rfl dX1_put_5 ?_
  refine va_alen (v := nI 256) hx hb hW.2 hW.1 1 0 rfl rfl rfl dX1_put_8 ?_
  refine lv_bipush (v := 16) hx hb dX1_put_9 (by decide) ?_
  refine lv_isub hx hb dX1_put_11 ?_
  refine mt_i (y := (nI 240)) (show nI 256 - nI 16 = nI 240 from pk_sub (by decide)) ?_
  refine lv_icmp_le (tgt := 17) hx hb dX1_put_12 (by decide) (fun c12 => ?_) (fun c12 => ?_)
  · refine lv_aload_n hx hb dX1_put_17 rfl (lv_at hl 0 rfl) ?_
    refine va_get (D := D) (ci := 0) (v := .ref h1) (C := RX1) (T := TX1) (N := 2) hx hb hts in_X1 hown hW.2 hW.1 0 rfl rfl 0 (by decide) (hts _ q16) (fun _ h9 => h9) rfl dX1_put_18 ?_
    refine lv_aload_n hx hb dX1_put_21 rfl (lv_at hl 0 rfl) ?_
    refine va_get (D := D) (ci := 0) (v := .int (nI sz)) (C := RX1) (T := TX1) (N := 2) hx hb hts in_X1 hown hW.2 hW.1 0 rfl rfl 1 (by decide) (hts _ q17) (fun _ h9 => h9) rfl dX1_put_22 ?_
    refine lv_iload_n hx hb dX1_put_25 rfl (lv_at hl 1 rfl) ?_
    refine va_callv (va_runS (As := [.ref h1, .int (nI sz), .int a]) (rest := []) ⟨hx, hb, hml, hown, hts⟩ (met_word l D h1 dB g (sz) a (by omega)) (va_cwS 3 hts (lw_S q28 q29 q4 q30) rfl rfl rfl (by decide +kernel) ⟨Nat.le_of_ble_eq_true rfl, Nat.le_of_ble_eq_true rfl⟩) (pre_S mv_wo _ (wo_sub hW [1] [0] rfl rfl)) rfl rfl hl.1 rfl (lv_room (Nat.le_of_ble_eq_true rfl)) dX1_put_26 ⟨Nat.le_of_ble_eq_true rfl, Nat.le_of_ble_eq_true rfl⟩) hS (fun q _ h => Or.inr h) (fun q h => Or.inr h) (fun u1 t1 H locs ht hvm hw hB hz1 hk hS => ?_)
    rw [ht] at hB
    have hW : wo D [(h0, .inr (0, [.ref h1, .int (nI sz)])), (h1, .inl (dB, 256, .inl (sp_wr g (sz) a)))] [(dB, .byte)] s H := wo_app (wo_kept1 (wo_sub hW [0] [] rfl rfl) hk hne) ⟨hB, hW.2⟩
    have hD : va_D (fun q : Nat => q = h0 ∨ q = h1) [(h0, .inr (0, [.ref h1, .int (nI sz)])), (h1, .inl (dB, 256, .inl (sp_wr g (sz) a)))] := vd_2 (Or.inl rfl) (Or.inr rfl) hne
    refine lv_aload_n hx hb dX1_put_29 rfl (lv_at hl 0 rfl) ?_
    refine va_get (D := D) (ci := 0) (v := .ref h1) (C := RX1) (T := TX1) (N := 2) hx hb hts in_X1 hown hW.2 hW.1 0 rfl rfl 0 (by decide) (hts _ q16) (fun _ h9 => h9) rfl dX1_put_30 ?_
    refine lv_aload_n hx hb dX1_put_33 rfl (lv_at hl 0 rfl) ?_
    refine va_get (D := D) (ci := 0) (v := .int (nI sz)) (C := RX1) (T := TX1) (N := 2) hx hb hts in_X1 hown hW.2 hW.1 0 rfl rfl 1 (by decide) (hts _ q17) (fun _ h9 => h9) rfl dX1_put_34 ?_
    refine lv_iconst (v := 4) hx hb dX1_put_37 (by decide) ?_
    refine lv_iadd hx hb dX1_put_38 ?_
    refine mt_i (y := (nI (sz + 4))) (ix1 rfl 4 rfl) ?_
    refine lv_iload_n hx hb dX1_put_39 rfl (lv_at hl 2 rfl) ?_
    refine va_callv (va_runS (As := [.ref h1, .int (nI (sz + 4)), .int b]) (rest := []) ⟨hx, hb, hml, hown, hts⟩ (met_word l D h1 dB (sp_wr g (sz) a) (sz + 4) b (by omega)) (va_cwS 3 hts (lw_S q28 q29 q4 q30) rfl rfl rfl (by decide +kernel) ⟨Nat.le_of_ble_eq_true rfl, Nat.le_of_ble_eq_true rfl⟩) (pre_S mv_wo _ (wo_sub hW [1] [0] rfl rfl)) rfl rfl hl.1 rfl (lv_room (Nat.le_of_ble_eq_true rfl)) dX1_put_40 ⟨Nat.le_of_ble_eq_true rfl, Nat.le_of_ble_eq_true rfl⟩) hS (fun q _ h => Or.inr h) (fun q h => Or.inr h) (fun u2 t2 H locs ht hvm hw hB hz2 hk hS => ?_)
    rw [ht] at hB
    have hW : wo D [(h0, .inr (0, [.ref h1, .int (nI sz)])), (h1, .inl (dB, 256, .inl (sp_wr (sp_wr g (sz) a) (sz + 4) b)))] [(dB, .byte)] s H := wo_app (wo_kept1 (wo_sub hW [0] [] rfl rfl) hk hne) ⟨hB, hW.2⟩
    have hD : va_D (fun q : Nat => q = h0 ∨ q = h1) [(h0, .inr (0, [.ref h1, .int (nI sz)])), (h1, .inl (dB, 256, .inl (sp_wr (sp_wr g (sz) a) (sz + 4) b)))] := vd_2 (Or.inl rfl) (Or.inr rfl) hne
    refine lv_aload_n hx hb dX1_put_43 rfl (lv_at hl 0 rfl) ?_
    refine va_get (D := D) (ci := 0) (v := .ref h1) (C := RX1) (T := TX1) (N := 2) hx hb hts in_X1 hown hW.2 hW.1 0 rfl rfl 0 (by decide) (hts _ q16) (fun _ h9 => h9) rfl dX1_put_44 ?_
    refine lv_aload_n hx hb dX1_put_47 rfl (lv_at hl 0 rfl) ?_
    refine va_get (D := D) (ci := 0) (v := .int (nI sz)) (C := RX1) (T := TX1) (N := 2) hx hb hts in_X1 hown hW.2 hW.1 0 rfl rfl 1 (by decide) (hts _ q17) (fun _ h9 => h9) rfl dX1_put_48 ?_
    refine lv_bipush (v := 8) hx hb dX1_put_51 (by decide) ?_
    refine lv_iadd hx hb dX1_put_53 ?_
    refine mt_i (y := (nI (sz + 8))) (ix1 rfl 8 rfl) ?_
    refine lv_iload_n hx hb dX1_put_54 rfl (lv_at hl 3 rfl) ?_
    refine va_callv (va_runS (As := [.ref h1, .int (nI (sz + 8)), .int c4]) (rest := []) ⟨hx, hb, hml, hown, hts⟩ (met_word l D h1 dB (sp_wr (sp_wr g (sz) a) (sz + 4) b) (sz + 8) c4 (by omega)) (va_cwS 3 hts (lw_S q28 q29 q4 q30) rfl rfl rfl (by decide +kernel) ⟨Nat.le_of_ble_eq_true rfl, Nat.le_of_ble_eq_true rfl⟩) (pre_S mv_wo _ (wo_sub hW [1] [0] rfl rfl)) rfl rfl hl.1 rfl (lv_room (Nat.le_of_ble_eq_true rfl)) dX1_put_55 ⟨Nat.le_of_ble_eq_true rfl, Nat.le_of_ble_eq_true rfl⟩) hS (fun q _ h => Or.inr h) (fun q h => Or.inr h) (fun u3 t3 H locs ht hvm hw hB hz3 hk hS => ?_)
    rw [ht] at hB
    have hW : wo D [(h0, .inr (0, [.ref h1, .int (nI sz)])), (h1, .inl (dB, 256, .inl (sp_wr (sp_wr (sp_wr g (sz) a) (sz + 4) b) (sz + 8) c4)))] [(dB, .byte)] s H := wo_app (wo_kept1 (wo_sub hW [0] [] rfl rfl) hk hne) ⟨hB, hW.2⟩
    have hD : va_D (fun q : Nat => q = h0 ∨ q = h1) [(h0, .inr (0, [.ref h1, .int (nI sz)])), (h1, .inl (dB, 256, .inl (sp_wr (sp_wr (sp_wr g (sz) a) (sz + 4) b) (sz + 8) c4)))] := vd_2 (Or.inl rfl) (Or.inr rfl) hne
    refine lv_aload_n hx hb dX1_put_58 rfl (lv_at hl 0 rfl) ?_
    refine va_get (D := D) (ci := 0) (v := .ref h1) (C := RX1) (T := TX1) (N := 2) hx hb hts in_X1 hown hW.2 hW.1 0 rfl rfl 0 (by decide) (hts _ q16) (fun _ h9 => h9) rfl dX1_put_59 ?_
    refine lv_aload_n hx hb dX1_put_62 rfl (lv_at hl 0 rfl) ?_
    refine va_get (D := D) (ci := 0) (v := .int (nI sz)) (C := RX1) (T := TX1) (N := 2) hx hb hts in_X1 hown hW.2 hW.1 0 rfl rfl 1 (by decide) (hts _ q17) (fun _ h9 => h9) rfl dX1_put_63 ?_
    refine lv_bipush (v := 12) hx hb dX1_put_66 (by decide) ?_
    refine lv_iadd hx hb dX1_put_68 ?_
    refine mt_i (y := (nI (sz + 12))) (ix1 rfl 12 rfl) ?_
    refine lv_iload hx hb dX1_put_69 (lv_at hl 4 rfl) ?_
    refine va_callv (va_runS (As := [.ref h1, .int (nI (sz + 12)), .int d4]) (rest := []) ⟨hx, hb, hml, hown, hts⟩ (met_word l D h1 dB (sp_wr (sp_wr (sp_wr g (sz) a) (sz + 4) b) (sz + 8) c4) (sz + 12) d4 (by omega)) (va_cwS 3 hts (lw_S q28 q29 q4 q30) rfl rfl rfl (by decide +kernel) ⟨Nat.le_of_ble_eq_true rfl, Nat.le_of_ble_eq_true rfl⟩) (pre_S mv_wo _ (wo_sub hW [1] [0] rfl rfl)) rfl rfl hl.1 rfl (lv_room (Nat.le_of_ble_eq_true rfl)) dX1_put_71 ⟨Nat.le_of_ble_eq_true rfl, Nat.le_of_ble_eq_true rfl⟩) hS (fun q _ h => Or.inr h) (fun q h => Or.inr h) (fun u4 t4 H locs ht hvm hw hB hz4 hk hS => ?_)
    rw [ht] at hB
    have hW : wo D [(h0, .inr (0, [.ref h1, .int (nI sz)])), (h1, .inl (dB, 256, .inl (sp_wr (sp_wr (sp_wr (sp_wr g (sz) a) (sz + 4) b) (sz + 8) c4) (sz + 12) d4)))] [(dB, .byte)] s H := wo_app (wo_kept1 (wo_sub hW [0] [] rfl rfl) hk hne) ⟨hB, hW.2⟩
    have hD : va_D (fun q : Nat => q = h0 ∨ q = h1) [(h0, .inr (0, [.ref h1, .int (nI sz)])), (h1, .inl (dB, 256, .inl (sp_wr (sp_wr (sp_wr (sp_wr g (sz) a) (sz + 4) b) (sz + 8) c4) (sz + 12) d4)))] := vd_2 (Or.inl rfl) (Or.inr rfl) hne
    refine lv_aload_n hx hb dX1_put_74 rfl (lv_at hl 0 rfl) ?_
    refine lv_dup hx hb dX1_put_75 rfl ?_
    refine va_get (D := D) (ci := 0) (v := .int (nI sz)) (C := RX1) (T := TX1) (N := 2) hx hb hts in_X1 hown hW.2 hW.1 0 rfl rfl 1 (by decide) (hts _ q17) (fun _ h9 => h9) rfl dX1_put_76 ?_
    refine lv_bipush (v := 16) hx hb dX1_put_79 (by decide) ?_
    refine lv_iadd hx hb dX1_put_81 ?_
    refine mt_i (y := (nI (sz + 16))) (ix1 rfl 16 rfl) ?_
    refine va_put (D := D) (ci := 0) (v := .int (nI (sz + 16))) (ty := .int) (C := RX1) (T := TX1) (N := 2) hx hb hts in_X1 tyX1 tyX1_ok nmX1 hown hW.2 hW.1 hD hS 0 rfl rfl 1 (by decide) (hts _ q17) (fun _ h9 => h9) rfl (by decide +kernel) rfl rfl (Nat.le_of_ble_eq_true rfl) dX1_put_82 (fun H locs hP hD hS => ?_)
    have hP : va_P D vwCl [(h0, .inr (0, [.ref h1, .int (nI (sz + 16))])), (h1, .inl (dB, 256, .inl (sp_put g sz a b c4 d4)))] H := hP
    refine lv_iconst (v := 1) hx hb dX1_put_85 (by decide) ?_
    exact W.zret (v := 1) hx hb hr rfl (fun t ht hV => ⟨⟨1, (), rfl, rfl, by show va_P _ _ _ t.heap; rw [ht]; exact hP⟩, hS.F ht⟩) hS.2.2 dX1_put_86
  · exact absurd (nI_le hz (by omega)) c12
abbrev RM5 : Room := { frames := 1, cells := 1, slots := 256, locals := 22 }
set_option maxHeartbeats 4000000 in
set_option maxRecDepth 100000 in
/-- MurmurDesk() -/
theorem met_dinit (l : Launch) (D : va_G) (h0 sz : Nat) : Met l yX1_init (ws_ yX1_init cX1_init 1 none) RM5 (va_Pc [.ref h0] (fun U => wz D [(h0, .inr (0, [.null, .int 0]))] [] sz U U.heap)) (va_Qv (fun _ : Nat × ClassId => True) (fun u t => va_P D vwCl [(h0, .inr (0, [.ref u.1, .int 0])), (u.1, .inl (u.2, 256, .inl (fun _ => 0)))] t.heap ∧ va_K D vwCl [(u.2, .byte)] t ∧ sz ≤ u.1) (fun q : Nat => q = h0 ∨ sz ≤ q)) 1 256 (fun q : Nat => q = h0 ∨ sz ≤ q) := by
  refine m_head (own := RX1) (by decide) rfl (Nat.le_of_ble_eq_true rfl) ?_
  intro p e s m below meth c C hnm hZ ls hl
  have C0 := C
  obtain ⟨hx, hb, hr, hlocks, hml, hown, hts⟩ := C
  have hl : lv_has ls 1 [(0, .ref h0)] := hl
  have hin : meth.name = "<init>" := hnm
  obtain ⟨hsz, hP, hK⟩ := hZ
  subst hsz
  have hA : ∀ q : Nat, s.heap.size ≤ q → (fun q : Nat => q = h0 ∨ s.heap.size ≤ q) q := fun q h => Or.inr h
  have hS : va_S (fun q : Nat => q = h0 ∨ s.heap.size ≤ q) s.heap s.heap [] := va_S.rf
  have hD : va_D (fun q : Nat => q = h0 ∨ s.heap.size ≤ q) [(h0, .inr (0, [.null, .int 0]))] := vd_1 (Or.inl rfl)
  refine lv_aload_n hx hb dX1_init_0 rfl (lv_at hl 0 rfl) ?_
  refine W.objInit hx hb hown (hts _ q13) (hts _ q14) (hts _ q15) rfl (by rw [hml]; exact hl.1) rfl dX1_init_1 (Nat.le_of_ble_eq_true rfl) (Nat.le_of_ble_eq_true rfl) ?_
  refine W.eq (g2 := F0 m 4 ls []) rfl ?_
  refine lv_aload_n hx hb dX1_init_4 rfl (lv_at hl 0 rfl) ?_
  refine lv_sipush (v := 256) hx hb dX1_init_5 (by decide) ?_
  refine va_newa (atype := .byte) (ty := .byte) (a0 := (256, .inl (fun _ => 0))) (N' := 256) hx hb (hts _ q23) rfl hK hP hD hS hA (fun _ => rfl) (by decide) (by decide) (by decide) (Nat.le_of_ble_eq_true rfl) (Nat.le_of_ble_eq_true rfl) dX1_init_8 (fun tx dB H hK hP hD hS => ?_)
  have hP : va_P D vwCl [(h0, .inr (0, [.null, .int 0])), (tx, .inl (dB, 256, .inl (fun _ => 0)))] H := hP
  have hD : va_D (fun q : Nat => q = h0 ∨ s.heap.size ≤ q) [(h0, .inr (0, [.null, .int 0])), (tx, .inl (dB, 256, .inl (fun _ => 0)))] := hD
  have hK : va_K D vwCl [(dB, .byte)] s := hK
  have hne : h0 ≠ tx := fun q => by have := hD.1 0 1 _ _ rfl rfl q; omega
  have htx : s.heap.size ≤ tx := (hD.2 1 _ rfl).resolve_left (fun q => hne q.symm)
  refine va_putF (D := D) (ci := 0) (v := .ref tx) (ty := .array .byte) (C := RX1) (T := TX1) (N := 2) hx hb hts in_X1 tyX1 tyX1_ok nmX1 hown hK hP hD hS 0 rfl rfl 0 (by decide) (hts _ q16) (fun _ h9 => h9) rfl hin rfl (by decide +kernel) rfl rfl (Nat.le_of_ble_eq_true rfl) dX1_init_10 (fun H locs hP hD hS => ?_)
  have hP : va_P D vwCl [(h0, .inr (0, [.ref tx, .int 0])), (tx, .inl (dB, 256, .inl (fun _ => 0)))] H := hP
  exact W.vret hx hb hr (fun t ht hV => ⟨⟨(tx, dB), rfl, trivial, by show va_P _ _ _ t.heap; rw [ht]; exact hP, va_K.moved hV.alike hK, htx⟩, hS.F ht⟩) hS.2.2 dX1_init_13
end
section
/-! ===== the desk's part: a new array of the bytes from a place on ===== -/
set_option maxHeartbeats 4000000 in
set_option maxRecDepth 100000 in
/-- the loop: i bytes are copied -/
theorem part_loop {p : Program} {l : Launch} {e : Env} {s : State} {m : MethodId} {args : Array Value} {below : List Frame} {meth : Method} {c : Code} {Q : State → Prop} (C : Cx p s m args meth c cX1_part 7 (some (.array .byte)) RX1) (D : va_G) (h0 h1 : Nat) (dB : ClassId) (g : Nat → Int32) (sz : Nat) (hz : sz ≤ 256) (x y : Int32) (ra : Nat) (dz : ClassId) (hO : wo D [(h0, .inr (0, [.ref h1, .int (nI sz)])), (h1, .inl (dB, 256, .inl g))] [(dB, .byte)] s s.heap) (hra : s.heap.size ≤ ra)
    (kk : ∀ (z : Nat → Int32) (H : Heap) (locs : List Loc) (ls : Array Slot), (∀ j, j < (sp_ct y sz (sp_at x sz)) → z j &&& 255 = g ((sp_at x sz) + j) &&& 255) → wo D [(ra, .inl (dz, (sp_ct y sz (sp_at x sz)), .inl z))] [(dz, .byte)] s H → va_S (fun q : Nat => s.heap.size ≤ q) s.heap H locs → lv_has ls 7 [(5, .ref ra)] → W p l e RM5 s m args below meth c H locs 1 256 Q (F0 m 50 ls [])) :
    ∀ (d i : Nat), i + d = (sp_ct y sz (sp_at x sz)) → ∀ (z : Nat → Int32) (H : Heap) (locs : List Loc), (∀ j, j < i → z j &&& 255 = g ((sp_at x sz) + j) &&& 255) → wo D [(ra, .inl (dz, (sp_ct y sz (sp_at x sz)), .inl z))] [(dz, .byte)] s H → va_S (fun q : Nat => s.heap.size ≤ q) s.heap H locs → ∀ ls : Array Slot, lv_has ls 7 [(0, .ref h0), (3, .int (nI (sp_at x sz))), (4, .int (nI (sp_ct y sz (sp_at x sz)))), (5, .ref ra), (6, .int (nI i))] → W p l e RM5 s m args below meth c H locs 1 256 Q (F0 m 23 ls []) := by
  obtain ⟨hx, hb, hr, hlocks, hml, hown, hts⟩ := C
  have hFl := sp_at_le x sz
  have hNl := sp_ct_le y sz (sp_at x sz)
  intro d
  induction d with
  | zero =>
    intro i hi z H locs hzb hW hS ls hl
    refine lv_iload hx hb dX1_part_23 (lv_at hl 4 rfl) ?_
    refine lv_iload hx hb dX1_part_25 (lv_at hl 2 rfl) ?_
    refine lv_icmp_ge (tgt := 50) hx hb dX1_part_27 (by decide) (fun c27 => ?_) (fun c27 => ?_)
    · exact kk z H locs ls (fun j hj => hzb j (by omega)) hW hS (lv_sub hl [3] rfl)
    · exact absurd (nI_le (by omega) (by omega)) c27
  | succ d ih =>
    intro i hi z H locs hzb hW hS ls hl
    have hWo : wo D [(h0, .inr (0, [.ref h1, .int (nI sz)])), (h1, .inl (dB, 256, .inl g))] [(dB, .byte)] s H := wo_old hO hS
    have hD : va_D (fun q : Nat => s.heap.size ≤ q) [(ra, .inl (dz, (sp_ct y sz (sp_at x sz)), .inl z))] := vd_1 hra
    refine lv_iload hx hb dX1_part_23 (lv_at hl 4 rfl) ?_
    refine lv_iload hx hb dX1_part_25 (lv_at hl 2 rfl) ?_
    refine lv_icmp_ge (tgt := 50) hx hb dX1_part_27 (by decide) (fun c27 => ?_) (fun c27 => ?_)
    · exact absurd c27 (nI_ge (by omega) (by omega))
    · refine lv_aload hx hb dX1_part_30 (lv_at hl 3 rfl) ?_
      refine lv_iload hx hb dX1_part_32 (lv_at hl 4 rfl) ?_
      refine lv_aload_n hx hb dX1_part_34 rfl (lv_at hl 0 rfl) ?_
      refine va_get (D := D) (ci := 0) (v := .ref h1) (C := RX1) (T := TX1) (N := 2) hx hb hts in_X1 hown hWo.2 hWo.1 0 rfl rfl 0 (by decide) (hts _ q16) (fun _ h9 => h9) rfl dX1_part_35 ?_
      refine lv_iload_n hx hb dX1_part_38 rfl (lv_at hl 1 rfl) ?_
      refine lv_iload hx hb dX1_part_39 (lv_at hl 4 rfl) ?_
      refine lv_iadd hx hb dX1_part_41 ?_
      refine mt_i (y := (nI ((sp_at x sz) + i))) (nI_add _ _) ?_
      refine mt_bald hx hb hWo 1 0 rfl rfl ((sp_at x sz) + i) rfl (by omega) (by decide) dX1_part_42 ?_
      refine mt_bast hx hb hW hD hS 0 0 rfl rfl i rfl (by omega) (by omega) dX1_part_43 (fun H locs hW hD hS => ?_)
      have hW : wo D [(ra, .inl (dz, (sp_ct y sz (sp_at x sz)), .inl (upd z i (vp_nar .byte (g ((sp_at x sz) + i))))))] [(dz, .byte)] s H := hW
      refine lv_iinc (v := (nI (i + 1))) (lv' := [(6, .int (nI (i + 1))), (0, .ref h0), (3, .int (nI (sp_at x sz))), (4, .int (nI (sp_ct y sz (sp_at x sz)))), (5, .ref ra)]) hx hb dX1_part_44 hl (k := 4) rfl (nI_1 i) (by decide) rfl (fun ls hl => ?_)
      refine lv_goto (tgt := 23) hx hb dX1_part_47 (by decide) ?_
      refine ih (i + 1) (by omega) _ H _ (fun j hj => ?_) hW hS ls (lv_sub hl [1, 2, 3, 4, 0] rfl)
      rcases Nat.lt_or_ge j i with q | q
      · rw [pk_un (by omega)]; exact hzb j q
      · obtain rfl : j = i := by omega
        rw [pk_us, vp_nar_byte]; exact sp_bp _
set_option maxHeartbeats 4000000 in
set_option maxRecDepth 100000 in
/-- part -/
theorem met_part (l : Launch) (D : va_G) (h0 h1 : Nat) (dB : ClassId) (g : Nat → Int32) (sz : Nat) (hz : sz ≤ 256) (x y : Int32) (hs : Nat) : Met l yX1_part (ws_ yX1_part cX1_part 7 (some (.array .byte))) RM5 (va_Pc [.ref h0, .int x, .int y] (fun U => wz D [(h0, .inr (0, [.ref h1, .int (nI sz)])), (h1, .inl (dB, 256, .inl g))] [(dB, .byte)] hs U U.heap)) (va_Qr (fun u : ClassId × (Nat → Int32) => ∀ j, j < (sp_ct y sz (sp_at x sz)) → u.2 j &&& 255 = g ((sp_at x sz) + j) &&& 255) (fun u ra t => hs ≤ ra ∧ va_P D vwCl [(ra, .inl (u.1, (sp_ct y sz (sp_at x sz)), .inl u.2))] t.heap ∧ va_K D vwCl [(u.1, .byte)] t) (fun q : Nat => hs ≤ q)) 1 256 (fun q : Nat => hs ≤ q) := by
  refine m_head (own := RX1) (by decide) rfl (Nat.le_of_ble_eq_true rfl) ?_
  intro p e s m below meth c C hnm hZ ls hl
  have C0 := C
  obtain ⟨hx, hb, hr, hlocks, hml, hown, hts⟩ := C
  have hl : lv_has ls 7 [(0, .ref h0), (1, .int x), (2, .int y)] := hl
  obtain ⟨hsz, hP0, hK0⟩ := hZ
  subst hsz
  have hW : wo D [(h0, .inr (0, [.ref h1, .int (nI sz)])), (h1, .inl (dB, 256, .inl g))] [(dB, .byte)] s s.heap := ⟨hP0, hK0⟩
  have hFl := sp_at_le x sz
  have hNl := sp_ct_le y sz (sp_at x sz)
  have hA : ∀ q : Nat, s.heap.size ≤ q → (fun q : Nat => s.heap.size ≤ q) q := fun q h => h
  have hS : va_S (fun q : Nat => s.heap.size ≤ q) s.heap s.heap [] := va_S.rf
  refine lv_aload_n hx hb dX1_part_0 rfl (lv_at hl 0 rfl) ?_
  refine lv_iload_n hx hb dX1_part_1 rfl (lv_at hl 1 rfl) ?_
  refine vp_callSi (va_runV (As := [.int x]) (rest := []) ⟨hx, hb, hml, hown, hts⟩ (met_dfrom l D h0 h1 sz x hz) (cwV 1 hts (lw_V q35 q37 qs0 q4 q38) rfl rfl rfl (by decide +kernel) ⟨Nat.le_of_ble_eq_true rfl, Nat.le_of_ble_eq_true rfl⟩) (pre_V mv_wo _ (wo_sub hW [0] [] rfl rfl) hW 0 rfl) rfl rfl hl.1 rfl (lv_room (Nat.le_of_ble_eq_true rfl)) dX1_part_2 ⟨Nat.le_of_ble_eq_true rfl, Nat.le_of_ble_eq_true rfl⟩).run (fun r2 hr2 => ?_)
  obtain rfl : r2 = (nI (sp_at x sz)) := hr2
  refine lv_istore_n (lv' := [(3, .int (nI (sp_at x sz))), (0, .ref h0), (1, .int x), (2, .int y)]) hx hb dX1_part_5 rfl hl (by decide) rfl (fun ls hl => ?_)
  refine lv_aload_n hx hb dX1_part_6 rfl (lv_at hl 1 rfl) ?_
  refine lv_iload_n hx hb dX1_part_7 rfl (lv_at hl 0 rfl) ?_
  refine lv_iload_n hx hb dX1_part_8 rfl (lv_at hl 3 rfl) ?_
  refine vp_callSi (va_runV (As := [.int (nI (sp_at x sz)), .int y]) (rest := []) ⟨hx, hb, hml, hown, hts⟩ (met_count l D h0 h1 sz (sp_at x sz) y hz hFl) (cwV 2 hts (lw_V q61 q63 qs2 q4 q64) rfl rfl rfl (by decide +kernel) ⟨Nat.le_of_ble_eq_true rfl, Nat.le_of_ble_eq_true rfl⟩) (pre_V mv_wo _ (wo_sub hW [0] [] rfl rfl) hW 0 rfl) rfl rfl hl.1 rfl (lv_room (Nat.le_of_ble_eq_true rfl)) dX1_part_9 ⟨Nat.le_of_ble_eq_true rfl, Nat.le_of_ble_eq_true rfl⟩).run (fun r9 hr9 => ?_)
  obtain rfl : r9 = (nI (sp_ct y sz (sp_at x sz))) := hr9
  refine lv_istore (lv' := [(4, .int (nI (sp_ct y sz (sp_at x sz)))), (3, .int (nI (sp_at x sz))), (0, .ref h0), (1, .int x), (2, .int y)]) hx hb dX1_part_12 hl (by decide) rfl (fun ls hl => ?_)
  refine lv_iload hx hb dX1_part_14 (lv_at hl 0 rfl) ?_
  refine va_newa (atype := .byte) (ty := .byte) (a0 := ((sp_ct y sz (sp_at x sz)), .inl (fun _ => 0))) (N' := (sp_ct y sz (sp_at x sz))) hx hb (hts _ q23) rfl (hW.2.sub (tys' := []) [] rfl) vp_0 vd_0 hS hA (fun _ => rfl) (nI_pos (by omega)) (nI_clamp (by omega)) (by show (sp_ct y sz (sp_at x sz)) * 1 ≤ 536870912; omega) (Nat.le_of_ble_eq_true rfl) (by show 0 + (sp_ct y sz (sp_at x sz)) ≤ 256; omega) dX1_part_16 (fun ra dz H hK hP hD hS => ?_)
  have hV : wo D [(ra, .inl (dz, (sp_ct y sz (sp_at x sz)), .inl (fun _ => 0)))] [(dz, .byte)] s H := ⟨hP, hK⟩
  have hra : s.heap.size ≤ ra := hD.2 0 _ rfl
  refine W.widen (k := 1) (n := 256) (Nat.le_of_ble_eq_true rfl) (by show 0 + (sp_ct y sz (sp_at x sz)) ≤ 256; omega) ?_
  refine lv_astore (lv' := [(5, .ref ra), (4, .int (nI (sp_ct y sz (sp_at x sz)))), (3, .int (nI (sp_at x sz))), (0, .ref h0), (1, .int x), (2, .int y)]) hx hb dX1_part_18 hl (by decide) rfl (fun ls hl => ?_)
  refine lv_iconst (v := 0) hx hb dX1_part_20 (by decide) ?_
  refine mt_i (y := (nI 0)) (rfl) ?_
  refine lv_istore (lv' := [(6, .int (nI 0)), (5, .ref ra), (4, .int (nI (sp_ct y sz (sp_at x sz)))), (3, .int (nI (sp_at x sz))), (0, .ref h0), (1, .int x), (2, .int y)]) hx hb dX1_part_21 hl (by decide) rfl (fun ls hl => ?_)
  refine part_loop C0 D h0 h1 dB g sz hz x y ra dz hW hra (fun z H locs ls hzb hV hS hl => ?_) (sp_ct y sz (sp_at x sz)) 0 (Nat.zero_add _) _ H _ (fun j hj => absurd hj (Nat.not_lt_zero j)) hV hS ls (lv_sub hl [4, 3, 2, 1, 0] rfl)
  refine lv_aload hx hb dX1_part_50 (lv_at hl 0 rfl) ?_
  exact W.aret (v := .ref ra) (rt := .array .byte) hx hb hr (Or.inr ⟨_, rfl⟩) (Or.inr ⟨_, rfl⟩) (fun t ht hW2 => ⟨⟨(dz, z), ra, rfl, hzb, hra, by show va_P _ _ _ t.heap; rw [ht]; exact hV.1, va_K.moved hW2.alike hV.2⟩, hS.F ht⟩) hS.2.2 dX1_part_52
end
section
/-! ===== the desk's small and wide ===== -/
abbrev RM6 : Room := { frames := 2, cells := 1, slots := 256, locals := 56 }
abbrev RM7 : Room := { frames := 2, cells := 2, slots := 258, locals := 56 }
set_option maxHeartbeats 4000000 in
set_option maxRecDepth 100000 in
/-- small: the 32-bit hash of some first words of a part -/
theorem met_dsmall (l : Launch) (D : va_G) (h0 h1 : Nat) (dB : ClassId) (g : Nat → Int32) (sz : Nat) (hz : sz ≤ 256) (x y n3 : Int32) (hs : Nat) : Met l yX1_small (ws_ yX1_small cX1_small 6 (some .int)) RM6 (va_Pc [.ref h0, .int x, .int y, .int n3] (fun U => wz D [(h0, .inr (0, [.ref h1, .int (nI sz)])), (h1, .inl (dB, 256, .inl g))] [(dB, .byte)] hs U U.heap)) (va_Qi (fun r (_ : Unit) => r = sp_F32 (fun j => g ((sp_at x sz) + j) &&& 255) (sp_wd y (sp_ct (nI sz) sz (sp_at x sz))) n3) (fun _ _ => True) (fun q : Nat => hs ≤ q)) 1 256 (fun q : Nat => hs ≤ q) := by
  refine m_head (own := RX1) (by decide) rfl (Nat.le_of_ble_eq_true rfl) ?_
  intro p e s m below meth c C hnm hZ ls hl
  have C0 := C
  obtain ⟨hx, hb, hr, hlocks, hml, hown, hts⟩ := C
  have hl : lv_has ls 6 [(0, .ref h0), (1, .int x), (2, .int y), (3, .int n3)] := hl
  obtain ⟨hsz, hP0, hK0⟩ := hZ
  subst hsz
  have hW : wo D [(h0, .inr (0, [.ref h1, .int (nI sz)])), (h1, .inl (dB, 256, .inl g))] [(dB, .byte)] s s.heap := ⟨hP0, hK0⟩
  have hS : va_S (fun q : Nat => s.heap.size ≤ q) s.heap s.heap [] := va_S.rf
  have hFl := sp_at_le x sz
  have hNl := sp_ct_le (nI sz) sz (sp_at x sz)
  have hMl := sp_wd_le y (sp_ct (nI sz) sz (sp_at x sz))
  refine lv_aload_n hx hb dX1_small_0 rfl (lv_at hl 0 rfl) ?_
  refine lv_iload_n hx hb dX1_small_1 rfl (lv_at hl 1 rfl) ?_
  refine lv_aload_n hx hb dX1_small_2 rfl (lv_at hl 0 rfl) ?_
  refine va_get (D := D) (ci := 0) (v := .int (nI sz)) (C := RX1) (T := TX1) (N := 2) hx hb hts in_X1 hown hW.2 hW.1 0 rfl rfl 1 (by decide) (hts _ q17) (fun _ h9 => h9) rfl dX1_small_3 ?_
  refine va_callr (va_runV (As := [.int x, .int (nI sz)]) (rest := []) ⟨hx, hb, hml, hown, hts⟩ (met_part l D h0 h1 dB g sz hz x (nI sz) s.heap.size) (cwV 2 hts (lw_V q57 q59 qs1 q4 q60) rfl rfl rfl (by decide +kernel) ⟨Nat.le_of_ble_eq_true rfl, Nat.le_of_ble_eq_true rfl⟩) (pre_V mv_wz _ (wo_z hW) hW 0 rfl) rfl rfl hl.1 rfl (lv_room (Nat.le_of_ble_eq_true rfl)) dX1_small_6 ⟨Nat.le_of_ble_eq_true rfl, Nat.le_of_ble_eq_true rfl⟩) hS (fun q _ h => Nat.le_trans hS.1 h) (fun q h => Nat.le_trans hS.1 h) (fun u ra t9 H2 locs2 ht hvm hw hB hz9 hk hS => ?_)
  obtain ⟨dz, z⟩ := u
  obtain ⟨hra, hP9, hK9⟩ := hB
  have hzb : ∀ j, j < (sp_ct (nI sz) sz (sp_at x sz)) → z j &&& 255 = g ((sp_at x sz) + j) &&& 255 := hw
  have hP9 : va_P D vwCl [(ra, .inl (dz, (sp_ct (nI sz) sz (sp_at x sz)), .inl z))] t9.heap := hP9
  rw [ht] at hP9
  have hV : wo D [(ra, .inl (dz, (sp_ct (nI sz) sz (sp_at x sz)), .inl z))] [(dz, .byte)] s H2 := ⟨hP9, va_K.moved hvm.symm hK9⟩
  have hW : wo D [(h0, .inr (0, [.ref h1, .int (nI sz)])), (h1, .inl (dB, 256, .inl g))] [(dB, .byte)] s H2 := wo_keptN hW hk
  generalize H2 = H at hV hW hS ⊢
  refine lv_astore (lv' := [(4, .ref ra), (0, .ref h0), (1, .int x), (2, .int y), (3, .int n3)]) hx hb dX1_small_9 hl (by decide) rfl (fun ls hl => ?_)
  refine lv_aload hx hb dX1_small_11 (lv_at hl 0 rfl) ?_
  refine va_alen (v := nI (sp_ct (nI sz) sz (sp_at x sz))) hx hb hV.2 hV.1 0 0 rfl rfl rfl dX1_small_13 ?_
  refine lv_iconst (v := 4) hx hb dX1_small_14 (by decide) ?_
  refine mt_i (y := (nI 4)) (rfl) ?_
  refine lv_idiv hx hb dX1_small_15 (sp_ne0 (by decide) (by decide)) ?_
  refine mt_i (y := (nI ((sp_ct (nI sz) sz (sp_at x sz)) / 4))) (pk_div (by omega) (by decide) (by decide)) ?_
  refine lv_istore (lv' := [(5, .int (nI ((sp_ct (nI sz) sz (sp_at x sz)) / 4))), (4, .ref ra), (0, .ref h0), (1, .int x), (2, .int y), (3, .int n3)]) hx hb dX1_small_16 hl (by decide) rfl (fun ls hl => ?_)
  refine lv_iload hx hb dX1_small_18 (lv_at hl 0 rfl) ?_
  refine lv_if_ne (tgt := 27) hx hb dX1_small_20 (by decide) (fun c20 => ?_) (fun c20 => ?_)
  · have hq : ¬ (sp_ct (nI sz) sz (sp_at x sz)) / 4 = 0 := fun q => c20 (by rw [q]; rfl)
    have hM : (sp_wd y (sp_ct (nI sz) sz (sp_at x sz))) = sp_fr y ((sp_ct (nI sz) sz (sp_at x sz)) / 4 + 1) := if_neg hq
    refine lv_iconst (v := 4) hx hb dX1_small_27 (by decide) ?_
    refine lv_iload_n hx hb dX1_small_28 rfl (lv_at hl 4 rfl) ?_
    refine lv_ldc (own := RX1) (index := 25) hx hb hown (hts _ q39) dX1_small_29 ?_
    refine lv_iand hx hb dX1_small_31 ?_
    refine lv_iload hx hb dX1_small_32 (lv_at hl 0 rfl) ?_
    refine lv_iconst (v := 1) hx hb dX1_small_34 (by decide) ?_
    refine lv_iadd hx hb dX1_small_35 ?_
    refine mt_i (y := (nI ((sp_ct (nI sz) sz (sp_at x sz)) / 4 + 1))) (nI_1 _) ?_
    refine lv_irem hx hb dX1_small_36 (sp_ne0 (by omega) (by omega)) ?_
    refine mt_i (y := (nI (sp_wd y (sp_ct (nI sz) sz (sp_at x sz))))) (by rw [hM]; exact sp_fr_rem _ (by omega) (by omega)) ?_
    refine lv_imul hx hb dX1_small_37 ?_
    refine mt_i (y := (nI (4 * (sp_wd y (sp_ct (nI sz) sz (sp_at x sz)))))) (pk_mul 4 _) ?_
    refine lv_istore (lv' := [(5, .int (nI (4 * (sp_wd y (sp_ct (nI sz) sz (sp_at x sz)))))), (4, .ref ra), (0, .ref h0), (1, .int x), (2, .int y), (3, .int n3)]) hx hb dX1_small_38 hl (by decide) rfl (fun ls hl => ?_)
    refine lv_aload hx hb dX1_small_40 (lv_at hl 1 rfl) ?_
    refine lv_iload hx hb dX1_small_42 (lv_at hl 0 rfl) ?_
    refine lv_iload_n hx hb dX1_small_44 rfl (lv_at hl 5 rfl) ?_
    refine vp_callSi (va_runS (As := [.ref ra, .int (nI (4 * (sp_wd y (sp_ct (nI sz) sz (sp_at x sz))))), .int n3]) (rest := []) ⟨hx, hb, hml, hown, hts⟩ (met_hash32 l D ra dz (sp_ct (nI sz) sz (sp_at x sz)) z (sp_wd y (sp_ct (nI sz) sz (sp_at x sz))) n3 (by omega) (by omega)) (va_cwS 3 hts (lw_S q65 q66 q5 q67) rfl rfl rfl (by decide +kernel) ⟨Nat.le_of_ble_eq_true rfl, Nat.le_of_ble_eq_true rfl⟩) (pre_S mv_wo _ hV) rfl rfl hl.1 rfl (lv_room (Nat.le_of_ble_eq_true rfl)) dX1_small_45 ⟨Nat.le_of_ble_eq_true rfl, Nat.le_of_ble_eq_true rfl⟩).run (fun r45 hr45 => ?_)
    obtain rfl : r45 = (sp_F32 (fun j => z j &&& 255) (sp_wd y (sp_ct (nI sz) sz (sp_at x sz))) n3) := hr45
    exact W.iret hx hb hr (fun t ht hV9 => ⟨⟨_, (), rfl, sp_F32_cg _ (fun j hj => hzb j (by omega)), trivial⟩, hS.F ht⟩) hS.2.2 dX1_small_48
  · have hq : (sp_ct (nI sz) sz (sp_at x sz)) / 4 = 0 := (nI_eq (by omega) (by decide)).mp c20
    have hM : (sp_wd y (sp_ct (nI sz) sz (sp_at x sz))) = 0 := if_pos hq
    refine lv_iconst (v := 0) hx hb dX1_small_23 (by decide) ?_
    refine lv_goto (tgt := 38) hx hb dX1_small_24 (by decide) ?_
    refine mt_i (y := (nI (4 * (sp_wd y (sp_ct (nI sz) sz (sp_at x sz)))))) (by rw [hM]; rfl) ?_
    refine lv_istore (lv' := [(5, .int (nI (4 * (sp_wd y (sp_ct (nI sz) sz (sp_at x sz)))))), (4, .ref ra), (0, .ref h0), (1, .int x), (2, .int y), (3, .int n3)]) hx hb dX1_small_38 hl (by decide) rfl (fun ls hl => ?_)
    refine lv_aload hx hb dX1_small_40 (lv_at hl 1 rfl) ?_
    refine lv_iload hx hb dX1_small_42 (lv_at hl 0 rfl) ?_
    refine lv_iload_n hx hb dX1_small_44 rfl (lv_at hl 5 rfl) ?_
    refine vp_callSi (va_runS (As := [.ref ra, .int (nI (4 * (sp_wd y (sp_ct (nI sz) sz (sp_at x sz))))), .int n3]) (rest := []) ⟨hx, hb, hml, hown, hts⟩ (met_hash32 l D ra dz (sp_ct (nI sz) sz (sp_at x sz)) z (sp_wd y (sp_ct (nI sz) sz (sp_at x sz))) n3 (by omega) (by omega)) (va_cwS 3 hts (lw_S q65 q66 q5 q67) rfl rfl rfl (by decide +kernel) ⟨Nat.le_of_ble_eq_true rfl, Nat.le_of_ble_eq_true rfl⟩) (pre_S mv_wo _ hV) rfl rfl hl.1 rfl (lv_room (Nat.le_of_ble_eq_true rfl)) dX1_small_45 ⟨Nat.le_of_ble_eq_true rfl, Nat.le_of_ble_eq_true rfl⟩).run (fun r45 hr45 => ?_)
    obtain rfl : r45 = (sp_F32 (fun j => z j &&& 255) (sp_wd y (sp_ct (nI sz) sz (sp_at x sz))) n3) := hr45
    exact W.iret hx hb hr (fun t ht hV9 => ⟨⟨_, (), rfl, sp_F32_cg _ (fun j hj => hzb j (by omega)), trivial⟩, hS.F ht⟩) hS.2.2 dX1_small_48
set_option maxHeartbeats 4000000 in
set_option maxRecDepth 100000 in
/-- wide: a half of the 128-bit hash of a part -/
theorem met_dwide (l : Launch) (D : va_G) (h0 h1 : Nat) (dB : ClassId) (g : Nat → Int32) (sz : Nat) (hz : sz ≤ 256) (x y n3 n4 : Int32) (hs : Nat) : Met l yX1_wide (ws_ yX1_wide cX1_wide 6 (some .long)) RM7 (va_Pc [.ref h0, .int x, .int y, .int n3, .int n4] (fun U => wz D [(h0, .inr (0, [.ref h1, .int (nI sz)])), (h1, .inl (dB, 256, .inl g))] [(dB, .byte)] hs U U.heap)) (va_Ql (fun r (_ : Unit) => r = sp_F128 (fun j => (g ((sp_at x sz) + j) &&& 255).toInt64) (sp_ct y sz (sp_at x sz)) ((n3 &&& 2147483647)).toInt64 n4) (fun _ _ => True) (fun q : Nat => hs ≤ q)) 2 258 (fun q : Nat => hs ≤ q) := by
  refine m_head (own := RX1) (by decide) rfl (Nat.le_of_ble_eq_true rfl) ?_
  intro p e s m below meth c C hnm hZ ls hl
  have C0 := C
  obtain ⟨hx, hb, hr, hlocks, hml, hown, hts⟩ := C
  have hl : lv_has ls 6 [(0, .ref h0), (1, .int x), (2, .int y), (3, .int n3), (4, .int n4)] := hl
  obtain ⟨hsz, hP0, hK0⟩ := hZ
  subst hsz
  have hW : wo D [(h0, .inr (0, [.ref h1, .int (nI sz)])), (h1, .inl (dB, 256, .inl g))] [(dB, .byte)] s s.heap := ⟨hP0, hK0⟩
  have hS : va_S (fun q : Nat => s.heap.size ≤ q) s.heap s.heap [] := va_S.rf
  have hFl := sp_at_le x sz
  have hNl := sp_ct_le y sz (sp_at x sz)
  refine lv_aload_n hx hb dX1_wide_0 rfl (lv_at hl 0 rfl) ?_
  refine lv_iload_n hx hb dX1_wide_1 rfl (lv_at hl 1 rfl) ?_
  refine lv_iload_n hx hb dX1_wide_2 rfl (lv_at hl 2 rfl) ?_
  refine va_callr (va_runV (As := [.int x, .int y]) (rest := []) ⟨hx, hb, hml, hown, hts⟩ (met_part l D h0 h1 dB g sz hz x y s.heap.size) (cwV 2 hts (lw_V q57 q59 qs1 q4 q60) rfl rfl rfl (by decide +kernel) ⟨Nat.le_of_ble_eq_true rfl, Nat.le_of_ble_eq_true rfl⟩) (pre_V mv_wz _ (wo_z hW) hW 0 rfl) rfl rfl hl.1 rfl (lv_room (Nat.le_of_ble_eq_true rfl)) dX1_wide_3 ⟨Nat.le_of_ble_eq_true rfl, Nat.le_of_ble_eq_true rfl⟩) hS (fun q _ h => Nat.le_trans hS.1 h) (fun q h => Nat.le_trans hS.1 h) (fun u ra t9 H2 locs2 ht hvm hw hB hz9 hk hS => ?_)
  obtain ⟨dz, z⟩ := u
  obtain ⟨hra, hP9, hK9⟩ := hB
  have hzb : ∀ j, j < (sp_ct y sz (sp_at x sz)) → z j &&& 255 = g ((sp_at x sz) + j) &&& 255 := hw
  have hP9 : va_P D vwCl [(ra, .inl (dz, (sp_ct y sz (sp_at x sz)), .inl z))] t9.heap := hP9
  rw [ht] at hP9
  have hV : wo D [(ra, .inl (dz, (sp_ct y sz (sp_at x sz)), .inl z))] [(dz, .byte)] s H2 := ⟨hP9, va_K.moved hvm.symm hK9⟩
  have hW : wo D [(h0, .inr (0, [.ref h1, .int (nI sz)])), (h1, .inl (dB, 256, .inl g))] [(dB, .byte)] s H2 := wo_keptN hW hk
  generalize H2 = H at hV hW hS ⊢
  refine lv_astore (lv' := [(5, .ref ra), (0, .ref h0), (1, .int x), (2, .int y), (3, .int n3), (4, .int n4)]) hx hb dX1_wide_6 hl (by decide) rfl (fun ls hl => ?_)
  refine lv_aload hx hb dX1_wide_8 (lv_at hl 0 rfl) ?_
  refine lv_iconst (v := 0) hx hb dX1_wide_10 (by decide) ?_
  refine lv_aload hx hb dX1_wide_11 (lv_at hl 0 rfl) ?_
  refine va_alen (v := nI (sp_ct y sz (sp_at x sz))) hx hb hV.2 hV.1 0 0 rfl rfl rfl dX1_wide_13 ?_
  refine lv_iload_n hx hb dX1_wide_14 rfl (lv_at hl 4 rfl) ?_
  refine lv_ldc (own := RX1) (index := 25) hx hb hown (hts _ q39) dX1_wide_15 ?_
  refine lv_iand hx hb dX1_wide_17 ?_
  refine va_callr (va_runS (As := [.ref ra, .int 0, .int (nI (sp_ct y sz (sp_at x sz))), .int (n3 &&& 2147483647)]) (rest := []) ⟨hx, hb, hml, hown, hts⟩ (met_hash128 l D ra dz (sp_ct y sz (sp_at x sz)) z (n3 &&& 2147483647) H.size (by omega)) (va_cwS 4 hts (lw_S q91 q92 q5 q93) rfl rfl rfl (by decide +kernel) ⟨Nat.le_of_ble_eq_true rfl, Nat.le_of_ble_eq_true rfl⟩) (pre_S mv_wz _ (wo_z hV)) rfl rfl hl.1 rfl (lv_room (Nat.le_of_ble_eq_true rfl)) dX1_wide_18 ⟨Nat.le_of_ble_eq_true rfl, Nat.le_of_ble_eq_true rfl⟩) hS (fun q _ h => Nat.le_trans hS.1 h) (fun q h => Nat.le_trans hS.1 h) (fun u rl t8 H3 locs3 ht hvm hw hB hz8 hk hS => ?_)
  obtain ⟨dL, F⟩ := u
  obtain ⟨hw1, hw2⟩ := hw
  obtain ⟨hP8, hK8⟩ := hB
  have hP8 : va_P D vwCl [(rl, .inl (dL, 2, .inr (.inl F)))] t8.heap := hP8
  rw [ht] at hP8
  have hL : wo D [(rl, .inl (dL, 2, .inr (.inl F)))] [(dL, .long)] s H3 := ⟨hP8, va_K.moved hvm.symm hK8⟩
  have eP : sp_P (fun j => (z j &&& 255).toInt64) (sp_ct y sz (sp_at x sz)) ((n3 &&& 2147483647)).toInt64 = sp_P (fun j => (g ((sp_at x sz) + j) &&& 255).toInt64) (sp_ct y sz (sp_at x sz)) ((n3 &&& 2147483647)).toInt64 := sp_P_cg _ (fun j hj => by show (z j &&& 255).toInt64 = _; rw [hzb j hj])
  have hw1 : F 0 = sp_E1 (sp_P (fun j => (g ((sp_at x sz) + j) &&& 255).toInt64) (sp_ct y sz (sp_at x sz)) ((n3 &&& 2147483647)).toInt64) (nI (sp_ct y sz (sp_at x sz))).toInt64 := by rw [← eP]; exact hw1
  have hw2 : F 1 = sp_E2 (sp_P (fun j => (g ((sp_at x sz) + j) &&& 255).toInt64) (sp_ct y sz (sp_at x sz)) ((n3 &&& 2147483647)).toInt64) (nI (sp_ct y sz (sp_at x sz))).toInt64 := by rw [← eP]; exact hw2
  refine lv_iload hx hb dX1_wide_21 (lv_at hl 5 rfl) ?_
  refine lv_iconst (v := 1) hx hb dX1_wide_23 (by decide) ?_
  refine lv_iand hx hb dX1_wide_24 ?_
  obtain ⟨j, hj, ej⟩ := pk_andE n4 (m := 1) 1 (by decide)
  have hj : j = 0 ∨ j = 1 := by omega
  rcases hj with rfl | rfl
  · refine mt_lald hx hb hL 0 0 rfl rfl 0 ej (by decide) (by decide) dX1_wide_25 ?_
    refine mt_l (y := sp_F128 (fun j => (g ((sp_at x sz) + j) &&& 255).toInt64) (sp_ct y sz (sp_at x sz)) ((n3 &&& 2147483647)).toInt64 n4) (by unfold sp_F128; rw [if_pos (show n4 &&& 1 = 0 from ej)]; exact hw1) ?_
    exact W.lret hx hb hr (fun t ht hV9 => ⟨⟨_, (), rfl, rfl, trivial⟩, hS.F ht⟩) hS.2.2 dX1_wide_26
  · refine mt_lald hx hb hL 0 0 rfl rfl 1 ej (by decide) (by decide) dX1_wide_25 ?_
    refine mt_l (y := sp_F128 (fun j => (g ((sp_at x sz) + j) &&& 255).toInt64) (sp_ct y sz (sp_at x sz)) ((n3 &&& 2147483647)).toInt64 n4) (by unfold sp_F128; rw [if_neg (show ¬ n4 &&& 1 = 0 by rw [ej]; decide)]; exact hw2) ?_
    exact W.lret hx hb hr (fun t ht hV9 => ⟨⟨_, (), rfl, rfl, trivial⟩, hS.F ht⟩) hS.2.2 dX1_wide_26
end
section
/-! ===== the law's sums: the desk's hashes of a part are those worked out ===== -/
abbrev RM8 : Room := { frames := 3, cells := 7, slots := 1030, locals := 84 }
set_option maxHeartbeats 4000000 in
set_option maxRecDepth 100000 in
/-- from the number of words on -/
theorem sums_rest {p : Program} {l : Launch} {e : Env} {s : State} {m : MethodId} {args : Array Value} {below : List Frame} {meth : Method} {c : Code} (C : Cx p s m args meth c cX0_sums 10 (some .boolean) RX0) (D : va_G) (h0 h1 : Nat) (dB : ClassId) (g : Nat → Int32) (sz : Nat) (hz : sz ≤ 256) (t0 : Nat) (dT : ClassId) (f : Nat → Int32) (hf : ∀ j, j < sz → f j = g j &&& 255) (x y n3 : Int32) (hW : wo D [(h0, .inr (0, [.ref h1, .int (nI sz)])), (h1, .inl (dB, 256, .inl g)), (t0, .inl (dT, 256, .inl f))] [(dB, .byte), (dT, .int)] s s.heap) :
    ∀ ls : Array Slot, lv_has ls 10 [(0, .ref h0), (1, .ref t0), (2, .int (nI sz)), (3, .int x), (4, .int y), (5, .int n3), (6, .int (nI (sp_at x sz)))] → W p l e RM8 s m args below meth c s.heap [] 0 0 (MQ below (va_Qi (fun r (_ : Unit) => r = 1) (fun _ _ => True) (fun q : Nat => s.heap.size ≤ q)) args s 7 1030 (fun q : Nat => s.heap.size ≤ q)) (F0 m 41 ls [.int (nI (sp_wd y (sp_ct (nI sz) sz (sp_at x sz))))]) := by
  intro ls hl
  obtain ⟨hx, hb, hr, hlocks, hml, hown, hts⟩ := C
  have hFl := sp_at_le x sz
  have hCl := sp_ct_le (nI sz) sz (sp_at x sz)
  have hNl := sp_ct_le y sz (sp_at x sz)
  have hMl := sp_wd_le y (sp_ct (nI sz) sz (sp_at x sz))
  have hS : va_S (fun q : Nat => s.heap.size ≤ q) s.heap s.heap [] := va_S.rf
  have e32 : sp_F32 (fun j => g ((sp_at x sz) + j) &&& 255) (sp_wd y (sp_ct (nI sz) sz (sp_at x sz))) n3 = sp_F32 (fun j => f ((sp_at x sz) + j)) (sp_wd y (sp_ct (nI sz) sz (sp_at x sz))) n3 := sp_F32_cg _ (fun j hj => (hf _ (by omega)).symm)
  have e64 : ∀ n4 : Int32, sp_F128 (fun j => (g ((sp_at x sz) + j) &&& 255).toInt64) (sp_ct y sz (sp_at x sz)) ((n3 &&& 2147483647)).toInt64 n4 = sp_F128 (fun j => (f ((sp_at x sz) + j)).toInt64) (sp_ct y sz (sp_at x sz)) ((n3 &&& 2147483647)).toInt64 n4 := fun n4 => sp_F128_cg _ (fun j hj => by show (g _ &&& 255).toInt64 = (f _).toInt64; rw [hf _ (by omega)])
  refine lv_istore (lv' := [(8, .int (nI (sp_wd y (sp_ct (nI sz) sz (sp_at x sz))))), (0, .ref h0), (1, .ref t0), (2, .int (nI sz)), (3, .int x), (4, .int y), (5, .int n3), (6, .int (nI (sp_at x sz)))]) hx hb dX0_sums_41 hl (by decide) rfl (fun ls hl => ?_)
  refine lv_aload_n hx hb dX0_sums_43 rfl (lv_at hl 1 rfl) ?_
  refine lv_iload_n hx hb dX0_sums_44 rfl (lv_at hl 4 rfl) ?_
  refine lv_iload hx hb dX0_sums_45 (lv_at hl 5 rfl) ?_
  refine lv_iload hx hb dX0_sums_47 (lv_at hl 6 rfl) ?_
  refine va_calli (va_runV (As := [.int x, .int y, .int n3]) (rest := []) ⟨hx, hb, hml, hown, hts⟩ (met_dsmall l D h0 h1 dB g sz hz x y n3 s.heap.size) (cwV 3 hts (lw_V q53 q54 q55 q4 q56) rfl rfl rfl (by decide +kernel) ⟨Nat.le_of_ble_eq_true rfl, Nat.le_of_ble_eq_true rfl⟩) (pre_V mv_wz _ (wo_z (wo_sub hW [0, 1] [0] rfl rfl)) hW 0 rfl) rfl rfl hl.1 rfl (lv_room (Nat.le_of_ble_eq_true rfl)) dX0_sums_49 ⟨Nat.le_of_ble_eq_true rfl, Nat.le_of_ble_eq_true rfl⟩) hS (fun q _ h => Nat.le_trans hS.1 h) (fun q h => Nat.le_trans hS.1 h) (fun r49 u t9 H49 locs49 ht hvm hw hB hz9 hk hS => ?_)
  have hw : r49 = (sp_F32 (fun j => g ((sp_at x sz) + j) &&& 255) (sp_wd y (sp_ct (nI sz) sz (sp_at x sz))) n3) := hw
  subst hw
  have hW : wo D [(h0, .inr (0, [.ref h1, .int (nI sz)])), (h1, .inl (dB, 256, .inl g)), (t0, .inl (dT, 256, .inl f))] [(dB, .byte), (dT, .int)] s H49 := wo_keptN hW hk
  refine lv_aload_n hx hb dX0_sums_52 rfl (lv_at hl 2 rfl) ?_
  refine lv_iload hx hb dX0_sums_53 (lv_at hl 7 rfl) ?_
  refine lv_iconst (v := 4) hx hb dX0_sums_55 (by decide) ?_
  refine lv_iload hx hb dX0_sums_56 (lv_at hl 0 rfl) ?_
  refine lv_imul hx hb dX0_sums_58 ?_
  refine mt_i (y := (nI (4 * (sp_wd y (sp_ct (nI sz) sz (sp_at x sz)))))) (pk_mul 4 _) ?_
  refine lv_iload hx hb dX0_sums_59 (lv_at hl 6 rfl) ?_
  refine vp_callSi (va_runS (As := [.ref t0, .int (nI (sp_at x sz)), .int (nI (4 * (sp_wd y (sp_ct (nI sz) sz (sp_at x sz))))), .int n3]) (rest := [.int (sp_F32 (fun j => g ((sp_at x sz) + j) &&& 255) (sp_wd y (sp_ct (nI sz) sz (sp_at x sz))) n3)]) ⟨hx, hb, hml, hown, hts⟩ (met_lsmall l D t0 dT f (sp_at x sz) (sp_wd y (sp_ct (nI sz) sz (sp_at x sz))) n3 (by omega)) (va_cwS 4 hts (lw_S q76 q77 q3 q78) rfl rfl rfl (by decide +kernel) ⟨Nat.le_of_ble_eq_true rfl, Nat.le_of_ble_eq_true rfl⟩) (pre_S mv_wo _ (wo_sub hW [2] [1] rfl rfl)) rfl rfl hl.1 rfl (lv_room (Nat.le_of_ble_eq_true rfl)) dX0_sums_61 ⟨Nat.le_of_ble_eq_true rfl, Nat.le_of_ble_eq_true rfl⟩).run (fun r61 hr61 => ?_)
  obtain rfl : r61 = (sp_F32 (fun j => f ((sp_at x sz) + j)) (sp_wd y (sp_ct (nI sz) sz (sp_at x sz))) n3) := hr61
  refine lv_icmp_eq (tgt := 69) hx hb dX0_sums_64 (by decide) (fun c64 => ?_) (fun c64 => ?_)
  · refine lv_iload hx hb dX0_sums_69 (lv_at hl 5 rfl) ?_
    refine lv_ldc (own := RX0) (index := 26) hx hb hown (hts _ q49) dX0_sums_71 ?_
    refine lv_iand hx hb dX0_sums_73 ?_
    refine lv_iload_n hx hb dX0_sums_74 rfl (lv_at hl 3 rfl) ?_
    refine lv_iload hx hb dX0_sums_75 (lv_at hl 7 rfl) ?_
    refine lv_isub hx hb dX0_sums_77 ?_
    refine mt_i (y := (nI (sz - (sp_at x sz)))) (pk_sub hFl) ?_
    refine lv_iconst (v := 1) hx hb dX0_sums_78 (by decide) ?_
    refine lv_iadd hx hb dX0_sums_79 ?_
    refine mt_i (y := (nI (sz - (sp_at x sz) + 1))) (nI_1 _) ?_
    refine lv_irem hx hb dX0_sums_80 (sp_ne0 (by omega) (by omega)) ?_
    refine mt_i (y := (nI (sp_ct y sz (sp_at x sz)))) (sp_fr_rem _ (by omega) (by omega)) ?_
    refine lv_istore (lv' := [(9, .int (nI (sp_ct y sz (sp_at x sz)))), (8, .int (nI (sp_wd y (sp_ct (nI sz) sz (sp_at x sz))))), (0, .ref h0), (1, .ref t0), (2, .int (nI sz)), (3, .int x), (4, .int y), (5, .int n3), (6, .int (nI (sp_at x sz)))]) hx hb dX0_sums_81 hl (by decide) rfl (fun ls hl => ?_)
    refine lv_aload_n hx hb dX0_sums_83 rfl (lv_at hl 2 rfl) ?_
    refine lv_iload_n hx hb dX0_sums_84 rfl (lv_at hl 5 rfl) ?_
    refine lv_iload hx hb dX0_sums_85 (lv_at hl 6 rfl) ?_
    refine lv_iload hx hb dX0_sums_87 (lv_at hl 7 rfl) ?_
    refine lv_iconst (v := 0) hx hb dX0_sums_89 (by decide) ?_
    refine va_calll (va_runV (As := [.int x, .int y, .int n3, .int 0]) (rest := []) ⟨hx, hb, hml, hown, hts⟩ (met_dwide l D h0 h1 dB g sz hz x y n3 0 H49.size) (cwV 4 hts (lw_V q87 q88 q89 q4 q90) rfl rfl rfl (by decide +kernel) ⟨Nat.le_of_ble_eq_true rfl, Nat.le_of_ble_eq_true rfl⟩) (pre_V mv_wz _ (wo_z (wo_sub hW [0, 1] [0] rfl rfl)) hW 0 rfl) rfl rfl hl.1 rfl (lv_room (Nat.le_of_ble_eq_true rfl)) dX0_sums_90 ⟨Nat.le_of_ble_eq_true rfl, Nat.le_of_ble_eq_true rfl⟩) hS (fun q _ h => Nat.le_trans hS.1 h) (fun q h => Nat.le_trans hS.1 h) (fun r90 u t9 H90 locs90 ht hvm hw hB hz9 hk hS => ?_)
    have hw : r90 = (sp_F128 (fun j => (g ((sp_at x sz) + j) &&& 255).toInt64) (sp_ct y sz (sp_at x sz)) ((n3 &&& 2147483647)).toInt64 0) := hw
    subst hw
    have hW : wo D [(h0, .inr (0, [.ref h1, .int (nI sz)])), (h1, .inl (dB, 256, .inl g)), (t0, .inl (dT, 256, .inl f))] [(dB, .byte), (dT, .int)] s H90 := wo_keptN hW hk
    refine lv_aload_n hx hb dX0_sums_93 rfl (lv_at hl 3 rfl) ?_
    refine lv_iload hx hb dX0_sums_94 (lv_at hl 8 rfl) ?_
    refine lv_iload hx hb dX0_sums_96 (lv_at hl 0 rfl) ?_
    refine lv_iload hx hb dX0_sums_98 (lv_at hl 7 rfl) ?_
    refine lv_iconst (v := 0) hx hb dX0_sums_100 (by decide) ?_
    refine vp_callSl (va_runS (As := [.ref t0, .int (nI (sp_at x sz)), .int (nI (sp_ct y sz (sp_at x sz))), .int n3, .int 0]) (rest := [.long (sp_F128 (fun j => (g ((sp_at x sz) + j) &&& 255).toInt64) (sp_ct y sz (sp_at x sz)) ((n3 &&& 2147483647)).toInt64 0)]) ⟨hx, hb, hml, hown, hts⟩ (met_lwide l D t0 dT f (sp_at x sz) (sp_ct y sz (sp_at x sz)) n3 0 (by omega)) (va_cwS 5 hts (lw_S q108 q109 q3 q110) rfl rfl rfl (by decide +kernel) ⟨Nat.le_of_ble_eq_true rfl, Nat.le_of_ble_eq_true rfl⟩) (pre_S mv_wo _ (wo_sub hW [2] [1] rfl rfl)) rfl rfl hl.1 rfl (lv_room (Nat.le_of_ble_eq_true rfl)) dX0_sums_101 ⟨Nat.le_of_ble_eq_true rfl, Nat.le_of_ble_eq_true rfl⟩).run (fun r101 hr101 => ?_)
    obtain rfl : r101 = (sp_F128 (fun j => (f ((sp_at x sz) + j)).toInt64) (sp_ct y sz (sp_at x sz)) ((n3 &&& 2147483647)).toInt64 0) := hr101
    refine W.lcmp hx hb dX0_sums_104 ?_
    refine mt_i (y := 0) ((lg_cmp_eq _ _).mpr (e64 0)) ?_
    refine lv_if_ne (tgt := 164) hx hb dX0_sums_105 (by decide) (fun c105 => ?_) (fun c105 => ?_)
    · exact absurd rfl c105
    · refine lv_aload_n hx hb dX0_sums_108 rfl (lv_at hl 2 rfl) ?_
      refine lv_iload_n hx hb dX0_sums_109 rfl (lv_at hl 5 rfl) ?_
      refine lv_iload hx hb dX0_sums_110 (lv_at hl 6 rfl) ?_
      refine lv_iload hx hb dX0_sums_112 (lv_at hl 7 rfl) ?_
      refine lv_iconst (v := 1) hx hb dX0_sums_114 (by decide) ?_
      refine va_calll (va_runV (As := [.int x, .int y, .int n3, .int 1]) (rest := []) ⟨hx, hb, hml, hown, hts⟩ (met_dwide l D h0 h1 dB g sz hz x y n3 1 H90.size) (cwV 4 hts (lw_V q87 q88 q89 q4 q90) rfl rfl rfl (by decide +kernel) ⟨Nat.le_of_ble_eq_true rfl, Nat.le_of_ble_eq_true rfl⟩) (pre_V mv_wz _ (wo_z (wo_sub hW [0, 1] [0] rfl rfl)) hW 0 rfl) rfl rfl hl.1 rfl (lv_room (Nat.le_of_ble_eq_true rfl)) dX0_sums_115 ⟨Nat.le_of_ble_eq_true rfl, Nat.le_of_ble_eq_true rfl⟩) hS (fun q _ h => Nat.le_trans hS.1 h) (fun q h => Nat.le_trans hS.1 h) (fun r115 u t9 H115 locs115 ht hvm hw hB hz9 hk hS => ?_)
      have hw : r115 = (sp_F128 (fun j => (g ((sp_at x sz) + j) &&& 255).toInt64) (sp_ct y sz (sp_at x sz)) ((n3 &&& 2147483647)).toInt64 1) := hw
      subst hw
      have hW : wo D [(h0, .inr (0, [.ref h1, .int (nI sz)])), (h1, .inl (dB, 256, .inl g)), (t0, .inl (dT, 256, .inl f))] [(dB, .byte), (dT, .int)] s H115 := wo_keptN hW hk
      refine lv_aload_n hx hb dX0_sums_118 rfl (lv_at hl 3 rfl) ?_
      refine lv_iload hx hb dX0_sums_119 (lv_at hl 8 rfl) ?_
      refine lv_iload hx hb dX0_sums_121 (lv_at hl 0 rfl) ?_
      refine lv_iload hx hb dX0_sums_123 (lv_at hl 7 rfl) ?_
      refine lv_iconst (v := 1) hx hb dX0_sums_125 (by decide) ?_
      refine vp_callSl (va_runS (As := [.ref t0, .int (nI (sp_at x sz)), .int (nI (sp_ct y sz (sp_at x sz))), .int n3, .int 1]) (rest := [.long (sp_F128 (fun j => (g ((sp_at x sz) + j) &&& 255).toInt64) (sp_ct y sz (sp_at x sz)) ((n3 &&& 2147483647)).toInt64 1)]) ⟨hx, hb, hml, hown, hts⟩ (met_lwide l D t0 dT f (sp_at x sz) (sp_ct y sz (sp_at x sz)) n3 1 (by omega)) (va_cwS 5 hts (lw_S q108 q109 q3 q110) rfl rfl rfl (by decide +kernel) ⟨Nat.le_of_ble_eq_true rfl, Nat.le_of_ble_eq_true rfl⟩) (pre_S mv_wo _ (wo_sub hW [2] [1] rfl rfl)) rfl rfl hl.1 rfl (lv_room (Nat.le_of_ble_eq_true rfl)) dX0_sums_126 ⟨Nat.le_of_ble_eq_true rfl, Nat.le_of_ble_eq_true rfl⟩).run (fun r126 hr126 => ?_)
      obtain rfl : r126 = (sp_F128 (fun j => (f ((sp_at x sz) + j)).toInt64) (sp_ct y sz (sp_at x sz)) ((n3 &&& 2147483647)).toInt64 1) := hr126
      refine W.lcmp hx hb dX0_sums_129 ?_
      refine mt_i (y := 0) ((lg_cmp_eq _ _).mpr (e64 1)) ?_
      refine lv_if_ne (tgt := 164) hx hb dX0_sums_130 (by decide) (fun c130 => ?_) (fun c130 => ?_)
      · exact absurd rfl c130
      · refine lv_aload_n hx hb dX0_sums_133 rfl (lv_at hl 2 rfl) ?_
        refine lv_iload_n hx hb dX0_sums_134 rfl (lv_at hl 5 rfl) ?_
        refine lv_iload hx hb dX0_sums_135 (lv_at hl 6 rfl) ?_
        refine lv_iload hx hb dX0_sums_137 (lv_at hl 7 rfl) ?_
        refine lv_iload hx hb dX0_sums_139 (lv_at hl 7 rfl) ?_
        refine va_calll (va_runV (As := [.int x, .int y, .int n3, .int n3]) (rest := []) ⟨hx, hb, hml, hown, hts⟩ (met_dwide l D h0 h1 dB g sz hz x y n3 n3 H115.size) (cwV 4 hts (lw_V q87 q88 q89 q4 q90) rfl rfl rfl (by decide +kernel) ⟨Nat.le_of_ble_eq_true rfl, Nat.le_of_ble_eq_true rfl⟩) (pre_V mv_wz _ (wo_z (wo_sub hW [0, 1] [0] rfl rfl)) hW 0 rfl) rfl rfl hl.1 rfl (lv_room (Nat.le_of_ble_eq_true rfl)) dX0_sums_141 ⟨Nat.le_of_ble_eq_true rfl, Nat.le_of_ble_eq_true rfl⟩) hS (fun q _ h => Nat.le_trans hS.1 h) (fun q h => Nat.le_trans hS.1 h) (fun r141 u t9 H141 locs141 ht hvm hw hB hz9 hk hS => ?_)
        have hw : r141 = (sp_F128 (fun j => (g ((sp_at x sz) + j) &&& 255).toInt64) (sp_ct y sz (sp_at x sz)) ((n3 &&& 2147483647)).toInt64 n3) := hw
        subst hw
        have hW : wo D [(h0, .inr (0, [.ref h1, .int (nI sz)])), (h1, .inl (dB, 256, .inl g)), (t0, .inl (dT, 256, .inl f))] [(dB, .byte), (dT, .int)] s H141 := wo_keptN hW hk
        refine lv_aload_n hx hb dX0_sums_144 rfl (lv_at hl 3 rfl) ?_
        refine lv_iload hx hb dX0_sums_145 (lv_at hl 8 rfl) ?_
        refine lv_iload hx hb dX0_sums_147 (lv_at hl 0 rfl) ?_
        refine lv_iload hx hb dX0_sums_149 (lv_at hl 7 rfl) ?_
        refine lv_iload hx hb dX0_sums_151 (lv_at hl 7 rfl) ?_
        refine vp_callSl (va_runS (As := [.ref t0, .int (nI (sp_at x sz)), .int (nI (sp_ct y sz (sp_at x sz))), .int n3, .int n3]) (rest := [.long (sp_F128 (fun j => (g ((sp_at x sz) + j) &&& 255).toInt64) (sp_ct y sz (sp_at x sz)) ((n3 &&& 2147483647)).toInt64 n3)]) ⟨hx, hb, hml, hown, hts⟩ (met_lwide l D t0 dT f (sp_at x sz) (sp_ct y sz (sp_at x sz)) n3 n3 (by omega)) (va_cwS 5 hts (lw_S q108 q109 q3 q110) rfl rfl rfl (by decide +kernel) ⟨Nat.le_of_ble_eq_true rfl, Nat.le_of_ble_eq_true rfl⟩) (pre_S mv_wo _ (wo_sub hW [2] [1] rfl rfl)) rfl rfl hl.1 rfl (lv_room (Nat.le_of_ble_eq_true rfl)) dX0_sums_153 ⟨Nat.le_of_ble_eq_true rfl, Nat.le_of_ble_eq_true rfl⟩).run (fun r153 hr153 => ?_)
        obtain rfl : r153 = (sp_F128 (fun j => (f ((sp_at x sz) + j)).toInt64) (sp_ct y sz (sp_at x sz)) ((n3 &&& 2147483647)).toInt64 n3) := hr153
        refine W.lcmp hx hb dX0_sums_156 ?_
        refine mt_i (y := 0) ((lg_cmp_eq _ _).mpr (e64 n3)) ?_
        refine lv_if_ne (tgt := 164) hx hb dX0_sums_157 (by decide) (fun c157 => ?_) (fun c157 => ?_)
        · exact absurd rfl c157
        · refine lv_iconst (v := 1) hx hb dX0_sums_160 (by decide) ?_
          refine lv_goto (tgt := 165) hx hb dX0_sums_161 (by decide) ?_
          refine W.widen (k := 7) (n := 1030) (Nat.le_of_ble_eq_true rfl) (Nat.le_of_ble_eq_true rfl) ?_
          exact W.zret (v := 1) hx hb hr rfl (fun t ht hV => ⟨⟨1, (), rfl, rfl, trivial⟩, hS.F ht⟩) hS.2.2 dX0_sums_165
  · exact absurd e32 c64
set_option maxHeartbeats 4000000 in
set_option maxRecDepth 100000 in
/-- sums answers true -/
theorem met_sums (l : Launch) (D : va_G) (h0 h1 : Nat) (dB : ClassId) (g : Nat → Int32) (sz : Nat) (hz : sz ≤ 256) (t0 : Nat) (dT : ClassId) (f : Nat → Int32) (hf : ∀ j, j < sz → f j = g j &&& 255) (x y n3 : Int32) (hs : Nat) : Met l yX0_sums (ws_ yX0_sums cX0_sums 10 (some .boolean)) RM8 (va_Pc [.ref h0, .ref t0, .int (nI sz), .int x, .int y, .int n3] (fun U => wz D [(h0, .inr (0, [.ref h1, .int (nI sz)])), (h1, .inl (dB, 256, .inl g)), (t0, .inl (dT, 256, .inl f))] [(dB, .byte), (dT, .int)] hs U U.heap)) (va_Qi (fun r (_ : Unit) => r = 1) (fun _ _ => True) (fun q : Nat => hs ≤ q)) 7 1030 (fun q : Nat => hs ≤ q) := by
  refine m_head (own := RX0) (by decide) rfl (Nat.le_of_ble_eq_true rfl) ?_
  intro p e s m below meth c C hnm hZ ls hl
  have C0 := C
  obtain ⟨hx, hb, hr, hlocks, hml, hown, hts⟩ := C
  have hl : lv_has ls 10 [(0, .ref h0), (1, .ref t0), (2, .int (nI sz)), (3, .int x), (4, .int y), (5, .int n3)] := hl
  obtain ⟨hsz, hP0, hK0⟩ := hZ
  subst hsz
  have hW : wo D [(h0, .inr (0, [.ref h1, .int (nI sz)])), (h1, .inl (dB, 256, .inl g)), (t0, .inl (dT, 256, .inl f))] [(dB, .byte), (dT, .int)] s s.heap := ⟨hP0, hK0⟩
  have hFl := sp_at_le x sz
  have hCl := sp_ct_le (nI sz) sz (sp_at x sz)
  refine lv_iload_n hx hb dX0_sums_0 rfl (lv_at hl 3 rfl) ?_
  refine lv_iload_n hx hb dX0_sums_1 rfl (lv_at hl 2 rfl) ?_
  refine vp_callSi (va_runS (As := [.int x, .int (nI sz)]) (rest := []) ⟨hx, hb, hml, hown, hts⟩ (met_lfrom l x sz hz) (va_cwS 2 hts (lw_S q46 q47 q3 q48) rfl rfl rfl (by decide +kernel) ⟨Nat.le_of_ble_eq_true rfl, Nat.le_of_ble_eq_true rfl⟩) (pre_S mv_T _ trivial) rfl rfl hl.1 rfl (lv_room (Nat.le_of_ble_eq_true rfl)) dX0_sums_2 ⟨Nat.le_of_ble_eq_true rfl, Nat.le_of_ble_eq_true rfl⟩).run (fun r2 hr2 => ?_)
  obtain rfl : r2 = (nI (sp_at x sz)) := hr2
  refine lv_istore (lv' := [(6, .int (nI (sp_at x sz))), (0, .ref h0), (1, .ref t0), (2, .int (nI sz)), (3, .int x), (4, .int y), (5, .int n3)]) hx hb dX0_sums_5 hl (by decide) rfl (fun ls hl => ?_)
  refine lv_iload_n hx hb dX0_sums_7 rfl (lv_at hl 3 rfl) ?_
  refine lv_ldc (own := RX0) (index := 26) hx hb hown (hts _ q49) dX0_sums_8 ?_
  refine lv_iand hx hb dX0_sums_10 ?_
  refine lv_iload_n hx hb dX0_sums_11 rfl (lv_at hl 3 rfl) ?_
  refine lv_iload hx hb dX0_sums_12 (lv_at hl 0 rfl) ?_
  refine lv_isub hx hb dX0_sums_14 ?_
  refine mt_i (y := (nI (sz - (sp_at x sz)))) (pk_sub hFl) ?_
  refine lv_iconst (v := 1) hx hb dX0_sums_15 (by decide) ?_
  refine lv_iadd hx hb dX0_sums_16 ?_
  refine mt_i (y := (nI (sz - (sp_at x sz) + 1))) (nI_1 _) ?_
  refine lv_irem hx hb dX0_sums_17 (sp_ne0 (by omega) (by omega)) ?_
  refine mt_i (y := (nI (sp_ct (nI sz) sz (sp_at x sz)))) (sp_fr_rem _ (by omega) (by omega)) ?_
  refine lv_iconst (v := 4) hx hb dX0_sums_18 (by decide) ?_
  refine mt_i (y := (nI 4)) (rfl) ?_
  refine lv_idiv hx hb dX0_sums_19 (sp_ne0 (by decide) (by decide)) ?_
  refine mt_i (y := (nI ((sp_ct (nI sz) sz (sp_at x sz)) / 4))) (pk_div (by omega) (by decide) (by decide)) ?_
  refine lv_istore (lv' := [(7, .int (nI ((sp_ct (nI sz) sz (sp_at x sz)) / 4))), (6, .int (nI (sp_at x sz))), (0, .ref h0), (1, .ref t0), (2, .int (nI sz)), (3, .int x), (4, .int y), (5, .int n3)]) hx hb dX0_sums_20 hl (by decide) rfl (fun ls hl => ?_)
  refine lv_iload hx hb dX0_sums_22 (lv_at hl 0 rfl) ?_
  refine lv_if_ne (tgt := 31) hx hb dX0_sums_24 (by decide) (fun c24 => ?_) (fun c24 => ?_)
  · have hq : ¬ (sp_ct (nI sz) sz (sp_at x sz)) / 4 = 0 := fun q => c24 (by rw [q]; rfl)
    have hM : (sp_wd y (sp_ct (nI sz) sz (sp_at x sz))) = sp_fr y ((sp_ct (nI sz) sz (sp_at x sz)) / 4 + 1) := if_neg hq
    refine lv_iload hx hb dX0_sums_31 (lv_at hl 6 rfl) ?_
    refine lv_ldc (own := RX0) (index := 26) hx hb hown (hts _ q49) dX0_sums_33 ?_
    refine lv_iand hx hb dX0_sums_35 ?_
    refine lv_iload hx hb dX0_sums_36 (lv_at hl 0 rfl) ?_
    refine lv_iconst (v := 1) hx hb dX0_sums_38 (by decide) ?_
    refine lv_iadd hx hb dX0_sums_39 ?_
    refine mt_i (y := (nI ((sp_ct (nI sz) sz (sp_at x sz)) / 4 + 1))) (nI_1 _) ?_
    refine lv_irem hx hb dX0_sums_40 (sp_ne0 (by omega) (by omega)) ?_
    refine mt_i (y := (nI (sp_wd y (sp_ct (nI sz) sz (sp_at x sz))))) (by rw [hM]; exact sp_fr_rem _ (by omega) (by omega)) ?_
    exact sums_rest C0 D h0 h1 dB g sz hz t0 dT f hf x y n3 hW ls (lv_sub hl [2, 3, 4, 5, 6, 7, 1] rfl)
  · have hq : (sp_ct (nI sz) sz (sp_at x sz)) / 4 = 0 := (nI_eq (by omega) (by decide)).mp c24
    have hM : (sp_wd y (sp_ct (nI sz) sz (sp_at x sz))) = 0 := if_pos hq
    refine lv_iconst (v := 0) hx hb dX0_sums_27 (by decide) ?_
    refine lv_goto (tgt := 41) hx hb dX0_sums_28 (by decide) ?_
    refine mt_i (y := (nI (sp_wd y (sp_ct (nI sz) sz (sp_at x sz))))) (by rw [hM]; rfl) ?_
    exact sums_rest C0 D h0 h1 dB g sz hz t0 dT f hf x y n3 hW ls (lv_sub hl [2, 3, 4, 5, 6, 7, 1] rfl)
end
section
/-! ===== the published examples ===== -/
abbrev RM9 : Room := { frames := 3, cells := 11, slots := 1546, locals := 84 }
theorem kn_1 : sp_F32 (fun j => (fun _ => (0 : Int32)) (sp_at 0 0 + j) &&& 255) (sp_wd 0 (sp_ct (nI 0) 0 (sp_at 0 0))) 1 = 1364076727 := by decide +kernel
theorem kn_2 : sp_F128 (fun j => ((fun _ => (0 : Int32)) (sp_at 0 0 + j) &&& 255).toInt64) (sp_ct 0 0 (sp_at 0 0)) (((0 : Int32) &&& 2147483647)).toInt64 0 = 0 := by decide +kernel
theorem kn_3 : sp_F128 (fun j => ((fun _ => (0 : Int32)) (sp_at 0 0 + j) &&& 255).toInt64) (sp_ct 0 0 (sp_at 0 0)) (((0 : Int32) &&& 2147483647)).toInt64 1 = 0 := by decide +kernel
theorem kn_4 : sp_F128 (fun j => ((sp_put (sp_put (sp_put (fun _ => (0 : Int32)) 0 1416127776 1903520099 1797284466 1870097952) 16 1718581280 1786080624 1931505526 1701978228) 32 1751457900 1635416352 1685022464 0) (sp_at 0 43 + j) &&& 255).toInt64) (sp_ct 43 43 (sp_at 0 43)) (((0 : Int32) &&& 2147483647)).toInt64 0 = -2068352364225029268 := by decide +kernel
theorem kn_5 : sp_F128 (fun j => ((sp_put (sp_put (sp_put (fun _ => (0 : Int32)) 0 1416127776 1903520099 1797284466 1870097952) 16 1718581280 1786080624 1931505526 1701978228) 32 1751457900 1635416352 1685022464 0) (sp_at 0 43 + j) &&& 255).toInt64) (sp_ct 43 43 (sp_at 0 43)) (((0 : Int32) &&& 2147483647)).toInt64 1 = 8809951995912426311 := by decide +kernel
theorem kn_t : sp_at 43 48 = 43 := by decide +kernel
set_option maxHeartbeats 4000000 in
set_option maxRecDepth 100000 in
/-- isKnown answers true -/
theorem met_known (l : Launch) (D : va_G) (hs : Nat) : Met l yX0_isKnown (ws_ yX0_isKnown cX0_isKnown 1 (some .boolean)) RM9 (va_Pc [] (fun U => wz D [] [] hs U U.heap)) (va_Qi (fun r (_ : Unit) => r = 1) (fun _ _ => True) (fun q : Nat => hs ≤ q)) 11 1546 (fun q : Nat => hs ≤ q) := by
  refine m_head (own := RX0) (by decide) rfl (Nat.le_of_ble_eq_true rfl) ?_
  intro p e s m below meth c C hnm hZ ls hl
  have C0 := C
  obtain ⟨hx, hb, hr, hlocks, hml, hown, hts⟩ := C
  have hl : lv_has ls 1 [] := hl
  obtain ⟨hsz, hP, hK⟩ := hZ
  subst hsz
  have hA : ∀ q : Nat, s.heap.size ≤ q → (fun q : Nat => s.heap.size ≤ q) q := fun q h => h
  have hS : va_S (fun q : Nat => s.heap.size ≤ q) s.heap s.heap [] := va_S.rf
  have hD : va_D (fun q : Nat => s.heap.size ≤ q) [] := vd_0
  refine va_new (ci := 0) (fs := [.null, .int 0]) (C := RX1) (T := TX1) (N := 2) hx hb hts in_X1 tyX1 tyX1_ok hown (hts _ q8) (hts _ q9) (hts _ q4) hK hP hD hS hA rfl (fun j hj => by rcases (show j = 0 ∨ j = 1 by omega) with rfl | rfl <;> rfl) (Nat.le_of_ble_eq_true rfl) (Nat.le_of_ble_eq_true rfl) dX0_isKnown_0 (fun h0 H hP hD hS => ?_)
  have hP : va_P D vwCl [(h0, .inr (0, [.null, .int 0]))] H := hP
  have hh0 : s.heap.size ≤ h0 := hD.2 0 _ rfl
  have hlt : h0 < H.size := (hP 0 _ rfl).lt
  refine lv_dup hx hb dX0_isKnown_3 rfl ?_
  refine va_callv (va_runI (As := []) (rest := [.ref h0]) ⟨hx, hb, hml, hown, hts⟩ (met_dinit l D h0 H.size) (cwI 0 hts (lw_meth q12) rfl rfl rfl (hts _ q4) (hts _ q10) (hts _ q11) rfl (by decide +kernel) ⟨Nat.le_of_ble_eq_true rfl, Nat.le_of_ble_eq_true rfl⟩) (pre_S mv_wz [.ref h0] ⟨rfl, hP, hK⟩) rfl rfl hl.1 rfl (lv_room (Nat.le_of_ble_eq_true rfl)) dX0_isKnown_4 ⟨Nat.le_of_ble_eq_true rfl, Nat.le_of_ble_eq_true rfl⟩) hS (fun q _ h => h.elim (fun e => by rw [e]; exact hh0) (fun h => Nat.le_trans hS.1 h)) (fun q h => h.elim (fun e => by rw [e]; exact hh0) (fun h => Nat.le_trans hS.1 h)) (fun u t9 H2 locs ht hvm hw hB hz9 hk hS => ?_)
  obtain ⟨h1, dB⟩ := u
  obtain ⟨hP9, hK9, h19⟩ := hB
  have hP9 : va_P D vwCl [(h0, .inr (0, [.ref h1, .int (nI 0)])), (h1, .inl (dB, 256, .inl (fun _ => 0)))] t9.heap := hP9
  rw [ht] at hP9
  have hW : wo D [(h0, .inr (0, [.ref h1, .int (nI 0)])), (h1, .inl (dB, 256, .inl (fun _ => 0)))] [(dB, .byte)] s H2 := ⟨hP9, va_K.moved hvm.symm hK9⟩
  have h19 : H.size ≤ h1 := h19
  have hne : h0 ≠ h1 := by omega
  have hh1 : s.heap.size ≤ h1 := by omega
  refine lv_astore_n (lv' := [(0, .ref h0)]) hx hb dX0_isKnown_7 rfl hl (by decide) rfl (fun ls hl => ?_)
  refine lv_aload_n hx hb dX0_isKnown_8 rfl (lv_at hl 0 rfl) ?_
  refine lv_iconst (v := 0) hx hb dX0_isKnown_9 (by decide) ?_
  refine lv_iconst (v := 0) hx hb dX0_isKnown_10 (by decide) ?_
  refine lv_iconst (v := 1) hx hb dX0_isKnown_11 (by decide) ?_
  refine va_calli (va_runV (As := [.int 0, .int 0, .int 1]) (rest := []) ⟨hx, hb, hml, hown, hts⟩ (met_dsmall l D h0 h1 dB (fun _ => (0 : Int32)) 0 (by decide) 0 0 1 H2.size) (cwV 3 hts (lw_V q53 q54 q55 q4 q56) rfl rfl rfl (by decide +kernel) ⟨Nat.le_of_ble_eq_true rfl, Nat.le_of_ble_eq_true rfl⟩) (pre_V mv_wz _ (wo_z hW) hW 0 rfl) rfl rfl hl.1 rfl (lv_room (Nat.le_of_ble_eq_true rfl)) dX0_isKnown_12 ⟨Nat.le_of_ble_eq_true rfl, Nat.le_of_ble_eq_true rfl⟩) hS (fun q _ h => Nat.le_trans hS.1 h) (fun q h => Nat.le_trans hS.1 h) (fun r12 u t9 H12 locs ht hvm hw hB hz9 hk hS => ?_)
  have hw : r12 = 1364076727 := hw.trans kn_1
  subst hw
  have hW : wo D [(h0, .inr (0, [.ref h1, .int (nI 0)])), (h1, .inl (dB, 256, .inl (fun _ => (0 : Int32))))] [(dB, .byte)] s H12 := wo_keptN hW hk
  refine lv_ldc (own := RX0) (index := 64) hx hb hown (hts _ q131) dX0_isKnown_15 ?_
  refine lv_icmp_ne (tgt := 46) hx hb dX0_isKnown_17 (by decide) (fun c17 => ?_) (fun c17 => ?_)
  · exact absurd rfl c17
  · refine lv_aload_n hx hb dX0_isKnown_20 rfl (lv_at hl 0 rfl) ?_
    refine lv_iconst (v := 0) hx hb dX0_isKnown_21 (by decide) ?_
    refine lv_iconst (v := 0) hx hb dX0_isKnown_22 (by decide) ?_
    refine lv_iconst (v := 0) hx hb dX0_isKnown_23 (by decide) ?_
    refine lv_iconst (v := 0) hx hb dX0_isKnown_24 (by decide) ?_
    refine va_calll (va_runV (As := [.int 0, .int 0, .int 0, .int 0]) (rest := []) ⟨hx, hb, hml, hown, hts⟩ (met_dwide l D h0 h1 dB (fun _ => (0 : Int32)) 0 (by decide) 0 0 0 0 H12.size) (cwV 4 hts (lw_V q87 q88 q89 q4 q90) rfl rfl rfl (by decide +kernel) ⟨Nat.le_of_ble_eq_true rfl, Nat.le_of_ble_eq_true rfl⟩) (pre_V mv_wz _ (wo_z hW) hW 0 rfl) rfl rfl hl.1 rfl (lv_room (Nat.le_of_ble_eq_true rfl)) dX0_isKnown_25 ⟨Nat.le_of_ble_eq_true rfl, Nat.le_of_ble_eq_true rfl⟩) hS (fun q _ h => Nat.le_trans hS.1 h) (fun q h => Nat.le_trans hS.1 h) (fun r25 u t9 H25 locs ht hvm hw hB hz9 hk hS => ?_)
    have hw : r25 = 0 := hw.trans kn_2
    subst hw
    have hW : wo D [(h0, .inr (0, [.ref h1, .int (nI 0)])), (h1, .inl (dB, 256, .inl (fun _ => (0 : Int32))))] [(dB, .byte)] s H25 := wo_keptN hW hk
    refine lv_lconst (v := 0) hx hb dX0_isKnown_28 (by decide) ?_
    refine W.lcmp hx hb dX0_isKnown_29 ?_
    refine mt_i (y := 0) ((lg_cmp_eq _ _).mpr rfl) ?_
    refine lv_if_ne (tgt := 46) hx hb dX0_isKnown_30 (by decide) (fun c30 => ?_) (fun c30 => ?_)
    · exact absurd rfl c30
    · refine lv_aload_n hx hb dX0_isKnown_33 rfl (lv_at hl 0 rfl) ?_
      refine lv_iconst (v := 0) hx hb dX0_isKnown_34 (by decide) ?_
      refine lv_iconst (v := 0) hx hb dX0_isKnown_35 (by decide) ?_
      refine lv_iconst (v := 0) hx hb dX0_isKnown_36 (by decide) ?_
      refine lv_iconst (v := 1) hx hb dX0_isKnown_37 (by decide) ?_
      refine va_calll (va_runV (As := [.int 0, .int 0, .int 0, .int 1]) (rest := []) ⟨hx, hb, hml, hown, hts⟩ (met_dwide l D h0 h1 dB (fun _ => (0 : Int32)) 0 (by decide) 0 0 0 1 H25.size) (cwV 4 hts (lw_V q87 q88 q89 q4 q90) rfl rfl rfl (by decide +kernel) ⟨Nat.le_of_ble_eq_true rfl, Nat.le_of_ble_eq_true rfl⟩) (pre_V mv_wz _ (wo_z hW) hW 0 rfl) rfl rfl hl.1 rfl (lv_room (Nat.le_of_ble_eq_true rfl)) dX0_isKnown_38 ⟨Nat.le_of_ble_eq_true rfl, Nat.le_of_ble_eq_true rfl⟩) hS (fun q _ h => Nat.le_trans hS.1 h) (fun q h => Nat.le_trans hS.1 h) (fun r38 u t9 H38 locs ht hvm hw hB hz9 hk hS => ?_)
      have hw : r38 = 0 := hw.trans kn_3
      subst hw
      have hW : wo D [(h0, .inr (0, [.ref h1, .int (nI 0)])), (h1, .inl (dB, 256, .inl (fun _ => (0 : Int32))))] [(dB, .byte)] s H38 := wo_keptN hW hk
      refine lv_lconst (v := 0) hx hb dX0_isKnown_41 (by decide) ?_
      refine W.lcmp hx hb dX0_isKnown_42 ?_
      refine mt_i (y := 0) ((lg_cmp_eq _ _).mpr rfl) ?_
      refine lv_if_eq (tgt := 48) hx hb dX0_isKnown_43 (by decide) (fun c43 => ?_) (fun c43 => ?_)
      · refine lv_aload_n hx hb dX0_isKnown_48 rfl (lv_at hl 0 rfl) ?_
        refine lv_ldc (own := RX0) (index := 65) hx hb hown (hts _ q132) dX0_isKnown_49 ?_
        refine lv_ldc (own := RX0) (index := 66) hx hb hown (hts _ q133) dX0_isKnown_51 ?_
        refine lv_ldc (own := RX0) (index := 67) hx hb hown (hts _ q134) dX0_isKnown_53 ?_
        refine lv_ldc (own := RX0) (index := 68) hx hb hown (hts _ q135) dX0_isKnown_55 ?_
        refine va_calli (va_runV (As := [.int 1416127776, .int 1903520099, .int 1797284466, .int 1870097952]) (rest := []) ⟨hx, hb, hml, hown, hts⟩ (met_put l D h0 h1 dB (fun _ => (0 : Int32)) 0 1416127776 1903520099 1797284466 1870097952 hne (by decide)) (cwV 4 hts (lw_V q24 q25 q26 q4 q27) rfl rfl rfl (by decide +kernel) ⟨Nat.le_of_ble_eq_true rfl, Nat.le_of_ble_eq_true rfl⟩) (pre_V mv_wo _ hW hW 0 rfl) rfl rfl hl.1 rfl (lv_room (Nat.le_of_ble_eq_true rfl)) dX0_isKnown_57 ⟨Nat.le_of_ble_eq_true rfl, Nat.le_of_ble_eq_true rfl⟩) hS (fun q _ h => h.elim (fun e => by rw [e]; exact hh0) (fun e => by rw [e]; exact hh1)) (fun q h => h.elim (fun e => by rw [e]; exact hh0) (fun e => by rw [e]; exact hh1)) (fun r57 u t9 H57 locs ht hvm hw hB hz9 hk hS => ?_)
        have hw : r57 = 1 := hw
        subst hw
        have hP9 : va_P D vwCl [(h0, .inr (0, [.ref h1, .int (nI 16)])), (h1, .inl (dB, 256, .inl (sp_put (fun _ => (0 : Int32)) 0 1416127776 1903520099 1797284466 1870097952)))] t9.heap := hB
        rw [ht] at hP9
        have hW : wo D [(h0, .inr (0, [.ref h1, .int (nI 16)])), (h1, .inl (dB, 256, .inl (sp_put (fun _ => (0 : Int32)) 0 1416127776 1903520099 1797284466 1870097952)))] [(dB, .byte)] s H57 := ⟨hP9, hW.2⟩
        refine lv_pop hx hb dX0_isKnown_60 rfl ?_
        refine lv_aload_n hx hb dX0_isKnown_61 rfl (lv_at hl 0 rfl) ?_
        refine lv_ldc (own := RX0) (index := 73) hx hb hown (hts _ q136) dX0_isKnown_62 ?_
        refine lv_ldc (own := RX0) (index := 74) hx hb hown (hts _ q137) dX0_isKnown_64 ?_
        refine lv_ldc (own := RX0) (index := 75) hx hb hown (hts _ q138) dX0_isKnown_66 ?_
        refine lv_ldc (own := RX0) (index := 76) hx hb hown (hts _ q139) dX0_isKnown_68 ?_
        refine va_calli (va_runV (As := [.int 1718581280, .int 1786080624, .int 1931505526, .int 1701978228]) (rest := []) ⟨hx, hb, hml, hown, hts⟩ (met_put l D h0 h1 dB (sp_put (fun _ => (0 : Int32)) 0 1416127776 1903520099 1797284466 1870097952) 16 1718581280 1786080624 1931505526 1701978228 hne (by decide)) (cwV 4 hts (lw_V q24 q25 q26 q4 q27) rfl rfl rfl (by decide +kernel) ⟨Nat.le_of_ble_eq_true rfl, Nat.le_of_ble_eq_true rfl⟩) (pre_V mv_wo _ hW hW 0 rfl) rfl rfl hl.1 rfl (lv_room (Nat.le_of_ble_eq_true rfl)) dX0_isKnown_70 ⟨Nat.le_of_ble_eq_true rfl, Nat.le_of_ble_eq_true rfl⟩) hS (fun q _ h => h.elim (fun e => by rw [e]; exact hh0) (fun e => by rw [e]; exact hh1)) (fun q h => h.elim (fun e => by rw [e]; exact hh0) (fun e => by rw [e]; exact hh1)) (fun r70 u t9 H70 locs ht hvm hw hB hz9 hk hS => ?_)
        have hw : r70 = 1 := hw
        subst hw
        have hP9 : va_P D vwCl [(h0, .inr (0, [.ref h1, .int (nI 32)])), (h1, .inl (dB, 256, .inl (sp_put (sp_put (fun _ => (0 : Int32)) 0 1416127776 1903520099 1797284466 1870097952) 16 1718581280 1786080624 1931505526 1701978228)))] t9.heap := hB
        rw [ht] at hP9
        have hW : wo D [(h0, .inr (0, [.ref h1, .int (nI 32)])), (h1, .inl (dB, 256, .inl (sp_put (sp_put (fun _ => (0 : Int32)) 0 1416127776 1903520099 1797284466 1870097952) 16 1718581280 1786080624 1931505526 1701978228)))] [(dB, .byte)] s H70 := ⟨hP9, hW.2⟩
        refine lv_pop hx hb dX0_isKnown_73 rfl ?_
        refine lv_aload_n hx hb dX0_isKnown_74 rfl (lv_at hl 0 rfl) ?_
        refine lv_ldc (own := RX0) (index := 77) hx hb hown (hts _ q140) dX0_isKnown_75 ?_
        refine lv_ldc (own := RX0) (index := 78) hx hb hown (hts _ q141) dX0_isKnown_77 ?_
        refine lv_ldc (own := RX0) (index := 79) hx hb hown (hts _ q142) dX0_isKnown_79 ?_
        refine lv_iconst (v := 0) hx hb dX0_isKnown_81 (by decide) ?_
        refine va_calli (va_runV (As := [.int 1751457900, .int 1635416352, .int 1685022464, .int 0]) (rest := []) ⟨hx, hb, hml, hown, hts⟩ (met_put l D h0 h1 dB (sp_put (sp_put (fun _ => (0 : Int32)) 0 1416127776 1903520099 1797284466 1870097952) 16 1718581280 1786080624 1931505526 1701978228) 32 1751457900 1635416352 1685022464 0 hne (by decide)) (cwV 4 hts (lw_V q24 q25 q26 q4 q27) rfl rfl rfl (by decide +kernel) ⟨Nat.le_of_ble_eq_true rfl, Nat.le_of_ble_eq_true rfl⟩) (pre_V mv_wo _ hW hW 0 rfl) rfl rfl hl.1 rfl (lv_room (Nat.le_of_ble_eq_true rfl)) dX0_isKnown_82 ⟨Nat.le_of_ble_eq_true rfl, Nat.le_of_ble_eq_true rfl⟩) hS (fun q _ h => h.elim (fun e => by rw [e]; exact hh0) (fun e => by rw [e]; exact hh1)) (fun q h => h.elim (fun e => by rw [e]; exact hh0) (fun e => by rw [e]; exact hh1)) (fun r82 u t9 H82 locs ht hvm hw hB hz9 hk hS => ?_)
        have hw : r82 = 1 := hw
        subst hw
        have hP9 : va_P D vwCl [(h0, .inr (0, [.ref h1, .int (nI 48)])), (h1, .inl (dB, 256, .inl (sp_put (sp_put (sp_put (fun _ => (0 : Int32)) 0 1416127776 1903520099 1797284466 1870097952) 16 1718581280 1786080624 1931505526 1701978228) 32 1751457900 1635416352 1685022464 0)))] t9.heap := hB
        rw [ht] at hP9
        have hW : wo D [(h0, .inr (0, [.ref h1, .int (nI 48)])), (h1, .inl (dB, 256, .inl (sp_put (sp_put (sp_put (fun _ => (0 : Int32)) 0 1416127776 1903520099 1797284466 1870097952) 16 1718581280 1786080624 1931505526 1701978228) 32 1751457900 1635416352 1685022464 0)))] [(dB, .byte)] s H82 := ⟨hP9, hW.2⟩
        refine lv_pop hx hb dX0_isKnown_85 rfl ?_
        refine lv_aload_n hx hb dX0_isKnown_86 rfl (lv_at hl 0 rfl) ?_
        refine lv_bipush (v := 43) hx hb dX0_isKnown_87 (by decide) ?_
        refine va_callv (va_runV (As := [.int 43]) (rest := []) ⟨hx, hb, hml, hown, hts⟩ (met_trim l D h0 h1 48 43 (by decide)) (cwV 1 hts (lw_V q31 q32 q33 q4 q34) rfl rfl rfl (by decide +kernel) ⟨Nat.le_of_ble_eq_true rfl, Nat.le_of_ble_eq_true rfl⟩) (pre_V mv_wo _ (wo_sub hW [0] [] rfl rfl) hW 0 rfl) rfl rfl hl.1 rfl (lv_room (Nat.le_of_ble_eq_true rfl)) dX0_isKnown_89 ⟨Nat.le_of_ble_eq_true rfl, Nat.le_of_ble_eq_true rfl⟩) hS (fun q _ h => by rw [show q = h0 from h]; exact hh0) (fun q h => by rw [show q = h0 from h]; exact hh0) (fun u t9 H89 locs ht hvm hw hB hz9 hk hS => ?_)
        have hP9 : va_P D vwCl [(h0, .inr (0, [.ref h1, .int (nI (sp_at 43 48))]))] t9.heap := hB
        rw [ht, kn_t] at hP9
        have hW : wo D [(h0, .inr (0, [.ref h1, .int (nI 43)])), (h1, .inl (dB, 256, .inl (sp_put (sp_put (sp_put (fun _ => (0 : Int32)) 0 1416127776 1903520099 1797284466 1870097952) 16 1718581280 1786080624 1931505526 1701978228) 32 1751457900 1635416352 1685022464 0)))] [(dB, .byte)] s H89 := wo_app ⟨hP9, hW.2.sub [] rfl⟩ (wo_kept1 (wo_sub hW [1] [0] rfl rfl) hk (fun q => hne (Eq.symm q)))
        refine lv_aload_n hx hb dX0_isKnown_92 rfl (lv_at hl 0 rfl) ?_
        refine lv_iconst (v := 0) hx hb dX0_isKnown_93 (by decide) ?_
        refine lv_bipush (v := 43) hx hb dX0_isKnown_94 (by decide) ?_
        refine lv_iconst (v := 0) hx hb dX0_isKnown_96 (by decide) ?_
        refine lv_iconst (v := 0) hx hb dX0_isKnown_97 (by decide) ?_
        refine va_calll (va_runV (As := [.int 0, .int 43, .int 0, .int 0]) (rest := []) ⟨hx, hb, hml, hown, hts⟩ (met_dwide l D h0 h1 dB (sp_put (sp_put (sp_put (fun _ => (0 : Int32)) 0 1416127776 1903520099 1797284466 1870097952) 16 1718581280 1786080624 1931505526 1701978228) 32 1751457900 1635416352 1685022464 0) 43 (by decide) 0 43 0 0 H89.size) (cwV 4 hts (lw_V q87 q88 q89 q4 q90) rfl rfl rfl (by decide +kernel) ⟨Nat.le_of_ble_eq_true rfl, Nat.le_of_ble_eq_true rfl⟩) (pre_V mv_wz _ (wo_z hW) hW 0 rfl) rfl rfl hl.1 rfl (lv_room (Nat.le_of_ble_eq_true rfl)) dX0_isKnown_98 ⟨Nat.le_of_ble_eq_true rfl, Nat.le_of_ble_eq_true rfl⟩) hS (fun q _ h => Nat.le_trans hS.1 h) (fun q h => Nat.le_trans hS.1 h) (fun r98 u t9 H98 locs ht hvm hw hB hz9 hk hS => ?_)
        have hw : r98 = (-2068352364225029268) := hw.trans kn_4
        subst hw
        have hW : wo D [(h0, .inr (0, [.ref h1, .int (nI 43)])), (h1, .inl (dB, 256, .inl (sp_put (sp_put (sp_put (fun _ => (0 : Int32)) 0 1416127776 1903520099 1797284466 1870097952) 16 1718581280 1786080624 1931505526 1701978228) 32 1751457900 1635416352 1685022464 0)))] [(dB, .byte)] s H98 := wo_keptN hW hk
        refine lv_ldc2 (own := RX0) (index := 84) hx hb hown (hts _ q143) dX0_isKnown_101 ?_
        refine W.lcmp hx hb dX0_isKnown_104 ?_
        refine mt_i (y := 0) ((lg_cmp_eq _ _).mpr rfl) ?_
        refine lv_if_ne (tgt := 128) hx hb dX0_isKnown_105 (by decide) (fun c105 => ?_) (fun c105 => ?_)
        · exact absurd rfl c105
        · refine lv_aload_n hx hb dX0_isKnown_108 rfl (lv_at hl 0 rfl) ?_
          refine lv_iconst (v := 0) hx hb dX0_isKnown_109 (by decide) ?_
          refine lv_bipush (v := 43) hx hb dX0_isKnown_110 (by decide) ?_
          refine lv_iconst (v := 0) hx hb dX0_isKnown_112 (by decide) ?_
          refine lv_iconst (v := 1) hx hb dX0_isKnown_113 (by decide) ?_
          refine va_calll (va_runV (As := [.int 0, .int 43, .int 0, .int 1]) (rest := []) ⟨hx, hb, hml, hown, hts⟩ (met_dwide l D h0 h1 dB (sp_put (sp_put (sp_put (fun _ => (0 : Int32)) 0 1416127776 1903520099 1797284466 1870097952) 16 1718581280 1786080624 1931505526 1701978228) 32 1751457900 1635416352 1685022464 0) 43 (by decide) 0 43 0 1 H98.size) (cwV 4 hts (lw_V q87 q88 q89 q4 q90) rfl rfl rfl (by decide +kernel) ⟨Nat.le_of_ble_eq_true rfl, Nat.le_of_ble_eq_true rfl⟩) (pre_V mv_wz _ (wo_z hW) hW 0 rfl) rfl rfl hl.1 rfl (lv_room (Nat.le_of_ble_eq_true rfl)) dX0_isKnown_114 ⟨Nat.le_of_ble_eq_true rfl, Nat.le_of_ble_eq_true rfl⟩) hS (fun q _ h => Nat.le_trans hS.1 h) (fun q h => Nat.le_trans hS.1 h) (fun r114 u t9 H114 locs ht hvm hw hB hz9 hk hS => ?_)
          have hw : r114 = 8809951995912426311 := hw.trans kn_5
          subst hw
          have hW : wo D [(h0, .inr (0, [.ref h1, .int (nI 43)])), (h1, .inl (dB, 256, .inl (sp_put (sp_put (sp_put (fun _ => (0 : Int32)) 0 1416127776 1903520099 1797284466 1870097952) 16 1718581280 1786080624 1931505526 1701978228) 32 1751457900 1635416352 1685022464 0)))] [(dB, .byte)] s H114 := wo_keptN hW hk
          refine lv_ldc2 (own := RX0) (index := 86) hx hb hown (hts _ q144) dX0_isKnown_117 ?_
          refine W.lcmp hx hb dX0_isKnown_120 ?_
          refine mt_i (y := 0) ((lg_cmp_eq _ _).mpr rfl) ?_
          refine lv_if_ne (tgt := 128) hx hb dX0_isKnown_121 (by decide) (fun c121 => ?_) (fun c121 => ?_)
          · exact absurd rfl c121
          · refine lv_iconst (v := 1) hx hb dX0_isKnown_124 (by decide) ?_
            refine lv_goto (tgt := 129) hx hb dX0_isKnown_125 (by decide) ?_
            refine W.widen (k := 11) (n := 1546) (Nat.le_of_ble_eq_true rfl) (Nat.le_of_ble_eq_true rfl) ?_
            exact W.zret (v := 1) hx hb hr rfl (fun t ht hV => ⟨⟨1, (), rfl, rfl, trivial⟩, hS.F ht⟩) hS.2.2 dX0_isKnown_129
      · exact absurd rfl c43
end
section
/-! THE CLAIM OUT OF ONE WALK OF THE LAW'S BODY. Your part is whole_start (and what it stands on); all else here is the same for every law, but numbers. -/
def R_law : String := "MurmurDeskLaw"
def lw_P (b : Addr) (xs : List Int32) (args : Array Value) (s : State) : Prop := args = #[.ref b] ∧ s.IntsAt b xs ∧ xs.length ≤ 96 ∧ (Jvm.Cond.and given_1 narrow_1).before args s = true
def lw_Q (_ : Array Value) (s : State) (o : Outcome) (t : State) : Prop := o = .returned (some (.int 1)) ∧ Framed s o t [] 1200000 5502250
def lw_Z (below : List Frame) (a : Array Value) (s : State) : State → Prop := fun t => ∃ o, t.status = .running ∧ Ended t below o ∧ lw_Q a s o t
/-- the law's own end, with 1 on the stack, nothing written that was there before, its room as the claim has it -/
theorem lw_ret {p : Program} {l : Launch} {e : Env} {s : State} {m : MethodId} {below : List Frame} {meth : Method} {c : Code} {b : Nat} (hx : p.tables.exec = Jvm.exec) (hb : c.code = code) (hr : meth.sig.returnType = ret) (hlocks : meth.locks = false) {pc : Nat} {H : Heap} {ls : Array Slot} (hdg : decode code pc = .ok (.ireturn, 1)) : W p l e room_1 s m #[Value.ref b] below meth c H [] 1200000 5502250 (lw_Z below #[Value.ref b] s) (F0 m pc ls [.int 1]) := by
  intro T hT X
  obtain ⟨fs, hret, hrun, hended, hW, hframe⟩ := X.leave (v := some (.int 1)) (hlocks := hlocks) (fun h => by rw [hr] at h; cases h)
  have hmeth' : T.vm.method? m = some meth := X.method'
  refine ⟨T.setFrames fs, ?_, .returned (some (.int 1)), hrun, hended, rfl, ⟨_, rfl⟩, hW, hframe⟩
  jvm_step X.here [X.here.top, hx, hb, hdg, hmeth', hr, ret, narrow_b1]
  (try refine ⟨rfl, ?_⟩); (try refine ⟨rfl, ?_⟩)
  first | (intro acts; rw [hret _ acts rfl rfl rfl]) | rw [hret _ _ rfl rfl rfl]
  exact Steps.refl _
/-- what holds at the law's entry: the machine, the code, the tables' words (any of lw_tbl by 'hts w (by decide +kernel)'), the script of L ints xs at the cell b, what the Statement gives of the start (any of its parts by flat_of_before) -/
def lw_At (p : Program) (s : State) (m : MethodId) (meth : Method) (c : Code) (b L : Nat) (xs : Nat → Int32) : Prop :=
  p.tables.exec = Jvm.exec ∧ c.code = code ∧ meth.sig.returnType = ret ∧ c.maxLocals = 12 ∧ s.vm.findClass R_law = some m.cls ∧ (∀ w ∈ lw_tbl, w.before #[Value.ref b] s = true) ∧ va_X b L xs s s.heap ∧ b < s.heap.size ∧ meth.locks = false ∧ (Jvm.Cond.and given_1 narrow_1).before #[Value.ref b] s = true
/-! ===== the law's own walk: helpers ===== -/
theorem room_c {n : Nat} (h : n ≤ 1200000) : n ≤ room_1.cells := h
theorem room_s {n : Nat} (h : n ≤ 5502250) : n ≤ room_1.slots := h
theorem law_X {b L : Nat} {xs : Nat → Int32} {s : State} {H : Heap} {locs : List Loc} (hX : va_X b L xs s s.heap) (hbl : b < s.heap.size) (hS : va_S (fun q : Nat => s.heap.size ≤ q) s.heap H locs) : wX b L xs s H :=
  ⟨hX.kept (hS.2.1 b hbl (Nat.not_le.mpr hbl)), Nat.lt_of_lt_of_le hbl hS.1⟩
theorem vd_c {A : Nat → Prop} {a : Nat} {e : va_E} {ws : va_W} (ha : A a) (h : va_D A ws) (hne : ∀ q ∈ ws, a ≠ q.1) : va_D A ((a, e) :: ws) := by
  refine va_D.app (w1 := [(a, e)]) (vd_1 ha) h (fun i j p q hi hj => ?_)
  have h1 : i < 1 := (List.getElem?_eq_some_iff.mp hi).1
  rw [show i = 0 by omega] at hi
  cases hi
  exact hne q (List.mem_of_getElem? hj)
theorem vd_3 {A : Nat → Prop} {a b c : Nat} {e f g : va_E} (ha : A a) (hb : A b) (hc : A c) (n1 : a ≠ b) (n2 : a ≠ c) (n3 : b ≠ c) : va_D A [(a, e), (b, f), (c, g)] := by
  refine vd_c ha (vd_2 hb hc n3) (fun q hq => ?_)
  rcases List.mem_cons.mp hq with rfl | hq
  · exact n1
  · rw [List.mem_singleton.mp hq]; exact n2
theorem vd_4 {A : Nat → Prop} {a b c d : Nat} {e f g h : va_E} (ha : A a) (hb : A b) (hc : A c) (hd : A d) (n1 : a ≠ b) (n2 : a ≠ c) (n3 : b ≠ c) (m1 : a ≠ d) (m2 : b ≠ d) (m3 : c ≠ d) : va_D A [(a, e), (b, f), (c, g), (d, h)] := by
  refine vd_c ha (vd_3 hb hc hd n3 m2 m3) (fun q hq => ?_)
  rcases List.mem_cons.mp hq with rfl | hq
  · exact n1
  · rcases List.mem_cons.mp hq with rfl | hq
    · exact n2
    · rw [List.mem_singleton.mp hq]; exact m1
end
section
/-! ===== the sixteen bytes of a row, into the law's text ===== -/
set_option maxHeartbeats 4000000 in
set_option maxRecDepth 100000 in
/-- the sixteen bytes: i are written -/
theorem law_bytes {p : Program} {l : Launch} {e : Env} {s : State} {m : MethodId} {below : List Frame} {meth : Method} {c : Code} {Q : State → Prop} {b : Nat} (C : Cx p s m #[Value.ref b] meth c cL_law 12 ret R_law) (D : va_G) (h0 h1 t0 : Nat) (dB dT : ClassId) (n01 : h0 ≠ h1) (n02 : h0 ≠ t0) (n12 : h1 ≠ t0) (g0 : s.heap.size ≤ h0) (g1 : s.heap.size ≤ h1) (g2 : s.heap.size ≤ t0) (rw : Nat) (dR : ClassId) (g : Nat → Int32) (sz : Nat) (v1 v2 v3 v4 : Int32) (kx : Int32) (hz : sz ≤ 240) (g3 : s.heap.size ≤ rw) (m0 : h0 ≠ rw) (m1 : h1 ≠ rw) (m2 : t0 ≠ rw) {nc ns : Nat} (hnc : nc ≤ 10000) (hns : ns ≤ 1000000)
    (kk : ∀ (f : Nat → Int32) (H : Heap) (locs : List Loc) (ls : Array Slot), (∀ j, j < sz + 16 → f j = (sp_put g sz v1 v2 v3 v4) j &&& 255) → wo D [(h0, .inr (0, [.ref h1, .int (nI (sz + 16))])), (h1, .inl (dB, 256, .inl (sp_put g sz v1 v2 v3 v4))), (t0, .inl (dT, 256, .inl f)), (rw, .inl (dR, 4, .inl (sp_row v1 v2 v3 v4)))] [(dB, .byte), (dT, .int), (dR, .int)] s H → va_S (fun q : Nat => s.heap.size ≤ q) s.heap H locs → lv_has ls 12 [(0, .ref b), (1, .ref h0), (2, .ref t0), (3, .int (nI sz)), (4, .int kx), (9, .ref rw)] → W p l e room_1 s m #[Value.ref b] below meth c H locs nc ns Q (F0 m 182 ls [])) :
    ∀ (d i : Nat), i + d = 16 → ∀ (f : Nat → Int32) (H : Heap) (locs : List Loc), (∀ j, j < sz + i → f j = (sp_put g sz v1 v2 v3 v4) j &&& 255) → wo D [(h0, .inr (0, [.ref h1, .int (nI (sz + 16))])), (h1, .inl (dB, 256, .inl (sp_put g sz v1 v2 v3 v4))), (t0, .inl (dT, 256, .inl f)), (rw, .inl (dR, 4, .inl (sp_row v1 v2 v3 v4)))] [(dB, .byte), (dT, .int), (dR, .int)] s H → va_S (fun q : Nat => s.heap.size ≤ q) s.heap H locs → ∀ ls : Array Slot, lv_has ls 12 [(0, .ref b), (1, .ref h0), (2, .ref t0), (3, .int (nI sz)), (4, .int kx), (9, .ref rw), (10, .int (nI i))] → W p l e room_1 s m #[Value.ref b] below meth c H locs nc ns Q (F0 m 149 ls []) := by
  obtain ⟨hx, hb, hr, hlocks, hml, hown, hts⟩ := C
  intro d
  induction d with
  | zero =>
    intro i hi f H locs hf hW hS ls hl
    refine lv_iload hx hb dL_law_149 (lv_at hl 6 rfl) ?_
    refine lv_bipush (v := 16) hx hb dL_law_151 (by decide) ?_
    refine mt_i (y := (nI 16)) (rfl) ?_
    refine lv_icmp_ge (tgt := 182) hx hb dL_law_153 (by decide) (fun c153 => ?_) (fun c153 => ?_)
    · exact kk f H locs ls (fun j hj => hf j (by omega)) hW hS (lv_sub hl [0, 1, 2, 3, 4, 5] rfl)
    · exact absurd (nI_le (by omega) (by omega)) c153
  | succ d ih =>
    intro i hi f H locs hf hW hS ls hl
    have hD : va_D (fun q : Nat => s.heap.size ≤ q) [(h0, .inr (0, [.ref h1, .int (nI (sz + 16))])), (h1, .inl (dB, 256, .inl (sp_put g sz v1 v2 v3 v4))), (t0, .inl (dT, 256, .inl f)), (rw, .inl (dR, 4, .inl (sp_row v1 v2 v3 v4)))] := vd_4 g0 g1 g2 g3 n01 n02 n12 m0 m1 m2
    refine lv_iload hx hb dL_law_149 (lv_at hl 6 rfl) ?_
    refine lv_bipush (v := 16) hx hb dL_law_151 (by decide) ?_
    refine mt_i (y := (nI 16)) (rfl) ?_
    refine lv_icmp_ge (tgt := 182) hx hb dL_law_153 (by decide) (fun c153 => ?_) (fun c153 => ?_)
    · exact absurd c153 (nI_ge (by omega) (by omega))
    · refine lv_aload_n hx hb dL_law_156 rfl (lv_at hl 2 rfl) ?_
      refine lv_iload_n hx hb dL_law_157 rfl (lv_at hl 3 rfl) ?_
      refine lv_iload hx hb dL_law_158 (lv_at hl 6 rfl) ?_
      refine lv_iadd hx hb dL_law_160 ?_
      refine mt_i (y := (nI (sz + i))) (nI_add _ _) ?_
      refine lv_aload hx hb dL_law_161 (lv_at hl 5 rfl) ?_
      refine lv_iload hx hb dL_law_163 (lv_at hl 6 rfl) ?_
      refine lv_iconst (v := 4) hx hb dL_law_165 (by decide) ?_
      refine mt_i (y := (nI 4)) (rfl) ?_
      refine lv_idiv hx hb dL_law_166 (sp_ne0 (by decide) (by decide)) ?_
      refine mt_i (y := (nI (i / 4))) (pk_div (by omega) (by decide) (by decide)) ?_
      refine mt_iald hx hb hW 3 2 rfl rfl (i / 4) rfl (by omega) (by decide) dL_law_167 ?_
      refine lv_iload hx hb dL_law_168 (lv_at hl 6 rfl) ?_
      refine lv_iconst (v := 4) hx hb dL_law_170 (by decide) ?_
      refine mt_i (y := (nI 4)) (rfl) ?_
      refine lv_irem hx hb dL_law_171 (sp_ne0 (by decide) (by decide)) ?_
      refine mt_i (y := (nI (i % 4))) (pk_rem (by omega) (by decide) (by decide)) ?_
      refine vp_callSi (va_runS (As := [.int ((sp_row v1 v2 v3 v4) (i / 4)), .int (nI (i % 4))]) (rest := [.int (nI (sz + i)), .ref t0]) ⟨hx, hb, hml, hown, hts⟩ (met_lpart l ((sp_row v1 v2 v3 v4) (i / 4)) (nI (i % 4))) (va_cwS 2 hts (lw_S q43 q44 q3 q45) rfl rfl rfl (by decide +kernel) ⟨Nat.le_of_ble_eq_true rfl, Nat.le_of_ble_eq_true rfl⟩) (pre_S mv_T _ trivial) rfl rfl hl.1 rfl (lv_room (Nat.le_of_ble_eq_true rfl)) dL_law_172 ⟨room_c (by omega), room_s (by omega)⟩).run (fun r172 hr172 => ?_)
      obtain rfl : r172 = (sp_lp ((sp_row v1 v2 v3 v4) (i / 4)) (nI (i % 4))) := hr172
      refine mt_iast hx hb hW hD hS 2 1 rfl rfl (sz + i) rfl (by omega) (by decide) dL_law_175 (fun H locs hW hD hS => ?_)
      have hW : wo D [(h0, .inr (0, [.ref h1, .int (nI (sz + 16))])), (h1, .inl (dB, 256, .inl (sp_put g sz v1 v2 v3 v4))), (t0, .inl (dT, 256, .inl (upd f (sz + i) (sp_lp ((sp_row v1 v2 v3 v4) (i / 4)) (nI (i % 4)))))), (rw, .inl (dR, 4, .inl (sp_row v1 v2 v3 v4)))] [(dB, .byte), (dT, .int), (dR, .int)] s H := hW
      refine lv_iinc (v := (nI (i + 1))) (lv' := [(10, .int (nI (i + 1))), (0, .ref b), (1, .ref h0), (2, .ref t0), (3, .int (nI sz)), (4, .int kx), (9, .ref rw)]) hx hb dL_law_176 hl (k := 6) rfl (nI_1 i) (by decide) rfl (fun ls hl => ?_)
      refine lv_goto (tgt := 149) hx hb dL_law_179 (by decide) ?_
      refine ih (i + 1) (by omega) _ H _ (fun j hj => ?_) hW hS ls (lv_sub hl [1, 2, 3, 4, 5, 6, 0] rfl)
      rcases Nat.lt_or_ge j (sz + i) with q | q
      · rw [pk_un (by omega)]; exact hf j q
      · obtain rfl : j = sz + i := by omega
        rw [pk_us]; exact (sp_put_at (by omega)).symm
set_option maxHeartbeats 4000000 in
set_option maxRecDepth 100000 in
/-- the sixteen bytes: i are written -/
theorem law_fbytes {p : Program} {l : Launch} {e : Env} {s : State} {m : MethodId} {below : List Frame} {meth : Method} {c : Code} {Q : State → Prop} {b : Nat} (C : Cx p s m #[Value.ref b] meth c cL_law 12 ret R_law) (D : va_G) (h0 h1 t0 : Nat) (dB dT : ClassId) (n01 : h0 ≠ h1) (n02 : h0 ≠ t0) (n12 : h1 ≠ t0) (g0 : s.heap.size ≤ h0) (g1 : s.heap.size ≤ h1) (g2 : s.heap.size ≤ t0) (rw : Nat) (dR : ClassId) (g : Nat → Int32) (sz : Nat) (v1 v2 v3 v4 : Int32) (hz : sz ≤ 240) (g3 : s.heap.size ≤ rw) (m0 : h0 ≠ rw) (m1 : h1 ≠ rw) (m2 : t0 ≠ rw) {nc ns : Nat} (hnc : nc ≤ 10000) (hns : ns ≤ 1000000)
    (kk : ∀ (f : Nat → Int32) (H : Heap) (locs : List Loc) (ls : Array Slot), (∀ j, j < sz + 16 → f j = (sp_put g sz v1 v2 v3 v4) j &&& 255) → wo D [(h0, .inr (0, [.ref h1, .int (nI (sz + 16))])), (h1, .inl (dB, 256, .inl (sp_put g sz v1 v2 v3 v4))), (t0, .inl (dT, 256, .inl f)), (rw, .inl (dR, 4, .inl (sp_row v1 v2 v3 v4)))] [(dB, .byte), (dT, .int), (dR, .int)] s H → va_S (fun q : Nat => s.heap.size ≤ q) s.heap H locs → lv_has ls 12 [(0, .ref b), (1, .ref h0), (2, .ref t0), (3, .int (nI sz)), (4, .ref rw)] → W p l e room_1 s m #[Value.ref b] below meth c H locs nc ns Q (F0 m 374 ls [])) :
    ∀ (d i : Nat), i + d = 16 → ∀ (f : Nat → Int32) (H : Heap) (locs : List Loc), (∀ j, j < sz + i → f j = (sp_put g sz v1 v2 v3 v4) j &&& 255) → wo D [(h0, .inr (0, [.ref h1, .int (nI (sz + 16))])), (h1, .inl (dB, 256, .inl (sp_put g sz v1 v2 v3 v4))), (t0, .inl (dT, 256, .inl f)), (rw, .inl (dR, 4, .inl (sp_row v1 v2 v3 v4)))] [(dB, .byte), (dT, .int), (dR, .int)] s H → va_S (fun q : Nat => s.heap.size ≤ q) s.heap H locs → ∀ ls : Array Slot, lv_has ls 12 [(0, .ref b), (1, .ref h0), (2, .ref t0), (3, .int (nI sz)), (4, .ref rw), (5, .int (nI i))] → W p l e room_1 s m #[Value.ref b] below meth c H locs nc ns Q (F0 m 341 ls []) := by
  obtain ⟨hx, hb, hr, hlocks, hml, hown, hts⟩ := C
  intro d
  induction d with
  | zero =>
    intro i hi f H locs hf hW hS ls hl
    refine lv_iload hx hb dL_law_341 (lv_at hl 5 rfl) ?_
    refine lv_bipush (v := 16) hx hb dL_law_343 (by decide) ?_
    refine mt_i (y := (nI 16)) (rfl) ?_
    refine lv_icmp_ge (tgt := 374) hx hb dL_law_345 (by decide) (fun c345 => ?_) (fun c345 => ?_)
    · exact kk f H locs ls (fun j hj => hf j (by omega)) hW hS (lv_sub hl [0, 1, 2, 3, 4] rfl)
    · exact absurd (nI_le (by omega) (by omega)) c345
  | succ d ih =>
    intro i hi f H locs hf hW hS ls hl
    have hD : va_D (fun q : Nat => s.heap.size ≤ q) [(h0, .inr (0, [.ref h1, .int (nI (sz + 16))])), (h1, .inl (dB, 256, .inl (sp_put g sz v1 v2 v3 v4))), (t0, .inl (dT, 256, .inl f)), (rw, .inl (dR, 4, .inl (sp_row v1 v2 v3 v4)))] := vd_4 g0 g1 g2 g3 n01 n02 n12 m0 m1 m2
    refine lv_iload hx hb dL_law_341 (lv_at hl 5 rfl) ?_
    refine lv_bipush (v := 16) hx hb dL_law_343 (by decide) ?_
    refine mt_i (y := (nI 16)) (rfl) ?_
    refine lv_icmp_ge (tgt := 374) hx hb dL_law_345 (by decide) (fun c345 => ?_) (fun c345 => ?_)
    · exact absurd c345 (nI_ge (by omega) (by omega))
    · refine lv_aload_n hx hb dL_law_348 rfl (lv_at hl 2 rfl) ?_
      refine lv_iload_n hx hb dL_law_349 rfl (lv_at hl 3 rfl) ?_
      refine lv_iload hx hb dL_law_350 (lv_at hl 5 rfl) ?_
      refine lv_iadd hx hb dL_law_352 ?_
      refine mt_i (y := (nI (sz + i))) (nI_add _ _) ?_
      refine lv_aload hx hb dL_law_353 (lv_at hl 4 rfl) ?_
      refine lv_iload hx hb dL_law_355 (lv_at hl 5 rfl) ?_
      refine lv_iconst (v := 4) hx hb dL_law_357 (by decide) ?_
      refine mt_i (y := (nI 4)) (rfl) ?_
      refine lv_idiv hx hb dL_law_358 (sp_ne0 (by decide) (by decide)) ?_
      refine mt_i (y := (nI (i / 4))) (pk_div (by omega) (by decide) (by decide)) ?_
      refine mt_iald hx hb hW 3 2 rfl rfl (i / 4) rfl (by omega) (by decide) dL_law_359 ?_
      refine lv_iload hx hb dL_law_360 (lv_at hl 5 rfl) ?_
      refine lv_iconst (v := 4) hx hb dL_law_362 (by decide) ?_
      refine mt_i (y := (nI 4)) (rfl) ?_
      refine lv_irem hx hb dL_law_363 (sp_ne0 (by decide) (by decide)) ?_
      refine mt_i (y := (nI (i % 4))) (pk_rem (by omega) (by decide) (by decide)) ?_
      refine vp_callSi (va_runS (As := [.int ((sp_row v1 v2 v3 v4) (i / 4)), .int (nI (i % 4))]) (rest := [.int (nI (sz + i)), .ref t0]) ⟨hx, hb, hml, hown, hts⟩ (met_lpart l ((sp_row v1 v2 v3 v4) (i / 4)) (nI (i % 4))) (va_cwS 2 hts (lw_S q43 q44 q3 q45) rfl rfl rfl (by decide +kernel) ⟨Nat.le_of_ble_eq_true rfl, Nat.le_of_ble_eq_true rfl⟩) (pre_S mv_T _ trivial) rfl rfl hl.1 rfl (lv_room (Nat.le_of_ble_eq_true rfl)) dL_law_364 ⟨room_c (by omega), room_s (by omega)⟩).run (fun r364 hr364 => ?_)
      obtain rfl : r364 = (sp_lp ((sp_row v1 v2 v3 v4) (i / 4)) (nI (i % 4))) := hr364
      refine mt_iast hx hb hW hD hS 2 1 rfl rfl (sz + i) rfl (by omega) (by decide) dL_law_367 (fun H locs hW hD hS => ?_)
      have hW : wo D [(h0, .inr (0, [.ref h1, .int (nI (sz + 16))])), (h1, .inl (dB, 256, .inl (sp_put g sz v1 v2 v3 v4))), (t0, .inl (dT, 256, .inl (upd f (sz + i) (sp_lp ((sp_row v1 v2 v3 v4) (i / 4)) (nI (i % 4)))))), (rw, .inl (dR, 4, .inl (sp_row v1 v2 v3 v4)))] [(dB, .byte), (dT, .int), (dR, .int)] s H := hW
      refine lv_iinc (v := (nI (i + 1))) (lv' := [(5, .int (nI (i + 1))), (0, .ref b), (1, .ref h0), (2, .ref t0), (3, .int (nI sz)), (4, .ref rw)]) hx hb dL_law_368 hl (k := 5) rfl (nI_1 i) (by decide) rfl (fun ls hl => ?_)
      refine lv_goto (tgt := 341) hx hb dL_law_371 (by decide) ?_
      refine ih (i + 1) (by omega) _ H _ (fun j hj => ?_) hW hS ls (lv_sub hl [1, 2, 3, 4, 5, 0] rfl)
      rcases Nat.lt_or_ge j (sz + i) with q | q
      · rw [pk_un (by omega)]; exact hf j q
      · obtain rfl : j = sz + i := by omega
        rw [pk_us]; exact (sp_put_at (by omega)).symm
end
section
/-! ===== a turn of the law ===== -/
set_option maxHeartbeats 4000000 in
set_option maxRecDepth 100000 in
/-- a turn, behind the bytes: three sums -/
theorem law_turn2 {p : Program} {l : Launch} {e : Env} {s : State} {m : MethodId} {below : List Frame} {meth : Method} {c : Code} {Q : State → Prop} {b L : Nat} {xs : Nat → Int32} (hL : L ≤ 96) (hX : va_X b L xs s s.heap) (hbl : b < s.heap.size) (C : Cx p s m #[Value.ref b] meth c cL_law 12 ret R_law) (D : va_G) (h0 h1 t0 : Nat) (dB dT : ClassId) (n01 : h0 ≠ h1) (n02 : h0 ≠ t0) (n12 : h1 ≠ t0) (g0 : s.heap.size ≤ h0) (g1 : s.heap.size ≤ h1) (g2 : s.heap.size ≤ t0) (g : Nat → Int32) (sz k : Nat) (v1 v2 v3 v4 : Int32) (hz : sz ≤ 240) (hk12 : k < 12)
    (kk : ∀ (f : Nat → Int32) (H : Heap) (locs : List Loc) (ls : Array Slot), (∀ j, j < sz + 16 → f j = (sp_put g sz v1 v2 v3 v4) j &&& 255) → wo D [(h0, .inr (0, [.ref h1, .int (nI (sz + 16))])), (h1, .inl (dB, 256, .inl (sp_put g sz v1 v2 v3 v4))), (t0, .inl (dT, 256, .inl f))] [(dB, .byte), (dT, .int)] s H → va_S (fun q : Nat => s.heap.size ≤ q) s.heap H locs → lv_has ls 12 [(0, .ref b), (1, .ref h0), (2, .ref t0), (3, .int (nI (sz + 16))), (4, .int (nI (k + 1)))] → W p l e room_1 s m #[Value.ref b] below meth c H locs (3 + 22 * (k + 1)) (514 + 3094 * (k + 1)) Q (F0 m 19 ls [])) :
    ∀ (f : Nat → Int32) (H : Heap) (locs : List Loc), (∀ j, j < sz + 16 → f j = (sp_put g sz v1 v2 v3 v4) j &&& 255) → wo D [(h0, .inr (0, [.ref h1, .int (nI (sz + 16))])), (h1, .inl (dB, 256, .inl (sp_put g sz v1 v2 v3 v4))), (t0, .inl (dT, 256, .inl f))] [(dB, .byte), (dT, .int)] s H → va_S (fun q : Nat => s.heap.size ≤ q) s.heap H locs → ∀ ls : Array Slot, lv_has ls 12 [(0, .ref b), (1, .ref h0), (2, .ref t0), (3, .int (nI sz)), (4, .int (nI k))] → W p l e room_1 s m #[Value.ref b] below meth c H locs (3 + 22 * k + 1) (514 + 3094 * k + 4) Q (F0 m 182 ls []) := by
  intro f H locs hf hW hS ls hl
  obtain ⟨hx, hb, hr, hlocks, hml, hown, hts⟩ := C
  refine lv_iinc (v := (nI (sz + 16))) (lv' := [(3, .int (nI (sz + 16))), (0, .ref b), (1, .ref h0), (2, .ref t0), (4, .int (nI k))]) hx hb dL_law_182 hl (k := 3) rfl (by rw [show Int32.ofInt 16 = nI 16 from rfl, nI_add]) (by decide) rfl (fun ls hl => ?_)
  refine lv_aload_n hx hb dL_law_185 rfl (lv_at hl 1 rfl) ?_
  refine lv_bipush (v := 8) hx hb dL_law_186 (by decide) ?_
  refine lv_iload hx hb dL_law_188 (lv_at hl 4 rfl) ?_
  refine lv_imul hx hb dL_law_190 ?_
  refine mt_i (y := (nI (8 * k))) (pk_mul 8 k) ?_
  refine lv_iconst (v := 4) hx hb dL_law_191 (by decide) ?_
  refine lv_iadd hx hb dL_law_192 ?_
  refine mt_i (y := (nI (8 * k + 4))) (ix1 rfl 4 rfl) ?_
  refine vp_callSi (va_runS (As := [.ref b, .int (nI (8 * k + 4))]) (rest := []) ⟨hx, hb, hml, hown, hts⟩ (met_cell l b L xs (8 * k + 4) hL (by omega)) (va_cwS 2 hts (lw_S q40 q41 q3 q42) rfl rfl rfl (by decide +kernel) ⟨Nat.le_of_ble_eq_true rfl, Nat.le_of_ble_eq_true rfl⟩) (pre_S mv_wX _ (law_X hX hbl hS)) rfl rfl hl.1 rfl (lv_room (Nat.le_of_ble_eq_true rfl)) dL_law_193 ⟨room_c (by omega), room_s (by omega)⟩).run (fun r193 hr193 => ?_)
  obtain rfl : r193 = (sp_cl L xs (8 * k + 4)) := hr193
  refine lv_istore (lv' := [(10, .int (sp_cl L xs (8 * k + 4))), (3, .int (nI (sz + 16))), (0, .ref b), (1, .ref h0), (2, .ref t0), (4, .int (nI k))]) hx hb dL_law_196 hl (by decide) rfl (fun ls hl => ?_)
  refine lv_aload_n hx hb dL_law_198 rfl (lv_at hl 2 rfl) ?_
  refine lv_bipush (v := 8) hx hb dL_law_199 (by decide) ?_
  refine lv_iload hx hb dL_law_201 (lv_at hl 5 rfl) ?_
  refine lv_imul hx hb dL_law_203 ?_
  refine mt_i (y := (nI (8 * k))) (pk_mul 8 k) ?_
  refine lv_iconst (v := 5) hx hb dL_law_204 (by decide) ?_
  refine lv_iadd hx hb dL_law_205 ?_
  refine mt_i (y := (nI (8 * k + 5))) (ix1 rfl 5 rfl) ?_
  refine vp_callSi (va_runS (As := [.ref b, .int (nI (8 * k + 5))]) (rest := []) ⟨hx, hb, hml, hown, hts⟩ (met_cell l b L xs (8 * k + 5) hL (by omega)) (va_cwS 2 hts (lw_S q40 q41 q3 q42) rfl rfl rfl (by decide +kernel) ⟨Nat.le_of_ble_eq_true rfl, Nat.le_of_ble_eq_true rfl⟩) (pre_S mv_wX _ (law_X hX hbl hS)) rfl rfl hl.1 rfl (lv_room (Nat.le_of_ble_eq_true rfl)) dL_law_206 ⟨room_c (by omega), room_s (by omega)⟩).run (fun r206 hr206 => ?_)
  obtain rfl : r206 = (sp_cl L xs (8 * k + 5)) := hr206
  refine lv_istore (lv' := [(11, .int (sp_cl L xs (8 * k + 5))), (10, .int (sp_cl L xs (8 * k + 4))), (3, .int (nI (sz + 16))), (0, .ref b), (1, .ref h0), (2, .ref t0), (4, .int (nI k))]) hx hb dL_law_209 hl (by decide) rfl (fun ls hl => ?_)
  refine lv_aload_n hx hb dL_law_211 rfl (lv_at hl 4 rfl) ?_
  refine lv_aload_n hx hb dL_law_212 rfl (lv_at hl 5 rfl) ?_
  refine lv_iload_n hx hb dL_law_213 rfl (lv_at hl 2 rfl) ?_
  refine lv_iload hx hb dL_law_214 (lv_at hl 1 rfl) ?_
  refine lv_iload hx hb dL_law_216 (lv_at hl 0 rfl) ?_
  refine lv_aload_n hx hb dL_law_218 rfl (lv_at hl 3 rfl) ?_
  refine lv_bipush (v := 8) hx hb dL_law_219 (by decide) ?_
  refine lv_iload hx hb dL_law_221 (lv_at hl 6 rfl) ?_
  refine lv_imul hx hb dL_law_223 ?_
  refine mt_i (y := (nI (8 * k))) (pk_mul 8 k) ?_
  refine lv_bipush (v := 6) hx hb dL_law_224 (by decide) ?_
  refine lv_iadd hx hb dL_law_226 ?_
  refine mt_i (y := (nI (8 * k + 6))) (ix1 rfl 6 rfl) ?_
  refine vp_callSi (va_runS (As := [.ref b, .int (nI (8 * k + 6))]) (rest := [.int (sp_cl L xs (8 * k + 5)), .int (sp_cl L xs (8 * k + 4)), .int (nI (sz + 16)), .ref t0, .ref h0]) ⟨hx, hb, hml, hown, hts⟩ (met_cell l b L xs (8 * k + 6) hL (by omega)) (va_cwS 2 hts (lw_S q40 q41 q3 q42) rfl rfl rfl (by decide +kernel) ⟨Nat.le_of_ble_eq_true rfl, Nat.le_of_ble_eq_true rfl⟩) (pre_S mv_wX _ (law_X hX hbl hS)) rfl rfl hl.1 rfl (lv_room (Nat.le_of_ble_eq_true rfl)) dL_law_227 ⟨room_c (by omega), room_s (by omega)⟩).run (fun r227 hr227 => ?_)
  obtain rfl : r227 = (sp_cl L xs (8 * k + 6)) := hr227
  refine va_calli (va_runS (As := [.ref h0, .ref t0, .int (nI (sz + 16)), .int (sp_cl L xs (8 * k + 4)), .int (sp_cl L xs (8 * k + 5)), .int (sp_cl L xs (8 * k + 6))]) (rest := []) ⟨hx, hb, hml, hown, hts⟩ (met_sums l D h0 h1 dB (sp_put g sz v1 v2 v3 v4) (sz + 16) (by omega) t0 dT f hf (sp_cl L xs (8 * k + 4)) (sp_cl L xs (8 * k + 5)) (sp_cl L xs (8 * k + 6)) H.size) (va_cwS 6 hts (lw_S q50 q51 q3 q52) rfl rfl rfl (by decide +kernel) ⟨Nat.le_of_ble_eq_true rfl, Nat.le_of_ble_eq_true rfl⟩) (pre_S mv_wz _ (wo_z hW)) rfl rfl hl.1 rfl (lv_room (Nat.le_of_ble_eq_true rfl)) dL_law_230 ⟨room_c (by omega), room_s (by omega)⟩) hS (fun q _ h => Nat.le_trans hS.1 h) (fun q h => Nat.le_trans hS.1 h) (fun r230 u t9 H2 locs ht hvm hw hB hz9 hk hS => ?_)
  have hw : r230 = 1 := hw
  subst hw
  have hW : wo D [(h0, .inr (0, [.ref h1, .int (nI (sz + 16))])), (h1, .inl (dB, 256, .inl (sp_put g sz v1 v2 v3 v4))), (t0, .inl (dT, 256, .inl f))] [(dB, .byte), (dT, .int)] s H2 := wo_keptN hW hk
  generalize H2 = H at hW hS ⊢
  refine lv_if_eq (tgt := 273) hx hb dL_law_233 (by decide) (fun c233 => ?_) (fun c233 => ?_)
  · exact absurd c233 (by decide)
  · refine lv_aload_n hx hb dL_law_236 rfl (lv_at hl 4 rfl) ?_
    refine lv_aload_n hx hb dL_law_237 rfl (lv_at hl 5 rfl) ?_
    refine lv_iload_n hx hb dL_law_238 rfl (lv_at hl 2 rfl) ?_
    refine lv_iconst (v := 0) hx hb dL_law_239 (by decide) ?_
    refine lv_iload_n hx hb dL_law_240 rfl (lv_at hl 2 rfl) ?_
    refine lv_iload hx hb dL_law_241 (lv_at hl 1 rfl) ?_
    refine va_calli (va_runS (As := [.ref h0, .ref t0, .int (nI (sz + 16)), .int 0, .int (nI (sz + 16)), .int (sp_cl L xs (8 * k + 4))]) (rest := []) ⟨hx, hb, hml, hown, hts⟩ (met_sums l D h0 h1 dB (sp_put g sz v1 v2 v3 v4) (sz + 16) (by omega) t0 dT f hf 0 (nI (sz + 16)) (sp_cl L xs (8 * k + 4)) H.size) (va_cwS 6 hts (lw_S q50 q51 q3 q52) rfl rfl rfl (by decide +kernel) ⟨Nat.le_of_ble_eq_true rfl, Nat.le_of_ble_eq_true rfl⟩) (pre_S mv_wz _ (wo_z hW)) rfl rfl hl.1 rfl (lv_room (Nat.le_of_ble_eq_true rfl)) dL_law_243 ⟨room_c (by omega), room_s (by omega)⟩) hS (fun q _ h => Nat.le_trans hS.1 h) (fun q h => Nat.le_trans hS.1 h) (fun r243 u t9 H2 locs ht hvm hw hB hz9 hk hS => ?_)
    have hw : r243 = 1 := hw
    subst hw
    have hW : wo D [(h0, .inr (0, [.ref h1, .int (nI (sz + 16))])), (h1, .inl (dB, 256, .inl (sp_put g sz v1 v2 v3 v4))), (t0, .inl (dT, 256, .inl f))] [(dB, .byte), (dT, .int)] s H2 := wo_keptN hW hk
    generalize H2 = H at hW hS ⊢
    refine lv_if_eq (tgt := 273) hx hb dL_law_246 (by decide) (fun c246 => ?_) (fun c246 => ?_)
    · exact absurd c246 (by decide)
    · refine lv_aload_n hx hb dL_law_249 rfl (lv_at hl 4 rfl) ?_
      refine lv_aload_n hx hb dL_law_250 rfl (lv_at hl 5 rfl) ?_
      refine lv_iload_n hx hb dL_law_251 rfl (lv_at hl 2 rfl) ?_
      refine lv_iload hx hb dL_law_252 (lv_at hl 0 rfl) ?_
      refine lv_aload_n hx hb dL_law_254 rfl (lv_at hl 3 rfl) ?_
      refine lv_bipush (v := 8) hx hb dL_law_255 (by decide) ?_
      refine lv_iload hx hb dL_law_257 (lv_at hl 6 rfl) ?_
      refine lv_imul hx hb dL_law_259 ?_
      refine mt_i (y := (nI (8 * k))) (pk_mul 8 k) ?_
      refine lv_bipush (v := 7) hx hb dL_law_260 (by decide) ?_
      refine lv_iadd hx hb dL_law_262 ?_
      refine mt_i (y := (nI (8 * k + 7))) (ix1 rfl 7 rfl) ?_
      refine vp_callSi (va_runS (As := [.ref b, .int (nI (8 * k + 7))]) (rest := [.int (sp_cl L xs (8 * k + 5)), .int (nI (sz + 16)), .ref t0, .ref h0]) ⟨hx, hb, hml, hown, hts⟩ (met_cell l b L xs (8 * k + 7) hL (by omega)) (va_cwS 2 hts (lw_S q40 q41 q3 q42) rfl rfl rfl (by decide +kernel) ⟨Nat.le_of_ble_eq_true rfl, Nat.le_of_ble_eq_true rfl⟩) (pre_S mv_wX _ (law_X hX hbl hS)) rfl rfl hl.1 rfl (lv_room (Nat.le_of_ble_eq_true rfl)) dL_law_263 ⟨room_c (by omega), room_s (by omega)⟩).run (fun r263 hr263 => ?_)
      obtain rfl : r263 = (sp_cl L xs (8 * k + 7)) := hr263
      refine lv_iconst (v := 0) hx hb dL_law_266 (by decide) ?_
      refine va_calli (va_runS (As := [.ref h0, .ref t0, .int (nI (sz + 16)), .int (sp_cl L xs (8 * k + 5)), .int (sp_cl L xs (8 * k + 7)), .int 0]) (rest := []) ⟨hx, hb, hml, hown, hts⟩ (met_sums l D h0 h1 dB (sp_put g sz v1 v2 v3 v4) (sz + 16) (by omega) t0 dT f hf (sp_cl L xs (8 * k + 5)) (sp_cl L xs (8 * k + 7)) 0 H.size) (va_cwS 6 hts (lw_S q50 q51 q3 q52) rfl rfl rfl (by decide +kernel) ⟨Nat.le_of_ble_eq_true rfl, Nat.le_of_ble_eq_true rfl⟩) (pre_S mv_wz _ (wo_z hW)) rfl rfl hl.1 rfl (lv_room (Nat.le_of_ble_eq_true rfl)) dL_law_267 ⟨room_c (by omega), room_s (by omega)⟩) hS (fun q _ h => Nat.le_trans hS.1 h) (fun q h => Nat.le_trans hS.1 h) (fun r267 u t9 H2 locs ht hvm hw hB hz9 hk hS => ?_)
      have hw : r267 = 1 := hw
      subst hw
      have hW : wo D [(h0, .inr (0, [.ref h1, .int (nI (sz + 16))])), (h1, .inl (dB, 256, .inl (sp_put g sz v1 v2 v3 v4))), (t0, .inl (dT, 256, .inl f))] [(dB, .byte), (dT, .int)] s H2 := wo_keptN hW hk
      generalize H2 = H at hW hS ⊢
      refine lv_if_ne (tgt := 275) hx hb dL_law_270 (by decide) (fun c270 => ?_) (fun c270 => ?_)
      · refine lv_iinc (v := (nI (k + 1))) (lv' := [(4, .int (nI (k + 1))), (11, .int (sp_cl L xs (8 * k + 5))), (10, .int (sp_cl L xs (8 * k + 4))), (3, .int (nI (sz + 16))), (0, .ref b), (1, .ref h0), (2, .ref t0)]) hx hb dL_law_275 hl (k := 6) rfl (nI_1 k) (by decide) rfl (fun ls hl => ?_)
        refine lv_goto (tgt := 19) hx hb dL_law_278 (by decide) ?_
        refine W.widen (k := 3 + 22 * (k + 1)) (n := 514 + 3094 * (k + 1)) (by omega) (by omega) ?_
        exact kk f H _ ls hf hW hS (lv_sub hl [4, 5, 6, 3, 0] rfl)
      · exact absurd c270 (by decide)
set_option maxHeartbeats 4000000 in
set_option maxRecDepth 100000 in
/-- a turn from the put on -/
theorem law_turn {p : Program} {l : Launch} {e : Env} {s : State} {m : MethodId} {below : List Frame} {meth : Method} {c : Code} {Q : State → Prop} {b L : Nat} {xs : Nat → Int32} (hL : L ≤ 96) (hX : va_X b L xs s s.heap) (hbl : b < s.heap.size) (C : Cx p s m #[Value.ref b] meth c cL_law 12 ret R_law) (D : va_G) (h0 h1 t0 : Nat) (dB dT : ClassId) (n01 : h0 ≠ h1) (n02 : h0 ≠ t0) (n12 : h1 ≠ t0) (g0 : s.heap.size ≤ h0) (g1 : s.heap.size ≤ h1) (g2 : s.heap.size ≤ t0) (g : Nat → Int32) (sz k : Nat) (v1 v2 v3 v4 : Int32) (hz : sz ≤ 240) (hk12 : k < 12)
    (kk : ∀ (f : Nat → Int32) (H : Heap) (locs : List Loc) (ls : Array Slot), (∀ j, j < sz + 16 → f j = (sp_put g sz v1 v2 v3 v4) j &&& 255) → wo D [(h0, .inr (0, [.ref h1, .int (nI (sz + 16))])), (h1, .inl (dB, 256, .inl (sp_put g sz v1 v2 v3 v4))), (t0, .inl (dT, 256, .inl f))] [(dB, .byte), (dT, .int)] s H → va_S (fun q : Nat => s.heap.size ≤ q) s.heap H locs → lv_has ls 12 [(0, .ref b), (1, .ref h0), (2, .ref t0), (3, .int (nI (sz + 16))), (4, .int (nI (k + 1)))] → W p l e room_1 s m #[Value.ref b] below meth c H locs (3 + 22 * (k + 1)) (514 + 3094 * (k + 1)) Q (F0 m 19 ls [])) :
    ∀ (f : Nat → Int32) (H : Heap) (locs : List Loc), (∀ j, j < sz → f j = g j &&& 255) → wo D [(h0, .inr (0, [.ref h1, .int (nI (sz))])), (h1, .inl (dB, 256, .inl g)), (t0, .inl (dT, 256, .inl f))] [(dB, .byte), (dT, .int)] s H → va_S (fun q : Nat => s.heap.size ≤ q) s.heap H locs → ∀ ls : Array Slot, lv_has ls 12 [(0, .ref b), (1, .ref h0), (2, .ref t0), (3, .int (nI sz)), (4, .int (nI k)), (5, .int v1), (6, .int v2), (7, .int v3), (8, .int v4)] → W p l e room_1 s m #[Value.ref b] below meth c H locs (3 + 22 * k) (514 + 3094 * k) Q (F0 m 104 ls []) := by
  intro f H locs hf hW hS ls hl
  have C0 := C
  obtain ⟨hx, hb, hr, hlocks, hml, hown, hts⟩ := C
  refine lv_aload_n hx hb dL_law_104 rfl (lv_at hl 1 rfl) ?_
  refine lv_iload hx hb dL_law_105 (lv_at hl 5 rfl) ?_
  refine lv_iload hx hb dL_law_107 (lv_at hl 6 rfl) ?_
  refine lv_iload hx hb dL_law_109 (lv_at hl 7 rfl) ?_
  refine lv_iload hx hb dL_law_111 (lv_at hl 8 rfl) ?_
  refine va_calli (va_runV (As := [.int v1, .int v2, .int v3, .int v4]) (rest := []) ⟨hx, hb, hml, hown, hts⟩ (met_put l D h0 h1 dB g sz v1 v2 v3 v4 n01 (by omega)) (cwV 4 hts (lw_V q24 q25 q26 q4 q27) rfl rfl rfl (by decide +kernel) ⟨Nat.le_of_ble_eq_true rfl, Nat.le_of_ble_eq_true rfl⟩) (pre_V mv_wo _ (wo_sub hW [0, 1] [0] rfl rfl) hW 0 rfl) rfl rfl hl.1 rfl (lv_room (Nat.le_of_ble_eq_true rfl)) dL_law_113 ⟨room_c (by omega), room_s (by omega)⟩) hS (fun q _ h => h.elim (fun e => by rw [e]; exact g0) (fun e => by rw [e]; exact g1)) (fun q h => h.elim (fun e => by rw [e]; exact g0) (fun e => by rw [e]; exact g1)) (fun r113 u t9 H locs ht hvm hw hB hz9 hk hS => ?_)
  have hw : r113 = 1 := hw
  subst hw
  have hP9 : va_P D vwCl [(h0, .inr (0, [.ref h1, .int (nI (sz + 16))])), (h1, .inl (dB, 256, .inl (sp_put g sz v1 v2 v3 v4)))] t9.heap := hB
  rw [ht] at hP9
  have hW : wo D [(h0, .inr (0, [.ref h1, .int (nI (sz + 16))])), (h1, .inl (dB, 256, .inl (sp_put g sz v1 v2 v3 v4))), (t0, .inl (dT, 256, .inl f))] [(dB, .byte), (dT, .int)] s H := wo_app ⟨hP9, hW.2.sub (tys' := [(dB, .byte)]) [0] rfl⟩ (wo_kept1 (wo_sub hW [2] [1] rfl rfl) hk (fun q => q.elim (fun q => n02 q.symm) (fun q => n12 q.symm)))
  refine lv_if_ne (tgt := 121) hx hb dL_law_116 (by decide) (fun c116 => ?_) (fun c116 => ?_)
  · refine lv_iconst (v := 4) hx hb dL_law_121 (by decide) ?_
    have hD : va_D (fun q : Nat => s.heap.size ≤ q) [(h0, .inr (0, [.ref h1, .int (nI (sz + 16))])), (h1, .inl (dB, 256, .inl (sp_put g sz v1 v2 v3 v4))), (t0, .inl (dT, 256, .inl f))] := vd_3 g0 g1 g2 n01 n02 n12
    refine va_newa (atype := .int) (ty := .int) (a0 := (4, .inl (fun _ => 0))) (N' := 4) hx hb (hts _ q145) rfl hW.2 hW.1 hD hS (fun q h => h) (fun _ => rfl) (by decide) (by decide) (by decide) (room_c (by omega)) (room_s (by omega)) dL_law_122 (fun rw dR H hK hP hD hS => ?_)
    have hW : wo D ([(h0, .inr (0, [.ref h1, .int (nI (sz + 16))])), (h1, .inl (dB, 256, .inl (sp_put g sz v1 v2 v3 v4))), (t0, .inl (dT, 256, .inl f))] ++ [(rw, .inl (dR, 4, .inl (fun _ => 0)))]) ([(dB, .byte), (dT, .int)] ++ [(dR, .int)]) s H := ⟨hP, hK⟩
    have g3 : s.heap.size ≤ rw := hD.2 3 _ rfl
    have m0 : h0 ≠ rw := fun q => absurd (hD.1 0 3 _ _ rfl rfl q) (by decide)
    have m1 : h1 ≠ rw := fun q => absurd (hD.1 1 3 _ _ rfl rfl q) (by decide)
    have m2 : t0 ≠ rw := fun q => absurd (hD.1 2 3 _ _ rfl rfl q) (by decide)
    refine lv_dup hx hb dL_law_124 rfl ?_
    refine lv_iconst (v := 0) hx hb dL_law_125 (by decide) ?_
    refine lv_iload hx hb dL_law_126 (lv_at hl 5 rfl) ?_
    have hD : va_D (fun q : Nat => s.heap.size ≤ q) [(h0, .inr (0, [.ref h1, .int (nI (sz + 16))])), (h1, .inl (dB, 256, .inl (sp_put g sz v1 v2 v3 v4))), (t0, .inl (dT, 256, .inl f)), (rw, .inl (dR, 4, .inl (fun _ => 0)))] := vd_4 g0 g1 g2 g3 n01 n02 n12 m0 m1 m2
    have hW : wo D [(h0, .inr (0, [.ref h1, .int (nI (sz + 16))])), (h1, .inl (dB, 256, .inl (sp_put g sz v1 v2 v3 v4))), (t0, .inl (dT, 256, .inl f)), (rw, .inl (dR, 4, .inl (fun _ => 0)))] [(dB, .byte), (dT, .int), (dR, .int)] s H := hW
    refine mt_iast hx hb hW hD hS 3 2 rfl rfl 0 rfl (by decide) (by decide) dL_law_128 (fun H locs hW hD hS => ?_)
    refine lv_dup hx hb dL_law_129 rfl ?_
    refine lv_iconst (v := 1) hx hb dL_law_130 (by decide) ?_
    refine lv_iload hx hb dL_law_131 (lv_at hl 6 rfl) ?_
    have hD : va_D (fun q : Nat => s.heap.size ≤ q) [(h0, .inr (0, [.ref h1, .int (nI (sz + 16))])), (h1, .inl (dB, 256, .inl (sp_put g sz v1 v2 v3 v4))), (t0, .inl (dT, 256, .inl f)), (rw, .inl (dR, 4, .inl (upd (fun _ => 0) 0 v1)))] := vd_4 g0 g1 g2 g3 n01 n02 n12 m0 m1 m2
    have hW : wo D [(h0, .inr (0, [.ref h1, .int (nI (sz + 16))])), (h1, .inl (dB, 256, .inl (sp_put g sz v1 v2 v3 v4))), (t0, .inl (dT, 256, .inl f)), (rw, .inl (dR, 4, .inl (upd (fun _ => 0) 0 v1)))] [(dB, .byte), (dT, .int), (dR, .int)] s H := hW
    refine mt_iast hx hb hW hD hS 3 2 rfl rfl 1 rfl (by decide) (by decide) dL_law_133 (fun H locs hW hD hS => ?_)
    refine lv_dup hx hb dL_law_134 rfl ?_
    refine lv_iconst (v := 2) hx hb dL_law_135 (by decide) ?_
    refine lv_iload hx hb dL_law_136 (lv_at hl 7 rfl) ?_
    have hD : va_D (fun q : Nat => s.heap.size ≤ q) [(h0, .inr (0, [.ref h1, .int (nI (sz + 16))])), (h1, .inl (dB, 256, .inl (sp_put g sz v1 v2 v3 v4))), (t0, .inl (dT, 256, .inl f)), (rw, .inl (dR, 4, .inl (upd (upd (fun _ => 0) 0 v1) 1 v2)))] := vd_4 g0 g1 g2 g3 n01 n02 n12 m0 m1 m2
    have hW : wo D [(h0, .inr (0, [.ref h1, .int (nI (sz + 16))])), (h1, .inl (dB, 256, .inl (sp_put g sz v1 v2 v3 v4))), (t0, .inl (dT, 256, .inl f)), (rw, .inl (dR, 4, .inl (upd (upd (fun _ => 0) 0 v1) 1 v2)))] [(dB, .byte), (dT, .int), (dR, .int)] s H := hW
    refine mt_iast hx hb hW hD hS 3 2 rfl rfl 2 rfl (by decide) (by decide) dL_law_138 (fun H locs hW hD hS => ?_)
    refine lv_dup hx hb dL_law_139 rfl ?_
    refine lv_iconst (v := 3) hx hb dL_law_140 (by decide) ?_
    refine lv_iload hx hb dL_law_141 (lv_at hl 8 rfl) ?_
    have hD : va_D (fun q : Nat => s.heap.size ≤ q) [(h0, .inr (0, [.ref h1, .int (nI (sz + 16))])), (h1, .inl (dB, 256, .inl (sp_put g sz v1 v2 v3 v4))), (t0, .inl (dT, 256, .inl f)), (rw, .inl (dR, 4, .inl (upd (upd (upd (fun _ => 0) 0 v1) 1 v2) 2 v3)))] := vd_4 g0 g1 g2 g3 n01 n02 n12 m0 m1 m2
    have hW : wo D [(h0, .inr (0, [.ref h1, .int (nI (sz + 16))])), (h1, .inl (dB, 256, .inl (sp_put g sz v1 v2 v3 v4))), (t0, .inl (dT, 256, .inl f)), (rw, .inl (dR, 4, .inl (upd (upd (upd (fun _ => 0) 0 v1) 1 v2) 2 v3)))] [(dB, .byte), (dT, .int), (dR, .int)] s H := hW
    refine mt_iast hx hb hW hD hS 3 2 rfl rfl 3 rfl (by decide) (by decide) dL_law_143 (fun H locs hW hD hS => ?_)
    refine lv_astore (lv' := [(9, .ref rw), (0, .ref b), (1, .ref h0), (2, .ref t0), (3, .int (nI sz)), (4, .int (nI k)), (5, .int v1), (6, .int v2), (7, .int v3), (8, .int v4)]) hx hb dL_law_144 hl (by decide) rfl (fun ls hl => ?_)
    refine lv_iconst (v := 0) hx hb dL_law_146 (by decide) ?_
    refine mt_i (y := (nI 0)) (rfl) ?_
    refine lv_istore (lv' := [(10, .int (nI 0)), (9, .ref rw), (0, .ref b), (1, .ref h0), (2, .ref t0), (3, .int (nI sz)), (4, .int (nI k)), (5, .int v1), (6, .int v2), (7, .int v3), (8, .int v4)]) hx hb dL_law_147 hl (by decide) rfl (fun ls hl => ?_)
    have hW : wo D [(h0, .inr (0, [.ref h1, .int (nI (sz + 16))])), (h1, .inl (dB, 256, .inl (sp_put g sz v1 v2 v3 v4))), (t0, .inl (dT, 256, .inl f)), (rw, .inl (dR, 4, .inl (sp_row v1 v2 v3 v4)))] [(dB, .byte), (dT, .int), (dR, .int)] s H := hW
    have hf0 : (∀ j, j < sz + 0 → f j = (sp_put g sz v1 v2 v3 v4) j &&& 255) := fun j hj => by rw [sp_put_out (Or.inl (show j < sz from hj))]; exact hf j hj
    refine law_bytes C0 D h0 h1 t0 dB dT n01 n02 n12 g0 g1 g2 rw dR g sz v1 v2 v3 v4 (nI k) hz g3 m0 m1 m2 (by omega) (by omega) (fun f H locs ls hf hW hS hl => ?_) 16 0 rfl f H _ hf0 hW hS ls (lv_sub hl [2, 3, 4, 5, 6, 1, 0] rfl)
    exact law_turn2 hL hX hbl C0 D h0 h1 t0 dB dT n01 n02 n12 g0 g1 g2 g sz k v1 v2 v3 v4 hz hk12 kk f H locs hf (wo_sub hW [0, 1, 2] [0, 1] rfl rfl) hS ls (lv_sub hl [0, 1, 2, 3, 4] rfl)
  · exact absurd c116 (by decide)
end
section
/-! ===== the law's turns, the filling, the end ===== -/
set_option maxHeartbeats 4000000 in
set_option maxRecDepth 100000 in
/-- the law's turns: k are made -/
theorem law_loop {p : Program} {l : Launch} {e : Env} {s : State} {m : MethodId} {below : List Frame} {meth : Method} {c : Code} {Q : State → Prop} {b L : Nat} {xs : Nat → Int32} (hL : L ≤ 96) (hX : va_X b L xs s s.heap) (hbl : b < s.heap.size) (C : Cx p s m #[Value.ref b] meth c cL_law 12 ret R_law) (D : va_G) (h0 h1 t0 : Nat) (dB dT : ClassId) (n01 : h0 ≠ h1) (n02 : h0 ≠ t0) (n12 : h1 ≠ t0) (g0 : s.heap.size ≤ h0) (g1 : s.heap.size ≤ h1) (g2 : s.heap.size ≤ t0)
    (kk : ∀ (g f : Nat → Int32) (sz : Nat) (H : Heap) (locs : List Loc) (ls : Array Slot), sz ≤ 192 → (∀ j, j < sz → f j = g j &&& 255) → wo D [(h0, .inr (0, [.ref h1, .int (nI (sz))])), (h1, .inl (dB, 256, .inl g)), (t0, .inl (dT, 256, .inl f))] [(dB, .byte), (dT, .int)] s H → va_S (fun q : Nat => s.heap.size ≤ q) s.heap H locs → lv_has ls 12 [(0, .ref b), (1, .ref h0), (2, .ref t0), (3, .int (nI sz))] → W p l e room_1 s m #[Value.ref b] below meth c H locs 267 37642 Q (F0 m 281 ls [])) :
    ∀ (d k : Nat), k + d = 12 → ∀ (g f : Nat → Int32) (sz : Nat) (H : Heap) (locs : List Loc), sz ≤ 16 * k → (∀ j, j < sz → f j = g j &&& 255) → wo D [(h0, .inr (0, [.ref h1, .int (nI (sz))])), (h1, .inl (dB, 256, .inl g)), (t0, .inl (dT, 256, .inl f))] [(dB, .byte), (dT, .int)] s H → va_S (fun q : Nat => s.heap.size ≤ q) s.heap H locs → ∀ ls : Array Slot, lv_has ls 12 [(0, .ref b), (1, .ref h0), (2, .ref t0), (3, .int (nI sz)), (4, .int (nI k))] → W p l e room_1 s m #[Value.ref b] below meth c H locs (3 + 22 * k) (514 + 3094 * k) Q (F0 m 19 ls []) := by
  have C0 := C
  obtain ⟨hx, hb, hr, hlocks, hml, hown, hts⟩ := C
  intro d
  induction d with
  | zero =>
    intro k hk g f sz H locs hz hf hW hS ls hl
    refine lv_iload hx hb dL_law_19 (lv_at hl 4 rfl) ?_
    refine lv_bipush (v := 12) hx hb dL_law_21 (by decide) ?_
    refine mt_i (y := (nI 12)) (rfl) ?_
    refine lv_icmp_ge (tgt := 281) hx hb dL_law_23 (by decide) (fun c23 => ?_) (fun c23 => ?_)
    · refine W.widen (k := 267) (n := 37642) (by omega) (by omega) ?_
      exact kk g f sz H locs ls (by omega) hf hW hS (lv_sub hl [0, 1, 2, 3] rfl)
    · exact absurd (nI_le (by omega) (by omega)) c23
  | succ d ih =>
    intro k hk g f sz H locs hz hf hW hS ls hl
    refine lv_iload hx hb dL_law_19 (lv_at hl 4 rfl) ?_
    refine lv_bipush (v := 12) hx hb dL_law_21 (by decide) ?_
    refine mt_i (y := (nI 12)) (rfl) ?_
    refine lv_icmp_ge (tgt := 281) hx hb dL_law_23 (by decide) (fun c23 => ?_) (fun c23 => ?_)
    · exact absurd c23 (nI_ge (by omega) (by omega))
    · refine lv_aload_n hx hb dL_law_26 rfl (lv_at hl 0 rfl) ?_
      refine lv_bipush (v := 8) hx hb dL_law_27 (by decide) ?_
      refine lv_iload hx hb dL_law_29 (lv_at hl 4 rfl) ?_
      refine lv_imul hx hb dL_law_31 ?_
      refine mt_i (y := (nI (8 * k))) (pk_mul 8 k) ?_
      refine vp_callSi (va_runS (As := [.ref b, .int (nI (8 * k))]) (rest := []) ⟨hx, hb, hml, hown, hts⟩ (met_cell l b L xs (8 * k) hL (by omega)) (va_cwS 2 hts (lw_S q40 q41 q3 q42) rfl rfl rfl (by decide +kernel) ⟨Nat.le_of_ble_eq_true rfl, Nat.le_of_ble_eq_true rfl⟩) (pre_S mv_wX _ (law_X hX hbl hS)) rfl rfl hl.1 rfl (lv_room (Nat.le_of_ble_eq_true rfl)) dL_law_32 ⟨room_c (by omega), room_s (by omega)⟩).run (fun r32 hr32 => ?_)
      obtain rfl : r32 = (sp_cl L xs (8 * k)) := hr32
      refine lv_istore (lv' := [(5, .int (sp_cl L xs (8 * k))), (0, .ref b), (1, .ref h0), (2, .ref t0), (3, .int (nI sz)), (4, .int (nI k))]) hx hb dL_law_35 hl (by decide) rfl (fun ls hl => ?_)
      refine lv_aload_n hx hb dL_law_37 rfl (lv_at hl 1 rfl) ?_
      refine lv_bipush (v := 8) hx hb dL_law_38 (by decide) ?_
      refine lv_iload hx hb dL_law_40 (lv_at hl 5 rfl) ?_
      refine lv_imul hx hb dL_law_42 ?_
      refine mt_i (y := (nI (8 * k))) (pk_mul 8 k) ?_
      refine lv_iconst (v := 1) hx hb dL_law_43 (by decide) ?_
      refine lv_iadd hx hb dL_law_44 ?_
      refine mt_i (y := (nI (8 * k + 1))) (ix1 rfl 1 rfl) ?_
      refine vp_callSi (va_runS (As := [.ref b, .int (nI (8 * k + 1))]) (rest := []) ⟨hx, hb, hml, hown, hts⟩ (met_cell l b L xs (8 * k + 1) hL (by omega)) (va_cwS 2 hts (lw_S q40 q41 q3 q42) rfl rfl rfl (by decide +kernel) ⟨Nat.le_of_ble_eq_true rfl, Nat.le_of_ble_eq_true rfl⟩) (pre_S mv_wX _ (law_X hX hbl hS)) rfl rfl hl.1 rfl (lv_room (Nat.le_of_ble_eq_true rfl)) dL_law_45 ⟨room_c (by omega), room_s (by omega)⟩).run (fun r45 hr45 => ?_)
      obtain rfl : r45 = (sp_cl L xs (8 * k + 1)) := hr45
      refine lv_istore (lv' := [(6, .int (sp_cl L xs (8 * k + 1))), (5, .int (sp_cl L xs (8 * k))), (0, .ref b), (1, .ref h0), (2, .ref t0), (3, .int (nI sz)), (4, .int (nI k))]) hx hb dL_law_48 hl (by decide) rfl (fun ls hl => ?_)
      refine lv_aload_n hx hb dL_law_50 rfl (lv_at hl 2 rfl) ?_
      refine lv_bipush (v := 8) hx hb dL_law_51 (by decide) ?_
      refine lv_iload hx hb dL_law_53 (lv_at hl 6 rfl) ?_
      refine lv_imul hx hb dL_law_55 ?_
      refine mt_i (y := (nI (8 * k))) (pk_mul 8 k) ?_
      refine lv_iconst (v := 2) hx hb dL_law_56 (by decide) ?_
      refine lv_iadd hx hb dL_law_57 ?_
      refine mt_i (y := (nI (8 * k + 2))) (ix1 rfl 2 rfl) ?_
      refine vp_callSi (va_runS (As := [.ref b, .int (nI (8 * k + 2))]) (rest := []) ⟨hx, hb, hml, hown, hts⟩ (met_cell l b L xs (8 * k + 2) hL (by omega)) (va_cwS 2 hts (lw_S q40 q41 q3 q42) rfl rfl rfl (by decide +kernel) ⟨Nat.le_of_ble_eq_true rfl, Nat.le_of_ble_eq_true rfl⟩) (pre_S mv_wX _ (law_X hX hbl hS)) rfl rfl hl.1 rfl (lv_room (Nat.le_of_ble_eq_true rfl)) dL_law_58 ⟨room_c (by omega), room_s (by omega)⟩).run (fun r58 hr58 => ?_)
      obtain rfl : r58 = (sp_cl L xs (8 * k + 2)) := hr58
      refine lv_istore (lv' := [(7, .int (sp_cl L xs (8 * k + 2))), (6, .int (sp_cl L xs (8 * k + 1))), (5, .int (sp_cl L xs (8 * k))), (0, .ref b), (1, .ref h0), (2, .ref t0), (3, .int (nI sz)), (4, .int (nI k))]) hx hb dL_law_61 hl (by decide) rfl (fun ls hl => ?_)
      refine lv_aload_n hx hb dL_law_63 rfl (lv_at hl 3 rfl) ?_
      refine lv_bipush (v := 8) hx hb dL_law_64 (by decide) ?_
      refine lv_iload hx hb dL_law_66 (lv_at hl 7 rfl) ?_
      refine lv_imul hx hb dL_law_68 ?_
      refine mt_i (y := (nI (8 * k))) (pk_mul 8 k) ?_
      refine lv_iconst (v := 3) hx hb dL_law_69 (by decide) ?_
      refine lv_iadd hx hb dL_law_70 ?_
      refine mt_i (y := (nI (8 * k + 3))) (ix1 rfl 3 rfl) ?_
      refine vp_callSi (va_runS (As := [.ref b, .int (nI (8 * k + 3))]) (rest := []) ⟨hx, hb, hml, hown, hts⟩ (met_cell l b L xs (8 * k + 3) hL (by omega)) (va_cwS 2 hts (lw_S q40 q41 q3 q42) rfl rfl rfl (by decide +kernel) ⟨Nat.le_of_ble_eq_true rfl, Nat.le_of_ble_eq_true rfl⟩) (pre_S mv_wX _ (law_X hX hbl hS)) rfl rfl hl.1 rfl (lv_room (Nat.le_of_ble_eq_true rfl)) dL_law_71 ⟨room_c (by omega), room_s (by omega)⟩).run (fun r71 hr71 => ?_)
      obtain rfl : r71 = (sp_cl L xs (8 * k + 3)) := hr71
      refine lv_istore (lv' := [(8, .int (sp_cl L xs (8 * k + 3))), (7, .int (sp_cl L xs (8 * k + 2))), (6, .int (sp_cl L xs (8 * k + 1))), (5, .int (sp_cl L xs (8 * k))), (0, .ref b), (1, .ref h0), (2, .ref t0), (3, .int (nI sz)), (4, .int (nI k))]) hx hb dL_law_74 hl (by decide) rfl (fun ls hl => ?_)
      refine lv_iload hx hb dL_law_76 (lv_at hl 8 rfl) ?_
      refine lv_iconst (v := 4) hx hb dL_law_78 (by decide) ?_
      refine mt_i (y := (nI 4)) (rfl) ?_
      refine lv_irem hx hb dL_law_79 (sp_ne0 (by decide) (by decide)) ?_
      refine mt_i (y := (nI (k % 4))) (pk_rem (by omega) (by decide) (by decide)) ?_
      refine lv_iconst (v := 3) hx hb dL_law_80 (by decide) ?_
      refine lv_icmp_ne (tgt := 104) hx hb dL_law_81 (by decide) (fun c81 => ?_) (fun c81 => ?_)
      · exact law_turn hL hX hbl C0 D h0 h1 t0 dB dT n01 n02 n12 g0 g1 g2 g sz k (sp_cl L xs (8 * k)) (sp_cl L xs (8 * k + 1)) (sp_cl L xs (8 * k + 2)) (sp_cl L xs (8 * k + 3)) (by omega) (by omega) (fun f H locs ls hf hW hS hl => ih (k + 1) (by omega) (sp_put g sz (sp_cl L xs (8 * k)) (sp_cl L xs (8 * k + 1)) (sp_cl L xs (8 * k + 2)) (sp_cl L xs (8 * k + 3))) f (sz + 16) H locs (by omega) hf hW hS ls hl) f H _ hf hW hS ls (lv_sub hl [4, 5, 6, 7, 8, 3, 2, 1, 0] rfl)
      · refine lv_iload hx hb dL_law_84 (lv_at hl 3 rfl) ?_
        refine lv_iconst (v := 1) hx hb dL_law_86 (by decide) ?_
        refine lv_iand hx hb dL_law_87 ?_
        refine lv_if_ne (tgt := 104) hx hb dL_law_88 (by decide) (fun c88 => ?_) (fun c88 => ?_)
        · exact law_turn hL hX hbl C0 D h0 h1 t0 dB dT n01 n02 n12 g0 g1 g2 g sz k (sp_cl L xs (8 * k)) (sp_cl L xs (8 * k + 1)) (sp_cl L xs (8 * k + 2)) (sp_cl L xs (8 * k + 3)) (by omega) (by omega) (fun f H locs ls hf hW hS hl => ih (k + 1) (by omega) (sp_put g sz (sp_cl L xs (8 * k)) (sp_cl L xs (8 * k + 1)) (sp_cl L xs (8 * k + 2)) (sp_cl L xs (8 * k + 3))) f (sz + 16) H locs (by omega) hf hW hS ls hl) f H _ hf hW hS ls (lv_sub hl [4, 5, 6, 7, 8, 3, 2, 1, 0] rfl)
        · have hle := sp_at_le (sp_cl L xs (8 * k)) sz
          refine lv_aload_n hx hb dL_law_91 rfl (lv_at hl 5 rfl) ?_
          refine lv_iload hx hb dL_law_92 (lv_at hl 3 rfl) ?_
          refine va_callv (va_runV (As := [.int (sp_cl L xs (8 * k))]) (rest := []) ⟨hx, hb, hml, hown, hts⟩ (met_trim l D h0 h1 sz (sp_cl L xs (8 * k)) (by omega)) (cwV 1 hts (lw_V q31 q32 q33 q4 q34) rfl rfl rfl (by decide +kernel) ⟨Nat.le_of_ble_eq_true rfl, Nat.le_of_ble_eq_true rfl⟩) (pre_V mv_wo _ (wo_sub hW [0] [] rfl rfl) hW 0 rfl) rfl rfl hl.1 rfl (lv_room (Nat.le_of_ble_eq_true rfl)) dL_law_94 ⟨room_c (by omega), room_s (by omega)⟩) hS (fun q _ h => by rw [show q = h0 from h]; exact g0) (fun q h => by rw [show q = h0 from h]; exact g0) (fun u t9 H locs ht hvm hw hB hz9 hkp hS => ?_)
          have hP9 : va_P D vwCl [(h0, .inr (0, [.ref h1, .int (nI (sp_at (sp_cl L xs (8 * k)) sz))]))] t9.heap := hB
          rw [ht] at hP9
          have hW : wo D [(h0, .inr (0, [.ref h1, .int (nI ((sp_at (sp_cl L xs (8 * k)) sz)))])), (h1, .inl (dB, 256, .inl g)), (t0, .inl (dT, 256, .inl f))] [(dB, .byte), (dT, .int)] s H := wo_app ⟨hP9, hW.2.sub (tys' := []) [] rfl⟩ (wo_app (wo_kept1 (wo_sub hW [1] [0] rfl rfl) hkp (fun q => n01 (Eq.symm q))) (wo_kept1 (wo_sub hW [2] [1] rfl rfl) hkp (fun q => n02 (Eq.symm q))))
          refine lv_iload hx hb dL_law_97 (lv_at hl 3 rfl) ?_
          refine lv_iload_n hx hb dL_law_99 rfl (lv_at hl 7 rfl) ?_
          refine vp_callSi (va_runS (As := [.int (sp_cl L xs (8 * k)), .int (nI sz)]) (rest := []) ⟨hx, hb, hml, hown, hts⟩ (met_lfrom l (sp_cl L xs (8 * k)) sz (by omega)) (va_cwS 2 hts (lw_S q46 q47 q3 q48) rfl rfl rfl (by decide +kernel) ⟨Nat.le_of_ble_eq_true rfl, Nat.le_of_ble_eq_true rfl⟩) (pre_S mv_T _ trivial) rfl rfl hl.1 rfl (lv_room (Nat.le_of_ble_eq_true rfl)) dL_law_100 ⟨room_c (by omega), room_s (by omega)⟩).run (fun r100 hr100 => ?_)
          obtain rfl : r100 = (nI (sp_at (sp_cl L xs (8 * k)) sz)) := hr100
          refine lv_istore_n (lv' := [(3, .int (nI (sp_at (sp_cl L xs (8 * k)) sz))), (8, .int (sp_cl L xs (8 * k + 3))), (7, .int (sp_cl L xs (8 * k + 2))), (6, .int (sp_cl L xs (8 * k + 1))), (5, .int (sp_cl L xs (8 * k))), (0, .ref b), (1, .ref h0), (2, .ref t0), (4, .int (nI k))]) hx hb dL_law_103 rfl hl (by decide) rfl (fun ls hl => ?_)
          exact law_turn hL hX hbl C0 D h0 h1 t0 dB dT n01 n02 n12 g0 g1 g2 g (sp_at (sp_cl L xs (8 * k)) sz) k (sp_cl L xs (8 * k)) (sp_cl L xs (8 * k + 1)) (sp_cl L xs (8 * k + 2)) (sp_cl L xs (8 * k + 3)) (by omega) (by omega) (fun f H locs ls hf hW hS hl => ih (k + 1) (by omega) (sp_put g (sp_at (sp_cl L xs (8 * k)) sz) (sp_cl L xs (8 * k)) (sp_cl L xs (8 * k + 1)) (sp_cl L xs (8 * k + 2)) (sp_cl L xs (8 * k + 3))) f ((sp_at (sp_cl L xs (8 * k)) sz) + 16) H locs (by omega) hf hW hS ls hl) f H _ (fun j hj => hf j (by omega)) hW hS ls (lv_sub hl [5, 6, 7, 0, 8, 4, 3, 2, 1] rfl)
set_option maxHeartbeats 4000000 in
set_option maxRecDepth 100000 in
/-- the text is filled up -/
theorem law_fill {p : Program} {l : Launch} {e : Env} {s : State} {m : MethodId} {below : List Frame} {meth : Method} {c : Code} {Q : State → Prop} {b L : Nat} {xs : Nat → Int32} (hL : L ≤ 96) (hX : va_X b L xs s s.heap) (hbl : b < s.heap.size) (C : Cx p s m #[Value.ref b] meth c cL_law 12 ret R_law) (D : va_G) (h0 h1 t0 : Nat) (dB dT : ClassId) (n01 : h0 ≠ h1) (n02 : h0 ≠ t0) (n12 : h1 ≠ t0) (g0 : s.heap.size ≤ h0) (g1 : s.heap.size ≤ h1) (g2 : s.heap.size ≤ t0)
    (kk : ∀ (g f : Nat → Int32) (sz : Nat) (H : Heap) (locs : List Loc) (ls : Array Slot), 240 < sz → sz ≤ 256 → (∀ j, j < sz → f j = g j &&& 255) → wo D [(h0, .inr (0, [.ref h1, .int (nI (sz))])), (h1, .inl (dB, 256, .inl g)), (t0, .inl (dT, 256, .inl f))] [(dB, .byte), (dT, .int)] s H → va_S (fun q : Nat => s.heap.size ≤ q) s.heap H locs → lv_has ls 12 [(0, .ref b), (1, .ref h0), (2, .ref t0), (3, .int (nI sz))] → W p l e room_1 s m #[Value.ref b] below meth c H locs 283 37706 Q (F0 m 380 ls [])) :
    ∀ (d n : Nat), n + d = 16 → ∀ (g f : Nat → Int32) (sz : Nat) (H : Heap) (locs : List Loc), 241 ≤ sz + 16 * d → sz ≤ 256 → (∀ j, j < sz → f j = g j &&& 255) → wo D [(h0, .inr (0, [.ref h1, .int (nI (sz))])), (h1, .inl (dB, 256, .inl g)), (t0, .inl (dT, 256, .inl f))] [(dB, .byte), (dT, .int)] s H → va_S (fun q : Nat => s.heap.size ≤ q) s.heap H locs → ∀ ls : Array Slot, lv_has ls 12 [(0, .ref b), (1, .ref h0), (2, .ref t0), (3, .int (nI sz))] → W p l e room_1 s m #[Value.ref b] below meth c H locs (267 + n) (37642 + 4 * n) Q (F0 m 281 ls []) := by
  have C0 := C
  obtain ⟨hx, hb, hr, hlocks, hml, hown, hts⟩ := C
  intro d
  induction d with
  | zero =>
    intro n hn g f sz H locs hd hz hf hW hS ls hl
    refine lv_iload_n hx hb dL_law_281 rfl (lv_at hl 3 rfl) ?_
    refine lv_sipush (v := 240) hx hb dL_law_282 (by decide) ?_
    refine mt_i (y := (nI 240)) (rfl) ?_
    refine lv_icmp_gt (tgt := 380) hx hb dL_law_285 (by decide) (fun c285 => ?_) (fun c285 => ?_)
    · refine W.widen (k := 283) (n := 37706) (by omega) (by omega) ?_
      exact kk g f sz H locs ls (by omega) hz hf hW hS (lv_sub hl [0, 1, 2, 3] rfl)
    · exact absurd (nI_lt (show 240 < sz by omega) (by omega)) c285
  | succ d ih =>
    intro n hn g f sz H locs hd hz hf hW hS ls hl
    refine lv_iload_n hx hb dL_law_281 rfl (lv_at hl 3 rfl) ?_
    refine lv_sipush (v := 240) hx hb dL_law_282 (by decide) ?_
    refine mt_i (y := (nI 240)) (rfl) ?_
    refine lv_icmp_gt (tgt := 380) hx hb dL_law_285 (by decide) (fun c285 => ?_) (fun c285 => ?_)
    · have hgt : 240 < sz := Nat.lt_of_not_le (fun q => nI_nlt q (by omega) c285)
      refine W.widen (k := 283) (n := 37706) (by omega) (by omega) ?_
      exact kk g f sz H locs ls (by omega) hz hf hW hS (lv_sub hl [0, 1, 2, 3] rfl)
    · have hle : sz ≤ 240 := Nat.le_of_not_lt (fun q => c285 (nI_lt q (by omega)))
      refine lv_aload_n hx hb dL_law_288 rfl (lv_at hl 1 rfl) ?_
      refine lv_iload_n hx hb dL_law_289 rfl (lv_at hl 3 rfl) ?_
      refine lv_iconst (v := (-1)) hx hb dL_law_290 (by decide) ?_
      refine lv_aload_n hx hb dL_law_291 rfl (lv_at hl 0 rfl) ?_
      refine lv_iload_n hx hb dL_law_292 rfl (lv_at hl 3 rfl) ?_
      refine lv_bipush (v := 96) hx hb dL_law_293 (by decide) ?_
      refine mt_i (y := (nI 96)) (rfl) ?_
      refine lv_irem hx hb dL_law_295 (sp_ne0 (by decide) (by decide)) ?_
      refine mt_i (y := (nI (sz % 96))) (pk_rem (by omega) (by decide) (by decide)) ?_
      refine vp_callSi (va_runS (As := [.ref b, .int (nI (sz % 96))]) (rest := [.int (-1), .int (nI sz), .ref h0]) ⟨hx, hb, hml, hown, hts⟩ (met_cell l b L xs (sz % 96) hL (by omega)) (va_cwS 2 hts (lw_S q40 q41 q3 q42) rfl rfl rfl (by decide +kernel) ⟨Nat.le_of_ble_eq_true rfl, Nat.le_of_ble_eq_true rfl⟩) (pre_S mv_wX _ (law_X hX hbl hS)) rfl rfl hl.1 rfl (lv_room (Nat.le_of_ble_eq_true rfl)) dL_law_296 ⟨room_c (by omega), room_s (by omega)⟩).run (fun r296 hr296 => ?_)
      obtain rfl : r296 = (sp_cl L xs (sz % 96)) := hr296
      refine lv_iload_n hx hb dL_law_299 rfl (lv_at hl 3 rfl) ?_
      refine lv_ineg hx hb dL_law_300 ?_
      refine va_calli (va_runV (As := [.int (nI sz), .int (-1), .int (sp_cl L xs (sz % 96)), .int (-(nI sz))]) (rest := []) ⟨hx, hb, hml, hown, hts⟩ (met_put l D h0 h1 dB g sz (nI sz) (-1) (sp_cl L xs (sz % 96)) (-(nI sz)) n01 (by omega)) (cwV 4 hts (lw_V q24 q25 q26 q4 q27) rfl rfl rfl (by decide +kernel) ⟨Nat.le_of_ble_eq_true rfl, Nat.le_of_ble_eq_true rfl⟩) (pre_V mv_wo _ (wo_sub hW [0, 1] [0] rfl rfl) hW 0 rfl) rfl rfl hl.1 rfl (lv_room (Nat.le_of_ble_eq_true rfl)) dL_law_301 ⟨room_c (by omega), room_s (by omega)⟩) hS (fun q _ h => h.elim (fun e => by rw [e]; exact g0) (fun e => by rw [e]; exact g1)) (fun q h => h.elim (fun e => by rw [e]; exact g0) (fun e => by rw [e]; exact g1)) (fun r301 u t9 H locs ht hvm hw hB hz9 hk hS => ?_)
      have hw : r301 = 1 := hw
      subst hw
      have hP9 : va_P D vwCl [(h0, .inr (0, [.ref h1, .int (nI (sz + 16))])), (h1, .inl (dB, 256, .inl (sp_put g sz (nI sz) (-1) (sp_cl L xs (sz % 96)) (-(nI sz)))))] t9.heap := hB
      rw [ht] at hP9
      have hW : wo D [(h0, .inr (0, [.ref h1, .int (nI (sz + 16))])), (h1, .inl (dB, 256, .inl (sp_put g sz (nI sz) (-1) (sp_cl L xs (sz % 96)) (-(nI sz))))), (t0, .inl (dT, 256, .inl f))] [(dB, .byte), (dT, .int)] s H := wo_app ⟨hP9, hW.2.sub (tys' := [(dB, .byte)]) [0] rfl⟩ (wo_kept1 (wo_sub hW [2] [1] rfl rfl) hk (fun q => q.elim (fun q => n02 q.symm) (fun q => n12 q.symm)))
      refine lv_if_ne (tgt := 309) hx hb dL_law_304 (by decide) (fun c304 => ?_) (fun c304 => ?_)
      · refine lv_iconst (v := 4) hx hb dL_law_309 (by decide) ?_
        have hD : va_D (fun q : Nat => s.heap.size ≤ q) [(h0, .inr (0, [.ref h1, .int (nI (sz + 16))])), (h1, .inl (dB, 256, .inl (sp_put g sz (nI sz) (-1) (sp_cl L xs (sz % 96)) (-(nI sz))))), (t0, .inl (dT, 256, .inl f))] := vd_3 g0 g1 g2 n01 n02 n12
        refine va_newa (atype := .int) (ty := .int) (a0 := (4, .inl (fun _ => 0))) (N' := 4) hx hb (hts _ q145) rfl hW.2 hW.1 hD hS (fun q h => h) (fun _ => rfl) (by decide) (by decide) (by decide) (room_c (by omega)) (room_s (by omega)) dL_law_310 (fun rw dR H hK hP hD hS => ?_)
        have hW : wo D ([(h0, .inr (0, [.ref h1, .int (nI (sz + 16))])), (h1, .inl (dB, 256, .inl (sp_put g sz (nI sz) (-1) (sp_cl L xs (sz % 96)) (-(nI sz))))), (t0, .inl (dT, 256, .inl f))] ++ [(rw, .inl (dR, 4, .inl (fun _ => 0)))]) ([(dB, .byte), (dT, .int)] ++ [(dR, .int)]) s H := ⟨hP, hK⟩
        have g3 : s.heap.size ≤ rw := hD.2 3 _ rfl
        have m0 : h0 ≠ rw := fun q => absurd (hD.1 0 3 _ _ rfl rfl q) (by decide)
        have m1 : h1 ≠ rw := fun q => absurd (hD.1 1 3 _ _ rfl rfl q) (by decide)
        have m2 : t0 ≠ rw := fun q => absurd (hD.1 2 3 _ _ rfl rfl q) (by decide)
        refine lv_dup hx hb dL_law_312 rfl ?_
        refine lv_iconst (v := 0) hx hb dL_law_313 (by decide) ?_
        refine lv_iload_n hx hb dL_law_314 rfl (lv_at hl 3 rfl) ?_
        have hD : va_D (fun q : Nat => s.heap.size ≤ q) [(h0, .inr (0, [.ref h1, .int (nI (sz + 16))])), (h1, .inl (dB, 256, .inl (sp_put g sz (nI sz) (-1) (sp_cl L xs (sz % 96)) (-(nI sz))))), (t0, .inl (dT, 256, .inl f)), (rw, .inl (dR, 4, .inl (fun _ => 0)))] := vd_4 g0 g1 g2 g3 n01 n02 n12 m0 m1 m2
        have hW : wo D [(h0, .inr (0, [.ref h1, .int (nI (sz + 16))])), (h1, .inl (dB, 256, .inl (sp_put g sz (nI sz) (-1) (sp_cl L xs (sz % 96)) (-(nI sz))))), (t0, .inl (dT, 256, .inl f)), (rw, .inl (dR, 4, .inl (fun _ => 0)))] [(dB, .byte), (dT, .int), (dR, .int)] s H := hW
        refine mt_iast hx hb hW hD hS 3 2 rfl rfl 0 rfl (by decide) (by decide) dL_law_315 (fun H locs hW hD hS => ?_)
        refine lv_dup hx hb dL_law_316 rfl ?_
        refine lv_iconst (v := 1) hx hb dL_law_317 (by decide) ?_
        refine lv_iconst (v := (-1)) hx hb dL_law_318 (by decide) ?_
        have hD : va_D (fun q : Nat => s.heap.size ≤ q) [(h0, .inr (0, [.ref h1, .int (nI (sz + 16))])), (h1, .inl (dB, 256, .inl (sp_put g sz (nI sz) (-1) (sp_cl L xs (sz % 96)) (-(nI sz))))), (t0, .inl (dT, 256, .inl f)), (rw, .inl (dR, 4, .inl (upd (fun _ => 0) 0 (nI sz))))] := vd_4 g0 g1 g2 g3 n01 n02 n12 m0 m1 m2
        have hW : wo D [(h0, .inr (0, [.ref h1, .int (nI (sz + 16))])), (h1, .inl (dB, 256, .inl (sp_put g sz (nI sz) (-1) (sp_cl L xs (sz % 96)) (-(nI sz))))), (t0, .inl (dT, 256, .inl f)), (rw, .inl (dR, 4, .inl (upd (fun _ => 0) 0 (nI sz))))] [(dB, .byte), (dT, .int), (dR, .int)] s H := hW
        refine mt_iast hx hb hW hD hS 3 2 rfl rfl 1 rfl (by decide) (by decide) dL_law_319 (fun H locs hW hD hS => ?_)
        refine lv_dup hx hb dL_law_320 rfl ?_
        refine lv_iconst (v := 2) hx hb dL_law_321 (by decide) ?_
        refine lv_aload_n hx hb dL_law_322 rfl (lv_at hl 0 rfl) ?_
        refine lv_iload_n hx hb dL_law_323 rfl (lv_at hl 3 rfl) ?_
        refine lv_bipush (v := 96) hx hb dL_law_324 (by decide) ?_
        refine mt_i (y := (nI 96)) (rfl) ?_
        refine lv_irem hx hb dL_law_326 (sp_ne0 (by decide) (by decide)) ?_
        refine mt_i (y := (nI (sz % 96))) (pk_rem (by omega) (by decide) (by decide)) ?_
        refine vp_callSi (va_runS (As := [.ref b, .int (nI (sz % 96))]) (rest := [.int 2, .ref rw, .ref rw]) ⟨hx, hb, hml, hown, hts⟩ (met_cell l b L xs (sz % 96) hL (by omega)) (va_cwS 2 hts (lw_S q40 q41 q3 q42) rfl rfl rfl (by decide +kernel) ⟨Nat.le_of_ble_eq_true rfl, Nat.le_of_ble_eq_true rfl⟩) (pre_S mv_wX _ (law_X hX hbl hS)) rfl rfl hl.1 rfl (lv_room (Nat.le_of_ble_eq_true rfl)) dL_law_327 ⟨room_c (by omega), room_s (by omega)⟩).run (fun r327 hr327 => ?_)
        obtain rfl : r327 = (sp_cl L xs (sz % 96)) := hr327
        have hD : va_D (fun q : Nat => s.heap.size ≤ q) [(h0, .inr (0, [.ref h1, .int (nI (sz + 16))])), (h1, .inl (dB, 256, .inl (sp_put g sz (nI sz) (-1) (sp_cl L xs (sz % 96)) (-(nI sz))))), (t0, .inl (dT, 256, .inl f)), (rw, .inl (dR, 4, .inl (upd (upd (fun _ => 0) 0 (nI sz)) 1 (-1))))] := vd_4 g0 g1 g2 g3 n01 n02 n12 m0 m1 m2
        have hW : wo D [(h0, .inr (0, [.ref h1, .int (nI (sz + 16))])), (h1, .inl (dB, 256, .inl (sp_put g sz (nI sz) (-1) (sp_cl L xs (sz % 96)) (-(nI sz))))), (t0, .inl (dT, 256, .inl f)), (rw, .inl (dR, 4, .inl (upd (upd (fun _ => 0) 0 (nI sz)) 1 (-1))))] [(dB, .byte), (dT, .int), (dR, .int)] s H := hW
        refine mt_iast hx hb hW hD hS 3 2 rfl rfl 2 rfl (by decide) (by decide) dL_law_330 (fun H locs hW hD hS => ?_)
        refine lv_dup hx hb dL_law_331 rfl ?_
        refine lv_iconst (v := 3) hx hb dL_law_332 (by decide) ?_
        refine lv_iload_n hx hb dL_law_333 rfl (lv_at hl 3 rfl) ?_
        refine lv_ineg hx hb dL_law_334 ?_
        have hD : va_D (fun q : Nat => s.heap.size ≤ q) [(h0, .inr (0, [.ref h1, .int (nI (sz + 16))])), (h1, .inl (dB, 256, .inl (sp_put g sz (nI sz) (-1) (sp_cl L xs (sz % 96)) (-(nI sz))))), (t0, .inl (dT, 256, .inl f)), (rw, .inl (dR, 4, .inl (upd (upd (upd (fun _ => 0) 0 (nI sz)) 1 (-1)) 2 (sp_cl L xs (sz % 96)))))] := vd_4 g0 g1 g2 g3 n01 n02 n12 m0 m1 m2
        have hW : wo D [(h0, .inr (0, [.ref h1, .int (nI (sz + 16))])), (h1, .inl (dB, 256, .inl (sp_put g sz (nI sz) (-1) (sp_cl L xs (sz % 96)) (-(nI sz))))), (t0, .inl (dT, 256, .inl f)), (rw, .inl (dR, 4, .inl (upd (upd (upd (fun _ => 0) 0 (nI sz)) 1 (-1)) 2 (sp_cl L xs (sz % 96)))))] [(dB, .byte), (dT, .int), (dR, .int)] s H := hW
        refine mt_iast hx hb hW hD hS 3 2 rfl rfl 3 rfl (by decide) (by decide) dL_law_335 (fun H locs hW hD hS => ?_)
        refine lv_astore (lv' := [(4, .ref rw), (0, .ref b), (1, .ref h0), (2, .ref t0), (3, .int (nI sz))]) hx hb dL_law_336 hl (by decide) rfl (fun ls hl => ?_)
        refine lv_iconst (v := 0) hx hb dL_law_338 (by decide) ?_
        refine mt_i (y := (nI 0)) (rfl) ?_
        refine lv_istore (lv' := [(5, .int (nI 0)), (4, .ref rw), (0, .ref b), (1, .ref h0), (2, .ref t0), (3, .int (nI sz))]) hx hb dL_law_339 hl (by decide) rfl (fun ls hl => ?_)
        have hW : wo D [(h0, .inr (0, [.ref h1, .int (nI (sz + 16))])), (h1, .inl (dB, 256, .inl (sp_put g sz (nI sz) (-1) (sp_cl L xs (sz % 96)) (-(nI sz))))), (t0, .inl (dT, 256, .inl f)), (rw, .inl (dR, 4, .inl (sp_row (nI sz) (-1) (sp_cl L xs (sz % 96)) (-(nI sz)))))] [(dB, .byte), (dT, .int), (dR, .int)] s H := hW
        have hf0 : (∀ j, j < sz + 0 → f j = (sp_put g sz (nI sz) (-1) (sp_cl L xs (sz % 96)) (-(nI sz))) j &&& 255) := fun j hj => by rw [sp_put_out (Or.inl (show j < sz from hj))]; exact hf j hj
        refine law_fbytes C0 D h0 h1 t0 dB dT n01 n02 n12 g0 g1 g2 rw dR g sz (nI sz) (-1) (sp_cl L xs (sz % 96)) (-(nI sz)) hle g3 m0 m1 m2 (by omega) (by omega) (fun f H locs ls hf hW hS hl => ?_) 16 0 rfl f H _ hf0 hW hS ls (lv_sub hl [2, 3, 4, 5, 1, 0] rfl)
        have hW := wo_sub (ws' := [(h0, .inr (0, [.ref h1, .int (nI (sz + 16))])), (h1, .inl (dB, 256, .inl (sp_put g sz (nI sz) (-1) (sp_cl L xs (sz % 96)) (-(nI sz))))), (t0, .inl (dT, 256, .inl f))]) (tys' := [(dB, .byte), (dT, .int)]) hW [0, 1, 2] [0, 1] rfl rfl
        refine lv_iinc (v := (nI (sz + 16))) (lv' := [(3, .int (nI (sz + 16))), (0, .ref b), (1, .ref h0), (2, .ref t0), (4, .ref rw)]) hx hb dL_law_374 hl (k := 3) rfl (by rw [show Int32.ofInt 16 = nI 16 from rfl, nI_add]) (by decide) rfl (fun ls hl => ?_)
        refine lv_goto (tgt := 281) hx hb dL_law_377 (by decide) ?_
        refine W.widen (k := 267 + (n + 1)) (n := 37642 + 4 * (n + 1)) (by omega) (by omega) ?_
        exact ih (n + 1) (by omega) (sp_put g sz (nI sz) (-1) (sp_cl L xs (sz % 96)) (-(nI sz))) f (sz + 16) H locs (by omega) (by omega) hf hW hS ls (lv_sub hl [1, 2, 3, 0] rfl)
      · exact absurd c304 (by decide)
set_option maxHeartbeats 4000000 in
set_option maxRecDepth 100000 in
/-- the end of the law -/
theorem law_end {p : Program} {l : Launch} {e : Env} {s : State} {m : MethodId} {below : List Frame} {meth : Method} {c : Code} {b L : Nat} {xs : Nat → Int32} (hL : L ≤ 96) (hX : va_X b L xs s s.heap) (hbl : b < s.heap.size) (C : Cx p s m #[Value.ref b] meth c cL_law 12 ret R_law) (D : va_G) (h0 h1 t0 : Nat) (dB dT : ClassId) (n01 : h0 ≠ h1) (n02 : h0 ≠ t0) (n12 : h1 ≠ t0) (g0 : s.heap.size ≤ h0) (g1 : s.heap.size ≤ h1) (g2 : s.heap.size ≤ t0) (g f : Nat → Int32) (sz : Nat) (hz1 : 240 < sz) (hz2 : sz ≤ 256) :
    ∀ (H : Heap) (locs : List Loc), (∀ j, j < sz → f j = g j &&& 255) → wo D [(h0, .inr (0, [.ref h1, .int (nI (sz))])), (h1, .inl (dB, 256, .inl g)), (t0, .inl (dT, 256, .inl f))] [(dB, .byte), (dT, .int)] s H → va_S (fun q : Nat => s.heap.size ≤ q) s.heap H locs → ∀ ls : Array Slot, lv_has ls 12 [(0, .ref b), (1, .ref h0), (2, .ref t0), (3, .int (nI sz))] → W p l e room_1 s m #[Value.ref b] below meth c H locs 283 37706 (lw_Z below #[Value.ref b] s) (F0 m 380 ls []) := by
  intro H locs hf hW hS ls hl
  obtain ⟨hx, hb, hr, hlocks, hml, hown, hts⟩ := C
  refine lv_aload_n hx hb dL_law_380 rfl (lv_at hl 1 rfl) ?_
  refine lv_iconst (v := 1) hx hb dL_law_381 (by decide) ?_
  refine lv_iconst (v := 2) hx hb dL_law_382 (by decide) ?_
  refine lv_iconst (v := 3) hx hb dL_law_383 (by decide) ?_
  refine lv_iconst (v := 4) hx hb dL_law_384 (by decide) ?_
  refine vp_callSi (va_runV (As := [.int 1, .int 2, .int 3, .int 4]) (rest := []) ⟨hx, hb, hml, hown, hts⟩ (met_put_no l D h0 h1 dB g sz 1 2 3 4 hz2 hz1) (cwV 4 hts (lw_V q24 q25 q26 q4 q27) rfl rfl rfl (by decide +kernel) ⟨Nat.le_of_ble_eq_true rfl, Nat.le_of_ble_eq_true rfl⟩) (pre_V mv_wo _ (wo_sub hW [0, 1] [0] rfl rfl) hW 0 rfl) rfl rfl hl.1 rfl (lv_room (Nat.le_of_ble_eq_true rfl)) dL_law_385 ⟨room_c (by omega), room_s (by omega)⟩).run (fun r385 hr385 => ?_)
  obtain rfl : r385 = 0 := hr385
  refine lv_if_ne (tgt := 417) hx hb dL_law_388 (by decide) (fun c388 => ?_) (fun c388 => ?_)
  · exact absurd rfl c388
  · refine lv_aload_n hx hb dL_law_391 rfl (lv_at hl 1 rfl) ?_
    refine lv_aload_n hx hb dL_law_392 rfl (lv_at hl 2 rfl) ?_
    refine lv_iload_n hx hb dL_law_393 rfl (lv_at hl 3 rfl) ?_
    refine lv_iconst (v := 0) hx hb dL_law_394 (by decide) ?_
    refine lv_iload_n hx hb dL_law_395 rfl (lv_at hl 3 rfl) ?_
    refine lv_aload_n hx hb dL_law_396 rfl (lv_at hl 0 rfl) ?_
    refine lv_iconst (v := 1) hx hb dL_law_397 (by decide) ?_
    refine mt_i (y := (nI 1)) (rfl) ?_
    refine vp_callSi (va_runS (As := [.ref b, .int (nI 1)]) (rest := [.int (nI sz), .int 0, .int (nI sz), .ref t0, .ref h0]) ⟨hx, hb, hml, hown, hts⟩ (met_cell l b L xs (1) hL (by omega)) (va_cwS 2 hts (lw_S q40 q41 q3 q42) rfl rfl rfl (by decide +kernel) ⟨Nat.le_of_ble_eq_true rfl, Nat.le_of_ble_eq_true rfl⟩) (pre_S mv_wX _ (law_X hX hbl hS)) rfl rfl hl.1 rfl (lv_room (Nat.le_of_ble_eq_true rfl)) dL_law_398 ⟨room_c (by omega), room_s (by omega)⟩).run (fun r398 hr398 => ?_)
    obtain rfl : r398 = (sp_cl L xs (1)) := hr398
    refine va_calli (va_runS (As := [.ref h0, .ref t0, .int (nI sz), .int 0, .int (nI sz), .int (sp_cl L xs (1))]) (rest := []) ⟨hx, hb, hml, hown, hts⟩ (met_sums l D h0 h1 dB g (sz) (by omega) t0 dT f hf 0 (nI sz) (sp_cl L xs 1) H.size) (va_cwS 6 hts (lw_S q50 q51 q3 q52) rfl rfl rfl (by decide +kernel) ⟨Nat.le_of_ble_eq_true rfl, Nat.le_of_ble_eq_true rfl⟩) (pre_S mv_wz _ (wo_z hW)) rfl rfl hl.1 rfl (lv_room (Nat.le_of_ble_eq_true rfl)) dL_law_401 ⟨room_c (by omega), room_s (by omega)⟩) hS (fun q _ h => Nat.le_trans hS.1 h) (fun q h => Nat.le_trans hS.1 h) (fun r401 u t9 H2 locs ht hvm hw hB hz9 hk hS => ?_)
    have hw : r401 = 1 := hw
    subst hw
    have hW : wo D [(h0, .inr (0, [.ref h1, .int (nI (sz))])), (h1, .inl (dB, 256, .inl g)), (t0, .inl (dT, 256, .inl f))] [(dB, .byte), (dT, .int)] s H2 := wo_keptN hW hk
    generalize H2 = H at hW hS ⊢
    refine lv_if_eq (tgt := 417) hx hb dL_law_404 (by decide) (fun c404 => ?_) (fun c404 => ?_)
    · exact absurd c404 (by decide)
    · refine va_calli (va_runS (As := []) (rest := []) ⟨hx, hb, hml, hown, hts⟩ (met_known l D H.size) (va_cwS 0 hts (lw_S q128 q129 q3 q130) rfl rfl rfl (by decide +kernel) ⟨Nat.le_of_ble_eq_true rfl, Nat.le_of_ble_eq_true rfl⟩) (pre_S mv_wz [] ⟨rfl, vp_0, hW.2.sub [] rfl⟩) rfl rfl hl.1 rfl (lv_room (Nat.le_of_ble_eq_true rfl)) dL_law_407 ⟨room_c (by omega), room_s (by omega)⟩) hS (fun q _ h => Nat.le_trans hS.1 h) (fun q h => Nat.le_trans hS.1 h) (fun r407 u t9 H locs ht hvm hw hB hz9 hk hS => ?_)
      have hw : r407 = 1 := hw
      subst hw
      refine lv_if_eq (tgt := 417) hx hb dL_law_410 (by decide) (fun c410 => ?_) (fun c410 => ?_)
      · exact absurd c410 (by decide)
      · refine lv_iconst (v := 1) hx hb dL_law_413 (by decide) ?_
        refine lv_goto (tgt := 418) hx hb dL_law_414 (by decide) ?_
        refine va_forget (fun q hq => hS.2.2 q hq) ?_
        refine W.widen (k := 1200000) (n := 5502250) (Nat.le_of_ble_eq_true rfl) (Nat.le_of_ble_eq_true rfl) ?_
        exact lw_ret hx hb hr hlocks dL_law_418
end
section
/-! ===== the claim out of the law's walk ===== -/
set_option maxHeartbeats 4000000 in
set_option maxRecDepth 100000 in
/-- YOUR PART: from the entry, for every script of at most 96 ints, the law comes to its end with true ('hflags': the launch's flags, for a law that throws: no stack traces) -/
theorem whole_start {p : Program} {e : Env} {s : State} {m : MethodId} {below : List Frame} {meth : Method} {c : Code} (l : Launch) (hflags : l.flags = flags0) {b L : Nat} {xs : Nat → Int32} (hL : L ≤ 96) (C0 : lw_At p s m meth c b L xs) : W p l e room_1 s m #[Value.ref b] below meth c s.heap [] 0 0 (lw_Z below #[Value.ref b] s) (entryFrame m ([Value.ref b] : List Value).toArray 12) := by
  obtain ⟨hx, hb, hr, hml, hown, hts0, hX, hbl, hlocks, hgv⟩ := C0
  have hts : ∀ w ∈ lw_all, w.before #[Value.ref b] s = true := fun w h => hts0 w (lw_all_tbl h)
  have C0 : Cx p s m #[Value.ref b] meth c cL_law 12 ret R_law := ⟨hx, hb, hr, hlocks, hml, hown, hts⟩
  obtain ⟨c0_, iS0, hKn0⟩ := u_known (C := RX1) (T := TX1) (N := 2) (n := 2) hts0 (fun w h => lw_all_tbl (in_X1 w h)) (hts0 _ (lw_all_tbl q9))
  obtain ⟨D, hK⟩ : ∃ D : va_G, va_K D vwCl [] s := ⟨(fun _ => c0_, fun _ => iS0), fun k q hq => by
    match k, hq with
    | 0, hq => cases hq; exact hKn0
    | k + 1, hq => simp [vwCl] at hq, fun k q hk => by simp at hk⟩
  have hA : ∀ q : Nat, s.heap.size ≤ q → (fun q : Nat => s.heap.size ≤ q) q := fun q h => h
  have hS : va_S (fun q : Nat => s.heap.size ≤ q) s.heap s.heap [] := va_S.rf
  have hD : va_D (fun q : Nat => s.heap.size ≤ q) [] := vd_0
  have hP : va_P D vwCl [] s.heap := vp_0
  have hl := lv_entry ([.ref b]) (n := 12) (Nat.le_of_ble_eq_true rfl)
  rw [lg_entry_eq]
  generalize (lg_sl ([.ref b]) ++ List.replicate (12 - (lg_sl ([.ref b])).length) Slot.unset).toArray = ls at hl ⊢
  have hl : lv_has ls 12 [(0, .ref b)] := hl
  refine va_new (ci := 0) (fs := [.null, .int 0]) (C := RX1) (T := TX1) (N := 2) hx hb hts in_X1 tyX1 tyX1_ok hown (hts _ q8) (hts _ q9) (hts _ q4) hK hP hD hS hA rfl (fun j hj => by rcases (show j = 0 ∨ j = 1 by omega) with rfl | rfl <;> rfl) (Nat.le_of_ble_eq_true rfl) (Nat.le_of_ble_eq_true rfl) dL_law_0 (fun h0 H hP hD hS => ?_)
  have hP : va_P D vwCl [(h0, .inr (0, [.null, .int 0]))] H := hP
  have hh0 : s.heap.size ≤ h0 := hD.2 0 _ rfl
  have hlt : h0 < H.size := (hP 0 _ rfl).lt
  refine lv_dup hx hb dL_law_3 rfl ?_
  refine va_callv (va_runI (As := []) (rest := [.ref h0]) ⟨hx, hb, hml, hown, hts⟩ (met_dinit l D h0 H.size) (cwI 0 hts (lw_meth q12) rfl rfl rfl (hts _ q4) (hts _ q10) (hts _ q11) rfl (by decide +kernel) ⟨Nat.le_of_ble_eq_true rfl, Nat.le_of_ble_eq_true rfl⟩) (pre_S mv_wz [.ref h0] ⟨rfl, hP, hK⟩) rfl rfl hl.1 rfl (lv_room (Nat.le_of_ble_eq_true rfl)) dL_law_4 ⟨Nat.le_of_ble_eq_true rfl, Nat.le_of_ble_eq_true rfl⟩) hS (fun q _ h => h.elim (fun e => by rw [e]; exact hh0) (fun h => Nat.le_trans hS.1 h)) (fun q h => h.elim (fun e => by rw [e]; exact hh0) (fun h => Nat.le_trans hS.1 h)) (fun u t9 H2 locs ht hvm hw hB hz9 hk hS => ?_)
  obtain ⟨h1, dB⟩ := u
  obtain ⟨hP9, hK9, h19⟩ := hB
  have hP9 : va_P D vwCl [(h0, .inr (0, [.ref h1, .int (nI 0)])), (h1, .inl (dB, 256, .inl (fun _ => 0)))] t9.heap := hP9
  rw [ht] at hP9
  have hW : wo D [(h0, .inr (0, [.ref h1, .int (nI 0)])), (h1, .inl (dB, 256, .inl (fun _ => 0)))] [(dB, .byte)] s H2 := ⟨hP9, va_K.moved hvm.symm hK9⟩
  have h19 : H.size ≤ h1 := h19
  have hne : h0 ≠ h1 := by omega
  have hh1 : s.heap.size ≤ h1 := by omega
  refine lv_astore_n (lv' := [(1, .ref h0), (0, .ref b)]) hx hb dL_law_7 rfl hl (by decide) rfl (fun ls hl => ?_)
  refine lv_sipush (v := 256) hx hb dL_law_8 (by decide) ?_
  have hD : va_D (fun q : Nat => s.heap.size ≤ q) [(h0, .inr (0, [.ref h1, .int (nI 0)])), (h1, .inl (dB, 256, .inl (fun _ => 0)))] := vd_2 hh0 hh1 hne
  refine va_newa (atype := .int) (ty := .int) (a0 := (256, .inl (fun _ => 0))) (N' := 256) hx hb (hts _ q145) rfl hW.2 hW.1 hD hS hA (fun _ => rfl) (by decide) (by decide) (by decide) (Nat.le_of_ble_eq_true rfl) (Nat.le_of_ble_eq_true rfl) dL_law_11 (fun t0 dT H hK hP hD hS => ?_)
  have hW : wo D [(h0, .inr (0, [.ref h1, .int (nI 0)])), (h1, .inl (dB, 256, .inl (fun _ => 0))), (t0, .inl (dT, 256, .inl (fun _ => 0)))] [(dB, .byte), (dT, .int)] s H := ⟨hP, hK⟩
  have g2 : s.heap.size ≤ t0 := hD.2 2 _ rfl
  have n02 : h0 ≠ t0 := fun q => absurd (hD.1 0 2 _ _ rfl rfl q) (by decide)
  have n12 : h1 ≠ t0 := fun q => absurd (hD.1 1 2 _ _ rfl rfl q) (by decide)
  refine lv_astore_n (lv' := [(2, .ref t0), (1, .ref h0), (0, .ref b)]) hx hb dL_law_13 rfl hl (by decide) rfl (fun ls hl => ?_)
  refine lv_iconst (v := 0) hx hb dL_law_14 (by decide) ?_
  refine mt_i (y := (nI 0)) (rfl) ?_
  refine lv_istore_n (lv' := [(3, .int (nI 0)), (2, .ref t0), (1, .ref h0), (0, .ref b)]) hx hb dL_law_15 rfl hl (by decide) rfl (fun ls hl => ?_)
  refine lv_iconst (v := 0) hx hb dL_law_16 (by decide) ?_
  refine mt_i (y := (nI 0)) (rfl) ?_
  refine lv_istore (lv' := [(4, .int (nI 0)), (3, .int (nI 0)), (2, .ref t0), (1, .ref h0), (0, .ref b)]) hx hb dL_law_17 hl (by decide) rfl (fun ls hl => ?_)
  refine W.widen (k := 3 + 22 * 0) (n := 514 + 3094 * 0) (Nat.le_of_ble_eq_true rfl) (Nat.le_of_ble_eq_true rfl) ?_
  refine law_loop hL hX hbl C0 D h0 h1 t0 dB dT hne n02 n12 hh0 hh1 g2 (fun g f sz H locs ls hz hf hW hS hl => ?_) 12 0 rfl (fun _ => 0) (fun _ => 0) 0 H _ (Nat.zero_le _) (fun j hj => absurd hj (Nat.not_lt_zero j)) hW hS ls (lv_sub hl [4, 3, 2, 1, 0] rfl)
  refine W.widen (k := 267 + 0) (n := 37642 + 4 * 0) (Nat.le_refl _) (Nat.le_refl _) ?_
  refine law_fill hL hX hbl C0 D h0 h1 t0 dB dT hne n02 n12 hh0 hh1 g2 (fun g f sz H locs ls hz1 hz2 hf hW hS hl => ?_) 16 0 rfl g f sz H locs (by omega) (by omega) hf hW hS ls hl
  exact law_end hL hX hbl C0 D h0 h1 t0 dB dT hne n02 n12 hh0 hh1 g2 g f sz hz1 hz2 H locs hf hW hS ls hl
set_option maxHeartbeats 4000000 in
theorem lw_walk (l : Launch) (hflags : l.flags = flags0) (b : Addr) (xs : List Int32) : MetFree l x (headSpec (Jvm.Cond.code x code maxLocals ret :: tables_1) room_1) (lw_P b xs) (fun _ _ _ _ _ => True) lw_Q := by
  refine MetFree.of_bodyS (code := code) (maxLocals := maxLocals) (ret := ret) (by decide) ?_ ?_
  · intro args s m h hn
    obtain ⟨meth, c, h1, h2, h3, h4, h5, h6, -, -⟩ := Cond.code_spec hn (atoms_spec (ws := Jvm.Cond.code x code maxLocals ret :: tables_1) h _ List.mem_cons_self)
    exact ⟨meth, c, h1, h2, h3, h4, h5, h6⟩
  · intro p e s m args below meth c s₁ B hml0 hP _
    obtain ⟨rfl, hx, hbd, hgv⟩ := hP
    obtain ⟨scr, harrAt, hlist, hof, hsmall⟩ := hx
    obtain ⟨hcb, hkn, -, -⟩ := State.arrayAt?_spec harrAt
    have hown : s.vm.findClass R_law = some m.cls := findClass_of_methodNamed B.named
    have hts0 : ∀ c ∈ (Jvm.Cond.code x code maxLocals ret :: tables_1), c.before #[Value.ref b] s = true := atoms_spec (ws := Jvm.Cond.code x code maxLocals ret :: tables_1) B.pre
    have hts : ∀ w ∈ lw_tbl, w.before #[Value.ref b] s = true := k2_hts_sels lw_privs (fun w hw => hts0 w (List.mem_cons_of_mem _ hw)) lw_privs_ok
    have hml : c.maxLocals = 12 := B.maxLocals_eq (hts0 _ List.mem_cons_self)
    have X₀ : Stand p l e room_1 s m #[Value.ref b] below meth c s₁ [] 0 0 := Stand.of_body B
    have hh0 : s₁.heap = s.heap := by rw [B.state]; rfl
    have hsz : scr.slots.size = xs.length := by rw [← Array.length_toList, hlist, List.length_map]
    have hval : ∀ j : Nat, j < xs.length → scr.slots[j]? = some (.int (xs.getD j 0)) := fun j hj => by
      rw [← Array.getElem?_toList, hlist]
      simp [hj]
    have hbl : b < s.heap.size := (Array.getElem?_eq_some_iff.mp hcb).1
    have hX : va_X b xs.length (fun j => xs.getD j 0) s s.heap := ⟨scr, hcb, hof, hkn, hsz, hval⟩
    have K : W p l e room_1 s m #[Value.ref b] below meth c s₁.heap [] 0 0 (lw_Z below #[Value.ref b] s) (entryFrame m ([Value.ref b] : List Value).toArray 12) := by
      rw [hh0]
      exact whole_start l hflags hbd ⟨B.exec, B.bytes, B.returns, hml, hown, hts, hX, hbl, B.notSynchronized, hgv⟩
    obtain ⟨t, a1, o, b1, b2, b3⟩ := K s₁ rfl X₀
    exact ⟨t, o, a1, b1, b2, b3⟩
theorem lw_pre_spec {args : Array Value} {s : State} (h : (Jvm.Cond.and given_1 narrow_1).before args s = true) (hr : rest_1_c.before args s = true) : ∃ (b : Addr) (xs : List Int32), lw_P b xs args s := by
  have hs := flat_of_before _ h
  have hq := flat_of_before _ hr
  have hc : (Cond.count 1).before args s = true := hs _ (by decide +kernel)
  have harr : (Cond.arrayOf (.arg 0) .int).before args s = true := hs _ (by decide +kernel)
  have hle : (Cond.le (.length (.arg 0)) (.int 96)).before args s = true := hs _ (by decide +kernel)
  have hlen : (Cond.isInt (.length (.arg 0))).before args s = true := hq _ (by decide +kernel)
  have hall : (Cond.all (.arg 0) (.isInt (.elem (.arg 0) (.index 0)))).before args s = true := hq _ (by decide +kernel)
  obtain ⟨b, xs, hb, hx⟩ := State.ints_of_pre rfl harr hlen hall
  have hsm : xs.length < 2 ^ 31 := hx.choose_spec.2.2.2
  have hev : (Term.length (.arg 0)).eval args s none [] s = some (.int xs.length.toInt32) := hx.length_eval hb
  have hv := Cond.le_ints hev (show (Term.int 96).eval args s none [] s = some (.int 96) from rfl)
  have hd : xs.length.toInt32 ≤ 96 := by
    simpa [Cond.before, Cond.holds, hv] using hle
  have hN : xs.length ≤ 96 := (Int32.ofNat_le_ofNat hsm (by decide)).mp (show Int32.ofNat xs.length ≤ Int32.ofNat 96 from hd)
  exact ⟨b, xs, Cond.one_arg hc (show args[0]? = some (.ref b) from hb), hx, hN, h⟩
theorem lw_comes (l : Launch) (hflags : l.flags = flags0) : Comes l x (Jvm.Cond.code x code maxLocals ret :: tables_1) room_1 (fun tb e args s => Calls_1 tb e args s ∧ rest_1 tb e args s ∧ Pre_1 tb e args s)
    (fun _ _ args s o t => lw_Q args s o t) := by
  intro p e ha hc hk s m args below hf hfit hheap happ hpre
  obtain ⟨b, xs, hP⟩ := lw_pre_spec hpre.2.2 hpre.2.1
  obtain ⟨k, o, h1, h2, h3, hQ⟩ := lw_walk l hflags b xs p e ha hc hk s m args below hf ((Spec.applies_iff_loose hf).mp happ).1 hP trivial
  exact ⟨k, o, h1, h2, h3, hQ⟩
theorem lw_frame {s t : State} {o : Outcome} {args : Array Value} (h : Framed s o t [] 1200000 5502250) :
    Framed s o t (fieldLocs frame_1_writes args s ++ arrayLocs frame_1_arrays args s ++ staticLocs frame_1_statics s) 1200000 5502250 := h
theorem lw_limb (L : Cond) (hL : ∀ (args : Array Value) (s t : State), L.after args s (.returned (some (.int 1))) t = true) :
    ArmFor flags0 classFile x code maxLocals ret World_1 tables_1 room_1 Calls_1 rest_1 Pre_1
      (fun tb e a s o t => postC L tb e a s o t ∧ Framed s o t (fieldLocs frame_1_writes a s ++ arrayLocs frame_1_arrays a s ++ staticLocs frame_1_statics s) 1200000 5502250) := by
  intro l hflags _ _ p e ha hc hk s m args below hf hfit hheap happ hpre
  obtain ⟨k, o, h1, h2, h3, rfl, hF⟩ := lw_comes l hflags p e ha hc hk s m args below hf hfit hheap happ hpre
  exact ⟨k, _, h1, h2, h3, hL args s _, lw_frame hF⟩
theorem i_vc : Claimed_1_1 ∧ Claimed_1_2 := ⟨lw_limb limb_1_1 (fun args s t => by simp [limb_1_1, Cond.after, Cond.holds, Cond.value]), lw_limb limb_1_2 (fun args s t => Cond.after_iff.mpr (by
  first | (rw [show limb_1_2 = Cond.eq .result (.int 1) from rfl, Cond.eq_ints (x := 1) (y := 1) rfl rfl]; simp; done) | (simp [limb_1_2, Cond.value, Term.eval]; done)))⟩
end
